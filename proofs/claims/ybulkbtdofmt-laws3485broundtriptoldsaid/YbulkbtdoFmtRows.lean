/-
  NARROWER THAN 'FOR EVERY INPUT', by the rows' own cells (each row's printed sentence says how): LawS3485BRoundTrip: laid.
  DERIVED. THE GIVEN ROWS OF THIS SEAT. 1 by the template 'for every input the law returns true; each argument reads behind the call as it read before'; 0 by the template 'total and deterministic' (their statements: YbulkbtdoFmtTotals.lean).
  GIVEN WITH THE SEED: the statements are not yours to turn. If you find one false, say at which input.
  Laid BY PROGRAM, IN A SANDBOX (cutbox-rows.mjs): the forced cells as the released guide's own fill.sh prints them over the translation efa03d5ddd3b0794… (all of the seat's roots in one cut). By AI agents, Wed Nov 11 2026. No macro, syntax, notation, axiom, sorry.
-/
import Derived.Test.YbulkbtdoFmtChecked
import GoSem.Claim
import GoSem.ClaimJoined
import GoSem.ClaimMapViews
import Derived.JoinedTies
import Derived.KernelRfl
namespace Go.Proofs.YbulkbtdoFmt
/- THE CELL 'sum', in the pinned program and in every row, IS THE sha256 OF THE DUMP (.gsa) THAT YbulkbtdoFmtProg.lean LOADS. Nothing in Lean hashes anything: it is a label: what it is worth is what the hold of that sum in a sandbox is worth. -/
noncomputable def Ybaf.pinned : Pinned := { name := "ybulkbtdofmt", sum := "efa03d5ddd3b0794be0bfc59668b79acc45693a4cdab5488f5e05c5d8ba55d8f", checked := Ybaf.checked }
namespace Rows
def none {H : Type} : Left H := { results := [], args := [] }

/- WHAT THE LISTED PACKAGE-LEVEL VARIABLES READ AS WHEN THE CALL BEGINS. Each datum BY PROGRAM (the guide's laid-datum.mjs) off the statement by which the dump's own 'gosem.cut.vars' lays the variable. In a bare row this is a premise. The card (YbulkbtdoFmtCards.lean) ties it to the program's text. -/
def laid_example_com_headroom_headroom_internal_workload_policyNames {H : Type} : DataW H := .slice [.lit (.string [102, 105, 102, 111]), .lit (.string [115, 116, 97, 116, 101, 45, 97, 119, 97, 114, 101]), .lit (.string [112, 114, 105, 111, 114, 105, 116, 121]), .lit (.string [102, 97, 105, 114, 115, 104, 97, 114, 101])] []

/-- 'workload.LawS3485BRoundTrip': WHATEVER THE INPUT: true; the input reads as it did. -/
def lawS3485BRoundTripSpec : ChangeSpec := { name := "lawS3485BRoundTrip", vars := ["example.com/headroom/headroom/internal/workload.policyNames"], fn := fun _ => fun
  | [d1, d2, d3, d4, d5, d6, d7, d8, g1] => { results := [.lit (.bool true)], args := [d1, d2, d3, d4, d5, d6, d7, d8], vars := [g1] }
  | _ => none }
def lawS3485BRoundTripRow : OpenClaim := { program := "ybulkbtdofmt", sum := "efa03d5ddd3b0794be0bfc59668b79acc45693a4cdab5488f5e05c5d8ba55d8f", func := "example.com/headroom/headroom/internal/workload.LawS3485BRoundTrip", spec := "lawS3485BRoundTrip", stops := ["fmt.errorf"], inPlace := ["fmt.errorf", "internal/abi.NoEscape", "internal/bytealg.MakeNoZero"], named := ["example.com/headroom/headroom/internal/workload.policyNames"], apart := false, laid := [("example.com/headroom/headroom/internal/workload.policyNames", laid_example_com_headroom_headroom_internal_workload_policyNames)] }
/-- NO THEOREM (fmt's text is open here; it may be false): for the released tool's asking of the row's closed facts alone. THE STATEMENT IS 'LawS3485BRoundTripToldSaid' (YbulkbtdoFmtCards.lean). -/
def LawS3485BRoundTripFormAsk : Prop := lawS3485BRoundTripRow.holds Ybaf.pinned (OpenSpec.ofChange lawS3485BRoundTripSpec)

/-- ITS FALSE NEIGHBOUR: 'it returns false'. Refute it at one input. -/
def lawS3485BRoundTripWrong : ChangeSpec := { name := "lawS3485BRoundTrip", vars := ["example.com/headroom/headroom/internal/workload.policyNames"], fn := fun _ => fun
  | [d1, d2, d3, d4, d5, d6, d7, d8, g1] => { results := [.lit (.bool false)], args := [d1, d2, d3, d4, d5, d6, d7, d8], vars := [g1] }
  | _ => none }
def LawS3485BRoundTripWrongFormAsk : Prop := lawS3485BRoundTripRow.holds Ybaf.pinned (OpenSpec.ofChange lawS3485BRoundTripWrong)

end Rows
end Go.Proofs.YbulkbtdoFmt
