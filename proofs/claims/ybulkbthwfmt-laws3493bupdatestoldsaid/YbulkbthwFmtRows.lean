/-
  No cell of these rows narrows 'for every input' (looked for: loops, veiled, ifaces, maps, wideKeys, modest, calm, conditions, laid).
  DERIVED. THE GIVEN ROWS OF THIS SEAT. 1 by the template 'for every input the law returns true; each argument reads behind the call as it read before'; 0 by the template 'total and deterministic' (their statements: YbulkbthwFmtTotals.lean).
  GIVEN WITH THE SEED: the statements are not yours to turn. If you find one false, say at which input.
  Laid BY PROGRAM, IN A SANDBOX (cutbox-rows.mjs): the forced cells as the released guide's own fill.sh prints them over the translation 0c58d042ff67b6c4… (all of the seat's roots in one cut). By AI agents, Wed Nov 11 2026. No macro, syntax, notation, axiom, sorry.
-/
import Derived.Test.YbulkbthwFmtChecked
import GoSem.Claim
import GoSem.ClaimJoined
import GoSem.ClaimMapViews
import Derived.JoinedTies
import Derived.KernelRfl
namespace Go.Proofs.YbulkbthwFmt
/- THE CELL 'sum', in the pinned program and in every row, IS THE sha256 OF THE DUMP (.gsa) THAT YbulkbthwFmtProg.lean LOADS. Nothing in Lean hashes anything: it is a label: what it is worth is what the hold of that sum in a sandbox is worth. -/
noncomputable def Ybaf.pinned : Pinned := { name := "ybulkbthwfmt", sum := "0c58d042ff67b6c41f3b14fe613e7792b8f7a57a57589c37baa0fbe33807a16d", checked := Ybaf.checked }
namespace Rows
def none {H : Type} : Left H := { results := [], args := [] }

/-- 'setmend.LawS3493BUpdates': WHATEVER THE INPUT: true; the input reads as it did. -/
def lawS3493BUpdatesSpec : ChangeSpec := { name := "lawS3493BUpdates", fn := fun _ => fun
  | [d1, d2, d3, d4] => { results := [.lit (.bool true)], args := [d1, d2, d3, d4] }
  | _ => none }
def lawS3493BUpdatesRow : OpenClaim := { program := "ybulkbthwfmt", sum := "0c58d042ff67b6c41f3b14fe613e7792b8f7a57a57589c37baa0fbe33807a16d", func := "example.com/setmend/setmend.LawS3493BUpdates", spec := "lawS3493BUpdates", stops := ["fmt.errorf"], inPlace := ["fmt.errorf"], apart := false }
/-- NO THEOREM (fmt's text is open here; it may be false): for the released tool's asking of the row's closed facts alone. THE STATEMENT IS 'LawS3493BUpdatesToldSaid' (YbulkbthwFmtCards.lean). -/
def LawS3493BUpdatesFormAsk : Prop := lawS3493BUpdatesRow.holds Ybaf.pinned (OpenSpec.ofChange lawS3493BUpdatesSpec)

/-- ITS FALSE NEIGHBOUR: 'it returns false'. Refute it at one input. -/
def lawS3493BUpdatesWrong : ChangeSpec := { name := "lawS3493BUpdates", fn := fun _ => fun
  | [d1, d2, d3, d4] => { results := [.lit (.bool false)], args := [d1, d2, d3, d4] }
  | _ => none }
def LawS3493BUpdatesWrongFormAsk : Prop := lawS3493BUpdatesRow.holds Ybaf.pinned (OpenSpec.ofChange lawS3493BUpdatesWrong)

end Rows
end Go.Proofs.YbulkbthwFmt
