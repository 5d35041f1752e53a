/-
  No cell of these rows narrows 'for every input' (looked for: loops, veiled, ifaces, maps, wideKeys, modest, calm, conditions, laid).
  DERIVED. THE GIVEN ROWS OF THIS SEAT. 1 by the template 'for every input the law returns true; each argument reads behind the call as it read before'; 0 by the template 'total and deterministic' (their statements: YbulkbthiTotals.lean).
  GIVEN WITH THE SEED: the statements are not yours to turn. If you find one false, say at which input.
  Laid BY PROGRAM, IN A SANDBOX (cutbox-rows.mjs): the forced cells as the released guide's own fill.sh prints them over the translation 10a4ae1ef1e49777… (all of the seat's roots in one cut). By AI agents, Wed Nov 11 2026. No macro, syntax, notation, axiom, sorry.
-/
import Derived.Test.YbulkbthiChecked
import GoSem.Claim
import GoSem.ClaimJoined
import GoSem.ClaimMapViews
import Derived.JoinedTies
import Derived.KernelRfl
namespace Go.Proofs.Ybulkbthi
/- THE CELL 'sum', in the pinned program and in every row, IS THE sha256 OF THE DUMP (.gsa) THAT YbulkbthiProg.lean LOADS. Nothing in Lean hashes anything: it is a label: what it is worth is what the hold of that sum in a sandbox is worth. -/
noncomputable def Yba.pinned : Pinned := { name := "ybulkbthi", sum := "10a4ae1ef1e4977777875369faeb1ea43e8d10a70d864e0aaf0fed63d934aa94", checked := Yba.checked }
namespace Rows
def none {H : Type} : Left H := { results := [], args := [] }

/-- 'graph.LawS3492ASplit': WHATEVER THE INPUT: true; the input reads as it did. -/
def lawS3492ASplitSpec : ChangeSpec := { name := "lawS3492ASplit", fn := fun _ => fun
  | [d1, d2] => { results := [.lit (.bool true)], args := [d1, d2] }
  | _ => none }
def lawS3492ASplitRow : OpenClaim := { program := "ybulkbthi", sum := "10a4ae1ef1e4977777875369faeb1ea43e8d10a70d864e0aaf0fed63d934aa94", func := "example.com/regrove/regrove/internal/graph.LawS3492ASplit", spec := "lawS3492ASplit", apart := false }
def LawS3492ASplitSaid : Prop := lawS3492ASplitRow.holds Yba.pinned (OpenSpec.ofChange lawS3492ASplitSpec)

/-- ITS FALSE NEIGHBOUR: 'it returns false'. Refute it at one input. -/
def lawS3492ASplitWrong : ChangeSpec := { name := "lawS3492ASplit", fn := fun _ => fun
  | [d1, d2] => { results := [.lit (.bool false)], args := [d1, d2] }
  | _ => none }
def LawS3492ASplitWrongFalsely : Prop := lawS3492ASplitRow.holds Yba.pinned (OpenSpec.ofChange lawS3492ASplitWrong)

end Rows
end Go.Proofs.Ybulkbthi
