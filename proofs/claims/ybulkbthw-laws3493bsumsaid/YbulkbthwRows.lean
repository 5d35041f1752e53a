/-
  No cell of these rows narrows 'for every input' (looked for: loops, veiled, ifaces, maps, wideKeys, modest, calm, conditions, laid).
  DERIVED. THE GIVEN ROWS OF THIS SEAT. 2 by the template 'for every input the law returns true; each argument reads behind the call as it read before'; 0 by the template 'total and deterministic' (their statements: YbulkbthwTotals.lean).
  GIVEN WITH THE SEED: the statements are not yours to turn. If you find one false, say at which input.
  Laid BY PROGRAM, IN A SANDBOX (cutbox-rows.mjs): the forced cells as the released guide's own fill.sh prints them over the translation 477eecb01b3fc25c… (all of the seat's roots in one cut). By AI agents, Wed Nov 11 2026. No macro, syntax, notation, axiom, sorry.
-/
import Derived.Test.YbulkbthwChecked
import GoSem.Claim
import GoSem.ClaimJoined
import GoSem.ClaimMapViews
import Derived.JoinedTies
import Derived.KernelRfl
namespace Go.Proofs.Ybulkbthw
/- THE CELL 'sum', in the pinned program and in every row, IS THE sha256 OF THE DUMP (.gsa) THAT YbulkbthwProg.lean LOADS. Nothing in Lean hashes anything: it is a label: what it is worth is what the hold of that sum in a sandbox is worth. -/
noncomputable def Yba.pinned : Pinned := { name := "ybulkbthw", sum := "477eecb01b3fc25c2c16f0dea01fe4fa45cfd80e579624b9b7d5d749711b42b1", checked := Yba.checked }
namespace Rows
def none {H : Type} : Left H := { results := [], args := [] }

/-- 'setmend.LawS3493AModel': WHATEVER THE INPUT: true; the input reads as it did. -/
def lawS3493AModelSpec : ChangeSpec := { name := "lawS3493AModel", fn := fun _ => fun
  | [d1, d2, d3, d4, d5] => { results := [.lit (.bool true)], args := [d1, d2, d3, d4, d5] }
  | _ => none }
def lawS3493AModelRow : OpenClaim := { program := "ybulkbthw", sum := "477eecb01b3fc25c2c16f0dea01fe4fa45cfd80e579624b9b7d5d749711b42b1", func := "example.com/setmend/setmend.LawS3493AModel", spec := "lawS3493AModel", inPlace := ["internal/bytealg.IndexByte"], unfollowed := true, recurses := true, apart := false }
def LawS3493AModelSaid : Prop := lawS3493AModelRow.holds Yba.pinned (OpenSpec.ofChange lawS3493AModelSpec)

/-- ITS FALSE NEIGHBOUR: 'it returns false'. Refute it at one input. -/
def lawS3493AModelWrong : ChangeSpec := { name := "lawS3493AModel", fn := fun _ => fun
  | [d1, d2, d3, d4, d5] => { results := [.lit (.bool false)], args := [d1, d2, d3, d4, d5] }
  | _ => none }
def LawS3493AModelWrongFalsely : Prop := lawS3493AModelRow.holds Yba.pinned (OpenSpec.ofChange lawS3493AModelWrong)

/-- 'setmend.LawS3493BSum': WHATEVER THE INPUT: true; the input reads as it did. -/
def lawS3493BSumSpec : ChangeSpec := { name := "lawS3493BSum", fn := fun _ => fun
  | [d1, d2] => { results := [.lit (.bool true)], args := [d1, d2] }
  | _ => none }
def lawS3493BSumRow : OpenClaim := { program := "ybulkbthw", sum := "477eecb01b3fc25c2c16f0dea01fe4fa45cfd80e579624b9b7d5d749711b42b1", func := "example.com/setmend/setmend.LawS3493BSum", spec := "lawS3493BSum", apart := false }
def LawS3493BSumSaid : Prop := lawS3493BSumRow.holds Yba.pinned (OpenSpec.ofChange lawS3493BSumSpec)

/-- ITS FALSE NEIGHBOUR: 'it returns false'. Refute it at one input. -/
def lawS3493BSumWrong : ChangeSpec := { name := "lawS3493BSum", fn := fun _ => fun
  | [d1, d2] => { results := [.lit (.bool false)], args := [d1, d2] }
  | _ => none }
def LawS3493BSumWrongFalsely : Prop := lawS3493BSumRow.holds Yba.pinned (OpenSpec.ofChange lawS3493BSumWrong)

end Rows
end Go.Proofs.Ybulkbthw
