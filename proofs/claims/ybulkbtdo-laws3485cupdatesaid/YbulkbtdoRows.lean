/-
  No cell of these rows narrows 'for every input' (looked for: loops, veiled, ifaces, maps, wideKeys, modest, calm, conditions, laid).
  DERIVED. THE GIVEN ROWS OF THIS SEAT. 3 by the template 'for every input the law returns true; each argument reads behind the call as it read before'; 0 by the template 'total and deterministic' (their statements: YbulkbtdoTotals.lean).
  GIVEN WITH THE SEED: the statements are not yours to turn. If you find one false, say at which input.
  Laid BY PROGRAM, IN A SANDBOX (cutbox-rows.mjs): the forced cells as the released guide's own fill.sh prints them over the translation 1c2b78af5df014be… (all of the seat's roots in one cut). By AI agents, Wed Nov 11 2026. No macro, syntax, notation, axiom, sorry.
-/
import Derived.Test.YbulkbtdoChecked
import GoSem.Claim
import GoSem.ClaimJoined
import GoSem.ClaimMapViews
import Derived.JoinedTies
import Derived.KernelRfl
namespace Go.Proofs.Ybulkbtdo
/- THE CELL 'sum', in the pinned program and in every row, IS THE sha256 OF THE DUMP (.gsa) THAT YbulkbtdoProg.lean LOADS. Nothing in Lean hashes anything: it is a label: what it is worth is what the hold of that sum in a sandbox is worth. -/
noncomputable def Yba.pinned : Pinned := { name := "ybulkbtdo", sum := "1c2b78af5df014bec2a3401a36b51072238c3a35e64d68309363695375cc37bf", checked := Yba.checked }
namespace Rows
def none {H : Type} : Left H := { results := [], args := [] }

/-- 'workload.LawS3485BForm': WHATEVER THE INPUT: true; the input reads as it did. -/
def lawS3485BFormSpec : ChangeSpec := { name := "lawS3485BForm", fn := fun _ => fun
  | [d1, d2, d3, d4, d5, d6, d7, d8] => { results := [.lit (.bool true)], args := [d1, d2, d3, d4, d5, d6, d7, d8] }
  | _ => none }
def lawS3485BFormRow : OpenClaim := { program := "ybulkbtdo", sum := "1c2b78af5df014bec2a3401a36b51072238c3a35e64d68309363695375cc37bf", func := "example.com/headroom/headroom/internal/workload.LawS3485BForm", spec := "lawS3485BForm", apart := false }
def LawS3485BFormSaid : Prop := lawS3485BFormRow.holds Yba.pinned (OpenSpec.ofChange lawS3485BFormSpec)

/-- ITS FALSE NEIGHBOUR: 'it returns false'. Refute it at one input. -/
def lawS3485BFormWrong : ChangeSpec := { name := "lawS3485BForm", fn := fun _ => fun
  | [d1, d2, d3, d4, d5, d6, d7, d8] => { results := [.lit (.bool false)], args := [d1, d2, d3, d4, d5, d6, d7, d8] }
  | _ => none }
def LawS3485BFormWrongFalsely : Prop := lawS3485BFormRow.holds Yba.pinned (OpenSpec.ofChange lawS3485BFormWrong)

/-- 'sched.LawS3485CFull': WHATEVER THE INPUT: true; the input reads as it did. -/
def lawS3485CFullSpec : ChangeSpec := { name := "lawS3485CFull", fn := fun _ => fun
  | [d1, d2, d3] => { results := [.lit (.bool true)], args := [d1, d2, d3] }
  | _ => none }
def lawS3485CFullRow : OpenClaim := { program := "ybulkbtdo", sum := "1c2b78af5df014bec2a3401a36b51072238c3a35e64d68309363695375cc37bf", func := "example.com/headroom/headroom/internal/sched.LawS3485CFull", spec := "lawS3485CFull", unfollowed := true, recurses := true, apart := false }
def LawS3485CFullSaid : Prop := lawS3485CFullRow.holds Yba.pinned (OpenSpec.ofChange lawS3485CFullSpec)

/-- ITS FALSE NEIGHBOUR: 'it returns false'. Refute it at one input. -/
def lawS3485CFullWrong : ChangeSpec := { name := "lawS3485CFull", fn := fun _ => fun
  | [d1, d2, d3] => { results := [.lit (.bool false)], args := [d1, d2, d3] }
  | _ => none }
def LawS3485CFullWrongFalsely : Prop := lawS3485CFullRow.holds Yba.pinned (OpenSpec.ofChange lawS3485CFullWrong)

/-- 'sched.LawS3485CUpdate': WHATEVER THE INPUT: true; the input reads as it did. -/
def lawS3485CUpdateSpec : ChangeSpec := { name := "lawS3485CUpdate", fn := fun _ => fun
  | [d1, d2, d3, d4] => { results := [.lit (.bool true)], args := [d1, d2, d3, d4] }
  | _ => none }
def lawS3485CUpdateRow : OpenClaim := { program := "ybulkbtdo", sum := "1c2b78af5df014bec2a3401a36b51072238c3a35e64d68309363695375cc37bf", func := "example.com/headroom/headroom/internal/sched.LawS3485CUpdate", spec := "lawS3485CUpdate", unfollowed := true, recurses := true, apart := false }
def LawS3485CUpdateSaid : Prop := lawS3485CUpdateRow.holds Yba.pinned (OpenSpec.ofChange lawS3485CUpdateSpec)

/-- ITS FALSE NEIGHBOUR: 'it returns false'. Refute it at one input. -/
def lawS3485CUpdateWrong : ChangeSpec := { name := "lawS3485CUpdate", fn := fun _ => fun
  | [d1, d2, d3, d4] => { results := [.lit (.bool false)], args := [d1, d2, d3, d4] }
  | _ => none }
def LawS3485CUpdateWrongFalsely : Prop := lawS3485CUpdateRow.holds Yba.pinned (OpenSpec.ofChange lawS3485CUpdateWrong)

end Rows
end Go.Proofs.Ybulkbtdo
