/-
  DERIVED. GIVEN WITH THE SEED: THE CARDS: each row of YbulkbthwFmtRows.lean that lists a variable, with what it lists TIED to the program's text (the seventh form; the later family's looks); each row that meets fmt, with fmt's text TOLD by the authors' own Lean function (tested against real Go, not proved from fmt's source: count such statements apart). THE CARD IS WHAT COUNTS. Prove the row's statement (the work); the ties are given (YbulkbthwFmtTie.lean); close each card by the builder's one call (the guide's Derived/Test/ToyasCard.lean, 'card_holds'). Laid BY PROGRAM, IN A SANDBOX (cutbox-door.mjs). By AI agents, Wed Nov 11 2026. No macro, syntax, notation, axiom, sorry.
-/
import Derived.Test.YbulkbthwFmtRows
import GoSem.ClaimSeven
namespace Go.Proofs.YbulkbthwFmt
namespace Rows

/-- THE TOLD CARD OF 'setmend.LawS3493BUpdates'. -/
def lawS3493BUpdatesCard : Claim7 := { stood := { row := lawS3493BUpdatesRow, standIns := [], harness := (true, "8bc4a1dfd7d5798d57491527f72e453829097e2651389e9fbdaf5285970e6fbf"), looks := false }, told := true, goes := false }
def LawS3493BUpdatesToldSaid : Prop := Claim7.holds Ybaf.pinned (.plain (OpenSpec.ofChange lawS3493BUpdatesSpec)) lawS3493BUpdatesCard
/-- ITS FALSE NEIGHBOUR. Refute it at one input. -/
def LawS3493BUpdatesToldWrongFalsely : Prop := Claim7.holds Ybaf.pinned (.plain (OpenSpec.ofChange lawS3493BUpdatesWrong)) lawS3493BUpdatesCard
end Rows
end Go.Proofs.YbulkbthwFmt
