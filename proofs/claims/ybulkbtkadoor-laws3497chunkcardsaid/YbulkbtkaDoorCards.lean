/-
  DERIVED. GIVEN WITH THE SEED: THE CARDS: each row of YbulkbtkaDoorRows.lean that lists a variable, with what it lists TIED to the program's text (the seventh form; the later family's looks); each row that meets fmt, with fmt's text TOLD by the authors' own Lean function (tested against real Go, not proved from fmt's source: count such statements apart). THE CARD IS WHAT COUNTS. Prove the row's statement (the work); the ties are given (YbulkbtkaDoorTie.lean); close each card by the builder's one call (the guide's Derived/Test/ToyasCard.lean, 'card_holds'). Laid BY PROGRAM, IN A SANDBOX (cutbox-door.mjs). By AI agents, Wed Nov 11 2026. No macro, syntax, notation, axiom, sorry.
-/
import Derived.Test.YbulkbtkaDoorRows
import GoSem.ClaimSeven
namespace Go.Proofs.YbulkbtkaDoor
namespace Rows

/-- THE TIED CARD OF 'diff.LawS3497CHunk'. -/
def lawS3497CHunkCard : Claim7 := { stood := { row := lawS3497CHunkRow, standIns := [], harness := (true, "04b61eb9c29bcdb0759c263ffe9424935e63ca325ac7d56f05ff657c45044745"), looks := false }, kinds := [], alts := [], laidByText := true, laidKinds := [.data, .data, .data], laidTests := true, laidLooks := .later }
def LawS3497CHunkCardSaid : Prop := Claim7.holds Ybad.pinned (.plain (OpenSpec.ofChange lawS3497CHunkSpec)) lawS3497CHunkCard
end Rows
end Go.Proofs.YbulkbtkaDoor
