/-
  DERIVED. GIVEN WITH THE SEED: THE CARDS: each row of YbulkbtdoFmtRows.lean that lists a variable, with what it lists TIED to the program's text (the seventh form; the later family's looks); each row that meets fmt, with fmt's text TOLD by the authors' own Lean function (tested against real Go, not proved from fmt's source: count such statements apart). THE CARD IS WHAT COUNTS. Prove the row's statement (the work); the ties are given (YbulkbtdoFmtTie.lean); close each card by the builder's one call (the guide's Derived/Test/ToyasCard.lean, 'card_holds'). Laid BY PROGRAM, IN A SANDBOX (cutbox-door.mjs). By AI agents, Wed Nov 11 2026. No macro, syntax, notation, axiom, sorry.
-/
import Derived.Test.YbulkbtdoFmtRows
import GoSem.ClaimSeven
namespace Go.Proofs.YbulkbtdoFmt
namespace Rows

/-- THE TOLD AND TIED CARD OF 'workload.LawS3485BRoundTrip'. -/
def lawS3485BRoundTripCard : Claim7 := { stood := { row := lawS3485BRoundTripRow, standIns := [], harness := (true, "8d12b096d5e5271fdac955ae0bfd183a343a1c612c715644635639f9dae45c9b"), looks := true }, told := true, laidByText := true, laidKinds := [.widerDeep], laidTests := true, laidLooks := .later, goes := false }
def LawS3485BRoundTripToldSaid : Prop := Claim7.holds Ybaf.pinned (.plain (OpenSpec.ofChange lawS3485BRoundTripSpec)) lawS3485BRoundTripCard
/-- ITS FALSE NEIGHBOUR. Refute it at one input. -/
def LawS3485BRoundTripToldWrongFalsely : Prop := Claim7.holds Ybaf.pinned (.plain (OpenSpec.ofChange lawS3485BRoundTripWrong)) lawS3485BRoundTripCard
end Rows
end Go.Proofs.YbulkbtdoFmt
