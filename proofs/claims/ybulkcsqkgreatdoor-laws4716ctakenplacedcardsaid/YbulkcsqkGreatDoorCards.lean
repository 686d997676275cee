/-
  DERIVED. GIVEN WITH THE SEED: THE CARDS: each row of YbulkcsqkGreatDoorRows.lean that lists a variable, with what it lists TIED to the program's text (the seventh form; the later family's looks); each row that meets fmt, with fmt's text TOLD by the authors' own Lean function (tested against real Go, not proved from fmt's source: count such statements apart). THE CARD IS WHAT COUNTS. Prove the row's statement (the work); the ties are given (YbulkcsqkGreatDoorTie.lean); close each card by the builder's one call (the guide's Derived/Test/ToyasCard.lean, 'card_holds'). Laid BY PROGRAM, IN A SANDBOX (cutbox-door.mjs). By AI agents, Wed Nov 11 2026. No macro, syntax, notation, axiom, sorry.
-/
import Derived.Test.YbulkcsqkGreatDoorRows
import GoSem.ClaimSeven
namespace Go.Proofs.YbulkcsqkGreatDoor
namespace Rows

/-- THE TIED CARD OF 'serigraph.LawS4716CTakenPlaced'. -/
def lawS4716CTakenPlacedCard : Claim7 := { stood := { row := lawS4716CTakenPlacedRow, standIns := [], harness := (true, "518950e7d936dc04e367845378a5c69709d73220d8b051d598ecdf8d4d9bfa37"), looks := true }, kinds := [], alts := [], laidByText := true, laidKinds := [.data], laidTests := true, laidLooks := .later }
def LawS4716CTakenPlacedCardSaid : Prop := Claim7.holds Ybaz.pinned (.plain (OpenSpec.ofChange lawS4716CTakenPlacedSpec)) lawS4716CTakenPlacedCard
end Rows
end Go.Proofs.YbulkcsqkGreatDoor
