/-
  DERIVED. GIVEN WITH THE SEED: THE CARDS: each row of YbulkbvduDoorRows.lean that lists a variable, with what it lists TIED to the program's text (the seventh form; the later family's looks); each row that meets fmt, with fmt's text TOLD by the authors' own Lean function (tested against real Go, not proved from fmt's source: count such statements apart). THE CARD IS WHAT COUNTS. Prove the row's statement (the work); the ties are given (YbulkbvduDoorTie.lean); close each card by the builder's one call (the guide's Derived/Test/ToyasCard.lean, 'card_holds'). Laid BY PROGRAM, IN A SANDBOX (cutbox-door.mjs). By AI agents, Wed Nov 11 2026. No macro, syntax, notation, axiom, sorry.
-/
import Derived.Test.YbulkbvduDoorRows
import GoSem.ClaimSeven
namespace Go.Proofs.YbulkbvduDoor
namespace Rows

/-- THE TIED CARD OF 'phaseking.LawS3582BEmptyKing'. -/
def lawS3582BEmptyKingCard : Claim7 := { stood := { row := lawS3582BEmptyKingRow, standIns := [], harness := (true, "8f759f6b711fb6b01a91b0189946072b269ee129711fc8cc6fefa7fb0d807d08"), looks := false }, kinds := [], alts := [], laidByText := true, laidKinds := [.data], laidTests := true, laidLooks := .later }
def LawS3582BEmptyKingCardSaid : Prop := Claim7.holds Ybad.pinned (.plain (OpenSpec.ofChange lawS3582BEmptyKingSpec)) lawS3582BEmptyKingCard
end Rows
end Go.Proofs.YbulkbvduDoor
