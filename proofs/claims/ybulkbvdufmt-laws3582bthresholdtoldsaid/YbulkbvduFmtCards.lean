/-
  DERIVED. GIVEN WITH THE SEED: THE CARDS: each row of YbulkbvduFmtRows.lean that lists a variable, with what it lists TIED to the program's text (the seventh form; the later family's looks); each row that meets fmt, with fmt's text TOLD by the authors' own Lean function (tested against real Go, not proved from fmt's source: count such statements apart). THE CARD IS WHAT COUNTS. Prove the row's statement (the work); the ties are given (YbulkbvduFmtTie.lean); close each card by the builder's one call (the guide's Derived/Test/ToyasCard.lean, 'card_holds'). Laid BY PROGRAM, IN A SANDBOX (cutbox-door.mjs). By AI agents, Wed Nov 11 2026. No macro, syntax, notation, axiom, sorry.
-/
import Derived.Test.YbulkbvduFmtRows
import GoSem.ClaimSeven
namespace Go.Proofs.YbulkbvduFmt
namespace Rows

/-- THE TOLD AND TIED CARD OF 'phaseking.LawS3582BThreshold'. -/
def lawS3582BThresholdCard : Claim7 := { stood := { row := lawS3582BThresholdRow, standIns := [], harness := (true, "c0e8ab535a7049b9083754a963bb6c784e83f170cb8cda21d6595d6f3e73711a"), looks := false }, told := true, laidByText := true, laidKinds := [.data], laidTests := true, laidLooks := .later, goes := false }
def LawS3582BThresholdToldSaid : Prop := Claim7.holds Ybaf.pinned (.plain (OpenSpec.ofChange lawS3582BThresholdSpec)) lawS3582BThresholdCard
/-- ITS FALSE NEIGHBOUR. Refute it at one input. -/
def LawS3582BThresholdToldWrongFalsely : Prop := Claim7.holds Ybaf.pinned (.plain (OpenSpec.ofChange lawS3582BThresholdWrong)) lawS3582BThresholdCard
end Rows
end Go.Proofs.YbulkbvduFmt
