/-
  DERIVED. GIVEN WITH THE SEED: THE CARDS: each row of YbulkbvicFmtRows.lean that lists a variable, with what it lists TIED to the program's text (the seventh form; the later family's looks); each row that meets fmt, with fmt's text TOLD by the authors' own Lean function (tested against real Go, not proved from fmt's source: count such statements apart). THE CARD IS WHAT COUNTS. Prove the row's statement (the work); the ties are given (YbulkbvicFmtTie.lean); close each card by the builder's one call (the guide's Derived/Test/ToyasCard.lean, 'card_holds'). Laid BY PROGRAM, IN A SANDBOX (cutbox-door.mjs). By AI agents, Wed Nov 11 2026. No macro, syntax, notation, axiom, sorry.
-/
import Derived.Test.YbulkbvicFmtRows
import GoSem.ClaimSeven
namespace Go.Proofs.YbulkbvicFmt
namespace Rows

/-- THE TOLD CARD OF 'kindred.LawS3590AModel'. -/
def lawS3590AModelCard : Claim7 := { stood := { row := lawS3590AModelRow, standIns := [], harness := (true, "d17f2d3615157eba732df53abd7030371e2317bffe626e6f0aaa7d158bb1ded1"), looks := true }, told := true, goes := false }
def LawS3590AModelToldSaid : Prop := Claim7.holds Ybaf.pinned (.plain (OpenSpec.ofChange lawS3590AModelSpec)) lawS3590AModelCard
/-- ITS FALSE NEIGHBOUR. Refute it at one input. -/
def LawS3590AModelToldWrongFalsely : Prop := Claim7.holds Ybaf.pinned (.plain (OpenSpec.ofChange lawS3590AModelWrong)) lawS3590AModelCard

/-- THE TOLD CARD OF 'kindred.LawS3590AAlphabet'. -/
def lawS3590AAlphabetCard : Claim7 := { stood := { row := lawS3590AAlphabetRow, standIns := [], harness := (true, "d17f2d3615157eba732df53abd7030371e2317bffe626e6f0aaa7d158bb1ded1"), looks := true }, told := true, goes := false }
def LawS3590AAlphabetToldSaid : Prop := Claim7.holds Ybaf.pinned (.plain (OpenSpec.ofChange lawS3590AAlphabetSpec)) lawS3590AAlphabetCard
/-- ITS FALSE NEIGHBOUR. Refute it at one input. -/
def LawS3590AAlphabetToldWrongFalsely : Prop := Claim7.holds Ybaf.pinned (.plain (OpenSpec.ofChange lawS3590AAlphabetWrong)) lawS3590AAlphabetCard

/-- THE TOLD CARD OF 'kindred.LawS3590ABuilt'. -/
def lawS3590ABuiltCard : Claim7 := { stood := { row := lawS3590ABuiltRow, standIns := [], harness := (true, "d17f2d3615157eba732df53abd7030371e2317bffe626e6f0aaa7d158bb1ded1"), looks := true }, told := true, goes := false }
def LawS3590ABuiltToldSaid : Prop := Claim7.holds Ybaf.pinned (.plain (OpenSpec.ofChange lawS3590ABuiltSpec)) lawS3590ABuiltCard
/-- ITS FALSE NEIGHBOUR. Refute it at one input. -/
def LawS3590ABuiltToldWrongFalsely : Prop := Claim7.holds Ybaf.pinned (.plain (OpenSpec.ofChange lawS3590ABuiltWrong)) lawS3590ABuiltCard

/-- THE TOLD CARD OF 'kindred.LawS3590BFirstWins'. -/
def lawS3590BFirstWinsCard : Claim7 := { stood := { row := lawS3590BFirstWinsRow, standIns := [], harness := (true, "d17f2d3615157eba732df53abd7030371e2317bffe626e6f0aaa7d158bb1ded1"), looks := true }, told := true, goes := false }
def LawS3590BFirstWinsToldSaid : Prop := Claim7.holds Ybaf.pinned (.plain (OpenSpec.ofChange lawS3590BFirstWinsSpec)) lawS3590BFirstWinsCard
/-- ITS FALSE NEIGHBOUR. Refute it at one input. -/
def LawS3590BFirstWinsToldWrongFalsely : Prop := Claim7.holds Ybaf.pinned (.plain (OpenSpec.ofChange lawS3590BFirstWinsWrong)) lawS3590BFirstWinsCard

/-- THE TOLD AND TIED CARD OF 'kindred.LawS3590CNested'. -/
def lawS3590CNestedCard : Claim7 := { stood := { row := lawS3590CNestedRow, standIns := [], harness := (true, "d17f2d3615157eba732df53abd7030371e2317bffe626e6f0aaa7d158bb1ded1"), looks := true }, told := true, laidByText := true, laidKinds := [.data, .pinned, .pinned, .pinned, .pinned, .pinned, .pinned], laidTests := true, laidLooks := .later, goes := false }
def LawS3590CNestedToldSaid : Prop := Claim7.holds Ybaf.pinned (.plain (OpenSpec.ofChange lawS3590CNestedSpec)) lawS3590CNestedCard
/-- ITS FALSE NEIGHBOUR. Refute it at one input. -/
def LawS3590CNestedToldWrongFalsely : Prop := Claim7.holds Ybaf.pinned (.plain (OpenSpec.ofChange lawS3590CNestedWrong)) lawS3590CNestedCard

/-- THE TOLD AND TIED CARD OF 'kindred.LawS3590CStart'. -/
def lawS3590CStartCard : Claim7 := { stood := { row := lawS3590CStartRow, standIns := [], harness := (true, "d17f2d3615157eba732df53abd7030371e2317bffe626e6f0aaa7d158bb1ded1"), looks := true }, told := true, laidByText := true, laidKinds := [.data, .pinned, .pinned, .pinned, .pinned, .pinned, .pinned], laidTests := true, laidLooks := .later, goes := false }
def LawS3590CStartToldSaid : Prop := Claim7.holds Ybaf.pinned (.plain (OpenSpec.ofChange lawS3590CStartSpec)) lawS3590CStartCard
/-- ITS FALSE NEIGHBOUR. Refute it at one input. -/
def LawS3590CStartToldWrongFalsely : Prop := Claim7.holds Ybaf.pinned (.plain (OpenSpec.ofChange lawS3590CStartWrong)) lawS3590CStartCard
end Rows
end Go.Proofs.YbulkbvicFmt
