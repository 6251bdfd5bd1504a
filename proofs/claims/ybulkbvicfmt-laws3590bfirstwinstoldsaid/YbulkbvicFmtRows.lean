/-
  NARROWER THAN 'FOR EVERY INPUT', by the rows' own cells (each row's printed sentence says how): LawS3590CNested: laid · LawS3590CStart: laid.
  DERIVED. THE GIVEN ROWS OF THIS SEAT. 6 by the template 'for every input the law returns true; each argument reads behind the call as it read before'; 0 by the template 'total and deterministic' (their statements: YbulkbvicFmtTotals.lean).
  GIVEN WITH THE SEED: the statements are not yours to turn. If you find one false, say at which input.
  Laid BY PROGRAM, IN A SANDBOX (cutbox-rows.mjs): the forced cells as the released guide's own fill.sh prints them over the translation b34db0d8862ff42d… (all of the seat's roots in one cut). By AI agents, Wed Nov 11 2026. No macro, syntax, notation, axiom, sorry.
-/
import Derived.Test.YbulkbvicFmtChecked
import GoSem.PinnedTables
import GoSem.Claim
import GoSem.ClaimJoined
import GoSem.ClaimMapViews
import Derived.JoinedTies
import Derived.KernelRfl
namespace Go.Proofs.YbulkbvicFmt
/- THE CELL 'sum', in the pinned program and in every row, IS THE sha256 OF THE DUMP (.gsa) THAT YbulkbvicFmtProg.lean LOADS. Nothing in Lean hashes anything: it is a label: what it is worth is what the hold of that sum in a sandbox is worth. -/
noncomputable def Ybaf.pinned : Pinned := { name := "ybulkbvicfmt", sum := "b34db0d8862ff42d51269af6caa2de1f7dc0cd0f39cfe35a1a6d61e99b7ec732", checked := Ybaf.checked }
namespace Rows
def none {H : Type} : Left H := { results := [], args := [] }

/- WHAT THE LISTED PACKAGE-LEVEL VARIABLES READ AS WHEN THE CALL BEGINS. Each datum BY PROGRAM (the guide's laid-datum.mjs) off the statement by which the dump's own 'gosem.cut.vars' lays the variable. In a bare row this is a premise. The card (YbulkbvicFmtCards.lean) ties it to the program's text. -/
def laid_unicode_utf8_acceptRanges {H : Type} : DataW H := .agg [.agg [.lit (.int .u8 128), .lit (.int .u8 191)], .agg [.lit (.int .u8 160), .lit (.int .u8 191)], .agg [.lit (.int .u8 128), .lit (.int .u8 159)], .agg [.lit (.int .u8 144), .lit (.int .u8 191)], .agg [.lit (.int .u8 128), .lit (.int .u8 143)], .agg [.lit (.int .u8 0), .lit (.int .u8 0)], .agg [.lit (.int .u8 0), .lit (.int .u8 0)], .agg [.lit (.int .u8 0), .lit (.int .u8 0)], .agg [.lit (.int .u8 0), .lit (.int .u8 0)], .agg [.lit (.int .u8 0), .lit (.int .u8 0)], .agg [.lit (.int .u8 0), .lit (.int .u8 0)], .agg [.lit (.int .u8 0), .lit (.int .u8 0)], .agg [.lit (.int .u8 0), .lit (.int .u8 0)], .agg [.lit (.int .u8 0), .lit (.int .u8 0)], .agg [.lit (.int .u8 0), .lit (.int .u8 0)], .agg [.lit (.int .u8 0), .lit (.int .u8 0)]]
/-- One of Go's own tables, pinned by name: the form's constant. -/
def laid_strconv_isGraphic : DataW Unit := Go.Pinned.isGraphic
/-- One of Go's own tables, pinned by name: the form's constant. -/
def laid_strconv_isNotPrint16 : DataW Unit := Go.Pinned.isNotPrint16
/-- One of Go's own tables, pinned by name: the form's constant. -/
def laid_strconv_isNotPrint32 : DataW Unit := Go.Pinned.isNotPrint32
/-- One of Go's own tables, pinned by name: the form's constant. -/
def laid_strconv_isPrint16 : DataW Unit := Go.Pinned.isPrint16
/-- One of Go's own tables, pinned by name: the form's constant. -/
def laid_strconv_isPrint32 : DataW Unit := Go.Pinned.isPrint32
/-- One of Go's own tables, pinned by name: the form's constant. -/
def laid_unicode_utf8_first : DataW Unit := Go.Pinned.utf8First

/-- 'kindred.LawS3590AModel': WHATEVER THE INPUT: true; the input reads as it did. -/
def lawS3590AModelSpec : ChangeSpec := { name := "lawS3590AModel", fn := fun _ => fun
  | [d] => { results := [.lit (.bool true)], args := [d] }
  | _ => none }
def lawS3590AModelRow : OpenClaim := { program := "ybulkbvicfmt", sum := "b34db0d8862ff42d51269af6caa2de1f7dc0cd0f39cfe35a1a6d61e99b7ec732", func := "example.com/kindred/kindred.LawS3590AModel", spec := "lawS3590AModel", stops := ["fmt.Sprintf, its operands' methods called"], inPlace := ["fmt.Sprintf"], unfollowed := true, recurses := true, apart := false }
/-- NO THEOREM (fmt's text is open here; it may be false): for the released tool's asking of the row's closed facts alone. THE STATEMENT IS 'LawS3590AModelToldSaid' (YbulkbvicFmtCards.lean). -/
def LawS3590AModelFormAsk : Prop := lawS3590AModelRow.holds Ybaf.pinned (OpenSpec.ofChange lawS3590AModelSpec)

/-- ITS FALSE NEIGHBOUR: 'it returns false'. Refute it at one input. -/
def lawS3590AModelWrong : ChangeSpec := { name := "lawS3590AModel", fn := fun _ => fun
  | [d] => { results := [.lit (.bool false)], args := [d] }
  | _ => none }
def LawS3590AModelWrongFormAsk : Prop := lawS3590AModelRow.holds Ybaf.pinned (OpenSpec.ofChange lawS3590AModelWrong)

/-- 'kindred.LawS3590AAlphabet': WHATEVER THE INPUT: true; the input reads as it did. -/
def lawS3590AAlphabetSpec : ChangeSpec := { name := "lawS3590AAlphabet", fn := fun _ => fun
  | [d] => { results := [.lit (.bool true)], args := [d] }
  | _ => none }
def lawS3590AAlphabetRow : OpenClaim := { program := "ybulkbvicfmt", sum := "b34db0d8862ff42d51269af6caa2de1f7dc0cd0f39cfe35a1a6d61e99b7ec732", func := "example.com/kindred/kindred.LawS3590AAlphabet", spec := "lawS3590AAlphabet", stops := ["fmt.Sprintf, its operands' methods called"], inPlace := ["fmt.Sprintf"], unfollowed := true, recurses := true, apart := false }
/-- NO THEOREM (fmt's text is open here; it may be false): for the released tool's asking of the row's closed facts alone. THE STATEMENT IS 'LawS3590AAlphabetToldSaid' (YbulkbvicFmtCards.lean). -/
def LawS3590AAlphabetFormAsk : Prop := lawS3590AAlphabetRow.holds Ybaf.pinned (OpenSpec.ofChange lawS3590AAlphabetSpec)

/-- ITS FALSE NEIGHBOUR: 'it returns false'. Refute it at one input. -/
def lawS3590AAlphabetWrong : ChangeSpec := { name := "lawS3590AAlphabet", fn := fun _ => fun
  | [d] => { results := [.lit (.bool false)], args := [d] }
  | _ => none }
def LawS3590AAlphabetWrongFormAsk : Prop := lawS3590AAlphabetRow.holds Ybaf.pinned (OpenSpec.ofChange lawS3590AAlphabetWrong)

/-- 'kindred.LawS3590ABuilt': WHATEVER THE INPUT: true; the input reads as it did. -/
def lawS3590ABuiltSpec : ChangeSpec := { name := "lawS3590ABuilt", fn := fun _ => fun
  | [d1, d2, d3, d4, d5, d6] => { results := [.lit (.bool true)], args := [d1, d2, d3, d4, d5, d6] }
  | _ => none }
def lawS3590ABuiltRow : OpenClaim := { program := "ybulkbvicfmt", sum := "b34db0d8862ff42d51269af6caa2de1f7dc0cd0f39cfe35a1a6d61e99b7ec732", func := "example.com/kindred/kindred.LawS3590ABuilt", spec := "lawS3590ABuilt", stops := ["fmt.Sprintf, its operands' methods called"], inPlace := ["fmt.Sprintf"], unfollowed := true, recurses := true, apart := false }
/-- NO THEOREM (fmt's text is open here; it may be false): for the released tool's asking of the row's closed facts alone. THE STATEMENT IS 'LawS3590ABuiltToldSaid' (YbulkbvicFmtCards.lean). -/
def LawS3590ABuiltFormAsk : Prop := lawS3590ABuiltRow.holds Ybaf.pinned (OpenSpec.ofChange lawS3590ABuiltSpec)

/-- ITS FALSE NEIGHBOUR: 'it returns false'. Refute it at one input. -/
def lawS3590ABuiltWrong : ChangeSpec := { name := "lawS3590ABuilt", fn := fun _ => fun
  | [d1, d2, d3, d4, d5, d6] => { results := [.lit (.bool false)], args := [d1, d2, d3, d4, d5, d6] }
  | _ => none }
def LawS3590ABuiltWrongFormAsk : Prop := lawS3590ABuiltRow.holds Ybaf.pinned (OpenSpec.ofChange lawS3590ABuiltWrong)

/-- 'kindred.LawS3590BFirstWins': WHATEVER THE INPUT: true; the input reads as it did. -/
def lawS3590BFirstWinsSpec : ChangeSpec := { name := "lawS3590BFirstWins", fn := fun _ => fun
  | [d] => { results := [.lit (.bool true)], args := [d] }
  | _ => none }
def lawS3590BFirstWinsRow : OpenClaim := { program := "ybulkbvicfmt", sum := "b34db0d8862ff42d51269af6caa2de1f7dc0cd0f39cfe35a1a6d61e99b7ec732", func := "example.com/kindred/kindred.LawS3590BFirstWins", spec := "lawS3590BFirstWins", stops := ["fmt.Sprintf, its operands' methods called"], inPlace := ["fmt.Sprintf"], unfollowed := true, recurses := true, apart := false }
/-- NO THEOREM (fmt's text is open here; it may be false): for the released tool's asking of the row's closed facts alone. THE STATEMENT IS 'LawS3590BFirstWinsToldSaid' (YbulkbvicFmtCards.lean). -/
def LawS3590BFirstWinsFormAsk : Prop := lawS3590BFirstWinsRow.holds Ybaf.pinned (OpenSpec.ofChange lawS3590BFirstWinsSpec)

/-- ITS FALSE NEIGHBOUR: 'it returns false'. Refute it at one input. -/
def lawS3590BFirstWinsWrong : ChangeSpec := { name := "lawS3590BFirstWins", fn := fun _ => fun
  | [d] => { results := [.lit (.bool false)], args := [d] }
  | _ => none }
def LawS3590BFirstWinsWrongFormAsk : Prop := lawS3590BFirstWinsRow.holds Ybaf.pinned (OpenSpec.ofChange lawS3590BFirstWinsWrong)

/-- 'kindred.LawS3590CNested': WHATEVER THE INPUT: true; the input reads as it did. -/
def lawS3590CNestedSpec : ChangeSpec := { name := "lawS3590CNested", fn := fun _ => fun
  | [d] => { results := [.lit (.bool true)], args := [d] }
  | _ => none }
def lawS3590CNestedRow : OpenClaim := { program := "ybulkbvicfmt", sum := "b34db0d8862ff42d51269af6caa2de1f7dc0cd0f39cfe35a1a6d61e99b7ec732", func := "example.com/kindred/kindred.LawS3590CNested", spec := "lawS3590CNested", stops := ["fmt.Sprintf, its operands' methods called"], inPlace := ["internal/bytealg.IndexByteString", "fmt.Sprintf"], unfollowed := true, recurses := true, named := ["unicode/utf8.first", "unicode/utf8.acceptRanges", "strconv.isPrint16", "strconv.isNotPrint16", "strconv.isPrint32", "strconv.isNotPrint32", "strconv.isGraphic"], apart := false, laid := [("unicode/utf8.acceptRanges", laid_unicode_utf8_acceptRanges), ("strconv.isGraphic", laid_strconv_isGraphic), ("strconv.isNotPrint16", laid_strconv_isNotPrint16), ("strconv.isNotPrint32", laid_strconv_isNotPrint32), ("strconv.isPrint16", laid_strconv_isPrint16), ("strconv.isPrint32", laid_strconv_isPrint32), ("unicode/utf8.first", laid_unicode_utf8_first)] }
/-- NO THEOREM (fmt's text is open here; it may be false): for the released tool's asking of the row's closed facts alone. THE STATEMENT IS 'LawS3590CNestedToldSaid' (YbulkbvicFmtCards.lean). -/
def LawS3590CNestedFormAsk : Prop := lawS3590CNestedRow.holds Ybaf.pinned (OpenSpec.ofChange lawS3590CNestedSpec)

/-- ITS FALSE NEIGHBOUR: 'it returns false'. Refute it at one input. -/
def lawS3590CNestedWrong : ChangeSpec := { name := "lawS3590CNested", fn := fun _ => fun
  | [d] => { results := [.lit (.bool false)], args := [d] }
  | _ => none }
def LawS3590CNestedWrongFormAsk : Prop := lawS3590CNestedRow.holds Ybaf.pinned (OpenSpec.ofChange lawS3590CNestedWrong)

/-- 'kindred.LawS3590CStart': WHATEVER THE INPUT: true; the input reads as it did. -/
def lawS3590CStartSpec : ChangeSpec := { name := "lawS3590CStart", fn := fun _ => fun
  | [d1, d2] => { results := [.lit (.bool true)], args := [d1, d2] }
  | _ => none }
def lawS3590CStartRow : OpenClaim := { program := "ybulkbvicfmt", sum := "b34db0d8862ff42d51269af6caa2de1f7dc0cd0f39cfe35a1a6d61e99b7ec732", func := "example.com/kindred/kindred.LawS3590CStart", spec := "lawS3590CStart", stops := ["fmt.Sprintf, its operands' methods called"], inPlace := ["internal/bytealg.IndexByteString", "fmt.Sprintf"], unfollowed := true, recurses := true, named := ["unicode/utf8.first", "unicode/utf8.acceptRanges", "strconv.isPrint16", "strconv.isNotPrint16", "strconv.isPrint32", "strconv.isNotPrint32", "strconv.isGraphic"], apart := false, laid := [("unicode/utf8.acceptRanges", laid_unicode_utf8_acceptRanges), ("strconv.isGraphic", laid_strconv_isGraphic), ("strconv.isNotPrint16", laid_strconv_isNotPrint16), ("strconv.isNotPrint32", laid_strconv_isNotPrint32), ("strconv.isPrint16", laid_strconv_isPrint16), ("strconv.isPrint32", laid_strconv_isPrint32), ("unicode/utf8.first", laid_unicode_utf8_first)] }
/-- NO THEOREM (fmt's text is open here; it may be false): for the released tool's asking of the row's closed facts alone. THE STATEMENT IS 'LawS3590CStartToldSaid' (YbulkbvicFmtCards.lean). -/
def LawS3590CStartFormAsk : Prop := lawS3590CStartRow.holds Ybaf.pinned (OpenSpec.ofChange lawS3590CStartSpec)

/-- ITS FALSE NEIGHBOUR: 'it returns false'. Refute it at one input. -/
def lawS3590CStartWrong : ChangeSpec := { name := "lawS3590CStart", fn := fun _ => fun
  | [d1, d2] => { results := [.lit (.bool false)], args := [d1, d2] }
  | _ => none }
def LawS3590CStartWrongFormAsk : Prop := lawS3590CStartRow.holds Ybaf.pinned (OpenSpec.ofChange lawS3590CStartWrong)

end Rows
end Go.Proofs.YbulkbvicFmt
