/-
  NARROWER THAN 'FOR EVERY INPUT', by the rows' own cells (each row's printed sentence says how): FnEscapeVersion: laid · FnUnescapeVersion: laid · FnFilePath: laid · FnImportPath: laid · FnLeading: laid · FnMajorElement: laid · FnPath: laid · FnElement: laid · FnEscape: laid · FnUnescape: laid · FnEscapeBack: laid · FnCheckParts: laid.
  DERIVED. THE GIVEN ROWS OF THIS SEAT. 12 by the template 'for every input the law returns true; each argument reads behind the call as it read before'; 0 by the template 'total and deterministic' (their statements: YtpbebckhemnooaaFmtTotals.lean).
  GIVEN WITH THE SEED: the statements are not yours to turn. If you find one false, say at which input.
  Laid BY PROGRAM, IN A SANDBOX (cutbox-rows.mjs): the forced cells as the released guide's own fill.sh prints them over the translation 85816827774aff4f… (all of the seat's roots in one cut). By AI agents, Wed Nov 11 2026. No macro, syntax, notation, axiom, sorry.
-/
import Derived.Test.YtpbebckhemnooaaFmtChecked
import GoSem.PinnedTables
import GoSem.Claim
import GoSem.ClaimJoined
import GoSem.ClaimMapViews
import Derived.JoinedTies
import Derived.KernelRfl
namespace Go.Proofs.YtpbebckhemnooaaFmt
/- THE CELL 'sum', in the pinned program and in every row, IS THE sha256 OF THE DUMP (.gsa) THAT YtpbebckhemnooaaFmtProg.lean LOADS. Nothing in Lean hashes anything: it is a label: what it is worth is what the hold of that sum in a sandbox is worth. -/
noncomputable def Tryf.pinned : Pinned := { name := "ytpbebckhemnooaafmt", sum := "85816827774aff4f57526b0dd66676c7b3b80735f2ced97921ce213e78ac7549", checked := Tryf.checked }
namespace Rows
def none {H : Type} : Left H := { results := [], args := [] }

/- WHAT THE LISTED PACKAGE-LEVEL VARIABLES READ AS WHEN THE CALL BEGINS. Each datum BY PROGRAM (the guide's laid-datum.mjs) off the statement by which the dump's own 'gosem.cut.vars' lays the variable. In a bare row this is a premise. The card (YtpbebckhemnooaaFmtCards.lean) ties it to the program's text. -/
def laid_unicode_utf8_acceptRanges {H : Type} : DataW H := .agg [.agg [.lit (.int .u8 128), .lit (.int .u8 191)], .agg [.lit (.int .u8 160), .lit (.int .u8 191)], .agg [.lit (.int .u8 128), .lit (.int .u8 159)], .agg [.lit (.int .u8 144), .lit (.int .u8 191)], .agg [.lit (.int .u8 128), .lit (.int .u8 143)], .agg [.lit (.int .u8 0), .lit (.int .u8 0)], .agg [.lit (.int .u8 0), .lit (.int .u8 0)], .agg [.lit (.int .u8 0), .lit (.int .u8 0)], .agg [.lit (.int .u8 0), .lit (.int .u8 0)], .agg [.lit (.int .u8 0), .lit (.int .u8 0)], .agg [.lit (.int .u8 0), .lit (.int .u8 0)], .agg [.lit (.int .u8 0), .lit (.int .u8 0)], .agg [.lit (.int .u8 0), .lit (.int .u8 0)], .agg [.lit (.int .u8 0), .lit (.int .u8 0)], .agg [.lit (.int .u8 0), .lit (.int .u8 0)], .agg [.lit (.int .u8 0), .lit (.int .u8 0)]]
def laid_unicode_asciiFold {H : Type} : DataW H := .agg [.lit (.int .u16 0), .lit (.int .u16 1), .lit (.int .u16 2), .lit (.int .u16 3), .lit (.int .u16 4), .lit (.int .u16 5), .lit (.int .u16 6), .lit (.int .u16 7), .lit (.int .u16 8), .lit (.int .u16 9), .lit (.int .u16 10), .lit (.int .u16 11), .lit (.int .u16 12), .lit (.int .u16 13), .lit (.int .u16 14), .lit (.int .u16 15), .lit (.int .u16 16), .lit (.int .u16 17), .lit (.int .u16 18), .lit (.int .u16 19), .lit (.int .u16 20), .lit (.int .u16 21), .lit (.int .u16 22), .lit (.int .u16 23), .lit (.int .u16 24), .lit (.int .u16 25), .lit (.int .u16 26), .lit (.int .u16 27), .lit (.int .u16 28), .lit (.int .u16 29), .lit (.int .u16 30), .lit (.int .u16 31), .lit (.int .u16 32), .lit (.int .u16 33), .lit (.int .u16 34), .lit (.int .u16 35), .lit (.int .u16 36), .lit (.int .u16 37), .lit (.int .u16 38), .lit (.int .u16 39), .lit (.int .u16 40), .lit (.int .u16 41), .lit (.int .u16 42), .lit (.int .u16 43), .lit (.int .u16 44), .lit (.int .u16 45), .lit (.int .u16 46), .lit (.int .u16 47), .lit (.int .u16 48), .lit (.int .u16 49), .lit (.int .u16 50), .lit (.int .u16 51), .lit (.int .u16 52), .lit (.int .u16 53), .lit (.int .u16 54), .lit (.int .u16 55), .lit (.int .u16 56), .lit (.int .u16 57), .lit (.int .u16 58), .lit (.int .u16 59), .lit (.int .u16 60), .lit (.int .u16 61), .lit (.int .u16 62), .lit (.int .u16 63), .lit (.int .u16 64), .lit (.int .u16 97), .lit (.int .u16 98), .lit (.int .u16 99), .lit (.int .u16 100), .lit (.int .u16 101), .lit (.int .u16 102), .lit (.int .u16 103), .lit (.int .u16 104), .lit (.int .u16 105), .lit (.int .u16 106), .lit (.int .u16 107), .lit (.int .u16 108), .lit (.int .u16 109), .lit (.int .u16 110), .lit (.int .u16 111), .lit (.int .u16 112), .lit (.int .u16 113), .lit (.int .u16 114), .lit (.int .u16 115), .lit (.int .u16 116), .lit (.int .u16 117), .lit (.int .u16 118), .lit (.int .u16 119), .lit (.int .u16 120), .lit (.int .u16 121), .lit (.int .u16 122), .lit (.int .u16 91), .lit (.int .u16 92), .lit (.int .u16 93), .lit (.int .u16 94), .lit (.int .u16 95), .lit (.int .u16 96), .lit (.int .u16 65), .lit (.int .u16 66), .lit (.int .u16 67), .lit (.int .u16 68), .lit (.int .u16 69), .lit (.int .u16 70), .lit (.int .u16 71), .lit (.int .u16 72), .lit (.int .u16 73), .lit (.int .u16 74), .lit (.int .u16 8490), .lit (.int .u16 76), .lit (.int .u16 77), .lit (.int .u16 78), .lit (.int .u16 79), .lit (.int .u16 80), .lit (.int .u16 81), .lit (.int .u16 82), .lit (.int .u16 383), .lit (.int .u16 84), .lit (.int .u16 85), .lit (.int .u16 86), .lit (.int .u16 87), .lit (.int .u16 88), .lit (.int .u16 89), .lit (.int .u16 90), .lit (.int .u16 123), .lit (.int .u16 124), .lit (.int .u16 125), .lit (.int .u16 126), .lit (.int .u16 127)]
def laid_loop_example_pub_modulenames_pub_module_badWindowsNames {H : Type} : DataW H := .slice [.lit (.string [67, 79, 78]), .lit (.string [80, 82, 78]), .lit (.string [65, 85, 88]), .lit (.string [78, 85, 76]), .lit (.string [67, 79, 77, 49]), .lit (.string [67, 79, 77, 50]), .lit (.string [67, 79, 77, 51]), .lit (.string [67, 79, 77, 52]), .lit (.string [67, 79, 77, 53]), .lit (.string [67, 79, 77, 54]), .lit (.string [67, 79, 77, 55]), .lit (.string [67, 79, 77, 56]), .lit (.string [67, 79, 77, 57]), .lit (.string [76, 80, 84, 49]), .lit (.string [76, 80, 84, 50]), .lit (.string [76, 80, 84, 51]), .lit (.string [76, 80, 84, 52]), .lit (.string [76, 80, 84, 53]), .lit (.string [76, 80, 84, 54]), .lit (.string [76, 80, 84, 55]), .lit (.string [76, 80, 84, 56]), .lit (.string [76, 80, 84, 57])] []
/-- One of Go's own tables, pinned by name: the form's constant. -/
def laid_unicode_Letter : DataW Unit := Go.Pinned.letter
/-- One of Go's own tables, pinned by name: the form's constant. -/
def laid_unicode_utf8_first : DataW Unit := Go.Pinned.utf8First

/-- 'laws.FnEscapeVersion': WHATEVER THE INPUT: true; the input reads as it did. -/
def fnEscapeVersionSpec : ChangeSpec := { name := "fnEscapeVersion", vars := ["loop.example/pub-modulenames/pub/module.badWindowsNames"], fn := fun _ => fun
  | [d, g1] => { results := [.lit (.bool true)], args := [d], vars := [g1] }
  | _ => none }
def fnEscapeVersionRow : OpenClaim := { program := "ytpbebckhemnooaafmt", sum := "85816827774aff4f57526b0dd66676c7b3b80735f2ced97921ce213e78ac7549", func := "loop.example/pub-modulenames/laws.FnEscapeVersion", spec := "fnEscapeVersion", stops := ["fmt.Sprintf, its operands' methods called", "fmt.errorf, its operands' methods called"], inPlace := ["fmt.errorf", "fmt.Sprintf"], unfollowed := true, recurses := true, named := ["loop.example/pub-modulenames/pub/module.badWindowsNames", "unicode.properties", "unicode.Letter", "unicode/utf8.first", "unicode/utf8.acceptRanges", "unicode.asciiFold", "unicode.caseOrbit", "unicode.CaseRanges"], apart := false, laid := [("unicode/utf8.acceptRanges", laid_unicode_utf8_acceptRanges), ("unicode.asciiFold", laid_unicode_asciiFold), ("loop.example/pub-modulenames/pub/module.badWindowsNames", laid_loop_example_pub_modulenames_pub_module_badWindowsNames), ("unicode.Letter", laid_unicode_Letter), ("unicode/utf8.first", laid_unicode_utf8_first)] }
/-- NO THEOREM (fmt's text is open here; it may be false): for the released tool's asking of the row's closed facts alone. THE STATEMENT IS 'FnEscapeVersionToldSaid' (YtpbebckhemnooaaFmtCards.lean). -/
def FnEscapeVersionFormAsk : Prop := fnEscapeVersionRow.holds Tryf.pinned (OpenSpec.ofChange fnEscapeVersionSpec)

/-- ITS FALSE NEIGHBOUR: 'it returns false'. Refute it at one input. -/
def fnEscapeVersionWrong : ChangeSpec := { name := "fnEscapeVersion", vars := ["loop.example/pub-modulenames/pub/module.badWindowsNames"], fn := fun _ => fun
  | [d, g1] => { results := [.lit (.bool false)], args := [d], vars := [g1] }
  | _ => none }
def FnEscapeVersionWrongFormAsk : Prop := fnEscapeVersionRow.holds Tryf.pinned (OpenSpec.ofChange fnEscapeVersionWrong)

/-- 'laws.FnUnescapeVersion': WHATEVER THE INPUT: true; the input reads as it did. -/
def fnUnescapeVersionSpec : ChangeSpec := { name := "fnUnescapeVersion", vars := ["loop.example/pub-modulenames/pub/module.badWindowsNames"], fn := fun _ => fun
  | [d, g1] => { results := [.lit (.bool true)], args := [d], vars := [g1] }
  | _ => none }
def fnUnescapeVersionRow : OpenClaim := { program := "ytpbebckhemnooaafmt", sum := "85816827774aff4f57526b0dd66676c7b3b80735f2ced97921ce213e78ac7549", func := "loop.example/pub-modulenames/laws.FnUnescapeVersion", spec := "fnUnescapeVersion", stops := ["fmt.Sprintf, its operands' methods called", "fmt.errorf, its operands' methods called"], inPlace := ["fmt.errorf", "fmt.Sprintf"], unfollowed := true, recurses := true, named := ["loop.example/pub-modulenames/pub/module.badWindowsNames", "unicode.properties", "unicode.Letter", "unicode/utf8.first", "unicode/utf8.acceptRanges", "unicode.asciiFold", "unicode.caseOrbit", "unicode.CaseRanges"], apart := false, laid := [("loop.example/pub-modulenames/pub/module.badWindowsNames", laid_loop_example_pub_modulenames_pub_module_badWindowsNames)] }
/-- NO THEOREM (fmt's text is open here; it may be false): for the released tool's asking of the row's closed facts alone. THE STATEMENT IS 'FnUnescapeVersionToldSaid' (YtpbebckhemnooaaFmtCards.lean). -/
def FnUnescapeVersionFormAsk : Prop := fnUnescapeVersionRow.holds Tryf.pinned (OpenSpec.ofChange fnUnescapeVersionSpec)

/-- ITS FALSE NEIGHBOUR: 'it returns false'. Refute it at one input. -/
def fnUnescapeVersionWrong : ChangeSpec := { name := "fnUnescapeVersion", vars := ["loop.example/pub-modulenames/pub/module.badWindowsNames"], fn := fun _ => fun
  | [d, g1] => { results := [.lit (.bool false)], args := [d], vars := [g1] }
  | _ => none }
def FnUnescapeVersionWrongFormAsk : Prop := fnUnescapeVersionRow.holds Tryf.pinned (OpenSpec.ofChange fnUnescapeVersionWrong)

/-- 'laws.FnFilePath': WHATEVER THE INPUT: true; the input reads as it did. -/
def fnFilePathSpec : ChangeSpec := { name := "fnFilePath", vars := ["loop.example/pub-modulenames/pub/module.badWindowsNames"], fn := fun _ => fun
  | [d, g1] => { results := [.lit (.bool true)], args := [d], vars := [g1] }
  | _ => none }
def fnFilePathRow : OpenClaim := { program := "ytpbebckhemnooaafmt", sum := "85816827774aff4f57526b0dd66676c7b3b80735f2ced97921ce213e78ac7549", func := "loop.example/pub-modulenames/laws.FnFilePath", spec := "fnFilePath", stops := ["fmt.Sprintf, its operands' methods called", "fmt.errorf, its operands' methods called"], inPlace := ["fmt.errorf", "fmt.Sprintf"], unfollowed := true, recurses := true, named := ["unicode/utf8.first", "unicode/utf8.acceptRanges", "loop.example/pub-modulenames/pub/module.badWindowsNames", "unicode.properties", "unicode.Letter", "unicode.asciiFold", "unicode.caseOrbit", "unicode.CaseRanges"], apart := false, laid := [("unicode/utf8.acceptRanges", laid_unicode_utf8_acceptRanges), ("unicode.asciiFold", laid_unicode_asciiFold), ("loop.example/pub-modulenames/pub/module.badWindowsNames", laid_loop_example_pub_modulenames_pub_module_badWindowsNames), ("unicode.Letter", laid_unicode_Letter), ("unicode/utf8.first", laid_unicode_utf8_first)] }
/-- NO THEOREM (fmt's text is open here; it may be false): for the released tool's asking of the row's closed facts alone. THE STATEMENT IS 'FnFilePathToldSaid' (YtpbebckhemnooaaFmtCards.lean). -/
def FnFilePathFormAsk : Prop := fnFilePathRow.holds Tryf.pinned (OpenSpec.ofChange fnFilePathSpec)

/-- ITS FALSE NEIGHBOUR: 'it returns false'. Refute it at one input. -/
def fnFilePathWrong : ChangeSpec := { name := "fnFilePath", vars := ["loop.example/pub-modulenames/pub/module.badWindowsNames"], fn := fun _ => fun
  | [d, g1] => { results := [.lit (.bool false)], args := [d], vars := [g1] }
  | _ => none }
def FnFilePathWrongFormAsk : Prop := fnFilePathRow.holds Tryf.pinned (OpenSpec.ofChange fnFilePathWrong)

/-- 'laws.FnImportPath': WHATEVER THE INPUT: true; the input reads as it did. -/
def fnImportPathSpec : ChangeSpec := { name := "fnImportPath", vars := ["loop.example/pub-modulenames/pub/module.badWindowsNames"], fn := fun _ => fun
  | [d, g1] => { results := [.lit (.bool true)], args := [d], vars := [g1] }
  | _ => none }
def fnImportPathRow : OpenClaim := { program := "ytpbebckhemnooaafmt", sum := "85816827774aff4f57526b0dd66676c7b3b80735f2ced97921ce213e78ac7549", func := "loop.example/pub-modulenames/laws.FnImportPath", spec := "fnImportPath", stops := ["fmt.Sprintf, its operands' methods called", "fmt.errorf, its operands' methods called"], inPlace := ["fmt.errorf", "fmt.Sprintf"], unfollowed := true, recurses := true, named := ["unicode/utf8.first", "unicode/utf8.acceptRanges", "loop.example/pub-modulenames/pub/module.badWindowsNames", "unicode.properties", "unicode.Letter", "unicode.asciiFold", "unicode.caseOrbit", "unicode.CaseRanges"], apart := false, laid := [("unicode/utf8.acceptRanges", laid_unicode_utf8_acceptRanges), ("loop.example/pub-modulenames/pub/module.badWindowsNames", laid_loop_example_pub_modulenames_pub_module_badWindowsNames), ("unicode/utf8.first", laid_unicode_utf8_first)] }
/-- NO THEOREM (fmt's text is open here; it may be false): for the released tool's asking of the row's closed facts alone. THE STATEMENT IS 'FnImportPathToldSaid' (YtpbebckhemnooaaFmtCards.lean). -/
def FnImportPathFormAsk : Prop := fnImportPathRow.holds Tryf.pinned (OpenSpec.ofChange fnImportPathSpec)

/-- ITS FALSE NEIGHBOUR: 'it returns false'. Refute it at one input. -/
def fnImportPathWrong : ChangeSpec := { name := "fnImportPath", vars := ["loop.example/pub-modulenames/pub/module.badWindowsNames"], fn := fun _ => fun
  | [d, g1] => { results := [.lit (.bool false)], args := [d], vars := [g1] }
  | _ => none }
def FnImportPathWrongFormAsk : Prop := fnImportPathRow.holds Tryf.pinned (OpenSpec.ofChange fnImportPathWrong)

/-- 'laws.FnLeading': WHATEVER THE INPUT: true; the input reads as it did. -/
def fnLeadingSpec : ChangeSpec := { name := "fnLeading", vars := ["loop.example/pub-modulenames/pub/module.badWindowsNames"], fn := fun _ => fun
  | [d1, d2, g1] => { results := [.lit (.bool true)], args := [d1, d2], vars := [g1] }
  | _ => none }
def fnLeadingRow : OpenClaim := { program := "ytpbebckhemnooaafmt", sum := "85816827774aff4f57526b0dd66676c7b3b80735f2ced97921ce213e78ac7549", func := "loop.example/pub-modulenames/laws.FnLeading", spec := "fnLeading", stops := ["fmt.Sprintf, its operands' methods called", "fmt.errorf, its operands' methods called"], inPlace := ["fmt.errorf", "fmt.Sprintf"], unfollowed := true, recurses := true, named := ["unicode/utf8.first", "unicode/utf8.acceptRanges", "loop.example/pub-modulenames/pub/module.badWindowsNames", "unicode.properties", "unicode.Letter", "unicode.asciiFold", "unicode.caseOrbit", "unicode.CaseRanges"], apart := false, laid := [("loop.example/pub-modulenames/pub/module.badWindowsNames", laid_loop_example_pub_modulenames_pub_module_badWindowsNames)] }
/-- NO THEOREM (fmt's text is open here; it may be false): for the released tool's asking of the row's closed facts alone. THE STATEMENT IS 'FnLeadingToldSaid' (YtpbebckhemnooaaFmtCards.lean). -/
def FnLeadingFormAsk : Prop := fnLeadingRow.holds Tryf.pinned (OpenSpec.ofChange fnLeadingSpec)

/-- ITS FALSE NEIGHBOUR: 'it returns false'. Refute it at one input. -/
def fnLeadingWrong : ChangeSpec := { name := "fnLeading", vars := ["loop.example/pub-modulenames/pub/module.badWindowsNames"], fn := fun _ => fun
  | [d1, d2, g1] => { results := [.lit (.bool false)], args := [d1, d2], vars := [g1] }
  | _ => none }
def FnLeadingWrongFormAsk : Prop := fnLeadingRow.holds Tryf.pinned (OpenSpec.ofChange fnLeadingWrong)

/-- 'laws.FnMajorElement': WHATEVER THE INPUT: true; the input reads as it did. -/
def fnMajorElementSpec : ChangeSpec := { name := "fnMajorElement", vars := ["loop.example/pub-modulenames/pub/module.badWindowsNames"], fn := fun _ => fun
  | [d1, d2, g1] => { results := [.lit (.bool true)], args := [d1, d2], vars := [g1] }
  | _ => none }
def fnMajorElementRow : OpenClaim := { program := "ytpbebckhemnooaafmt", sum := "85816827774aff4f57526b0dd66676c7b3b80735f2ced97921ce213e78ac7549", func := "loop.example/pub-modulenames/laws.FnMajorElement", spec := "fnMajorElement", stops := ["fmt.Sprintf, its operands' methods called", "fmt.errorf, its operands' methods called"], inPlace := ["fmt.errorf", "fmt.Sprintf"], unfollowed := true, recurses := true, named := ["unicode/utf8.first", "unicode/utf8.acceptRanges", "loop.example/pub-modulenames/pub/module.badWindowsNames", "unicode.properties", "unicode.Letter", "unicode.asciiFold", "unicode.caseOrbit", "unicode.CaseRanges"], apart := false, laid := [("loop.example/pub-modulenames/pub/module.badWindowsNames", laid_loop_example_pub_modulenames_pub_module_badWindowsNames)] }
/-- NO THEOREM (fmt's text is open here; it may be false): for the released tool's asking of the row's closed facts alone. THE STATEMENT IS 'FnMajorElementToldSaid' (YtpbebckhemnooaaFmtCards.lean). -/
def FnMajorElementFormAsk : Prop := fnMajorElementRow.holds Tryf.pinned (OpenSpec.ofChange fnMajorElementSpec)

/-- ITS FALSE NEIGHBOUR: 'it returns false'. Refute it at one input. -/
def fnMajorElementWrong : ChangeSpec := { name := "fnMajorElement", vars := ["loop.example/pub-modulenames/pub/module.badWindowsNames"], fn := fun _ => fun
  | [d1, d2, g1] => { results := [.lit (.bool false)], args := [d1, d2], vars := [g1] }
  | _ => none }
def FnMajorElementWrongFormAsk : Prop := fnMajorElementRow.holds Tryf.pinned (OpenSpec.ofChange fnMajorElementWrong)

/-- 'laws.FnPath': WHATEVER THE INPUT: true; the input reads as it did. -/
def fnPathSpec : ChangeSpec := { name := "fnPath", vars := ["loop.example/pub-modulenames/pub/module.badWindowsNames"], fn := fun _ => fun
  | [d, g1] => { results := [.lit (.bool true)], args := [d], vars := [g1] }
  | _ => none }
def fnPathRow : OpenClaim := { program := "ytpbebckhemnooaafmt", sum := "85816827774aff4f57526b0dd66676c7b3b80735f2ced97921ce213e78ac7549", func := "loop.example/pub-modulenames/laws.FnPath", spec := "fnPath", stops := ["fmt.Sprintf, its operands' methods called", "fmt.errorf, its operands' methods called"], inPlace := ["fmt.errorf", "fmt.Sprintf"], unfollowed := true, recurses := true, named := ["unicode/utf8.first", "unicode/utf8.acceptRanges", "loop.example/pub-modulenames/pub/module.badWindowsNames", "unicode.properties", "unicode.Letter", "unicode.asciiFold", "unicode.caseOrbit", "unicode.CaseRanges"], apart := false, laid := [("unicode/utf8.acceptRanges", laid_unicode_utf8_acceptRanges), ("loop.example/pub-modulenames/pub/module.badWindowsNames", laid_loop_example_pub_modulenames_pub_module_badWindowsNames), ("unicode/utf8.first", laid_unicode_utf8_first)] }
/-- NO THEOREM (fmt's text is open here; it may be false): for the released tool's asking of the row's closed facts alone. THE STATEMENT IS 'FnPathToldSaid' (YtpbebckhemnooaaFmtCards.lean). -/
def FnPathFormAsk : Prop := fnPathRow.holds Tryf.pinned (OpenSpec.ofChange fnPathSpec)

/-- ITS FALSE NEIGHBOUR: 'it returns false'. Refute it at one input. -/
def fnPathWrong : ChangeSpec := { name := "fnPath", vars := ["loop.example/pub-modulenames/pub/module.badWindowsNames"], fn := fun _ => fun
  | [d, g1] => { results := [.lit (.bool false)], args := [d], vars := [g1] }
  | _ => none }
def FnPathWrongFormAsk : Prop := fnPathRow.holds Tryf.pinned (OpenSpec.ofChange fnPathWrong)

/-- 'laws.FnElement': WHATEVER THE INPUT: true; the input reads as it did. -/
def fnElementSpec : ChangeSpec := { name := "fnElement", vars := ["loop.example/pub-modulenames/pub/module.badWindowsNames"], fn := fun _ => fun
  | [d1, d2, d3, g1] => { results := [.lit (.bool true)], args := [d1, d2, d3], vars := [g1] }
  | _ => none }
def fnElementRow : OpenClaim := { program := "ytpbebckhemnooaafmt", sum := "85816827774aff4f57526b0dd66676c7b3b80735f2ced97921ce213e78ac7549", func := "loop.example/pub-modulenames/laws.FnElement", spec := "fnElement", stops := ["fmt.Sprintf, its operands' methods called", "fmt.errorf, its operands' methods called"], inPlace := ["fmt.errorf", "fmt.Sprintf"], unfollowed := true, recurses := true, named := ["unicode/utf8.first", "unicode/utf8.acceptRanges", "loop.example/pub-modulenames/pub/module.badWindowsNames", "unicode.properties", "unicode.Letter", "unicode.asciiFold", "unicode.caseOrbit", "unicode.CaseRanges"], apart := false, laid := [("unicode/utf8.acceptRanges", laid_unicode_utf8_acceptRanges), ("unicode.asciiFold", laid_unicode_asciiFold), ("loop.example/pub-modulenames/pub/module.badWindowsNames", laid_loop_example_pub_modulenames_pub_module_badWindowsNames), ("unicode.Letter", laid_unicode_Letter), ("unicode/utf8.first", laid_unicode_utf8_first)] }
/-- NO THEOREM (fmt's text is open here; it may be false): for the released tool's asking of the row's closed facts alone. THE STATEMENT IS 'FnElementToldSaid' (YtpbebckhemnooaaFmtCards.lean). -/
def FnElementFormAsk : Prop := fnElementRow.holds Tryf.pinned (OpenSpec.ofChange fnElementSpec)

/-- ITS FALSE NEIGHBOUR: 'it returns false'. Refute it at one input. -/
def fnElementWrong : ChangeSpec := { name := "fnElement", vars := ["loop.example/pub-modulenames/pub/module.badWindowsNames"], fn := fun _ => fun
  | [d1, d2, d3, g1] => { results := [.lit (.bool false)], args := [d1, d2, d3], vars := [g1] }
  | _ => none }
def FnElementWrongFormAsk : Prop := fnElementRow.holds Tryf.pinned (OpenSpec.ofChange fnElementWrong)

/-- 'laws.FnEscape': WHATEVER THE INPUT: true; the input reads as it did. -/
def fnEscapeSpec : ChangeSpec := { name := "fnEscape", vars := ["loop.example/pub-modulenames/pub/module.badWindowsNames"], fn := fun _ => fun
  | [d, g1] => { results := [.lit (.bool true)], args := [d], vars := [g1] }
  | _ => none }
def fnEscapeRow : OpenClaim := { program := "ytpbebckhemnooaafmt", sum := "85816827774aff4f57526b0dd66676c7b3b80735f2ced97921ce213e78ac7549", func := "loop.example/pub-modulenames/laws.FnEscape", spec := "fnEscape", stops := ["fmt.Sprintf, its operands' methods called", "fmt.errorf, its operands' methods called"], inPlace := ["fmt.errorf", "fmt.Sprintf"], unfollowed := true, recurses := true, named := ["unicode/utf8.first", "unicode/utf8.acceptRanges", "loop.example/pub-modulenames/pub/module.badWindowsNames", "unicode.properties", "unicode.Letter", "unicode.asciiFold", "unicode.caseOrbit", "unicode.CaseRanges"], apart := false, laid := [("unicode/utf8.acceptRanges", laid_unicode_utf8_acceptRanges), ("loop.example/pub-modulenames/pub/module.badWindowsNames", laid_loop_example_pub_modulenames_pub_module_badWindowsNames), ("unicode/utf8.first", laid_unicode_utf8_first)] }
/-- NO THEOREM (fmt's text is open here; it may be false): for the released tool's asking of the row's closed facts alone. THE STATEMENT IS 'FnEscapeToldSaid' (YtpbebckhemnooaaFmtCards.lean). -/
def FnEscapeFormAsk : Prop := fnEscapeRow.holds Tryf.pinned (OpenSpec.ofChange fnEscapeSpec)

/-- ITS FALSE NEIGHBOUR: 'it returns false'. Refute it at one input. -/
def fnEscapeWrong : ChangeSpec := { name := "fnEscape", vars := ["loop.example/pub-modulenames/pub/module.badWindowsNames"], fn := fun _ => fun
  | [d, g1] => { results := [.lit (.bool false)], args := [d], vars := [g1] }
  | _ => none }
def FnEscapeWrongFormAsk : Prop := fnEscapeRow.holds Tryf.pinned (OpenSpec.ofChange fnEscapeWrong)

/-- 'laws.FnUnescape': WHATEVER THE INPUT: true; the input reads as it did. -/
def fnUnescapeSpec : ChangeSpec := { name := "fnUnescape", vars := ["loop.example/pub-modulenames/pub/module.badWindowsNames"], fn := fun _ => fun
  | [d, g1] => { results := [.lit (.bool true)], args := [d], vars := [g1] }
  | _ => none }
def fnUnescapeRow : OpenClaim := { program := "ytpbebckhemnooaafmt", sum := "85816827774aff4f57526b0dd66676c7b3b80735f2ced97921ce213e78ac7549", func := "loop.example/pub-modulenames/laws.FnUnescape", spec := "fnUnescape", stops := ["fmt.Sprintf, its operands' methods called", "fmt.errorf, its operands' methods called"], inPlace := ["fmt.errorf", "fmt.Sprintf"], unfollowed := true, recurses := true, named := ["unicode/utf8.first", "unicode/utf8.acceptRanges", "loop.example/pub-modulenames/pub/module.badWindowsNames", "unicode.properties", "unicode.Letter", "unicode.asciiFold", "unicode.caseOrbit", "unicode.CaseRanges"], apart := false, laid := [("unicode/utf8.acceptRanges", laid_unicode_utf8_acceptRanges), ("loop.example/pub-modulenames/pub/module.badWindowsNames", laid_loop_example_pub_modulenames_pub_module_badWindowsNames), ("unicode/utf8.first", laid_unicode_utf8_first)] }
/-- NO THEOREM (fmt's text is open here; it may be false): for the released tool's asking of the row's closed facts alone. THE STATEMENT IS 'FnUnescapeToldSaid' (YtpbebckhemnooaaFmtCards.lean). -/
def FnUnescapeFormAsk : Prop := fnUnescapeRow.holds Tryf.pinned (OpenSpec.ofChange fnUnescapeSpec)

/-- ITS FALSE NEIGHBOUR: 'it returns false'. Refute it at one input. -/
def fnUnescapeWrong : ChangeSpec := { name := "fnUnescape", vars := ["loop.example/pub-modulenames/pub/module.badWindowsNames"], fn := fun _ => fun
  | [d, g1] => { results := [.lit (.bool false)], args := [d], vars := [g1] }
  | _ => none }
def FnUnescapeWrongFormAsk : Prop := fnUnescapeRow.holds Tryf.pinned (OpenSpec.ofChange fnUnescapeWrong)

/-- 'laws.FnEscapeBack': WHATEVER THE INPUT: true; the input reads as it did. -/
def fnEscapeBackSpec : ChangeSpec := { name := "fnEscapeBack", vars := ["loop.example/pub-modulenames/pub/module.badWindowsNames"], fn := fun _ => fun
  | [d, g1] => { results := [.lit (.bool true)], args := [d], vars := [g1] }
  | _ => none }
def fnEscapeBackRow : OpenClaim := { program := "ytpbebckhemnooaafmt", sum := "85816827774aff4f57526b0dd66676c7b3b80735f2ced97921ce213e78ac7549", func := "loop.example/pub-modulenames/laws.FnEscapeBack", spec := "fnEscapeBack", stops := ["fmt.Sprintf, its operands' methods called", "fmt.errorf, its operands' methods called"], inPlace := ["fmt.errorf", "fmt.Sprintf"], unfollowed := true, recurses := true, named := ["unicode/utf8.first", "unicode/utf8.acceptRanges", "loop.example/pub-modulenames/pub/module.badWindowsNames", "unicode.properties", "unicode.Letter", "unicode.asciiFold", "unicode.caseOrbit", "unicode.CaseRanges"], apart := false, laid := [("unicode/utf8.acceptRanges", laid_unicode_utf8_acceptRanges), ("loop.example/pub-modulenames/pub/module.badWindowsNames", laid_loop_example_pub_modulenames_pub_module_badWindowsNames), ("unicode/utf8.first", laid_unicode_utf8_first)] }
/-- NO THEOREM (fmt's text is open here; it may be false): for the released tool's asking of the row's closed facts alone. THE STATEMENT IS 'FnEscapeBackToldSaid' (YtpbebckhemnooaaFmtCards.lean). -/
def FnEscapeBackFormAsk : Prop := fnEscapeBackRow.holds Tryf.pinned (OpenSpec.ofChange fnEscapeBackSpec)

/-- ITS FALSE NEIGHBOUR: 'it returns false'. Refute it at one input. -/
def fnEscapeBackWrong : ChangeSpec := { name := "fnEscapeBack", vars := ["loop.example/pub-modulenames/pub/module.badWindowsNames"], fn := fun _ => fun
  | [d, g1] => { results := [.lit (.bool false)], args := [d], vars := [g1] }
  | _ => none }
def FnEscapeBackWrongFormAsk : Prop := fnEscapeBackRow.holds Tryf.pinned (OpenSpec.ofChange fnEscapeBackWrong)

/-- 'laws.FnCheckParts': WHATEVER THE INPUT: true; the input reads as it did. -/
def fnCheckPartsSpec : ChangeSpec := { name := "fnCheckParts", vars := ["loop.example/pub-modulenames/pub/module.badWindowsNames"], fn := fun _ => fun
  | [d1, d2, g1] => { results := [.lit (.bool true)], args := [d1, d2], vars := [g1] }
  | _ => none }
def fnCheckPartsRow : OpenClaim := { program := "ytpbebckhemnooaafmt", sum := "85816827774aff4f57526b0dd66676c7b3b80735f2ced97921ce213e78ac7549", func := "loop.example/pub-modulenames/laws.FnCheckParts", spec := "fnCheckParts", stops := ["fmt.Sprintf, its operands' methods called", "fmt.errorf, its operands' methods called"], inPlace := ["fmt.errorf", "fmt.Sprintf"], unfollowed := true, recurses := true, named := ["unicode/utf8.first", "unicode/utf8.acceptRanges", "loop.example/pub-modulenames/pub/module.badWindowsNames", "unicode.properties", "unicode.Letter", "unicode.asciiFold", "unicode.caseOrbit", "unicode.CaseRanges"], apart := false, laid := [("unicode/utf8.acceptRanges", laid_unicode_utf8_acceptRanges), ("loop.example/pub-modulenames/pub/module.badWindowsNames", laid_loop_example_pub_modulenames_pub_module_badWindowsNames), ("unicode/utf8.first", laid_unicode_utf8_first)] }
/-- NO THEOREM (fmt's text is open here; it may be false): for the released tool's asking of the row's closed facts alone. THE STATEMENT IS 'FnCheckPartsToldSaid' (YtpbebckhemnooaaFmtCards.lean). -/
def FnCheckPartsFormAsk : Prop := fnCheckPartsRow.holds Tryf.pinned (OpenSpec.ofChange fnCheckPartsSpec)

/-- ITS FALSE NEIGHBOUR: 'it returns false'. Refute it at one input. -/
def fnCheckPartsWrong : ChangeSpec := { name := "fnCheckParts", vars := ["loop.example/pub-modulenames/pub/module.badWindowsNames"], fn := fun _ => fun
  | [d1, d2, g1] => { results := [.lit (.bool false)], args := [d1, d2], vars := [g1] }
  | _ => none }
def FnCheckPartsWrongFormAsk : Prop := fnCheckPartsRow.holds Tryf.pinned (OpenSpec.ofChange fnCheckPartsWrong)

end Rows
end Go.Proofs.YtpbebckhemnooaaFmt
