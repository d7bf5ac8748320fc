/-
  NARROWER THAN 'FOR EVERY INPUT', by the rows' own cells (each row's printed sentence says how): FnVersionBack: laid · FnShortName: laid · FnThreeKinds: laid · FnOneCase: laid · FnCheck: laid · FnSplitCheck: laid.
  DERIVED. THE GIVEN ROWS OF THIS SEAT. 6 by the template 'for every input the law returns true; each argument reads behind the call as it read before'; 0 by the template 'total and deterministic' (their statements: YtdnkmikckchnpaaFmtTotals.lean).
  GIVEN WITH THE SEED: the statements are not yours to turn. If you find one false, say at which input.
  Laid BY PROGRAM, IN A SANDBOX (cutbox-rows.mjs): the forced cells as the released guide's own fill.sh prints them over the translation b06ea03cd3474d41… (all of the seat's roots in one cut). By AI agents, Wed Nov 11 2026. No macro, syntax, notation, axiom, sorry.
-/
import Derived.Test.YtdnkmikckchnpaaFmtChecked
import GoSem.PinnedTables
import GoSem.Claim
import GoSem.ClaimJoined
import GoSem.ClaimMapViews
import Derived.JoinedTies
import Derived.KernelRfl
namespace Go.Proofs.YtdnkmikckchnpaaFmt
/- THE CELL 'sum', in the pinned program and in every row, IS THE sha256 OF THE DUMP (.gsa) THAT YtdnkmikckchnpaaFmtProg.lean LOADS. Nothing in Lean hashes anything: it is a label: what it is worth is what the hold of that sum in a sandbox is worth. -/
noncomputable def Tryf.pinned : Pinned := { name := "ytdnkmikckchnpaafmt", sum := "b06ea03cd3474d41a8ff602a24bdc718b56f4cd30efcdd9e8e50f5ee95f1c9a8", checked := Tryf.checked }
namespace Rows
def none {H : Type} : Left H := { results := [], args := [] }

/- WHAT THE LISTED PACKAGE-LEVEL VARIABLES READ AS WHEN THE CALL BEGINS. Each datum BY PROGRAM (the guide's laid-datum.mjs) off the statement by which the dump's own 'gosem.cut.vars' lays the variable. In a bare row this is a premise. The card (YtdnkmikckchnpaaFmtCards.lean) ties it to the program's text. -/
def laid_loop_example_pub_modulenames_pub_module_badWindowsNames {H : Type} : DataW H := .slice [.lit (.string [67, 79, 78]), .lit (.string [80, 82, 78]), .lit (.string [65, 85, 88]), .lit (.string [78, 85, 76]), .lit (.string [67, 79, 77, 49]), .lit (.string [67, 79, 77, 50]), .lit (.string [67, 79, 77, 51]), .lit (.string [67, 79, 77, 52]), .lit (.string [67, 79, 77, 53]), .lit (.string [67, 79, 77, 54]), .lit (.string [67, 79, 77, 55]), .lit (.string [67, 79, 77, 56]), .lit (.string [67, 79, 77, 57]), .lit (.string [76, 80, 84, 49]), .lit (.string [76, 80, 84, 50]), .lit (.string [76, 80, 84, 51]), .lit (.string [76, 80, 84, 52]), .lit (.string [76, 80, 84, 53]), .lit (.string [76, 80, 84, 54]), .lit (.string [76, 80, 84, 55]), .lit (.string [76, 80, 84, 56]), .lit (.string [76, 80, 84, 57])] []
def laid_unicode_utf8_acceptRanges {H : Type} : DataW H := .agg [.agg [.lit (.int .u8 128), .lit (.int .u8 191)], .agg [.lit (.int .u8 160), .lit (.int .u8 191)], .agg [.lit (.int .u8 128), .lit (.int .u8 159)], .agg [.lit (.int .u8 144), .lit (.int .u8 191)], .agg [.lit (.int .u8 128), .lit (.int .u8 143)], .agg [.lit (.int .u8 0), .lit (.int .u8 0)], .agg [.lit (.int .u8 0), .lit (.int .u8 0)], .agg [.lit (.int .u8 0), .lit (.int .u8 0)], .agg [.lit (.int .u8 0), .lit (.int .u8 0)], .agg [.lit (.int .u8 0), .lit (.int .u8 0)], .agg [.lit (.int .u8 0), .lit (.int .u8 0)], .agg [.lit (.int .u8 0), .lit (.int .u8 0)], .agg [.lit (.int .u8 0), .lit (.int .u8 0)], .agg [.lit (.int .u8 0), .lit (.int .u8 0)], .agg [.lit (.int .u8 0), .lit (.int .u8 0)], .agg [.lit (.int .u8 0), .lit (.int .u8 0)]]
/-- One of Go's own tables, pinned by name: the form's constant. -/
def laid_unicode_utf8_first : DataW Unit := Go.Pinned.utf8First
def laid_unicode_asciiFold {H : Type} : DataW H := .agg [.lit (.int .u16 0), .lit (.int .u16 1), .lit (.int .u16 2), .lit (.int .u16 3), .lit (.int .u16 4), .lit (.int .u16 5), .lit (.int .u16 6), .lit (.int .u16 7), .lit (.int .u16 8), .lit (.int .u16 9), .lit (.int .u16 10), .lit (.int .u16 11), .lit (.int .u16 12), .lit (.int .u16 13), .lit (.int .u16 14), .lit (.int .u16 15), .lit (.int .u16 16), .lit (.int .u16 17), .lit (.int .u16 18), .lit (.int .u16 19), .lit (.int .u16 20), .lit (.int .u16 21), .lit (.int .u16 22), .lit (.int .u16 23), .lit (.int .u16 24), .lit (.int .u16 25), .lit (.int .u16 26), .lit (.int .u16 27), .lit (.int .u16 28), .lit (.int .u16 29), .lit (.int .u16 30), .lit (.int .u16 31), .lit (.int .u16 32), .lit (.int .u16 33), .lit (.int .u16 34), .lit (.int .u16 35), .lit (.int .u16 36), .lit (.int .u16 37), .lit (.int .u16 38), .lit (.int .u16 39), .lit (.int .u16 40), .lit (.int .u16 41), .lit (.int .u16 42), .lit (.int .u16 43), .lit (.int .u16 44), .lit (.int .u16 45), .lit (.int .u16 46), .lit (.int .u16 47), .lit (.int .u16 48), .lit (.int .u16 49), .lit (.int .u16 50), .lit (.int .u16 51), .lit (.int .u16 52), .lit (.int .u16 53), .lit (.int .u16 54), .lit (.int .u16 55), .lit (.int .u16 56), .lit (.int .u16 57), .lit (.int .u16 58), .lit (.int .u16 59), .lit (.int .u16 60), .lit (.int .u16 61), .lit (.int .u16 62), .lit (.int .u16 63), .lit (.int .u16 64), .lit (.int .u16 97), .lit (.int .u16 98), .lit (.int .u16 99), .lit (.int .u16 100), .lit (.int .u16 101), .lit (.int .u16 102), .lit (.int .u16 103), .lit (.int .u16 104), .lit (.int .u16 105), .lit (.int .u16 106), .lit (.int .u16 107), .lit (.int .u16 108), .lit (.int .u16 109), .lit (.int .u16 110), .lit (.int .u16 111), .lit (.int .u16 112), .lit (.int .u16 113), .lit (.int .u16 114), .lit (.int .u16 115), .lit (.int .u16 116), .lit (.int .u16 117), .lit (.int .u16 118), .lit (.int .u16 119), .lit (.int .u16 120), .lit (.int .u16 121), .lit (.int .u16 122), .lit (.int .u16 91), .lit (.int .u16 92), .lit (.int .u16 93), .lit (.int .u16 94), .lit (.int .u16 95), .lit (.int .u16 96), .lit (.int .u16 65), .lit (.int .u16 66), .lit (.int .u16 67), .lit (.int .u16 68), .lit (.int .u16 69), .lit (.int .u16 70), .lit (.int .u16 71), .lit (.int .u16 72), .lit (.int .u16 73), .lit (.int .u16 74), .lit (.int .u16 8490), .lit (.int .u16 76), .lit (.int .u16 77), .lit (.int .u16 78), .lit (.int .u16 79), .lit (.int .u16 80), .lit (.int .u16 81), .lit (.int .u16 82), .lit (.int .u16 383), .lit (.int .u16 84), .lit (.int .u16 85), .lit (.int .u16 86), .lit (.int .u16 87), .lit (.int .u16 88), .lit (.int .u16 89), .lit (.int .u16 90), .lit (.int .u16 123), .lit (.int .u16 124), .lit (.int .u16 125), .lit (.int .u16 126), .lit (.int .u16 127)]
/-- One of Go's own tables, pinned by name: the form's constant. -/
def laid_unicode_Letter : DataW Unit := Go.Pinned.letter

/-- 'laws.FnVersionBack': WHATEVER THE INPUT: true; the input reads as it did. -/
def fnVersionBackSpec : ChangeSpec := { name := "fnVersionBack", vars := ["loop.example/pub-modulenames/pub/module.badWindowsNames"], fn := fun _ => fun
  | [d, g1] => { results := [.lit (.bool true)], args := [d], vars := [g1] }
  | _ => none }
def fnVersionBackRow : OpenClaim := { program := "ytdnkmikckchnpaafmt", sum := "b06ea03cd3474d41a8ff602a24bdc718b56f4cd30efcdd9e8e50f5ee95f1c9a8", func := "loop.example/pub-modulenames/laws.FnVersionBack", spec := "fnVersionBack", stops := ["fmt.Sprintf, its operands' methods called", "fmt.errorf, its operands' methods called"], inPlace := ["fmt.errorf", "fmt.Sprintf"], unfollowed := true, recurses := true, named := ["loop.example/pub-modulenames/pub/module.badWindowsNames", "unicode.properties", "unicode.Letter", "unicode/utf8.first", "unicode/utf8.acceptRanges", "unicode.asciiFold", "unicode.caseOrbit", "unicode.CaseRanges"], apart := false, laid := [("loop.example/pub-modulenames/pub/module.badWindowsNames", laid_loop_example_pub_modulenames_pub_module_badWindowsNames)] }
/-- NO THEOREM (fmt's text is open here; it may be false): for the released tool's asking of the row's closed facts alone. THE STATEMENT IS 'FnVersionBackToldSaid' (YtdnkmikckchnpaaFmtCards.lean). -/
def FnVersionBackFormAsk : Prop := fnVersionBackRow.holds Tryf.pinned (OpenSpec.ofChange fnVersionBackSpec)

/-- ITS FALSE NEIGHBOUR: 'it returns false'. Refute it at one input. -/
def fnVersionBackWrong : ChangeSpec := { name := "fnVersionBack", vars := ["loop.example/pub-modulenames/pub/module.badWindowsNames"], fn := fun _ => fun
  | [d, g1] => { results := [.lit (.bool false)], args := [d], vars := [g1] }
  | _ => none }
def FnVersionBackWrongFormAsk : Prop := fnVersionBackRow.holds Tryf.pinned (OpenSpec.ofChange fnVersionBackWrong)

/-- 'laws.FnShortName': WHATEVER THE INPUT: true; the input reads as it did. -/
def fnShortNameSpec : ChangeSpec := { name := "fnShortName", vars := ["loop.example/pub-modulenames/pub/module.badWindowsNames"], fn := fun _ => fun
  | [d1, d2, d3, g1] => { results := [.lit (.bool true)], args := [d1, d2, d3], vars := [g1] }
  | _ => none }
def fnShortNameRow : OpenClaim := { program := "ytdnkmikckchnpaafmt", sum := "b06ea03cd3474d41a8ff602a24bdc718b56f4cd30efcdd9e8e50f5ee95f1c9a8", func := "loop.example/pub-modulenames/laws.FnShortName", spec := "fnShortName", stops := ["fmt.Sprintf, its operands' methods called", "fmt.errorf, its operands' methods called"], inPlace := ["fmt.errorf", "fmt.Sprintf"], unfollowed := true, recurses := true, named := ["unicode/utf8.first", "unicode/utf8.acceptRanges", "loop.example/pub-modulenames/pub/module.badWindowsNames", "unicode.properties", "unicode.Letter", "unicode.asciiFold", "unicode.caseOrbit", "unicode.CaseRanges"], apart := false, laid := [("unicode/utf8.acceptRanges", laid_unicode_utf8_acceptRanges), ("loop.example/pub-modulenames/pub/module.badWindowsNames", laid_loop_example_pub_modulenames_pub_module_badWindowsNames), ("unicode/utf8.first", laid_unicode_utf8_first)] }
/-- NO THEOREM (fmt's text is open here; it may be false): for the released tool's asking of the row's closed facts alone. THE STATEMENT IS 'FnShortNameToldSaid' (YtdnkmikckchnpaaFmtCards.lean). -/
def FnShortNameFormAsk : Prop := fnShortNameRow.holds Tryf.pinned (OpenSpec.ofChange fnShortNameSpec)

/-- ITS FALSE NEIGHBOUR: 'it returns false'. Refute it at one input. -/
def fnShortNameWrong : ChangeSpec := { name := "fnShortName", vars := ["loop.example/pub-modulenames/pub/module.badWindowsNames"], fn := fun _ => fun
  | [d1, d2, d3, g1] => { results := [.lit (.bool false)], args := [d1, d2, d3], vars := [g1] }
  | _ => none }
def FnShortNameWrongFormAsk : Prop := fnShortNameRow.holds Tryf.pinned (OpenSpec.ofChange fnShortNameWrong)

/-- 'laws.FnThreeKinds': WHATEVER THE INPUT: true; the input reads as it did. -/
def fnThreeKindsSpec : ChangeSpec := { name := "fnThreeKinds", vars := ["loop.example/pub-modulenames/pub/module.badWindowsNames"], fn := fun _ => fun
  | [d, g1] => { results := [.lit (.bool true)], args := [d], vars := [g1] }
  | _ => none }
def fnThreeKindsRow : OpenClaim := { program := "ytdnkmikckchnpaafmt", sum := "b06ea03cd3474d41a8ff602a24bdc718b56f4cd30efcdd9e8e50f5ee95f1c9a8", func := "loop.example/pub-modulenames/laws.FnThreeKinds", spec := "fnThreeKinds", stops := ["fmt.Sprintf, its operands' methods called", "fmt.errorf, its operands' methods called"], inPlace := ["fmt.errorf", "fmt.Sprintf"], unfollowed := true, recurses := true, named := ["unicode/utf8.first", "unicode/utf8.acceptRanges", "loop.example/pub-modulenames/pub/module.badWindowsNames", "unicode.properties", "unicode.Letter", "unicode.asciiFold", "unicode.caseOrbit", "unicode.CaseRanges"], apart := false, laid := [("unicode/utf8.acceptRanges", laid_unicode_utf8_acceptRanges), ("unicode.asciiFold", laid_unicode_asciiFold), ("loop.example/pub-modulenames/pub/module.badWindowsNames", laid_loop_example_pub_modulenames_pub_module_badWindowsNames), ("unicode.Letter", laid_unicode_Letter), ("unicode/utf8.first", laid_unicode_utf8_first)] }
/-- NO THEOREM (fmt's text is open here; it may be false): for the released tool's asking of the row's closed facts alone. THE STATEMENT IS 'FnThreeKindsToldSaid' (YtdnkmikckchnpaaFmtCards.lean). -/
def FnThreeKindsFormAsk : Prop := fnThreeKindsRow.holds Tryf.pinned (OpenSpec.ofChange fnThreeKindsSpec)

/-- ITS FALSE NEIGHBOUR: 'it returns false'. Refute it at one input. -/
def fnThreeKindsWrong : ChangeSpec := { name := "fnThreeKinds", vars := ["loop.example/pub-modulenames/pub/module.badWindowsNames"], fn := fun _ => fun
  | [d, g1] => { results := [.lit (.bool false)], args := [d], vars := [g1] }
  | _ => none }
def FnThreeKindsWrongFormAsk : Prop := fnThreeKindsRow.holds Tryf.pinned (OpenSpec.ofChange fnThreeKindsWrong)

/-- 'laws.FnOneCase': WHATEVER THE INPUT: true; the input reads as it did. -/
def fnOneCaseSpec : ChangeSpec := { name := "fnOneCase", vars := ["loop.example/pub-modulenames/pub/module.badWindowsNames"], fn := fun _ => fun
  | [d1, d2, g1] => { results := [.lit (.bool true)], args := [d1, d2], vars := [g1] }
  | _ => none }
def fnOneCaseRow : OpenClaim := { program := "ytdnkmikckchnpaafmt", sum := "b06ea03cd3474d41a8ff602a24bdc718b56f4cd30efcdd9e8e50f5ee95f1c9a8", func := "loop.example/pub-modulenames/laws.FnOneCase", spec := "fnOneCase", stops := ["fmt.Sprintf, its operands' methods called", "fmt.errorf, its operands' methods called"], inPlace := ["fmt.errorf", "fmt.Sprintf"], unfollowed := true, recurses := true, named := ["unicode/utf8.first", "unicode/utf8.acceptRanges", "loop.example/pub-modulenames/pub/module.badWindowsNames", "unicode.properties", "unicode.Letter", "unicode.asciiFold", "unicode.caseOrbit", "unicode.CaseRanges"], apart := false, laid := [("unicode/utf8.acceptRanges", laid_unicode_utf8_acceptRanges), ("loop.example/pub-modulenames/pub/module.badWindowsNames", laid_loop_example_pub_modulenames_pub_module_badWindowsNames), ("unicode/utf8.first", laid_unicode_utf8_first)] }
/-- NO THEOREM (fmt's text is open here; it may be false): for the released tool's asking of the row's closed facts alone. THE STATEMENT IS 'FnOneCaseToldSaid' (YtdnkmikckchnpaaFmtCards.lean). -/
def FnOneCaseFormAsk : Prop := fnOneCaseRow.holds Tryf.pinned (OpenSpec.ofChange fnOneCaseSpec)

/-- ITS FALSE NEIGHBOUR: 'it returns false'. Refute it at one input. -/
def fnOneCaseWrong : ChangeSpec := { name := "fnOneCase", vars := ["loop.example/pub-modulenames/pub/module.badWindowsNames"], fn := fun _ => fun
  | [d1, d2, g1] => { results := [.lit (.bool false)], args := [d1, d2], vars := [g1] }
  | _ => none }
def FnOneCaseWrongFormAsk : Prop := fnOneCaseRow.holds Tryf.pinned (OpenSpec.ofChange fnOneCaseWrong)

/-- 'laws.FnCheck': WHATEVER THE INPUT: true; the input reads as it did. -/
def fnCheckSpec : ChangeSpec := { name := "fnCheck", vars := ["loop.example/pub-modulenames/pub/module.badWindowsNames"], fn := fun _ => fun
  | [d1, d2, g1] => { results := [.lit (.bool true)], args := [d1, d2], vars := [g1] }
  | _ => none }
def fnCheckRow : OpenClaim := { program := "ytdnkmikckchnpaafmt", sum := "b06ea03cd3474d41a8ff602a24bdc718b56f4cd30efcdd9e8e50f5ee95f1c9a8", func := "loop.example/pub-modulenames/laws.FnCheck", spec := "fnCheck", stops := ["fmt.Sprintf, its operands' methods called", "fmt.errorf, its operands' methods called"], inPlace := ["fmt.errorf", "fmt.Sprintf"], unfollowed := true, recurses := true, named := ["unicode/utf8.first", "unicode/utf8.acceptRanges", "loop.example/pub-modulenames/pub/module.badWindowsNames", "unicode.properties", "unicode.Letter", "unicode.asciiFold", "unicode.caseOrbit", "unicode.CaseRanges"], apart := false, laid := [("unicode/utf8.acceptRanges", laid_unicode_utf8_acceptRanges), ("loop.example/pub-modulenames/pub/module.badWindowsNames", laid_loop_example_pub_modulenames_pub_module_badWindowsNames), ("unicode/utf8.first", laid_unicode_utf8_first)] }
/-- NO THEOREM (fmt's text is open here; it may be false): for the released tool's asking of the row's closed facts alone. THE STATEMENT IS 'FnCheckToldSaid' (YtdnkmikckchnpaaFmtCards.lean). -/
def FnCheckFormAsk : Prop := fnCheckRow.holds Tryf.pinned (OpenSpec.ofChange fnCheckSpec)

/-- ITS FALSE NEIGHBOUR: 'it returns false'. Refute it at one input. -/
def fnCheckWrong : ChangeSpec := { name := "fnCheck", vars := ["loop.example/pub-modulenames/pub/module.badWindowsNames"], fn := fun _ => fun
  | [d1, d2, g1] => { results := [.lit (.bool false)], args := [d1, d2], vars := [g1] }
  | _ => none }
def FnCheckWrongFormAsk : Prop := fnCheckRow.holds Tryf.pinned (OpenSpec.ofChange fnCheckWrong)

/-- 'laws.FnSplitCheck': WHATEVER THE INPUT: true; the input reads as it did. -/
def fnSplitCheckSpec : ChangeSpec := { name := "fnSplitCheck", vars := ["loop.example/pub-modulenames/pub/module.badWindowsNames"], fn := fun _ => fun
  | [d1, d2, g1] => { results := [.lit (.bool true)], args := [d1, d2], vars := [g1] }
  | _ => none }
def fnSplitCheckRow : OpenClaim := { program := "ytdnkmikckchnpaafmt", sum := "b06ea03cd3474d41a8ff602a24bdc718b56f4cd30efcdd9e8e50f5ee95f1c9a8", func := "loop.example/pub-modulenames/laws.FnSplitCheck", spec := "fnSplitCheck", stops := ["fmt.Sprintf, its operands' methods called", "fmt.errorf, its operands' methods called"], inPlace := ["fmt.errorf", "fmt.Sprintf"], unfollowed := true, recurses := true, named := ["unicode/utf8.first", "unicode/utf8.acceptRanges", "loop.example/pub-modulenames/pub/module.badWindowsNames", "unicode.properties", "unicode.Letter", "unicode.asciiFold", "unicode.caseOrbit", "unicode.CaseRanges"], apart := false, laid := [("loop.example/pub-modulenames/pub/module.badWindowsNames", laid_loop_example_pub_modulenames_pub_module_badWindowsNames)] }
/-- NO THEOREM (fmt's text is open here; it may be false): for the released tool's asking of the row's closed facts alone. THE STATEMENT IS 'FnSplitCheckToldSaid' (YtdnkmikckchnpaaFmtCards.lean). -/
def FnSplitCheckFormAsk : Prop := fnSplitCheckRow.holds Tryf.pinned (OpenSpec.ofChange fnSplitCheckSpec)

/-- ITS FALSE NEIGHBOUR: 'it returns false'. Refute it at one input. -/
def fnSplitCheckWrong : ChangeSpec := { name := "fnSplitCheck", vars := ["loop.example/pub-modulenames/pub/module.badWindowsNames"], fn := fun _ => fun
  | [d1, d2, g1] => { results := [.lit (.bool false)], args := [d1, d2], vars := [g1] }
  | _ => none }
def FnSplitCheckWrongFormAsk : Prop := fnSplitCheckRow.holds Tryf.pinned (OpenSpec.ofChange fnSplitCheckWrong)

end Rows
end Go.Proofs.YtdnkmikckchnpaaFmt
