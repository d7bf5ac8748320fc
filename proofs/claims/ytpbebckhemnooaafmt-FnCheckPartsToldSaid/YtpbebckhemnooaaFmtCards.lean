/-
  DERIVED. GIVEN WITH THE SEED: THE CARDS: each row of YtpbebckhemnooaaFmtRows.lean that lists a variable, with what it lists TIED to the program's text (the seventh form; the later family's looks); each row that meets fmt, with fmt's text TOLD by the authors' own Lean function (tested against real Go, not proved from fmt's source: count such statements apart). THE CARD IS WHAT COUNTS. Prove the row's statement (the work); the ties are given (YtpbebckhemnooaaFmtTie.lean); close each card by the builder's one call (the guide's Derived/Test/ToyasCard.lean, 'card_holds'). Laid BY PROGRAM, IN A SANDBOX (cutbox-door.mjs). By AI agents, Wed Nov 11 2026. No macro, syntax, notation, axiom, sorry.
-/
import Derived.Test.YtpbebckhemnooaaFmtRows
import GoSem.ClaimSeven
namespace Go.Proofs.YtpbebckhemnooaaFmt
namespace Rows

/-- THE TOLD AND TIED CARD OF 'laws.FnEscapeVersion'. -/
def fnEscapeVersionCard : Claim7 := { stood := { row := fnEscapeVersionRow, standIns := [], harness := (true, "2a80155d54a8492d459f10dbc914aefc2e0b32a281d9e9e1809cd703f453733c"), looks := true }, told := true, laidByText := true, laidKinds := [.data, .data, .data, .pinned, .pinned], laidTests := true, laidLooks := .later, goes := false }
def FnEscapeVersionToldSaid : Prop := Claim7.holds Tryf.pinned (.plain (OpenSpec.ofChange fnEscapeVersionSpec)) fnEscapeVersionCard
/-- ITS FALSE NEIGHBOUR. Refute it at one input. -/
def FnEscapeVersionToldWrongFalsely : Prop := Claim7.holds Tryf.pinned (.plain (OpenSpec.ofChange fnEscapeVersionWrong)) fnEscapeVersionCard

/-- THE TOLD AND TIED CARD OF 'laws.FnUnescapeVersion'. -/
def fnUnescapeVersionCard : Claim7 := { stood := { row := fnUnescapeVersionRow, standIns := [], harness := (true, "2a80155d54a8492d459f10dbc914aefc2e0b32a281d9e9e1809cd703f453733c"), looks := true }, told := true, laidByText := true, laidKinds := [.data], laidTests := true, laidLooks := .later, goes := false }
def FnUnescapeVersionToldSaid : Prop := Claim7.holds Tryf.pinned (.plain (OpenSpec.ofChange fnUnescapeVersionSpec)) fnUnescapeVersionCard
/-- ITS FALSE NEIGHBOUR. Refute it at one input. -/
def FnUnescapeVersionToldWrongFalsely : Prop := Claim7.holds Tryf.pinned (.plain (OpenSpec.ofChange fnUnescapeVersionWrong)) fnUnescapeVersionCard

/-- THE TOLD AND TIED CARD OF 'laws.FnFilePath'. -/
def fnFilePathCard : Claim7 := { stood := { row := fnFilePathRow, standIns := [], harness := (true, "2a80155d54a8492d459f10dbc914aefc2e0b32a281d9e9e1809cd703f453733c"), looks := true }, told := true, laidByText := true, laidKinds := [.data, .data, .data, .pinned, .pinned], laidTests := true, laidLooks := .later, goes := false }
def FnFilePathToldSaid : Prop := Claim7.holds Tryf.pinned (.plain (OpenSpec.ofChange fnFilePathSpec)) fnFilePathCard
/-- ITS FALSE NEIGHBOUR. Refute it at one input. -/
def FnFilePathToldWrongFalsely : Prop := Claim7.holds Tryf.pinned (.plain (OpenSpec.ofChange fnFilePathWrong)) fnFilePathCard

/-- THE TOLD AND TIED CARD OF 'laws.FnImportPath'. -/
def fnImportPathCard : Claim7 := { stood := { row := fnImportPathRow, standIns := [], harness := (true, "2a80155d54a8492d459f10dbc914aefc2e0b32a281d9e9e1809cd703f453733c"), looks := true }, told := true, laidByText := true, laidKinds := [.data, .data, .pinned], laidTests := true, laidLooks := .later, goes := false }
def FnImportPathToldSaid : Prop := Claim7.holds Tryf.pinned (.plain (OpenSpec.ofChange fnImportPathSpec)) fnImportPathCard
/-- ITS FALSE NEIGHBOUR. Refute it at one input. -/
def FnImportPathToldWrongFalsely : Prop := Claim7.holds Tryf.pinned (.plain (OpenSpec.ofChange fnImportPathWrong)) fnImportPathCard

/-- THE TOLD AND TIED CARD OF 'laws.FnLeading'. -/
def fnLeadingCard : Claim7 := { stood := { row := fnLeadingRow, standIns := [], harness := (true, "2a80155d54a8492d459f10dbc914aefc2e0b32a281d9e9e1809cd703f453733c"), looks := true }, told := true, laidByText := true, laidKinds := [.data], laidTests := true, laidLooks := .later, goes := false }
def FnLeadingToldSaid : Prop := Claim7.holds Tryf.pinned (.plain (OpenSpec.ofChange fnLeadingSpec)) fnLeadingCard
/-- ITS FALSE NEIGHBOUR. Refute it at one input. -/
def FnLeadingToldWrongFalsely : Prop := Claim7.holds Tryf.pinned (.plain (OpenSpec.ofChange fnLeadingWrong)) fnLeadingCard

/-- THE TOLD AND TIED CARD OF 'laws.FnMajorElement'. -/
def fnMajorElementCard : Claim7 := { stood := { row := fnMajorElementRow, standIns := [], harness := (true, "2a80155d54a8492d459f10dbc914aefc2e0b32a281d9e9e1809cd703f453733c"), looks := true }, told := true, laidByText := true, laidKinds := [.data], laidTests := true, laidLooks := .later, goes := false }
def FnMajorElementToldSaid : Prop := Claim7.holds Tryf.pinned (.plain (OpenSpec.ofChange fnMajorElementSpec)) fnMajorElementCard
/-- ITS FALSE NEIGHBOUR. Refute it at one input. -/
def FnMajorElementToldWrongFalsely : Prop := Claim7.holds Tryf.pinned (.plain (OpenSpec.ofChange fnMajorElementWrong)) fnMajorElementCard

/-- THE TOLD AND TIED CARD OF 'laws.FnPath'. -/
def fnPathCard : Claim7 := { stood := { row := fnPathRow, standIns := [], harness := (true, "2a80155d54a8492d459f10dbc914aefc2e0b32a281d9e9e1809cd703f453733c"), looks := true }, told := true, laidByText := true, laidKinds := [.data, .data, .pinned], laidTests := true, laidLooks := .later, goes := false }
def FnPathToldSaid : Prop := Claim7.holds Tryf.pinned (.plain (OpenSpec.ofChange fnPathSpec)) fnPathCard
/-- ITS FALSE NEIGHBOUR. Refute it at one input. -/
def FnPathToldWrongFalsely : Prop := Claim7.holds Tryf.pinned (.plain (OpenSpec.ofChange fnPathWrong)) fnPathCard

/-- THE TOLD AND TIED CARD OF 'laws.FnElement'. -/
def fnElementCard : Claim7 := { stood := { row := fnElementRow, standIns := [], harness := (true, "2a80155d54a8492d459f10dbc914aefc2e0b32a281d9e9e1809cd703f453733c"), looks := true }, told := true, laidByText := true, laidKinds := [.data, .data, .data, .pinned, .pinned], laidTests := true, laidLooks := .later, goes := false }
def FnElementToldSaid : Prop := Claim7.holds Tryf.pinned (.plain (OpenSpec.ofChange fnElementSpec)) fnElementCard
/-- ITS FALSE NEIGHBOUR. Refute it at one input. -/
def FnElementToldWrongFalsely : Prop := Claim7.holds Tryf.pinned (.plain (OpenSpec.ofChange fnElementWrong)) fnElementCard

/-- THE TOLD AND TIED CARD OF 'laws.FnEscape'. -/
def fnEscapeCard : Claim7 := { stood := { row := fnEscapeRow, standIns := [], harness := (true, "2a80155d54a8492d459f10dbc914aefc2e0b32a281d9e9e1809cd703f453733c"), looks := true }, told := true, laidByText := true, laidKinds := [.data, .data, .pinned], laidTests := true, laidLooks := .later, goes := false }
def FnEscapeToldSaid : Prop := Claim7.holds Tryf.pinned (.plain (OpenSpec.ofChange fnEscapeSpec)) fnEscapeCard
/-- ITS FALSE NEIGHBOUR. Refute it at one input. -/
def FnEscapeToldWrongFalsely : Prop := Claim7.holds Tryf.pinned (.plain (OpenSpec.ofChange fnEscapeWrong)) fnEscapeCard

/-- THE TOLD AND TIED CARD OF 'laws.FnUnescape'. -/
def fnUnescapeCard : Claim7 := { stood := { row := fnUnescapeRow, standIns := [], harness := (true, "2a80155d54a8492d459f10dbc914aefc2e0b32a281d9e9e1809cd703f453733c"), looks := true }, told := true, laidByText := true, laidKinds := [.data, .data, .pinned], laidTests := true, laidLooks := .later, goes := false }
def FnUnescapeToldSaid : Prop := Claim7.holds Tryf.pinned (.plain (OpenSpec.ofChange fnUnescapeSpec)) fnUnescapeCard
/-- ITS FALSE NEIGHBOUR. Refute it at one input. -/
def FnUnescapeToldWrongFalsely : Prop := Claim7.holds Tryf.pinned (.plain (OpenSpec.ofChange fnUnescapeWrong)) fnUnescapeCard

/-- THE TOLD AND TIED CARD OF 'laws.FnEscapeBack'. -/
def fnEscapeBackCard : Claim7 := { stood := { row := fnEscapeBackRow, standIns := [], harness := (true, "2a80155d54a8492d459f10dbc914aefc2e0b32a281d9e9e1809cd703f453733c"), looks := true }, told := true, laidByText := true, laidKinds := [.data, .data, .pinned], laidTests := true, laidLooks := .later, goes := false }
def FnEscapeBackToldSaid : Prop := Claim7.holds Tryf.pinned (.plain (OpenSpec.ofChange fnEscapeBackSpec)) fnEscapeBackCard
/-- ITS FALSE NEIGHBOUR. Refute it at one input. -/
def FnEscapeBackToldWrongFalsely : Prop := Claim7.holds Tryf.pinned (.plain (OpenSpec.ofChange fnEscapeBackWrong)) fnEscapeBackCard

/-- THE TOLD AND TIED CARD OF 'laws.FnCheckParts'. -/
def fnCheckPartsCard : Claim7 := { stood := { row := fnCheckPartsRow, standIns := [], harness := (true, "2a80155d54a8492d459f10dbc914aefc2e0b32a281d9e9e1809cd703f453733c"), looks := true }, told := true, laidByText := true, laidKinds := [.data, .data, .pinned], laidTests := true, laidLooks := .later, goes := false }
def FnCheckPartsToldSaid : Prop := Claim7.holds Tryf.pinned (.plain (OpenSpec.ofChange fnCheckPartsSpec)) fnCheckPartsCard
/-- ITS FALSE NEIGHBOUR. Refute it at one input. -/
def FnCheckPartsToldWrongFalsely : Prop := Claim7.holds Tryf.pinned (.plain (OpenSpec.ofChange fnCheckPartsWrong)) fnCheckPartsCard
end Rows
end Go.Proofs.YtpbebckhemnooaaFmt
