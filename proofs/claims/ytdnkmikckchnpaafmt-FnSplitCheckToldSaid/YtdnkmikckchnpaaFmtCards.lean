/-
  DERIVED. GIVEN WITH THE SEED: THE CARDS: each row of YtdnkmikckchnpaaFmtRows.lean that lists a variable, with what it lists TIED to the program's text (the seventh form; the later family's looks); each row that meets fmt, with fmt's text TOLD by the authors' own Lean function (tested against real Go, not proved from fmt's source: count such statements apart). THE CARD IS WHAT COUNTS. Prove the row's statement (the work); the ties are given (YtdnkmikckchnpaaFmtTie.lean); close each card by the builder's one call (the guide's Derived/Test/ToyasCard.lean, 'card_holds'). Laid BY PROGRAM, IN A SANDBOX (cutbox-door.mjs). By AI agents, Wed Nov 11 2026. No macro, syntax, notation, axiom, sorry.
-/
import Derived.Test.YtdnkmikckchnpaaFmtRows
import GoSem.ClaimSeven
namespace Go.Proofs.YtdnkmikckchnpaaFmt
namespace Rows

/-- THE TOLD AND TIED CARD OF 'laws.FnVersionBack'. -/
def fnVersionBackCard : Claim7 := { stood := { row := fnVersionBackRow, standIns := [], harness := (true, "86779fad75cab0e363e8ed3ee5996733fca326a667fcce680a2d269ecf52da15"), looks := true }, told := true, laidByText := true, laidKinds := [.data], laidTests := true, laidLooks := .later, goes := false }
def FnVersionBackToldSaid : Prop := Claim7.holds Tryf.pinned (.plain (OpenSpec.ofChange fnVersionBackSpec)) fnVersionBackCard
/-- ITS FALSE NEIGHBOUR. Refute it at one input. -/
def FnVersionBackToldWrongFalsely : Prop := Claim7.holds Tryf.pinned (.plain (OpenSpec.ofChange fnVersionBackWrong)) fnVersionBackCard

/-- THE TOLD AND TIED CARD OF 'laws.FnShortName'. -/
def fnShortNameCard : Claim7 := { stood := { row := fnShortNameRow, standIns := [], harness := (true, "86779fad75cab0e363e8ed3ee5996733fca326a667fcce680a2d269ecf52da15"), looks := true }, told := true, laidByText := true, laidKinds := [.data, .data, .pinned], laidTests := true, laidLooks := .later, goes := false }
def FnShortNameToldSaid : Prop := Claim7.holds Tryf.pinned (.plain (OpenSpec.ofChange fnShortNameSpec)) fnShortNameCard
/-- ITS FALSE NEIGHBOUR. Refute it at one input. -/
def FnShortNameToldWrongFalsely : Prop := Claim7.holds Tryf.pinned (.plain (OpenSpec.ofChange fnShortNameWrong)) fnShortNameCard

/-- THE TOLD AND TIED CARD OF 'laws.FnThreeKinds'. -/
def fnThreeKindsCard : Claim7 := { stood := { row := fnThreeKindsRow, standIns := [], harness := (true, "86779fad75cab0e363e8ed3ee5996733fca326a667fcce680a2d269ecf52da15"), looks := true }, told := true, laidByText := true, laidKinds := [.data, .data, .data, .pinned, .pinned], laidTests := true, laidLooks := .later, goes := false }
def FnThreeKindsToldSaid : Prop := Claim7.holds Tryf.pinned (.plain (OpenSpec.ofChange fnThreeKindsSpec)) fnThreeKindsCard
/-- ITS FALSE NEIGHBOUR. Refute it at one input. -/
def FnThreeKindsToldWrongFalsely : Prop := Claim7.holds Tryf.pinned (.plain (OpenSpec.ofChange fnThreeKindsWrong)) fnThreeKindsCard

/-- THE TOLD AND TIED CARD OF 'laws.FnOneCase'. -/
def fnOneCaseCard : Claim7 := { stood := { row := fnOneCaseRow, standIns := [], harness := (true, "86779fad75cab0e363e8ed3ee5996733fca326a667fcce680a2d269ecf52da15"), looks := true }, told := true, laidByText := true, laidKinds := [.data, .data, .pinned], laidTests := true, laidLooks := .later, goes := false }
def FnOneCaseToldSaid : Prop := Claim7.holds Tryf.pinned (.plain (OpenSpec.ofChange fnOneCaseSpec)) fnOneCaseCard
/-- ITS FALSE NEIGHBOUR. Refute it at one input. -/
def FnOneCaseToldWrongFalsely : Prop := Claim7.holds Tryf.pinned (.plain (OpenSpec.ofChange fnOneCaseWrong)) fnOneCaseCard

/-- THE TOLD AND TIED CARD OF 'laws.FnCheck'. -/
def fnCheckCard : Claim7 := { stood := { row := fnCheckRow, standIns := [], harness := (true, "86779fad75cab0e363e8ed3ee5996733fca326a667fcce680a2d269ecf52da15"), looks := true }, told := true, laidByText := true, laidKinds := [.data, .data, .pinned], laidTests := true, laidLooks := .later, goes := false }
def FnCheckToldSaid : Prop := Claim7.holds Tryf.pinned (.plain (OpenSpec.ofChange fnCheckSpec)) fnCheckCard
/-- ITS FALSE NEIGHBOUR. Refute it at one input. -/
def FnCheckToldWrongFalsely : Prop := Claim7.holds Tryf.pinned (.plain (OpenSpec.ofChange fnCheckWrong)) fnCheckCard

/-- THE TOLD AND TIED CARD OF 'laws.FnSplitCheck'. -/
def fnSplitCheckCard : Claim7 := { stood := { row := fnSplitCheckRow, standIns := [], harness := (true, "86779fad75cab0e363e8ed3ee5996733fca326a667fcce680a2d269ecf52da15"), looks := true }, told := true, laidByText := true, laidKinds := [.data], laidTests := true, laidLooks := .later, goes := false }
def FnSplitCheckToldSaid : Prop := Claim7.holds Tryf.pinned (.plain (OpenSpec.ofChange fnSplitCheckSpec)) fnSplitCheckCard
/-- ITS FALSE NEIGHBOUR. Refute it at one input. -/
def FnSplitCheckToldWrongFalsely : Prop := Claim7.holds Tryf.pinned (.plain (OpenSpec.ofChange fnSplitCheckWrong)) fnSplitCheckCard
end Rows
end Go.Proofs.YtdnkmikckchnpaaFmt
