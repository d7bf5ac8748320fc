/- module.CheckImportPath, module.CheckFilePath and the thin package's functions over them; the conditions are checkPath's. -/
import Derived.Test.YtpbebckhemnooaaFmtPath
namespace Go.Proofs.YtpbebckhemnooaaFmt.PS
open Go.RowKit Go.Proofs.YtpbebckhemnooaaFmtW.PrintWords Go.Proofs.YtpbebckhemnooaaFmtW.PrintLast Go.Proofs.YtpbebckhemnooaaFmtW.PrintMore
set_option linter.unusedVariables false
set_option linter.unusedSimpArgs false

/-- An error of package module's own type comes back. -/
def ErrP (w : World) (e : Ending) (w' : World) : Prop := ∃ a : Addr, e = .returned (.iface 61 (.pointer (some a))) ∧ Below w.heap.size w w'
def CheckPost (w : World) (K : Int) (l : List UInt8) (e : Ending) (w' : World) : Prop :=
  ∃ b : Bool, PB K l b ∧ ((b = true ∧ e = .returned .nilIface ∧ Below w.heap.size w w') ∨ (b = false ∧ ErrP w e w'))
def BoolPost (w : World) (K : Int) (l : List UInt8) (e : Ending) (w' : World) : Prop := ∃ b : Bool, PB K l b ∧ e = .returned (.bool b) ∧ Below w.heap.size w w'

set_option maxHeartbeats 1600000 in
theorem checkImport_any (F : Stop.Interp) (s : ByteArray) (hs : s.size ≤ 1099511627776) (w : World) (hF : F.answers w.tape) (hN : NamesIn w) (hX : (1 : Int) = 2 → asc s.data.toList ∨ HighOK w) (hv : ValidOK w s) :
    Calls Tryf.prog 42 #[.string s] w (CheckPost w 1 s.data.toList) := by
  have HP := Lib.hid (path_any 1 (by decide) F s hs w hF hN hX hv)
  clear hX hN hv
  go_enter Tryf.func42, Tryf.ntmps42
  go_wp2_with (go_at_call 61; refine HP.out.mono ?_; rintro e w7 ⟨b7, hEB, ⟨rfl, rfl, hb7⟩ | ⟨rfl, a7, t7, rfl, hc7, hb7⟩⟩)
  · go_ret
    exact ⟨true, hEB, .inl ⟨rfl, rfl, hb7⟩⟩
  · go_ret
    exact ⟨false, hEB, .inr ⟨rfl, _, rfl, hb7.alloc hb7.size _⟩⟩

set_option maxHeartbeats 1600000 in
theorem implImport_any (F : Stop.Interp) (s : ByteArray) (hs : s.size ≤ 1099511627776) (w : World) (hF : F.answers w.tape) (hN : NamesIn w) (hX : (1 : Int) = 2 → asc s.data.toList ∨ HighOK w) (hv : ValidOK w s) :
    Calls Tryf.prog 25 #[.string s] w (BoolPost w 1 s.data.toList) := by
  have HP := Lib.hid (checkImport_any F s hs w hF hN hX hv)
  clear hX hN hv
  go_enter Tryf.func25, Tryf.ntmps25
  go_wp2_with (go_at_call 42; refine HP.out.mono ?_; rintro e w7 ⟨b7, hEB, ⟨rfl, rfl, hb7⟩ | ⟨rfl, a7, rfl, hb7⟩⟩)
  · go_ret
    exact ⟨true, hEB, rfl, hb7⟩
  · go_ret
    exact ⟨false, hEB, rfl, hb7⟩

set_option maxHeartbeats 1600000 in
theorem checkFile_any (F : Stop.Interp) (s : ByteArray) (hs : s.size ≤ 1099511627776) (w : World) (hF : F.answers w.tape) (hN : NamesIn w) (hX : (2 : Int) = 2 → asc s.data.toList ∨ HighOK w) (hv : ValidOK w s) :
    Calls Tryf.prog 40 #[.string s] w (CheckPost w 2 s.data.toList) := by
  have HP := Lib.hid (path_any 2 (by decide) F s hs w hF hN hX hv)
  clear hX hN hv
  go_enter Tryf.func40, Tryf.ntmps40
  go_wp2_with (go_at_call 61; refine HP.out.mono ?_; rintro e w7 ⟨b7, hEB, ⟨rfl, rfl, hb7⟩ | ⟨rfl, a7, t7, rfl, hc7, hb7⟩⟩)
  · go_ret
    exact ⟨true, hEB, .inl ⟨rfl, rfl, hb7⟩⟩
  · go_ret
    exact ⟨false, hEB, .inr ⟨rfl, _, rfl, hb7.alloc hb7.size _⟩⟩

set_option maxHeartbeats 1600000 in
theorem implFile_any (F : Stop.Interp) (s : ByteArray) (hs : s.size ≤ 1099511627776) (w : World) (hF : F.answers w.tape) (hN : NamesIn w) (hX : (2 : Int) = 2 → asc s.data.toList ∨ HighOK w) (hv : ValidOK w s) :
    Calls Tryf.prog 23 #[.string s] w (BoolPost w 2 s.data.toList) := by
  have HP := Lib.hid (checkFile_any F s hs w hF hN hX hv)
  clear hX hN hv
  go_enter Tryf.func23, Tryf.ntmps23
  go_wp2_with (go_at_call 40; refine HP.out.mono ?_; rintro e w7 ⟨b7, hEB, ⟨rfl, rfl, hb7⟩ | ⟨rfl, a7, rfl, hb7⟩⟩)
  · go_ret
    exact ⟨true, hEB, rfl, hb7⟩
  · go_ret
    exact ⟨false, hEB, rfl, hb7⟩

end Go.Proofs.YtpbebckhemnooaaFmt.PS
