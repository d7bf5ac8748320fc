/- module.EscapePath and the thin package's function over it; the conditions: the text's size, that the tape answers fmt's stops, where the names of Windows lie, that utf8.ValidString answers. -/
import Derived.Test.YtdnkmikckchnpaaFmtEscape
import Derived.Outline
import Derived.RegionTactic
import Derived.ChangeAlike
namespace Go.Proofs.YtdnkmikckchnpaaFmt.PS
open Go.RowKit Go.Proofs.YtdnkmikckchnpaaFmtW.PrintWords Go.Proofs.YtdnkmikckchnpaaFmtW.PrintLast Go.Proofs.YtdnkmikckchnpaaFmtW.PrintMore
set_option linter.unusedVariables false
set_option linter.unusedSimpArgs false

def EscP (w : World) (l : List UInt8) (e : Ending) (w' : World) : Prop :=
  ∃ b : Bool, MB l b ∧ ((b = true ∧ ∃ t : ByteArray, e = .returned (.tuple #[.string t, .nilIface]) ∧ t.data.toList = escL l ∧ Below w.heap.size w w') ∨
    (b = false ∧ ∃ a : Addr, e = .returned (.tuple #[.string ⟨#[]⟩, .iface 62 (.pointer (some a))]) ∧ Below w.heap.size w w'))
def EscB (w : World) (l : List UInt8) (e : Ending) (w' : World) : Prop :=
  ∃ b : Bool, MB l b ∧ ((b = true ∧ ∃ t : ByteArray, e = .returned (.tuple #[.string t, .bool true]) ∧ t.data.toList = escL l ∧ Below w.heap.size w w') ∨
    (b = false ∧ e = .returned (.tuple #[.string ⟨#[]⟩, .bool false]) ∧ Below w.heap.size w w'))

set_option maxHeartbeats 1600000 in
set_option maxRecDepth 100000 in
theorem escapePath_any (F : Stop.Interp) (s : ByteArray) (hs : s.size ≤ 1099511627776) (w : World) (hF : F.answers w.tape) (hN : NamesIn w) (hv : ∀ W, Below w.heap.size w W → ValidOK W s) :
    Calls Tryf.prog 41 #[.string s] w (EscP w s.data.toList) := by
  have HP := Lib.hid (modPath_any F s hs w hF hN hv)
  clear hN hv
  go_enter Tryf.func41, Tryf.ntmps41
  go_wp2_with (first
    | (go_at_call 36; refine HP.out.mono ?_; rintro e w7 ⟨b7, hMB, ⟨rfl, rfl, hb7⟩ | ⟨rfl, g7, b8, t7, rfl, hb7, -, -⟩⟩)
    | (go_at_call 51; refine (escape_any s hs _).mono ?_; rintro e w8 (⟨ha, h33, t, rfl, ht, hb8⟩ | ⟨hno, a8, rfl, hb8⟩)))
  · go_ret2
    exact ⟨true, hMB, .inl ⟨rfl, t, rfl, ht, hb7.trans (hb8.mono hb7.size)⟩⟩
  · exact absurd ⟨hMB.fine.1, mod_33 hMB.fine.2⟩ hno
  · go_ret2
    exact ⟨false, hMB, .inr ⟨rfl, _, rfl, hb7⟩⟩

set_option maxHeartbeats 1600000 in
set_option maxRecDepth 100000 in
theorem implEscape_any (F : Stop.Interp) (s : ByteArray) (hs : s.size ≤ 1099511627776) (w : World) (hF : F.answers w.tape) (hN : NamesIn w) (hv : ∀ W, Below w.heap.size w W → ValidOK W s) :
    Calls Tryf.prog 23 #[.string s] w (EscB w s.data.toList) := by
  have HP := Lib.hid (escapePath_any F s hs w hF hN hv)
  clear hN hv
  go_enter Tryf.func23, Tryf.ntmps23
  go_wp2_with (go_at_call 41; refine HP.out.mono ?_; rintro e w7 ⟨b7, hMB, ⟨rfl, t, rfl, ht, hb7⟩ | ⟨rfl, a7, rfl, hb7⟩⟩)
  · go_region
    all_goals (try go_wp2)
    all_goals go_ret2
    all_goals exact ⟨true, hMB, .inl ⟨rfl, t, rfl, ht, hb7.drew⟩⟩
  · go_region
    all_goals (try go_wp2)
    all_goals go_ret2
    all_goals exact ⟨false, hMB, .inr ⟨rfl, rfl, hb7.drew⟩⟩

end Go.Proofs.YtdnkmikckchnpaaFmt.PS
