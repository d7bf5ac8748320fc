/- module.EscapePath, module.UnescapePath and the thin package's functions over them; the conditions: the text's size, that the tape answers fmt's stops, where the names of Windows lie, that utf8.ValidString answers. -/
import Derived.Test.YtpbebckhemnooaaFmtEscape
import Derived.Outline
import Derived.RegionTactic
import Derived.ChangeAlike
namespace Go.Proofs.YtpbebckhemnooaaFmt.PS
open Go.RowKit Go.Proofs.YtpbebckhemnooaaFmtW.PrintWords Go.Proofs.YtpbebckhemnooaaFmtW.PrintLast Go.Proofs.YtpbebckhemnooaaFmtW.PrintMore
set_option linter.unusedVariables false
set_option linter.unusedSimpArgs false

def EscP (w : World) (l : List UInt8) (e : Ending) (w' : World) : Prop :=
  ∃ b : Bool, MB l b ∧ ((b = true ∧ ∃ t : ByteArray, e = .returned (.tuple #[.string t, .nilIface]) ∧ t.data.toList = escL l ∧ Below w.heap.size w w') ∨
    (b = false ∧ ∃ a : Addr, e = .returned (.tuple #[.string ⟨#[]⟩, .iface 61 (.pointer (some a))]) ∧ Below w.heap.size w w'))
def EscB (w : World) (l : List UInt8) (e : Ending) (w' : World) : Prop :=
  ∃ b : Bool, MB l b ∧ ((b = true ∧ ∃ t : ByteArray, e = .returned (.tuple #[.string t, .bool true]) ∧ t.data.toList = escL l ∧ Below w.heap.size w w') ∨
    (b = false ∧ e = .returned (.tuple #[.string ⟨#[]⟩, .bool false]) ∧ Below w.heap.size w w'))

set_option maxHeartbeats 1600000 in
set_option maxRecDepth 100000 in
theorem escapePath_any (F : Stop.Interp) (s : ByteArray) (hs : s.size ≤ 1099511627776) (w : World) (hF : F.answers w.tape) (hN : NamesIn w) (hv : ∀ W, Below w.heap.size w W → ValidOK W s) :
    Calls Tryf.prog 47 #[.string s] w (EscP w s.data.toList) := by
  have HP := Lib.hid (modPath_any F s hs w hF hN hv)
  clear hN hv
  go_enter Tryf.func47, Tryf.ntmps47
  go_wp2_with (first
    | (go_at_call 43; refine HP.out.mono ?_; rintro e w7 ⟨b7, hMB, ⟨rfl, rfl, hb7⟩ | ⟨rfl, g7, b8, t7, rfl, hb7, -, -⟩⟩)
    | (go_at_call 56; refine (escape_any s hs _).mono ?_; rintro e w8 (⟨ha, h33, t, rfl, ht, hb8⟩ | ⟨hno, a8, rfl, hb8⟩)))
  · go_ret2
    exact ⟨true, hMB, .inl ⟨rfl, t, rfl, ht, hb7.trans (hb8.mono hb7.size)⟩⟩
  · exact absurd ⟨hMB.fine.1, mod_33 hMB.fine.2⟩ hno
  · go_ret2
    exact ⟨false, hMB, .inr ⟨rfl, _, rfl, hb7⟩⟩

set_option maxHeartbeats 1600000 in
set_option maxRecDepth 100000 in
theorem implEscape_any (F : Stop.Interp) (s : ByteArray) (hs : s.size ≤ 1099511627776) (w : World) (hF : F.answers w.tape) (hN : NamesIn w) (hv : ∀ W, Below w.heap.size w W → ValidOK W s) :
    Calls Tryf.prog 32 #[.string s] w (EscB w s.data.toList) := by
  have HP := Lib.hid (escapePath_any F s hs w hF hN hv)
  clear hN hv
  go_enter Tryf.func32, Tryf.ntmps32
  go_wp2_with (go_at_call 47; refine HP.out.mono ?_; rintro e w7 ⟨b7, hMB, ⟨rfl, t, rfl, ht, hb7⟩ | ⟨rfl, a7, rfl, hb7⟩⟩)
  · go_region
    all_goals (try go_wp2)
    all_goals go_ret2
    all_goals exact ⟨true, hMB, .inl ⟨rfl, t, rfl, ht, hb7.drew⟩⟩
  · go_region
    all_goals (try go_wp2)
    all_goals go_ret2
    all_goals exact ⟨false, hMB, .inr ⟨rfl, rfl, hb7.drew⟩⟩

/-- What is known of the answer: it is fine just if the text is unescaped to a path of a module. -/
def UB (l : List UInt8) (b : Bool) (r : List UInt8) : Prop := (unescL false l = none → b = false) ∧ (∀ q, unescL false l = some q → MB q b) ∧ (b = true → unescL false l = some r)
def UnP (w : World) (l : List UInt8) (e : Ending) (w' : World) : Prop :=
  ∃ (b : Bool) (t : ByteArray), UB l b t.data.toList ∧ ((b = true ∧ e = .returned (.tuple #[.string t, .nilIface]) ∧ Below w.heap.size w w') ∨
    (b = false ∧ ∃ a : Addr, e = .returned (.tuple #[.string ⟨#[]⟩, .iface 79 (.pointer (some a))]) ∧ Below w.heap.size w w'))
def UnB (w : World) (l : List UInt8) (e : Ending) (w' : World) : Prop :=
  ∃ (b : Bool) (t : ByteArray), UB l b t.data.toList ∧ e = .returned (.tuple #[.string t, .bool b]) ∧ Below w.heap.size w w'

theorem fmtUn1 : Fmt1 ⟨#[105, 110, 118, 97, 108, 105, 100, 32, 101, 115, 99, 97, 112, 101, 100, 32, 109, 111, 100, 117, 108, 101, 32, 112, 97, 116, 104, 32, 37, 113]⟩ 113 := fun w => by kernel_rfl
theorem fmtUn2 : Fmt2 ⟨#[105, 110, 118, 97, 108, 105, 100, 32, 101, 115, 99, 97, 112, 101, 100, 32, 109, 111, 100, 117, 108, 101, 32, 112, 97, 116, 104, 32, 37, 113, 58, 32, 37, 118]⟩ := fun w => by kernel_rfl

set_option maxHeartbeats 1600000 in
set_option maxRecDepth 100000 in
theorem unescapePath_any (F : Stop.Interp) (s : ByteArray) (hs : s.size ≤ 1099511627776) (w : World) (hF : F.answers w.tape) (hN : NamesIn w) (hv : ∀ t : ByteArray, t.size ≤ s.size → ∀ W, Below w.heap.size w W → ValidOK W t) :
    Calls Tryf.prog 48 #[.string s] w (UnP w s.data.toList) := by
  have HP := Lib.hid fun (t : ByteArray) (ht : t.size ≤ s.size) (W : World) (hb : Below w.heap.size w W) => modPath_any F t (by omega) W (below_tape hF hb) (hN.below hb) (fun W2 hb2 => hv t ht W2 (hb.trans (hb2.mono hb.size)))
  clear hN hv
  go_enter Tryf.func48, Tryf.ntmps48
  go_wp2_with (first
    | (go_at_call 60; refine (unescape_any s hs _).mono ?_; rintro e w7 ⟨b7, t, rfl, ⟨rfl, hu⟩ | ⟨rfl, hu, rfl⟩, hb7⟩ <;> have HU := Lib.hid hu <;> clear hu)
    | (go_at_call 43; refine (HP.out t (by have := unesc_len HU.out; rw [len_size, len_size] at this; exact this) _ hb7).mono ?_; rintro e w8 ⟨b8, hMB, ⟨rfl, rfl, hb8⟩ | ⟨rfl, g8, b9, t8, rfl, hb8, hpe, hce⟩⟩)
    | (go_at_call 55; have := hb8; refine (errorf_path F _ s _ g8 b9 t8 _ (by have := below_tape hF (hb7.trans (hb8.mono hb7.size)); exact this) fmtUn2 (by go_simp) (by go_simp) (by obtain ⟨k_, p_, x0, x1, x2⟩ := hpe; exact ⟨k_, p_, alloc_keeps x0 _, alloc_keeps x1 _, alloc_keeps x2 _⟩) (alloc_keeps hce _)).mono ?_; rintro e w9 ⟨a9, t9, rfl, hc9, hb9⟩)
    | (go_at_call 55; refine (errorf_str F _ s _ _ (by have := below_tape hF hb7; exact this) fmtUn1 (by go_simp)).mono ?_; rintro e w9 ⟨a9, t9, rfl, hc9, hb9⟩))
  · go_ret2
    refine ⟨true, t, ⟨fun h => by (rw [HU.out] at h; cases h), fun q hq => by (rw [HU.out] at hq; rw [← Option.some.inj hq]; exact hMB), fun _ => HU.out⟩, .inl ⟨rfl, rfl, hb7.trans (hb8.mono hb7.size)⟩⟩
  · go_ret2
    refine ⟨false, t, ⟨fun _ => rfl, fun q hq => by (rw [HU.out] at hq; rw [← Option.some.inj hq]; exact hMB), fun h => by (cases h)⟩, .inr ⟨rfl, _, rfl, ?_⟩⟩
    have h1 := hb7.trans (hb8.mono hb7.size)
    exact h1.trans (((Below.refl _ _).alloc h1.size _).trans (hb9.mono (by go_simp; exact Nat.le_succ_of_le h1.size)))
  · go_ret2
    refine ⟨false, ⟨#[]⟩, ⟨fun _ => rfl, fun q hq => by (rw [HU.out] at hq; cases hq), fun h => by cases h⟩, .inr ⟨rfl, _, rfl, ?_⟩⟩
    exact hb7.trans (((Below.refl _ _).alloc hb7.size _).trans (hb9.mono (by go_simp; exact Nat.le_succ_of_le hb7.size)))

set_option maxHeartbeats 1600000 in
set_option maxRecDepth 100000 in
theorem implUnescape_any (F : Stop.Interp) (s : ByteArray) (hs : s.size ≤ 1099511627776) (w : World) (hF : F.answers w.tape) (hN : NamesIn w) (hv : ∀ t : ByteArray, t.size ≤ s.size → ∀ W, Below w.heap.size w W → ValidOK W t) :
    Calls Tryf.prog 33 #[.string s] w (UnB w s.data.toList) := by
  have HP := Lib.hid (unescapePath_any F s hs w hF hN hv)
  clear hN hv
  go_enter Tryf.func33, Tryf.ntmps33
  go_wp2_with (go_at_call 48; refine HP.out.mono ?_; rintro e w7 ⟨b7, t, hub, ⟨rfl, rfl, hb7⟩ | ⟨rfl, a7, rfl, hb7⟩⟩)
  · go_region
    all_goals (try go_wp2)
    all_goals go_ret2
    all_goals exact ⟨true, t, hub, rfl, hb7.drew⟩
  · go_region
    all_goals (try go_wp2)
    all_goals go_ret2
    all_goals exact ⟨false, ⟨#[]⟩, ⟨hub.1, hub.2.1, fun h => by cases h⟩, rfl, hb7.drew⟩

end Go.Proofs.YtpbebckhemnooaaFmt.PS
