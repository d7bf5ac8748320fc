/- module.EscapeVersion, module.UnescapeVersion and the thin package's functions over them; the conditions: the text's size, that the tape answers fmt's stops, where the names of Windows lie, and, of a version beyond ASCII, unicode.IsLetter and strings.EqualFold. -/
import Derived.Test.YtpbebckhemnooaaFmtEscape
import Derived.Test.YtpbebckhemnooaaFmtLawBase
import Derived.Outline
import Derived.RegionTactic
import Derived.ChangeAlike
namespace Go.Proofs.YtpbebckhemnooaaFmt.PS
open Go.RowKit Go.Proofs.YtpbebckhemnooaaFmtW.PrintWords Go.Proofs.YtpbebckhemnooaaFmtW.PrintLast Go.Proofs.YtpbebckhemnooaaFmtW.PrintMore
set_option linter.unusedVariables false
set_option linter.unusedSimpArgs false

theorem idx_bang : ∀ l : List UInt8, (idxL [33] l).isSome = hasB l 33
  | [] => rfl
  | c :: l => by
    have ih := idx_bang l
    by_cases hc : c = 33
    · subst hc
      simp [idxL, hasB]
    · have e : idxL [33] (c :: l) = (idxL [33] l).map (· + 1) := by simp [idxL, hc]
      have h2 : ¬ (c.toNat : Int) = 33 := fun e => hc (by apply UInt8.toNat_inj.1; have : (33 : UInt8).toNat = 33 := rfl; omega)
      rw [e, Option.isSome_map, ih, hasB_cons, decide_eq_false h2, Bool.false_or]

/-- What is known of the answer of EscapeVersion. -/
def VB (l : List UInt8) (b : Bool) : Prop := (asc l → (b = true ↔ (ElemOK 2 l ∧ (33 : UInt8) ∉ l))) ∧ (¬ asc l → b = false)
def EvP (w : World) (l : List UInt8) (e : Ending) (w' : World) : Prop :=
  ∃ b : Bool, VB l b ∧ ((b = true ∧ ∃ t : ByteArray, e = .returned (.tuple #[.string t, .nilIface]) ∧ t.data.toList = escL l ∧ Below w.heap.size w w') ∨
    (b = false ∧ ∃ (T : TypeId) (a : Addr), e = .returned (.tuple #[.string ⟨#[]⟩, .iface T (.pointer (some a))]) ∧ Below w.heap.size w w'))
def EvB (w : World) (l : List UInt8) (e : Ending) (w' : World) : Prop :=
  ∃ b : Bool, VB l b ∧ ((b = true ∧ ∃ t : ByteArray, e = .returned (.tuple #[.string t, .bool true]) ∧ t.data.toList = escL l ∧ Below w.heap.size w w') ∨
    (b = false ∧ e = .returned (.tuple #[.string ⟨#[]⟩, .bool false]) ∧ Below w.heap.size w w'))
theorem bang_mem (l : List UInt8) : hasB l 33 = true ↔ (33 : UInt8) ∈ l := hasB_iff l 33 (by decide)

set_option maxHeartbeats 1600000 in
set_option maxRecDepth 100000 in
theorem escapeVersion_any (F : Stop.Interp) (s : ByteArray) (hs : s.size ≤ 1099511627776) (w : World) (hF : F.answers w.tape) (hN : NamesIn w) (hX : asc s.data.toList ∨ HighOK w) :
    Calls Tryf.prog 37 #[.string s] w (EvP w s.data.toList) := by
  have HP := Lib.hid (elem_any 2 (.inr (.inr rfl)) F s hs w hF hN (fun _ => hX))
  obtain ⟨x, hx⟩ : ∃ x, hasB s.data.toList 33 = x := ⟨_, rfl⟩
  have HZ := Lib.hid fun W => zzCon_at s ⟨#[33]⟩ hs (by decide) (by decide) x (by rw [show (⟨#[33]⟩ : ByteArray).data.toList = [33] from rfl, idx_bang]; exact hx) W
  have HX := Lib.hid hx
  clear hN hX hx
  cases x with
  | true =>
    have h33 : (33 : UInt8) ∈ s.data.toList := (bang_mem _).1 HX.out
    have HVB : Hid (VB s.data.toList false) := Lib.hid ⟨fun _ => ⟨fun h => by (cases h), fun h => absurd h33 h.2⟩, fun _ => rfl⟩
    go_enter Tryf.func37, Tryf.ntmps37
    go_wp2_with (first
      | (go_at_call 53; refine HP.out.mono ?_; rintro e w7 ⟨b7, hEB, ⟨rfl, rfl, hb7⟩ | ⟨rfl, a7, t7, rfl, hc7, hb7⟩⟩)
      | (go_at_call 54; refine (HZ.out _).mono ?_; rintro e w8 ⟨rfl, hb8⟩)
      | (go_at_call 55; refine (errorf_none _ (by simp) _).mono ?_; rintro e w9 ⟨a9, t9, rfl, hc9, hb9⟩))
    · have h1 := hb7.trans (hb8.mono hb7.size)
      have h2 := h1.trans (hb9.mono h1.size)
      go_ret2
      exact ⟨false, HVB.out, .inr ⟨rfl, _, _, rfl, h2.alloc h2.size _⟩⟩
    · have h2 := hb7.trans (hb9.mono hb7.size)
      go_ret2
      exact ⟨false, HVB.out, .inr ⟨rfl, _, _, rfl, h2.alloc h2.size _⟩⟩
  | false =>
    have h33 : (33 : UInt8) ∉ s.data.toList := fun h => by have := (bang_mem _).2 h; rw [HX.out] at this; cases this
    go_enter Tryf.func37, Tryf.ntmps37
    go_wp2_with (first
      | (go_at_call 53; refine HP.out.mono ?_; rintro e w7 ⟨b7, hEB, ⟨rfl, rfl, hb7⟩ | ⟨rfl, a7, t7, rfl, hc7, hb7⟩⟩)
      | (go_at_call 54; refine (HZ.out _).mono ?_; rintro e w8 ⟨rfl, hb8⟩)
      | (go_at_call 55; refine (errorf_none _ (by simp) _).mono ?_; rintro e w9 ⟨a9, t9, rfl, hc9, hb9⟩)
      | (go_at_call 56; refine (escape_any s hs _).mono ?_; rintro e w10 (⟨ha, h33_, t, rfl, ht, hb10⟩ | ⟨hno, a10, rfl, hb10⟩)))
    · have h1 := hb7.trans (hb8.mono hb7.size)
      go_ret2
      exact ⟨true, ⟨fun ha => ⟨fun _ => ⟨(hEB.1 ha).1 rfl, h33⟩, fun _ => rfl⟩, fun h => absurd ha h⟩, .inl ⟨rfl, t, rfl, ht, h1.trans (hb10.mono h1.size)⟩⟩
    · have h1 := hb7.trans (hb8.mono hb7.size)
      go_ret2
      exact ⟨false, ⟨fun ha => absurd ⟨ha, h33⟩ hno, fun _ => rfl⟩, .inr ⟨rfl, _, _, rfl, h1.trans (hb10.mono h1.size)⟩⟩
    · have h2 := hb7.trans (hb9.mono hb7.size)
      go_ret2
      exact ⟨false, ⟨fun ha => ⟨fun h => by (cases h), fun h => by have := (hEB.1 ha).2 h.1; cases this⟩, fun _ => rfl⟩, .inr ⟨rfl, _, _, rfl, h2.alloc h2.size _⟩⟩

set_option maxHeartbeats 1600000 in
set_option maxRecDepth 100000 in
theorem implEscV_any (F : Stop.Interp) (s : ByteArray) (hs : s.size ≤ 1099511627776) (w : World) (hF : F.answers w.tape) (hN : NamesIn w) (hX : asc s.data.toList ∨ HighOK w) :
    Calls Tryf.prog 16 #[.string s] w (EvB w s.data.toList) := by
  have HP := Lib.hid (escapeVersion_any F s hs w hF hN hX)
  clear hN hX
  go_enter Tryf.func16, Tryf.ntmps16
  go_wp2_with (go_at_call 37; refine HP.out.mono ?_; rintro e w7 ⟨b7, hMB, ⟨rfl, t, rfl, ht, hb7⟩ | ⟨rfl, T7, a7, rfl, hb7⟩⟩)
  · go_region
    all_goals (try go_wp2)
    all_goals go_ret2
    all_goals exact ⟨true, hMB, .inl ⟨rfl, t, rfl, ht, hb7.drew⟩⟩
  · go_region
    all_goals (try go_wp2)
    all_goals go_ret2
    all_goals exact ⟨false, hMB, .inr ⟨rfl, rfl, hb7.drew⟩⟩

/-- What is known of the answer of UnescapeVersion. -/
def WB (l : List UInt8) (b : Bool) (r : List UInt8) : Prop := (unescL false l = none → b = false) ∧ (∀ q, unescL false l = some q → (b = true ↔ ElemOK 2 q)) ∧ (b = true → unescL false l = some r)
def UvP (w : World) (l : List UInt8) (e : Ending) (w' : World) : Prop :=
  ∃ (b : Bool) (t : ByteArray), WB l b t.data.toList ∧ ((b = true ∧ e = .returned (.tuple #[.string t, .nilIface]) ∧ Below w.heap.size w w') ∨
    (b = false ∧ ∃ a : Addr, e = .returned (.tuple #[.string ⟨#[]⟩, .iface 79 (.pointer (some a))]) ∧ Below w.heap.size w w'))
def UvB (w : World) (l : List UInt8) (e : Ending) (w' : World) : Prop :=
  ∃ (b : Bool) (t : ByteArray), WB l b t.data.toList ∧ e = .returned (.tuple #[.string t, .bool b]) ∧ Below w.heap.size w w'
theorem fmtUv1 : Fmt1 ⟨#[105, 110, 118, 97, 108, 105, 100, 32, 101, 115, 99, 97, 112, 101, 100, 32, 118, 101, 114, 115, 105, 111, 110, 32, 37, 113]⟩ 113 := fun w => by kernel_rfl
theorem fmtUv2 : Fmt2 ⟨#[105, 110, 118, 97, 108, 105, 100, 32, 101, 115, 99, 97, 112, 101, 100, 32, 118, 101, 114, 115, 105, 111, 110, 32, 37, 113, 58, 32, 37, 118]⟩ := fun w => by kernel_rfl

set_option maxHeartbeats 1600000 in
set_option maxRecDepth 100000 in
theorem unescapeVersion_any (F : Stop.Interp) (s : ByteArray) (hs : s.size ≤ 1099511627776) (w : World) (hF : F.answers w.tape) (hN : NamesIn w) :
    Calls Tryf.prog 39 #[.string s] w (UvP w s.data.toList) := by
  have HP := Lib.hid fun (t : ByteArray) (ht : t.size ≤ s.size) (ha : asc t.data.toList) (W : World) (hb : Below w.heap.size w W) => elem_any 2 (.inr (.inr rfl)) F t (by omega) W (below_tape hF hb) (hN.below hb) (fun _ => .inl ha)
  clear hN
  go_enter Tryf.func39, Tryf.ntmps39
  go_wp2_with (first
    | (go_at_call 60; refine (unescape_any s hs _).mono ?_; rintro e w7 ⟨b7, t, rfl, ⟨rfl, hu⟩ | ⟨rfl, hu, rfl⟩, hb7⟩ <;> have HU := Lib.hid hu <;> clear hu)
    | (go_at_call 53; refine (HP.out t (by have := unesc_len HU.out; rw [len_size, len_size] at this; exact this) (unesc_fine HU.out).1 _ hb7).mono ?_; rintro e w8 ⟨b8, hEB, ⟨rfl, rfl, hb8⟩ | ⟨rfl, a8, t8, rfl, hc8, hb8⟩⟩)
    | (go_at_call 55; have := hb8; refine (errorf_new F _ t _ a8 t8 _ (by have := below_tape hF (hb7.trans (hb8.mono hb7.size)); exact this) fmtUv2 (by go_simp) (by go_simp) (alloc_keeps hc8 _)).mono ?_; rintro e w9 ⟨a9, t9, rfl, hc9, hb9⟩)
    | (go_at_call 55; refine (errorf_str F _ s _ _ (by have := below_tape hF hb7; exact this) fmtUv1 (by go_simp)).mono ?_; rintro e w9 ⟨a9, t9, rfl, hc9, hb9⟩))
  · go_ret2
    refine ⟨true, t, ⟨fun h => by (rw [HU.out] at h; cases h), fun q hq => by rw [HU.out] at hq; rw [← Option.some.inj hq]; exact hEB.1 (unesc_fine HU.out).1, fun _ => HU.out⟩, .inl ⟨rfl, rfl, hb7.trans (hb8.mono hb7.size)⟩⟩
  · go_ret2
    refine ⟨false, t, ⟨fun _ => rfl, fun q hq => by rw [HU.out] at hq; rw [← Option.some.inj hq]; exact hEB.1 (unesc_fine HU.out).1, fun h => by (cases h)⟩, .inr ⟨rfl, _, rfl, ?_⟩⟩
    have h1 := hb7.trans (hb8.mono hb7.size)
    exact h1.trans (((Below.refl _ _).alloc h1.size _).trans (hb9.mono (by go_simp; exact Nat.le_succ_of_le h1.size)))
  · go_ret2
    refine ⟨false, ⟨#[]⟩, ⟨fun _ => rfl, fun q hq => by (rw [HU.out] at hq; cases hq), fun h => by (cases h)⟩, .inr ⟨rfl, _, rfl, ?_⟩⟩
    exact hb7.trans (((Below.refl _ _).alloc hb7.size _).trans (hb9.mono (by go_simp; exact Nat.le_succ_of_le hb7.size)))

set_option maxHeartbeats 1600000 in
set_option maxRecDepth 100000 in
theorem implUnescV_any (F : Stop.Interp) (s : ByteArray) (hs : s.size ≤ 1099511627776) (w : World) (hF : F.answers w.tape) (hN : NamesIn w) :
    Calls Tryf.prog 21 #[.string s] w (UvB w s.data.toList) := by
  have HP := Lib.hid (unescapeVersion_any F s hs w hF hN)
  clear hN
  go_enter Tryf.func21, Tryf.ntmps21
  go_wp2_with (go_at_call 39; refine HP.out.mono ?_; rintro e w7 ⟨b7, t, hub, ⟨rfl, rfl, hb7⟩ | ⟨rfl, a7, rfl, hb7⟩⟩)
  · go_region
    all_goals (try go_wp2)
    all_goals go_ret2
    all_goals exact ⟨true, t, hub, rfl, hb7.drew⟩
  · go_region
    all_goals (try go_wp2)
    all_goals go_ret2
    all_goals exact ⟨false, ⟨#[]⟩, ⟨hub.1, hub.2.1, fun h => by (cases h)⟩, rfl, hb7.drew⟩

theorem nameI_range (l : List UInt8) : nameI l = 0 ∨ nameI l = 1 ∨ nameI l = 2 := by
  unfold nameI
  split
  · exact .inr (.inr rfl)
  · split
    · exact .inr (.inr rfl)
    · by_cases h2 : elemI true l = 2
      · exact .inr (.inr h2)
      · by_cases h0 : elemI true l = 0
        · exact .inl h0
        · exact .inr (.inl (elemI_range true l h2 h0))
theorem name_fine {l : List UInt8} (h : nameI l = 1) : asc l ∧ ElemOK 2 l ∧ (33 : UInt8) ∉ l := by
  unfold nameI at h
  by_cases c1 : hasB l 33 = true
  · rw [if_pos c1] at h; cases h
  · rw [if_neg c1] at h
    by_cases c2 : hasB l 47 = true
    · rw [if_pos c2] at h; cases h
    · rw [if_neg c2] at h
      have := elem_fine_file h
      exact ⟨this.1, this.2, fun hm => c1 ((bang_mem l).2 hm)⟩
theorem name_wrong {l : List UInt8} (h : nameI l = 2) (ha : asc l) (h33 : (33 : UInt8) ∉ l) : ¬ ElemOK 2 l := by
  intro he
  unfold nameI at h
  have h47 : ¬ hasB l 47 = true := fun c => file_47 he ((hasB_iff l 47 (by decide)).1 c)
  rw [if_neg (fun c => h33 ((bang_mem l).1 c)), if_neg h47] at h
  exact (elem_wrong_file h).1 ha he

theorem name_law {l : List UInt8} {b : Bool} (h : VB l b) : laws_told.f b (nameI l) = some true := by
  rcases nameI_range l with e | e | e
  · rw [e]; rfl
  · obtain ⟨ha, h2, h33⟩ := name_fine e
    rw [e, (h.1 ha).2 ⟨h2, h33⟩]; rfl
  · have hb : b = false := by
      by_cases ha : asc l
      · exact Bool.eq_false_iff.2 fun hb => name_wrong e ha ((h.1 ha).1 hb).2 ((h.1 ha).1 hb).1
      · exact h.2 ha
    rw [e, hb]; rfl
theorem VB.asc_of {l : List UInt8} (h : VB l true) : asc l := Classical.byContradiction fun h2 => by have := h.2 h2; cases this
end Go.Proofs.YtpbebckhemnooaaFmt.PS
