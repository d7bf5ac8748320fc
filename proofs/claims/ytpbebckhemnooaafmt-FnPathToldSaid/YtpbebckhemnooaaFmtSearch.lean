/- What the printed searches of package module come to, as plain functions on lists of bytes, and their contracts in that form; the conditions are bounds on sizes. -/
import Derived.Test.YtpbebckhemnooaaFmtPSx6
import Derived.Test.YtpbebckhemnooaaFmtPSx7
import Derived.Test.YtpbebckhemnooaaFmtText
namespace Go.Proofs.YtpbebckhemnooaaFmt.PS
open Go.RowKit Go.Proofs.YtpbebckhemnooaaFmtW.PrintWords Go.Proofs.YtpbebckhemnooaaFmtW.PrintLast Go.Proofs.YtpbebckhemnooaaFmtW.PrintMore
set_option linter.unusedVariables false
set_option linter.unusedSimpArgs false

theorem w64 {x : Int} (h0 : -9223372036854775808 ≤ x) (h1 : x ≤ 9223372036854775807) : wrap64 x = x := by unfold wrap64; omega

theorem drawn_below {w w' : World} (h : Drawn0 w w') : Below w.heap.size w w' := h.below

/-! ### the first place of a piece -/
def idxL (p : List UInt8) : List UInt8 → Option Nat
  | [] => none
  | c :: l => if (c :: l).take p.length = p then some 0 else (idxL p l).map (· + 1)
def idxI (p l : List UInt8) : Int := match idxL p l with | some i => (i : Int) | none => -1

theorem idxL_short (p : List UInt8) : ∀ l : List UInt8, l.length < p.length → idxL p l = none
  | [], _ => rfl
  | c :: l, h => by
    have h1 : (c :: l).take p.length ≠ p := fun e => by
      have := congrArg List.length e
      simp at this h
      omega
    have h2 := idxL_short p l (by simp at h; omega)
    simp [idxL, h1, h2]

theorem zzIndex_from (s sub : ByteArray) (hs : s.size ≤ 1099511627776) (hm : 1 ≤ sub.size) (hm2 : sub.size ≤ 1000) (d : Nat) : ∀ (k i : Nat), i ≤ s.size → s.size - i ≤ d → d < k →
    module_zzIndex.l0 k s sub (i : Int) = some (match idxL sub.data.toList (s.data.toList.drop i) with | some j => ((i + j : Nat) : Int) | none => -1) := by
  have hpl : sub.data.toList.length = sub.size := len_size sub
  have hsl : s.data.toList.length = s.size := len_size s
  induction d with
  | zero =>
    intro k i hi hd hk
    obtain ⟨k, rfl⟩ : ∃ m, k = m + 1 := ⟨k - 1, by omega⟩
    have he : i = s.size := by omega
    have h1 : idxL sub.data.toList (s.data.toList.drop i) = none := idxL_short _ _ (by rw [List.length_drop, hsl, hpl]; omega)
    rw [h1]
    simp only [module_zzIndex.l0]
    rw [w64 (by omega) (by omega), if_neg (by omega)]
  | succ d ih =>
    intro k i hi hd hk
    obtain ⟨k, rfl⟩ : ∃ m, k = m + 1 := ⟨k - 1, by omega⟩
    simp only [module_zzIndex.l0]
    rw [w64 (by omega) (by omega)]
    by_cases hlt : (i : Int) + (sub.size : Int) ≤ (s.size : Int)
    · rw [if_pos hlt, if_pos (by omega), if_pos (by omega)]
      have hil : i < s.data.toList.length := by rw [hsl]; omega
      have e1 : (s.extract ((i : Int)).toNat ((i : Int) + (sub.size : Int)).toNat).toList = (s.data.toList.drop i).take sub.data.toList.length := by
        rw [Lib.extract_toList, hpl]
        have a1 : ((i : Int)).toNat = i := by omega
        have a2 : ((i : Int) + (sub.size : Int)).toNat - ((i : Int)).toNat = sub.size := by omega
        rw [a2, a1]
      rw [e1, Lib.toList_data sub]
      have hd1 : s.data.toList.drop i = s.data.toList[i] :: s.data.toList.drop (i + 1) := List.drop_eq_getElem_cons hil
      by_cases hx : (s.data.toList.drop i).take sub.data.toList.length = sub.data.toList
      · rw [if_pos hx, hd1]
        rw [hd1] at hx
        simp only [idxL, if_pos hx]
        simp
      · rw [if_neg hx, w64 (by omega) (by omega)]
        have := ih k (i + 1) (by omega) (by omega) (by omega)
        rw [show ((i : Int) + 1) = ((i + 1 : Nat) : Int) from by omega, this, hd1]
        rw [hd1] at hx
        simp only [idxL, if_neg hx]
        cases idxL sub.data.toList (s.data.toList.drop (i + 1)) with
        | none => rfl
        | some j =>
          show some ((i + 1 + j : Nat) : Int) = some ((i + (j + 1) : Nat) : Int)
          rw [show i + 1 + j = i + (j + 1) by omega]
    · rw [if_neg hlt]
      have h1 : idxL sub.data.toList (s.data.toList.drop i) = none := idxL_short _ _ (by rw [List.length_drop, hsl, hpl]; omega)
      rw [h1]

theorem zzIndex_eq (s sub : ByteArray) (hs : s.size ≤ 1099511627776) (hm : 1 ≤ sub.size) (hm2 : sub.size ≤ 1000) :
    module_zzIndex.f (s.size + 1) s sub = some (idxI sub.data.toList s.data.toList) := by
  have := zzIndex_from s sub hs hm hm2 s.size (s.size + 1) 0 (by omega) (by omega) (by omega)
  unfold module_zzIndex.f idxI
  rw [show (0 : Int) = ((0 : Nat) : Int) from rfl, this]
  simp only [List.drop_zero]
  cases idxL sub.data.toList s.data.toList <;> simp

theorem zzIndex_any (s sub : ByteArray) (hs : s.size ≤ 1099511627776) (hm : 1 ≤ sub.size) (hm2 : sub.size ≤ 1000) (w : World) :
    Calls Tryf.prog 63 #[.string s, .string sub] w fun e w' => e = .returned (.int .i64 (idxI sub.data.toList s.data.toList)) ∧ Below w.heap.size w w' :=
  (module_zzIndex.calls _ s sub _ w (zzIndex_eq s sub hs hm hm2)).mono fun _ _ ⟨he, hd⟩ => ⟨he, drawn_below hd⟩

theorem zzContains_any (s sub : ByteArray) (hs : s.size ≤ 1099511627776) (hm : 1 ≤ sub.size) (hm2 : sub.size ≤ 1000) (w : World) :
    Calls Tryf.prog 54 #[.string s, .string sub] w fun e w' => e = .returned (.bool (idxL sub.data.toList s.data.toList).isSome) ∧ Below w.heap.size w w' := by
  refine (module_zzContains.calls (s.size + 1) s sub _ w ?_).mono fun _ _ ⟨he, hd⟩ => ⟨he, drawn_below hd⟩
  unfold module_zzContains.f
  rw [zzIndex_eq s sub hs hm hm2, Option.bind_some]
  unfold idxI
  cases idxL sub.data.toList s.data.toList <;> simp

/-! ### the last place of a byte -/
/-- The place of the last byte c, -1 if there is none. -/
def lastI (c : Int) : List UInt8 → Int
  | [] => -1
  | x :: l => if 0 ≤ lastI c l then lastI c l + 1 else if (x.toNat : Int) = c then 0 else -1

theorem lastI_range (c : Int) : ∀ l : List UInt8, -1 ≤ lastI c l ∧ lastI c l < l.length
  | [] => by simp [lastI]
  | x :: l => by
    have := lastI_range c l
    simp only [lastI, List.length_cons]
    split <;> (try split) <;> omega

theorem lastI_snoc (c : Int) (x : UInt8) : ∀ l : List UInt8, lastI c (l ++ [x]) = if (x.toNat : Int) = c then (l.length : Int) else lastI c l
  | [] => by simp [lastI]
  | y :: l => by
    have h := lastI_snoc c x l
    have hr := lastI_range c l
    simp only [List.cons_append, lastI, h, List.length_cons]
    by_cases e : (x.toNat : Int) = c
    · simp only [e, if_true]
      rw [if_pos (by omega)]
      omega
    · simp only [e, if_false]

theorem gb_take (s : ByteArray) {k : Nat} (h : k < s.size) : ∃ c : UInt8, s.data.toList.take (k + 1) = s.data.toList.take k ++ [c] ∧ bt s (k : Int) = (c.toNat : Int) := by
  obtain ⟨c, h1, _, h2, _⟩ := take_succ_gb s h
  refine ⟨c, h1, ?_⟩
  rw [← h2]
  have := get_gb s k h
  unfold bt
  have e : ((k : Int)).toNat = k := by omega
  simp only [e, h, dif_pos]
  exact this

theorem last_from (s : ByteArray) (c : Int) (hs : s.size ≤ 1099511627776) (d : Nat) : ∀ (k : Nat), d ≤ s.size → d < k →
    bytealg_LastIndexByteString.l0 k s c ((d : Int) - 1) = some (lastI c (s.data.toList.take d)) := by
  induction d with
  | zero =>
    intro k _ hk
    obtain ⟨k, rfl⟩ : ∃ m, k = m + 1 := ⟨k - 1, by omega⟩
    simp only [bytealg_LastIndexByteString.l0]
    rw [if_neg (by omega)]
    rfl
  | succ d ih =>
    intro k hd hk
    obtain ⟨k, rfl⟩ : ∃ m, k = m + 1 := ⟨k - 1, by omega⟩
    simp only [bytealg_LastIndexByteString.l0]
    have e : ((d + 1 : Nat) : Int) - 1 = (d : Int) := by omega
    rw [e, if_pos (by omega), if_pos (by omega), if_pos (by omega)]
    obtain ⟨x, h1, h2⟩ := gb_take s (k := d) (by omega)
    rw [h2, h1, lastI_snoc]
    by_cases hx : (x.toNat : Int) = c
    · rw [if_pos hx, if_pos hx]
      have : (s.data.toList.take d).length = d := by rw [List.length_take, len_size]; omega
      rw [this]
    · rw [if_neg hx, if_neg hx, w64 (by omega) (by omega)]
      exact ih k (by omega) (by omega)

theorem lastByte_any (s : ByteArray) (c : Int) (hs : s.size ≤ 1099511627776) (w : World) :
    Calls Tryf.prog 78 #[.string s, .int .u8 c] w fun e w' => e = .returned (.int .i64 (lastI c s.data.toList)) ∧ Below w.heap.size w w' := by
  refine (strings_LastIndexByte.calls (s.size + 1) s c _ w ?_).mono fun _ _ ⟨he, hd⟩ => ⟨he, drawn_below hd⟩
  unfold strings_LastIndexByte.f bytealg_LastIndexByteString.f
  rw [w64 (by omega) (by omega), last_from s c hs s.size (s.size + 1) (by omega) (by omega), Option.bind_some]
  rw [List.take_of_length_le (by rw [len_size]; exact Nat.le_refl _)]

/-! ### runes of paths -/
def modI (r : Int) : Bool := decide (r < 128) && (r == 45 || r == 46 || r == 95 || r == 126 || decide (48 ≤ r ∧ r ≤ 57) || decide (65 ≤ r ∧ r ≤ 90) || decide (97 ≤ r ∧ r ≤ 122))
theorem modI_eq (r : Int) : module_modPathOK.f r = some (modI r) := by
  unfold module_modPathOK.f modI
  repeat' split
  all_goals (congr 1; rw [Bool.eq_iff_iff]; simp only [Bool.and_eq_true, Bool.or_eq_true, decide_eq_true_eq, beq_iff_eq, true_iff, false_iff, reduceCtorEq]; omega)
theorem mod_any (r : Int) (w : World) : Calls Tryf.prog 73 #[.int .i32 r] w fun e w' => e = .returned (.bool (modI r)) ∧ Below w.heap.size w w' :=
  (module_modPathOK.calls r _ w (modI_eq r)).mono fun _ _ ⟨he, hd⟩ => ⟨he, drawn_below hd⟩
theorem imp_any (r : Int) (w : World) : Calls Tryf.prog 74 #[.int .i32 r] w fun e w' => e = .returned (.bool (modI r || r == 43)) ∧ Below w.heap.size w w' := by
  refine (module_importPathOK.calls r _ w ?_).mono fun _ _ ⟨he, hd⟩ => ⟨he, drawn_below hd⟩
  unfold module_importPathOK.f
  rw [modI_eq, Option.bind_some]
  cases modI r <;> simp
def firstI (r : Int) : Bool := r == 45 || r == 46 || decide (48 ≤ r ∧ r ≤ 57) || decide (97 ≤ r ∧ r ≤ 122)
theorem first_any (r : Int) (w : World) : Calls Tryf.prog 64 #[.int .i32 r] w fun e w' => e = .returned (.bool (firstI r)) ∧ Below w.heap.size w w' := by
  refine (module_firstPathOK.calls r _ w ?_).mono fun _ _ ⟨he, hd⟩ => ⟨he, drawn_below hd⟩
  unfold module_firstPathOK.f firstI
  repeat' split
  all_goals (congr 1; rw [Bool.eq_iff_iff]; simp only [Bool.and_eq_true, Bool.or_eq_true, decide_eq_true_eq, beq_iff_eq, true_iff, false_iff, reduceCtorEq]; omega)

end Go.Proofs.YtpbebckhemnooaaFmt.PS
