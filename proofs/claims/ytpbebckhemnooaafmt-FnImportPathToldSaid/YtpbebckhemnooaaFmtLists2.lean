/- What spec.digits, numbered, short, reserved and element compute, on lists of bytes; the condition is the text's size. -/
import Derived.Test.YtpbebckhemnooaaFmtLists
namespace Go.Proofs.YtpbebckhemnooaaFmt.PS
open Go.RowKit Go.Proofs.YtpbebckhemnooaaFmtW.PrintWords Go.Proofs.YtpbebckhemnooaaFmtW.PrintLast Go.Proofs.YtpbebckhemnooaaFmtW.PrintMore
set_option linter.unusedVariables false
set_option linter.unusedSimpArgs false

def digitsB (l : List UInt8) : Bool := decide (0 < l.length) && allB false false [] l
theorem digits_ev (s : ByteArray) (hs : s.size ≤ 1099511627776) : Ev (fun k => spec_digits.f k s) (digitsB s.data.toList) := by
  unfold spec_digits.f digitsB
  rw [len_size]
  by_cases h : 0 < s.size
  · simp only [show ((s.size : Int) > 0) by omega, if_true, h, decide_true, Bool.true_and]
    exact Ev.bind (All_ev s ⟨#[]⟩ false false hs (by decide)) Ev.now
  · simp only [show ¬ ((s.size : Int) > 0) by omega, if_false, h, decide_false, Bool.false_and]
    exact Ev.now

theorem wrap_up (i : Nat) (h : i ≤ 1099511627776) : wrap64 ((i : Int) + 1) = ((i + 1 : Nat) : Int) := by rw [w64 (by omega) (by omega)]; omega
theorem wrap_dn (i : Nat) (h : i ≤ 1099511627777) (h1 : 1 ≤ i) : wrap64 ((i : Int) - 1) = ((i - 1 : Nat) : Int) := by rw [w64 (by omega) (by omega)]; omega

/-! ### numbered, and two dots -/
def pairB (p : UInt8 → UInt8 → Bool) : List UInt8 → Bool
  | [] => false
  | [_] => false
  | x :: y :: l => p x y || pairB p (y :: l)
def numP (x y : UInt8) : Bool := decide (x = 126) && digitsB [y]
def ddP (x y : UInt8) : Bool := decide (x = 46) && decide (y = 46)
def numB (l : List UInt8) : Bool := pairB numP l
def ddB (l : List UInt8) : Bool := pairB ddP l
theorem byte_eq (c : UInt8) (n : Nat) (h : n < 256) : ((c.toNat : Int) = (n : Int)) ↔ c = UInt8.ofNat n := by
  constructor
  · intro h2
    apply UInt8.toNat_inj.1
    rw [UInt8.toNat_ofNat']
    omega
  · rintro rfl
    rw [UInt8.toNat_ofNat']
    omega

theorem pair_at (s : ByteArray) {i : Nat} (h0 : 1 ≤ i) (h : i < s.size) (p : UInt8 → UInt8 → Bool) : ∃ x y : UInt8, s.data.toList.drop (i - 1) = x :: y :: s.data.toList.drop (i + 1) ∧ s.data.toList.drop i = y :: s.data.toList.drop (i + 1) ∧ bt s ((i - 1 : Nat) : Int) = (x.toNat : Int) ∧ bt s (i : Int) = (y.toNat : Int) ∧ (s.extract i (i + 1)).data.toList = [y] := by
  obtain ⟨x, h1, h2, -⟩ := drop_bt s (i := i - 1) (by omega)
  obtain ⟨y, h3, h4, h5⟩ := drop_bt s (i := i) h
  rw [show i - 1 + 1 = i by omega] at h1
  refine ⟨x, y, by rw [h1, h3], h3, h2, h4, ?_⟩
  rw [extract_mid, h3]
  simp [show i + 1 - i = 1 by omega]

theorem numbered_from (s : ByteArray) (hs : s.size ≤ 1099511627776) (d : Nat) : ∀ i : Nat, 1 ≤ i → i + d = max s.size 1 → Ev (fun k => spec_numbered.l0 k s (i : Int)) (numB (s.data.toList.drop (i - 1))) := by
  induction d with
  | zero =>
    intro i h0 hi
    refine Ev.step ?_
    simp only [spec_numbered.l0]
    simp only [show ¬ ((i : Int) < (s.size : Int)) by omega, if_false]
    have : numB (s.data.toList.drop (i - 1)) = false := by
      have hl : (s.data.toList.drop (i - 1)).length ≤ 1 := by rw [List.length_drop, len_size]; omega
      match hx : s.data.toList.drop (i - 1), hl with
      | [], _ => rfl
      | [x], _ => rfl
      | x :: y :: l, hl => simp at hl
    rw [this]
    exact Ev.now
  | succ d ih =>
    intro i h0 hi
    obtain ⟨x, y, h1, h2, h3, h4, h5⟩ := pair_at s h0 (by omega) numP
    have ih' := ih (i + 1) (by omega) (by omega)
    rw [show i + 1 - 1 = i by omega] at ih'
    obtain ⟨K1, e1⟩ := ih'
    obtain ⟨K2, e2⟩ := digits_ev (s.extract i (i + 1)) (by rw [← len_size, h5]; simp)
    refine Ev.step ⟨K1 + K2, fun k hk => ?_⟩
    have e1' := e1 k (by omega)
    have e2' := e2 k (by omega)
    rw [h5] at e2'
    have e3 : numB (s.data.toList.drop (i - 1)) = (numP x y || numB (s.data.toList.drop i)) := by rw [h1, h2]; rfl
    rw [e3]
    have t1 : ((i : Int)).toNat = i := by omega
    have t2 : (((i + 1 : Nat) : Int)).toNat = i + 1 := by omega
    simp only [spec_numbered.l0, wrap_up i (by omega), wrap_dn i (by omega) h0, show (i : Int) < (s.size : Int) by omega, show (0 : Int) ≤ ((i - 1 : Nat) : Int) by omega, show ((i - 1 : Nat) : Int) < (s.size : Int) by omega, if_true, h3, show (0 : Int) ≤ (i : Int) by omega, show (i : Int) ≤ ((i + 1 : Nat) : Int) by omega, show ((i + 1 : Nat) : Int) ≤ (s.size : Int) by omega, t1, t2, e2', e1', Option.bind_some, numP]
    have hx : ((x.toNat : Int) = 126) ↔ x = 126 := byte_eq x 126 (by decide)
    by_cases c : x = 126
    · simp only [hx.2 c, if_true, c, decide_true, Bool.true_and]
      cases digitsB [y] <;> simp
    · simp only [show ¬ ((x.toNat : Int) = 126) from fun h => c (hx.1 h), if_false, c, decide_false, Bool.false_and, Bool.false_or]
theorem numbered_ev (s : ByteArray) (hs : s.size ≤ 1099511627776) : Ev (fun k => spec_numbered.f k s) (numB s.data.toList) := by
  have := numbered_from s hs (max s.size 1 - 1) 1 (Nat.le_refl _) (by omega)
  rw [show (1 : Nat) - 1 = 0 from rfl, List.drop_zero] at this
  exact this

/-! ### pieces -/
theorem map_get {L : List ByteArray} {M : List (List UInt8)} (h : L.map (fun x => x.data.toList) = M) (i : Nat) (hi : i < M.length) : ∃ t : ByteArray, rdOf ByteArray.empty L (i : Int) = t ∧ t.data.toList = M.getD i [] := by
  subst h
  refine ⟨_, rfl, ?_⟩
  unfold rdOf
  rw [List.length_map] at hi
  have e : ((i : Int)).toNat = i := by omega
  rw [e]
  simp [List.getD_eq_getElem?_getD, List.getElem?_eq_getElem hi]
theorem map_len {L : List ByteArray} {M : List (List UInt8)} (h : L.map (fun x => x.data.toList) = M) : L.length = M.length := by rw [← h, List.length_map]
theorem cut_len_le (b : UInt8) : ∀ l : List UInt8, (cutL b l).length ≤ l.length + 1 ∧ 1 ≤ (cutL b l).length
  | [] => by simp [cutL]
  | c :: l => by
    have ih := cut_len_le b l
    rw [cut_step]
    split
    · simp; omega
    · simp; omega

theorem small_of {t : ByteArray} {l : List UInt8} {b : UInt8} {s : ByteArray} (hs : s.size ≤ 1099511627776) (h : t.data.toList ∈ cutL b s.data.toList) : t.size ≤ 1099511627776 := by
  have := cut_len h
  rw [len_size, len_size] at this
  omega
theorem getD_mem {M : List (List UInt8)} {i : Nat} (h : i < M.length) : M.getD i [] ∈ M := by
  rw [List.getD_eq_getElem?_getD, List.getElem?_eq_getElem h]
  exact List.getElem_mem h

def lastD (M : List (List UInt8)) : List UInt8 := M.getD (M.length - 1) []
def shortB (l : List UInt8) : Bool := decide (1 < (cutL 126 l).length) && digitsB (lastD (cutL 126 l))
theorem short_ev (s : ByteArray) (hs : s.size ≤ 1099511627776) : Ev (fun k => spec_short.f k s) (shortB s.data.toList) := by
  obtain ⟨L, h1, h2⟩ := Cut_ev s 126 hs
  have hl := map_len h2
  obtain ⟨c1, c2⟩ := cut_len_le 126 s.data.toList
  rw [len_size] at c1
  unfold spec_short.f shortB lastD
  refine Ev.bind h1 ?_
  rw [hl]
  by_cases h : 1 < (cutL 126 s.data.toList).length
  · obtain ⟨t, e1, e2⟩ := map_get h2 ((cutL 126 s.data.toList).length - 1) (by omega)
    simp only [show ((cutL 126 s.data.toList).length : Int) > 1 by omega, if_true, h, decide_true, Bool.true_and, wrap_dn (cutL 126 s.data.toList).length (by omega) (by omega), show (0 : Int) ≤ (((cutL 126 s.data.toList).length - 1 : Nat) : Int) by omega, show (((cutL 126 s.data.toList).length - 1 : Nat) : Int) < ((cutL 126 s.data.toList).length : Int) by omega, e1]
    have := digits_ev t (small_of (l := []) hs (by rw [e2]; exact getD_mem (by omega)))
    rw [e2] at this
    refine Ev.bind this ?_
    exact Ev.now
  · simp only [show ¬ (((cutL 126 s.data.toList).length : Int) > 1) by omega, if_false, h, decide_false, Bool.false_and]
    exact Ev.now

theorem cut_head (b : UInt8) : ∀ l : List UInt8, (cutL b l).headD [] = l.takeWhile (· != b)
  | [] => rfl
  | c :: l => by
    rw [cut_step]
    by_cases h : c = b
    · simp [h]
    · rw [if_neg h]
      show c :: (cutL b l).headD [] = _
      rw [cut_head b l]
      simp [List.takeWhile_cons, h]
def resL (l : List UInt8) : Int := resB ⟨((shortL l).map up).toArray⟩
theorem reserved_ev (s : ByteArray) (hs : s.size ≤ 1099511627776) : Ev (fun k => spec_reserved.f k s) (resL s.data.toList) := by
  obtain ⟨L, h1, h2⟩ := Cut_ev s 46 hs
  have hl := map_len h2
  obtain ⟨c1, c2⟩ := cut_len_le 46 s.data.toList
  obtain ⟨t, e1, e2⟩ := map_get h2 0 (by omega)
  unfold spec_reserved.f
  refine Ev.bind h1 ?_
  rw [hl]
  have hm : t.data.toList ∈ cutL 46 s.data.toList := by rw [e2]; exact getD_mem (by omega)
  have ht := small_of (l := []) hs hm
  have e3 : t.data.toList = shortL s.data.toList := by
    rw [e2]
    show _ = List.takeWhile (· != 46) _
    rw [← cut_head]
    cases cutL 46 s.data.toList <;> rfl
  have e1' : rdOf ByteArray.empty L 0 = t := e1
  simp only [show (0 : Int) < ((cutL 46 s.data.toList).length : Int) by omega, if_true, e1']
  have e4 : spec_Great.f t = some (greatB t) := if_pos (by omega)
  rw [e4]
  simp only [Option.bind_some]
  unfold resL
  rw [← e3]
  exact Ev.now

end Go.Proofs.YtpbebckhemnooaaFmt.PS
