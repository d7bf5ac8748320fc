/- What the printed functions of package spec compute, on lists of bytes; the condition is the text's size. What spec.digits, numbered, short, reserved and element compute, on lists of bytes; the condition is the text's size. What spec.element, path, ImportPath, FilePath and Name compute, on lists of bytes; the condition is the text's size. What spec.gopkg, Split and Path compute, on lists of bytes; the condition is the text's size. What module.SplitPathVersion computes, on lists of bytes; the condition is the text's size. -/
import Derived.Test.YtpbebckhemnooaaFmtPath
import Derived.Test.YtpbebckhemnooaaFmtPSx
import Derived.Test.YtpbebckhemnooaaFmtPTx

namespace Go.Proofs.YtpbebckhemnooaaFmt.PS
open Go.RowKit Go.Proofs.YtpbebckhemnooaaFmtW.PrintWords Go.Proofs.YtpbebckhemnooaaFmtW.PrintLast Go.Proofs.YtpbebckhemnooaaFmtW.PrintMore
set_option linter.unusedVariables false
set_option linter.unusedSimpArgs false

/-- With fuel enough it comes to r. -/
def Ev {α : Type} (f : Nat → Option α) (r : α) : Prop := ∃ K, ∀ k, K ≤ k → f k = some r
theorem Ev.step {α : Type} {f : Nat → Option α} {r : α} (h : Ev (fun k => f (k + 1)) r) : Ev f r := by
  obtain ⟨K, hK⟩ := h
  refine ⟨K + 1, fun k hk => ?_⟩
  have := hK (k - 1) (by omega)
  simpa [show k - 1 + 1 = k by omega] using this
theorem Ev.now {α : Type} {r : α} : Ev (fun _ => some r) r := ⟨0, fun _ _ => rfl⟩
theorem Ev.bind {α β : Type} {f : Nat → Option α} {g : α → Nat → Option β} {a : α} {b : β} (h : Ev f a) (h2 : Ev (g a) b) : Ev (fun k => (f k).bind fun t => g t k) b := by
  obtain ⟨K, hK⟩ := h
  obtain ⟨L, hL⟩ := h2
  exact ⟨K + L, fun k hk => by show (f k).bind _ = _; rw [hK k (by omega)]; exact hL k (by omega)⟩
theorem Ev.eq {α : Type} {f g : Nat → Option α} {r : α} (h : Ev f r) (e : ∀ k, g k = f k) : Ev g r := by
  obtain ⟨K, hK⟩ := h
  exact ⟨K, fun k hk => by rw [e, hK k hk]⟩
theorem Ev.fin {α : Type} {f : Nat → Option α} {r : α} (h : Ev f r) : ∃ k, f k = some r := by
  obtain ⟨K, hK⟩ := h
  exact ⟨K, hK K (Nat.le_refl _)⟩

theorem drop_bt (s : ByteArray) {i : Nat} (h : i < s.size) : ∃ c : UInt8, s.data.toList.drop i = c :: s.data.toList.drop (i + 1) ∧ bt s (i : Int) = (c.toNat : Int) ∧ s.data.toList[i]? = some c := by
  have h' : i < s.data.toList.length := by rw [len_size]; exact h
  refine ⟨s.data.toList[i], List.drop_eq_getElem_cons h', ?_, List.getElem?_eq_getElem h'⟩
  unfold bt
  have e : ((i : Int)).toNat = i := by omega
  simp only [e, h, dif_pos]
  rfl
theorem drop_end (s : ByteArray) {i : Nat} (h : s.size ≤ i) : s.data.toList.drop i = [] := List.drop_eq_nil_of_le (by rw [len_size]; exact h)
theorem bt_lb (s : ByteArray) (i : Nat) (h : i < s.size) : bt s (i : Int) = lb s.data.toList i := by
  obtain ⟨c, _, h2, h3⟩ := drop_bt s h
  rw [h2]
  unfold lb
  rw [List.getD_eq_getElem?_getD, h3]
  rfl

/-! ### In -/
theorem hasB_cons (c : UInt8) (l : List UInt8) (r : Int) : hasB (c :: l) r = (decide ((c.toNat : Int) = r) || hasB l r) := by simp [hasB]
theorem In_from (s : ByteArray) (b : Int) (hs : s.size ≤ 1099511627776) (d : Nat) : ∀ i : Nat, i + d = s.size → Ev (fun k => spec_In.l0 k s b (s.size : Int) (i : Int)) (hasB (s.data.toList.drop i) b) := by
  induction d with
  | zero =>
    intro i hi
    refine Ev.step ?_
    simp only [spec_In.l0]
    rw [drop_end s (by omega)]
    simp only [show ¬ ((i : Int) < (s.size : Int)) by omega, if_false]
    exact Ev.now
  | succ d ih =>
    intro i hi
    refine Ev.step ?_
    simp only [spec_In.l0]
    obtain ⟨c, h1, h2, -⟩ := drop_bt s (i := i) (by omega)
    simp only [show (i : Int) < (s.size : Int) by omega, show (0 : Int) ≤ (i : Int) by omega, if_true, h1, h2, hasB_cons]
    by_cases hc : (c.toNat : Int) = b
    · simp only [hc, if_true, decide_true, Bool.true_or]
      exact Ev.now
    · simp only [hc, if_false, decide_false, Bool.false_or]
      rw [w64 (by omega) (by omega)]
      exact ih (i + 1) (by omega)
theorem In_ev (s : ByteArray) (b : Int) (hs : s.size ≤ 1099511627776) : Ev (fun k => spec_In.f k s b) (hasB s.data.toList b) := In_from s b hs s.size 0 (by omega)

/-! ### Ascii -/
def ascB (l : List UInt8) : Bool := l.all fun c => decide (c.toNat < 128)
theorem ascB_iff (l : List UInt8) : ascB l = true ↔ asc l := by simp [ascB, asc]
theorem Ascii_from (s : ByteArray) (hs : s.size ≤ 1099511627776) (d : Nat) : ∀ i : Nat, i + d = s.size → Ev (fun k => spec_Ascii.l0 k s (s.size : Int) (i : Int)) (ascB (s.data.toList.drop i)) := by
  induction d with
  | zero =>
    intro i hi
    refine Ev.step ?_
    simp only [spec_Ascii.l0]
    rw [drop_end s (by omega)]
    simp only [show ¬ ((i : Int) < (s.size : Int)) by omega, if_false]
    exact Ev.now
  | succ d ih =>
    intro i hi
    refine Ev.step ?_
    simp only [spec_Ascii.l0]
    obtain ⟨c, h1, h2, -⟩ := drop_bt s (i := i) (by omega)
    simp only [show (i : Int) < (s.size : Int) by omega, show (0 : Int) ≤ (i : Int) by omega, if_true, h1, h2, ascB, List.all_cons]
    by_cases hc : (c.toNat : Int) ≥ 128
    · simp only [hc, if_true, show ¬ c.toNat < 128 by omega, decide_false, Bool.false_and]
      exact Ev.now
    · simp only [hc, if_false, show c.toNat < 128 by omega, decide_true, Bool.true_and]
      rw [w64 (by omega) (by omega)]
      exact ih (i + 1) (by omega)
theorem Ascii_ev (s : ByteArray) (hs : s.size ≤ 1099511627776) : Ev (fun k => spec_Ascii.f k s) (ascB s.data.toList) := Ascii_from s hs s.size 0 (by omega)

/-! ### All -/
def okC (sm gr : Bool) (o : List UInt8) (r : Int) : Bool := (sm && (decide (97 ≤ r) && decide (r ≤ 122))) || (gr && (decide (65 ≤ r) && decide (r ≤ 90))) || (decide (48 ≤ r) && decide (r ≤ 57)) || hasB o r
def allB (sm gr : Bool) (o l : List UInt8) : Bool := l.all fun c => okC sm gr o (c.toNat : Int)
theorem okF_eq {k : Nat} (sm gr : Bool) {o : ByteArray} {r : Int} (h : spec_In.f k o r = some (hasB o.data.toList r)) : okF k sm gr o r = some (okC sm gr o.data.toList r) := by
  unfold okF okC
  rw [h]
  cases hasB o.data.toList r <;> cases sm <;> cases gr <;> by_cases c1 : 97 ≤ r <;> by_cases c2 : r ≤ 122 <;> by_cases c3 : 65 ≤ r <;> by_cases c4 : r ≤ 90 <;> by_cases c5 : 48 ≤ r <;> by_cases c6 : r ≤ 57 <;> simp [c1, c2, c3, c4, c5, c6] <;> omega
theorem All_from (s o : ByteArray) (sm gr : Bool) (hs : s.size ≤ 1099511627776) (ho : o.size ≤ 1099511627776) (d : Nat) : ∀ i : Nat, i + d = s.size → Ev (fun k => spec_All.l0 k s sm gr o (s.size : Int) (i : Int)) (allB sm gr o.data.toList (s.data.toList.drop i)) := by
  induction d with
  | zero =>
    intro i hi
    refine Ev.step ?_
    simp only [spec_All.l0]
    rw [drop_end s (by omega)]
    simp only [show ¬ ((i : Int) < (s.size : Int)) by omega, if_false]
    exact Ev.now
  | succ d ih =>
    intro i hi
    obtain ⟨c, h1, h2, -⟩ := drop_bt s (i := i) (by omega)
    obtain ⟨K1, e1⟩ := ih (i + 1) (by omega)
    obtain ⟨K2, e2⟩ := In_ev o (c.toNat : Int) ho
    have hw : wrap64 ((i : Int) + 1) = ((i + 1 : Nat) : Int) := by rw [w64 (by omega) (by omega)]; omega
    refine Ev.step ⟨K1 + K2, fun k hk => ?_⟩
    have e1' := e1 k (by omega)
    have e2' := e2 k (by omega)
    rw [h1]
    simp only [spec_All.l0, show (i : Int) < (s.size : Int) by omega, show (0 : Int) ≤ (i : Int) by omega, if_true, h2, hw, allB, List.all_cons, okF_eq sm gr e2', Option.bind_some] at e1' ⊢
    rw [e1']
    cases okC sm gr o.data.toList (c.toNat : Int) <;> simp
theorem All_ev (s o : ByteArray) (sm gr : Bool) (hs : s.size ≤ 1099511627776) (ho : o.size ≤ 1099511627776) : Ev (fun k => spec_All.f k s sm gr o) (allB sm gr o.data.toList s.data.toList) := All_from s o sm gr hs ho s.size 0 (by omega)

/-! ### join -/
def joinI (a b : Int) : Int := if a = 2 ∨ b = 2 then 2 else if a = 0 ∨ b = 0 then 0 else 1
theorem join_ev (a b : Int) : Ev (fun k => spec_join.f k a b) (joinI a b) := by
  refine ⟨1, fun k hk => ?_⟩
  obtain ⟨k, rfl⟩ : ∃ m, k = m + 1 := ⟨k - 1, by omega⟩
  unfold spec_join.f joinI
  simp only [spec_join.j0]
  by_cases ha : a = 2 <;> by_cases hb : b = 2 <;> by_cases ha0 : a = 0 <;> by_cases hb0 : b = 0 <;> simp [ha, hb, ha0, hb0]

/-! ### Cut -/
theorem cut_step (b c : UInt8) (l : List UInt8) : cutL b (c :: l) = if c = b then [] :: cutL b l else (c :: (cutL b l).headD []) :: (cutL b l).tail := rfl
/-- The pieces, the first with some bytes ahead. -/
def ahead (p : List UInt8) (L : List (List UInt8)) : List (List UInt8) := (p ++ L.headD []) :: L.tail
theorem ahead_nil (b : UInt8) (l : List UInt8) : ahead [] (cutL b l) = cutL b l := by
  unfold ahead
  rw [List.nil_append]
  exact (cut_eq b l).symm
theorem ahead_cons (b c : UInt8) (p l : List UInt8) : ahead p (cutL b (c :: l)) = if c = b then p :: ahead [] (cutL b l) else ahead (p ++ [c]) (cutL b l) := by
  rw [cut_step]
  split
  · rw [ahead_nil]
    simp [ahead]
  · simp [ahead]
theorem extract_snoc (s : ByteArray) {from_ i : Nat} (h1 : from_ ≤ i) (h2 : i < s.size) {c : UInt8} (hc : s.data.toList[i]? = some c) :
    (s.extract from_ (i + 1)).data.toList = (s.extract from_ i).data.toList ++ [c] := by
  rw [extract_mid, extract_mid, show i + 1 - from_ = (i - from_) + 1 by omega, List.take_add_one, List.getElem?_drop, show from_ + (i - from_) = i by omega, hc]
  rfl
theorem Cut_from (s : ByteArray) (b : UInt8) (hs : s.size ≤ 1099511627776) (d : Nat) : ∀ (i from_ : Nat) (out : List ByteArray), i + d = s.size → from_ ≤ i → out.length ≤ i →
    ∃ L : List ByteArray, Ev (fun k => spec_Cut.l0 k s (b.toNat : Int) out (from_ : Int) (s.size : Int) (i : Int)) (out ++ L) ∧ L.map (fun x => x.data.toList) = ahead (s.extract from_ i).data.toList (cutL b (s.data.toList.drop i)) := by
  induction d with
  | zero =>
    intro i from_ out hi hf ho
    refine ⟨[s.extract from_ s.size], ?_, ?_⟩
    · refine Ev.step ?_
      simp only [spec_Cut.l0]
      have e : ((from_ : Int)).toNat = from_ := by omega
      simp only [show ¬ ((i : Int) < (s.size : Int)) by omega, if_false, show (0 : Int) ≤ (from_ : Int) by omega, show (from_ : Int) ≤ (s.size : Int) by omega, show out.length < 8796093022208 by omega, if_true, e]
      exact Ev.now
    · rw [drop_end s (by omega)]
      have hi' : i = s.size := by omega
      simp [ahead, cutL, hi']
  | succ d ih =>
    intro i from_ out hi hf ho
    obtain ⟨c, h1, h2, h3⟩ := drop_bt s (i := i) (by omega)
    have hw : wrap64 ((i : Int) + 1) = ((i + 1 : Nat) : Int) := by rw [w64 (by omega) (by omega)]; omega
    have e : ((from_ : Int)).toNat = from_ := by omega
    have e2 : ((i : Int)).toNat = i := by omega
    have hcb : ((c.toNat : Int) = (b.toNat : Int)) ↔ c = b := ⟨fun h => UInt8.toNat_inj.1 (by omega), fun h => by rw [h]⟩
    rw [h1, ahead_cons]
    by_cases hc : c = b
    · obtain ⟨L, hL1, hL2⟩ := ih (i + 1) (i + 1) (out ++ [s.extract from_ i]) (by omega) (by omega) (by simp; omega)
      refine ⟨s.extract from_ i :: L, ?_, ?_⟩
      · refine Ev.step ?_
        simp only [spec_Cut.l0]
        simp only [show (i : Int) < (s.size : Int) by omega, show (0 : Int) ≤ (i : Int) by omega, if_true, h2, hcb.2 hc, hw, e, e2, show (0 : Int) ≤ (from_ : Int) by omega, show (from_ : Int) ≤ (i : Int) by omega, show (i : Int) ≤ (s.size : Int) by omega, show out.length < 8796093022208 by omega]
        simpa using hL1
      · rw [if_pos hc, List.map_cons, hL2]
        congr 1
        have : (s.extract (i + 1) (i + 1)).data.toList = [] := by rw [extract_mid]; simp
        rw [this]
    · obtain ⟨L, hL1, hL2⟩ := ih (i + 1) from_ out (by omega) (by omega) (by omega)
      refine ⟨L, ?_, ?_⟩
      · refine Ev.step ?_
        simp only [spec_Cut.l0]
        simp only [show (i : Int) < (s.size : Int) by omega, show (0 : Int) ≤ (i : Int) by omega, if_true, h2, hw, show ¬ ((c.toNat : Int) = (b.toNat : Int)) from fun h => hc (hcb.1 h), if_false]
        exact hL1
      · rw [if_neg hc, hL2, extract_snoc s hf (by omega) h3]
theorem Cut_ev (s : ByteArray) (b : UInt8) (hs : s.size ≤ 1099511627776) : ∃ L : List ByteArray, Ev (fun k => spec_Cut.f k s (b.toNat : Int)) L ∧ L.map (fun x => x.data.toList) = cutL b s.data.toList := by
  obtain ⟨L, h1, h2⟩ := Cut_from s b hs s.size 0 0 [] (by omega) (Nat.le_refl _) (Nat.zero_le _)
  refine ⟨L, by rw [List.nil_append] at h1; exact h1, ?_⟩
  rw [h2, List.drop_zero]
  have : (s.extract 0 0).data.toList = [] := by rw [extract_mid]; simp
  rw [this, ahead_nil]

end Go.Proofs.YtpbebckhemnooaaFmt.PS

namespace Go.Proofs.YtpbebckhemnooaaFmt.PS
open Go.RowKit Go.Proofs.YtpbebckhemnooaaFmtW.PrintWords Go.Proofs.YtpbebckhemnooaaFmtW.PrintLast Go.Proofs.YtpbebckhemnooaaFmtW.PrintMore
set_option linter.unusedVariables false
set_option linter.unusedSimpArgs false

def digitsB (l : List UInt8) : Bool := decide (0 < l.length) && allB false false [] l
theorem digits_ev (s : ByteArray) (hs : s.size ≤ 1099511627776) : Ev (fun k => spec_digits.f k s) (digitsB s.data.toList) := by
  unfold spec_digits.f digitsB
  rw [len_size]
  by_cases h : 0 < s.size
  · simp only [show ((s.size : Int) > 0) by omega, if_true, h, decide_true, Bool.true_and]
    exact Ev.bind (All_ev s ⟨#[]⟩ false false hs (by decide)) Ev.now
  · simp only [show ¬ ((s.size : Int) > 0) by omega, if_false, h, decide_false, Bool.false_and]
    exact Ev.now

theorem wrap_up (i : Nat) (h : i ≤ 1099511627776) : wrap64 ((i : Int) + 1) = ((i + 1 : Nat) : Int) := by rw [w64 (by omega) (by omega)]; omega
theorem wrap_dn (i : Nat) (h : i ≤ 1099511627777) (h1 : 1 ≤ i) : wrap64 ((i : Int) - 1) = ((i - 1 : Nat) : Int) := by rw [w64 (by omega) (by omega)]; omega

/-! ### numbered, and two dots -/
def pairB (p : UInt8 → UInt8 → Bool) : List UInt8 → Bool
  | [] => false
  | [_] => false
  | x :: y :: l => p x y || pairB p (y :: l)
def numP (x y : UInt8) : Bool := decide (x = 126) && digitsB [y]
def ddP (x y : UInt8) : Bool := decide (x = 46) && decide (y = 46)
def numB (l : List UInt8) : Bool := pairB numP l
def ddB (l : List UInt8) : Bool := pairB ddP l
theorem byte_eq (c : UInt8) (n : Nat) (h : n < 256) : ((c.toNat : Int) = (n : Int)) ↔ c = UInt8.ofNat n := by
  constructor
  · intro h2
    apply UInt8.toNat_inj.1
    rw [UInt8.toNat_ofNat']
    omega
  · rintro rfl
    rw [UInt8.toNat_ofNat']
    omega

theorem pair_at (s : ByteArray) {i : Nat} (h0 : 1 ≤ i) (h : i < s.size) (p : UInt8 → UInt8 → Bool) : ∃ x y : UInt8, s.data.toList.drop (i - 1) = x :: y :: s.data.toList.drop (i + 1) ∧ s.data.toList.drop i = y :: s.data.toList.drop (i + 1) ∧ bt s ((i - 1 : Nat) : Int) = (x.toNat : Int) ∧ bt s (i : Int) = (y.toNat : Int) ∧ (s.extract i (i + 1)).data.toList = [y] := by
  obtain ⟨x, h1, h2, -⟩ := drop_bt s (i := i - 1) (by omega)
  obtain ⟨y, h3, h4, h5⟩ := drop_bt s (i := i) h
  rw [show i - 1 + 1 = i by omega] at h1
  refine ⟨x, y, by rw [h1, h3], h3, h2, h4, ?_⟩
  rw [extract_mid, h3]
  simp [show i + 1 - i = 1 by omega]

theorem numbered_from (s : ByteArray) (hs : s.size ≤ 1099511627776) (d : Nat) : ∀ i : Nat, 1 ≤ i → i + d = max s.size 1 → Ev (fun k => spec_numbered.l0 k s (i : Int)) (numB (s.data.toList.drop (i - 1))) := by
  induction d with
  | zero =>
    intro i h0 hi
    refine Ev.step ?_
    simp only [spec_numbered.l0]
    simp only [show ¬ ((i : Int) < (s.size : Int)) by omega, if_false]
    have : numB (s.data.toList.drop (i - 1)) = false := by
      have hl : (s.data.toList.drop (i - 1)).length ≤ 1 := by rw [List.length_drop, len_size]; omega
      match hx : s.data.toList.drop (i - 1), hl with
      | [], _ => rfl
      | [x], _ => rfl
      | x :: y :: l, hl => simp at hl
    rw [this]
    exact Ev.now
  | succ d ih =>
    intro i h0 hi
    obtain ⟨x, y, h1, h2, h3, h4, h5⟩ := pair_at s h0 (by omega) numP
    have ih' := ih (i + 1) (by omega) (by omega)
    rw [show i + 1 - 1 = i by omega] at ih'
    obtain ⟨K1, e1⟩ := ih'
    obtain ⟨K2, e2⟩ := digits_ev (s.extract i (i + 1)) (by rw [← len_size, h5]; simp)
    refine Ev.step ⟨K1 + K2, fun k hk => ?_⟩
    have e1' := e1 k (by omega)
    have e2' := e2 k (by omega)
    rw [h5] at e2'
    have e3 : numB (s.data.toList.drop (i - 1)) = (numP x y || numB (s.data.toList.drop i)) := by rw [h1, h2]; rfl
    rw [e3]
    have t1 : ((i : Int)).toNat = i := by omega
    have t2 : (((i + 1 : Nat) : Int)).toNat = i + 1 := by omega
    simp only [spec_numbered.l0, wrap_up i (by omega), wrap_dn i (by omega) h0, show (i : Int) < (s.size : Int) by omega, show (0 : Int) ≤ ((i - 1 : Nat) : Int) by omega, show ((i - 1 : Nat) : Int) < (s.size : Int) by omega, if_true, h3, show (0 : Int) ≤ (i : Int) by omega, show (i : Int) ≤ ((i + 1 : Nat) : Int) by omega, show ((i + 1 : Nat) : Int) ≤ (s.size : Int) by omega, t1, t2, e2', e1', Option.bind_some, numP]
    have hx : ((x.toNat : Int) = 126) ↔ x = 126 := byte_eq x 126 (by decide)
    by_cases c : x = 126
    · simp only [hx.2 c, if_true, c, decide_true, Bool.true_and]
      cases digitsB [y] <;> simp
    · simp only [show ¬ ((x.toNat : Int) = 126) from fun h => c (hx.1 h), if_false, c, decide_false, Bool.false_and, Bool.false_or]
theorem numbered_ev (s : ByteArray) (hs : s.size ≤ 1099511627776) : Ev (fun k => spec_numbered.f k s) (numB s.data.toList) := by
  have := numbered_from s hs (max s.size 1 - 1) 1 (Nat.le_refl _) (by omega)
  rw [show (1 : Nat) - 1 = 0 from rfl, List.drop_zero] at this
  exact this

/-! ### pieces -/
theorem map_get {L : List ByteArray} {M : List (List UInt8)} (h : L.map (fun x => x.data.toList) = M) (i : Nat) (hi : i < M.length) : ∃ t : ByteArray, rdOf ByteArray.empty L (i : Int) = t ∧ t.data.toList = M.getD i [] := by
  subst h
  refine ⟨_, rfl, ?_⟩
  unfold rdOf
  rw [List.length_map] at hi
  have e : ((i : Int)).toNat = i := by omega
  rw [e]
  simp [List.getD_eq_getElem?_getD, List.getElem?_eq_getElem hi]
theorem map_len {L : List ByteArray} {M : List (List UInt8)} (h : L.map (fun x => x.data.toList) = M) : L.length = M.length := by rw [← h, List.length_map]
theorem cut_len_le (b : UInt8) : ∀ l : List UInt8, (cutL b l).length ≤ l.length + 1 ∧ 1 ≤ (cutL b l).length
  | [] => by simp [cutL]
  | c :: l => by
    have ih := cut_len_le b l
    rw [cut_step]
    split
    · simp; omega
    · simp; omega

theorem small_of {t : ByteArray} {l : List UInt8} {b : UInt8} {s : ByteArray} (hs : s.size ≤ 1099511627776) (h : t.data.toList ∈ cutL b s.data.toList) : t.size ≤ 1099511627776 := by
  have := cut_len h
  rw [len_size, len_size] at this
  omega
theorem getD_mem {M : List (List UInt8)} {i : Nat} (h : i < M.length) : M.getD i [] ∈ M := by
  rw [List.getD_eq_getElem?_getD, List.getElem?_eq_getElem h]
  exact List.getElem_mem h

def lastD (M : List (List UInt8)) : List UInt8 := M.getD (M.length - 1) []
def shortB (l : List UInt8) : Bool := decide (1 < (cutL 126 l).length) && digitsB (lastD (cutL 126 l))
theorem short_ev (s : ByteArray) (hs : s.size ≤ 1099511627776) : Ev (fun k => spec_short.f k s) (shortB s.data.toList) := by
  obtain ⟨L, h1, h2⟩ := Cut_ev s 126 hs
  have hl := map_len h2
  obtain ⟨c1, c2⟩ := cut_len_le 126 s.data.toList
  rw [len_size] at c1
  unfold spec_short.f shortB lastD
  refine Ev.bind h1 ?_
  rw [hl]
  by_cases h : 1 < (cutL 126 s.data.toList).length
  · obtain ⟨t, e1, e2⟩ := map_get h2 ((cutL 126 s.data.toList).length - 1) (by omega)
    simp only [show ((cutL 126 s.data.toList).length : Int) > 1 by omega, if_true, h, decide_true, Bool.true_and, wrap_dn (cutL 126 s.data.toList).length (by omega) (by omega), show (0 : Int) ≤ (((cutL 126 s.data.toList).length - 1 : Nat) : Int) by omega, show (((cutL 126 s.data.toList).length - 1 : Nat) : Int) < ((cutL 126 s.data.toList).length : Int) by omega, e1]
    have := digits_ev t (small_of (l := []) hs (by rw [e2]; exact getD_mem (by omega)))
    rw [e2] at this
    refine Ev.bind this ?_
    exact Ev.now
  · simp only [show ¬ (((cutL 126 s.data.toList).length : Int) > 1) by omega, if_false, h, decide_false, Bool.false_and]
    exact Ev.now

theorem cut_head (b : UInt8) : ∀ l : List UInt8, (cutL b l).headD [] = l.takeWhile (· != b)
  | [] => rfl
  | c :: l => by
    rw [cut_step]
    by_cases h : c = b
    · simp [h]
    · rw [if_neg h]
      show c :: (cutL b l).headD [] = _
      rw [cut_head b l]
      simp [List.takeWhile_cons, h]
def resL (l : List UInt8) : Int := resB ⟨((shortL l).map up).toArray⟩
theorem reserved_ev (s : ByteArray) (hs : s.size ≤ 1099511627776) : Ev (fun k => spec_reserved.f k s) (resL s.data.toList) := by
  obtain ⟨L, h1, h2⟩ := Cut_ev s 46 hs
  have hl := map_len h2
  obtain ⟨c1, c2⟩ := cut_len_le 46 s.data.toList
  obtain ⟨t, e1, e2⟩ := map_get h2 0 (by omega)
  unfold spec_reserved.f
  refine Ev.bind h1 ?_
  rw [hl]
  have hm : t.data.toList ∈ cutL 46 s.data.toList := by rw [e2]; exact getD_mem (by omega)
  have ht := small_of (l := []) hs hm
  have e3 : t.data.toList = shortL s.data.toList := by
    rw [e2]
    show _ = List.takeWhile (· != 46) _
    rw [← cut_head]
    cases cutL 46 s.data.toList <;> rfl
  have e1' : rdOf ByteArray.empty L 0 = t := e1
  simp only [show (0 : Int) < ((cutL 46 s.data.toList).length : Int) by omega, if_true, e1']
  have e4 : spec_Great.f t = some (greatB t) := if_pos (by omega)
  rw [e4]
  simp only [Option.bind_some]
  unfold resL
  rw [← e3]
  exact Ev.now

end Go.Proofs.YtpbebckhemnooaaFmt.PS

namespace Go.Proofs.YtpbebckhemnooaaFmt.PS
open Go.RowKit Go.Proofs.YtpbebckhemnooaaFmtW.PrintWords Go.Proofs.YtpbebckhemnooaaFmtW.PrintLast Go.Proofs.YtpbebckhemnooaaFmtW.PrintMore Go.Proofs.YtpbebckhemnooaaFmt.PT
set_option linter.unusedVariables false
set_option linter.unusedSimpArgs false

def othersE (file : Bool) : List UInt8 := if file = true then [32, 33, 35, 36, 37, 38, 40, 41, 43, 44, 45, 46, 61, 64, 91, 93, 94, 95, 123, 125, 126] else [45, 46, 95, 126]
def elem3I (l : List UInt8) (st : Int) : Int := if ddB l = true then joinI st 0 else if ascB l = false ∨ lb l (l.length - 1) = 32 ∨ lb l 0 = 32 then joinI st 0 else st
def elem2I (file : Bool) (l : List UInt8) (st : Int) : Int :=
  if file = false ∧ hasB l 46 = true ∧ numB l = true then joinI st 0
  else if shortB l = true then (if file = true then joinI st 0 else 2)
  else if ascB l = false ∧ file = false then 2 else elem3I l st
def elemI (file : Bool) (l : List UInt8) : Int :=
  if l = [] ∨ lb l (l.length - 1) = 46 ∨ (allB true true (othersE file) l = false ∧ ascB l = true) then 2 else elem2I file l (resL l)

theorem elem_l0_from (s : ByteArray) (st : Int) (hs : s.size ≤ 1099511627776) (h1 : 0 < s.size) (d : Nat) : ∀ i : Nat, 1 ≤ i → i + d = s.size → Ev (fun k => spec_element.l0 k s st (i : Int)) (if ddB (s.data.toList.drop (i - 1)) = true then joinI st 0 else if ascB s.data.toList = false ∨ lb s.data.toList (s.data.toList.length - 1) = 32 ∨ lb s.data.toList 0 = 32 then joinI st 0 else st) := by
  induction d with
  | zero =>
    intro i h0 hi
    have : ddB (s.data.toList.drop (i - 1)) = false := by
      have hl : (s.data.toList.drop (i - 1)).length ≤ 1 := by rw [List.length_drop, len_size]; omega
      match hx : s.data.toList.drop (i - 1), hl with
      | [], _ => rfl
      | [x], _ => rfl
      | x :: y :: l, hl => simp at hl
    rw [this, len_size]
    obtain ⟨K1, e1⟩ := Ascii_ev s hs
    obtain ⟨K2, e2⟩ := join_ev st 0
    have b1 := bt_lb s (s.size - 1) (by omega)
    have b0 := bt_lb s 0 h1
    have b0' : bt s 0 = lb s.data.toList 0 := b0
    refine Ev.step ⟨K1 + K2, fun k hk => ?_⟩
    simp only [spec_element.l0, show ¬ ((i : Int) < (s.size : Int)) by omega, if_false, e1 k (by omega), e2 k (by omega), Option.bind_some, wrap_dn s.size (by omega) (by omega), show (0 : Int) ≤ ((s.size - 1 : Nat) : Int) by omega, show ((s.size - 1 : Nat) : Int) < (s.size : Int) by omega, show (0 : Int) < (s.size : Int) by omega, if_true, b1, b0']
    cases ascB s.data.toList <;> by_cases c1 : lb s.data.toList (s.size - 1) = 32 <;> by_cases c2 : lb s.data.toList 0 = 32 <;> simp [c1, c2]
  | succ d ih =>
    intro i h0 hi
    obtain ⟨x, y, h1, h2, h3, h4, h5⟩ := pair_at s h0 (by omega) ddP
    have ih' := ih (i + 1) (by omega) (by omega)
    rw [show i + 1 - 1 = i by omega] at ih'
    obtain ⟨K1, e1⟩ := ih'
    obtain ⟨K2, e2⟩ := join_ev st 0
    have e3 : ddB (s.data.toList.drop (i - 1)) = (ddP x y || ddB (s.data.toList.drop i)) := by rw [h1, h2]; rfl
    refine Ev.step ⟨K1 + K2, fun k hk => ?_⟩
    have hx : ((x.toNat : Int) = 46) ↔ x = 46 := byte_eq x 46 (by decide)
    have hy : ((y.toNat : Int) = 46) ↔ y = 46 := byte_eq y 46 (by decide)
    rw [e3]
    simp only [spec_element.l0, show (i : Int) < (s.size : Int) by omega, show (0 : Int) ≤ (i : Int) by omega, wrap_dn i (by omega) h0, wrap_up i (by omega), show (0 : Int) ≤ ((i - 1 : Nat) : Int) by omega, show ((i - 1 : Nat) : Int) < (s.size : Int) by omega, if_true, h3, h4, e1 k (by omega), e2 k (by omega), Option.bind_some, hx, hy, ddP]
    by_cases c1 : y = 46 <;> by_cases c2 : x = 46 <;> simp [c1, c2]
theorem elem_l0 (s : ByteArray) (st : Int) (hs : s.size ≤ 1099511627776) (h1 : 0 < s.size) : Ev (fun k => spec_element.l0 k s st 1) (elem3I s.data.toList st) :=
  elem_l0_from s st hs h1 (s.size - 1) 1 (Nat.le_refl _) (by omega)

theorem elem_j2 (s : ByteArray) (file b : Bool) (st : Int) (hs : s.size ≤ 1099511627776) (h1 : 0 < s.size) :
    Ev (fun k => spec_element.j2 k s file st b) (if b = true then joinI st 0 else if shortB s.data.toList = true then (if file = true then joinI st 0 else 2) else if ascB s.data.toList = false ∧ file = false then 2 else elem3I s.data.toList st) := by
  obtain ⟨K1, e1⟩ := Ascii_ev s hs
  obtain ⟨K2, e2⟩ := join_ev st 0
  obtain ⟨K3, e3⟩ := short_ev s hs
  obtain ⟨K4, e4⟩ := elem_l0 s st hs h1
  refine Ev.step ⟨K1 + K2 + K3 + K4 + 1, fun k hk => ?_⟩
  obtain ⟨k, rfl⟩ : ∃ m, k = m + 1 := ⟨k - 1, by omega⟩
  simp only [spec_element.j2, spec_element.j3, e1 (k + 1) (by omega), e2 (k + 1) (by omega), e3 (k + 1) (by omega), e4 k (by omega), Option.bind_some]
  cases b <;> cases file <;> cases shortB s.data.toList <;> cases ascB s.data.toList <;> simp

theorem elem_j1 (s : ByteArray) (file b : Bool) (hs : s.size ≤ 1099511627776) (h1 : b = false → 0 < s.size) :
    Ev (fun k => spec_element.j1 k s file b) (if b = true then 2 else elem2I file s.data.toList (resL s.data.toList)) := by
  cases b with
  | true =>
    refine Ev.step ?_
    simp only [spec_element.j1, if_true]
    exact Ev.now
  | false =>
    obtain ⟨K1, e1⟩ := reserved_ev s hs
    obtain ⟨K2, e2⟩ := In_ev s 46 hs
    obtain ⟨K3, e3⟩ := numbered_ev s hs
    obtain ⟨K4, e4⟩ := elem_j2 s file true (resL s.data.toList) hs (h1 rfl)
    obtain ⟨K5, e5⟩ := elem_j2 s file false (resL s.data.toList) hs (h1 rfl)
    refine Ev.step ⟨K1 + K2 + K3 + K4 + K5, fun k hk => ?_⟩
    have e4' := e4 k (by omega)
    have e5' := e5 k (by omega)
    simp only [spec_element.j1, e1 k (by omega), e2 k (by omega), e3 k (by omega), Option.bind_some, elem2I]
    cases file <;> cases hasB s.data.toList 46 <;> cases numB s.data.toList <;> simp_all

theorem element_ev (s : ByteArray) (file : Bool) (hs : s.size ≤ 1099511627776) : Ev (fun k => spec_element.f k s file) (elemI file s.data.toList) := by
  have key : ∀ o : ByteArray, o.data.toList = othersE file → o.size ≤ 1099511627776 → Ev (fun k => spec_element.j0 k s file o) (elemI file s.data.toList) := by
    intro o ho hos
    refine Ev.step ?_
    by_cases h0 : s.size = 0
    · have hn := data_eq_nil h0
      have hn2 : s.toList = [] := by rw [Lib.toList_data]; exact hn
      simp only [spec_element.j0, hn2, if_true]
      have := elem_j1 s file true hs (fun h => Bool.noConfusion h)
      simpa [elemI, hn] using this
    · have hn := data_ne_nil (s := s) (by omega)
      have hn2 : ¬ s.toList = [] := by rw [Lib.toList_data]; exact hn
      obtain ⟨K1, e1⟩ := All_ev s o true true hs hos
      obtain ⟨K2, e2⟩ := Ascii_ev s hs
      obtain ⟨K3, e3⟩ := elem_j1 s file true hs (fun h => Bool.noConfusion h)
      obtain ⟨K4, e4⟩ := elem_j1 s file false hs (by omega)
      have b1 := bt_lb s (s.size - 1) (by omega)
      refine ⟨K1 + K2 + K3 + K4, fun k hk => ?_⟩
      have e3' := e3 k (by omega)
      have e4' := e4 k (by omega)
      simp only [spec_element.j0, hn2, if_false, wrap_dn s.size (by omega) (by omega), show (0 : Int) ≤ ((s.size - 1 : Nat) : Int) by omega, show ((s.size - 1 : Nat) : Int) < (s.size : Int) by omega, if_true, b1, e1 k (by omega), e2 k (by omega), Option.bind_some, ho, elemI, hn, false_or, len_size]
      by_cases c : lb s.data.toList (s.size - 1) = 46 <;> cases allB true true (othersE file) s.data.toList <;> cases ascB s.data.toList <;> simp_all
  cases file with
  | true =>
    refine Ev.eq (key ⟨#[32, 33, 35, 36, 37, 38, 40, 41, 43, 44, 45, 46, 61, 64, 91, 93, 94, 95, 123, 125, 126]⟩ rfl (by decide)) fun k => ?_
    unfold spec_element.f
    rw [if_pos rfl]
  | false =>
    refine Ev.eq (key ⟨#[45, 46, 95, 126]⟩ rfl (by decide)) fun k => ?_
    unfold spec_element.f
    rw [if_neg (by decide)]

/-! ### path -/
def foldI (file : Bool) : Int → List (List UInt8) → Int
  | st, [] => st
  | st, e :: M => foldI file (joinI st (elemI file e)) M
def pathI (file : Bool) (l : List UInt8) : Int := if l ≠ [] ∧ lb l 0 = 45 then joinI (foldI file 1 (cutL 47 l)) 0 else foldI file 1 (cutL 47 l)
theorem path_l0 (s : ByteArray) (file : Bool) (hs : s.size ≤ 1099511627776) (L : List ByteArray) (hL : L.map (fun x => x.data.toList) = cutL 47 s.data.toList) (d : Nat) : ∀ (i : Nat) (st : Int), i + d = L.length →
    Ev (fun k => spec_path.l0 k s file st L (L.length : Int) (i : Int)) (if s.data.toList ≠ [] ∧ lb s.data.toList 0 = 45 then joinI (foldI file st ((cutL 47 s.data.toList).drop i)) 0 else foldI file st ((cutL 47 s.data.toList).drop i)) := by
  have hl := map_len hL
  induction d with
  | zero =>
    intro i st hi
    rw [List.drop_eq_nil_of_le (by omega)]
    obtain ⟨K2, e2⟩ := join_ev st 0
    refine Ev.step ⟨K2, fun k hk => ?_⟩
    by_cases h0 : s.size = 0
    · have hn := data_eq_nil h0
      simp only [spec_path.l0, show ¬ ((i : Int) < (L.length : Int)) by omega, if_false, show ¬ ((s.size : Int) > 0) by omega, hn, ne_eq, not_true, false_and, foldI]
    · have hn := data_ne_nil (s := s) (by omega)
      have b0 : bt s 0 = lb s.data.toList 0 := bt_lb s 0 (by omega)
      simp only [spec_path.l0, show ¬ ((i : Int) < (L.length : Int)) by omega, if_false, show ((s.size : Int) > 0) by omega, show (0 : Int) < (s.size : Int) by omega, if_true, b0, e2 k (by omega), Option.bind_some, hn, ne_eq, not_false_iff, true_and, foldI]
      split <;> rfl
  | succ d ih =>
    intro i st hi
    obtain ⟨t, e1, e2⟩ := map_get hL i (by omega)
    have hi2 : i < (cutL 47 s.data.toList).length := by omega
    have hm : t.data.toList ∈ cutL 47 s.data.toList := by rw [e2]; exact getD_mem hi2
    have ht := small_of (l := []) hs hm
    obtain ⟨K1, e3⟩ := element_ev t file ht
    obtain ⟨K2, e4⟩ := join_ev st (elemI file t.data.toList)
    obtain ⟨K3, e5⟩ := ih (i + 1) (joinI st (elemI file t.data.toList)) (by omega)
    refine Ev.step ⟨K1 + K2 + K3, fun k hk => ?_⟩
    obtain ⟨c1, c2⟩ := cut_len_le 47 s.data.toList
    rw [len_size] at c1
    have e5' := e5 k (by omega)
    simp only [spec_path.l0, show (i : Int) < (L.length : Int) by omega, show (0 : Int) ≤ (i : Int) by omega, if_true, e1, e3 k (by omega), e4 k (by omega), Option.bind_some, wrap_up i (by omega), e5']
    have hd : (cutL 47 s.data.toList).drop i = t.data.toList :: (cutL 47 s.data.toList).drop (i + 1) := by
      rw [List.drop_eq_getElem_cons hi2, e2, List.getD_eq_getElem?_getD, List.getElem?_eq_getElem hi2]
      rfl
    rw [hd]
    rfl
theorem path_ev (s : ByteArray) (file : Bool) (hs : s.size ≤ 1099511627776) : Ev (fun k => spec_path.f k s file) (pathI file s.data.toList) := by
  obtain ⟨L, h1, h2⟩ := Cut_ev s 47 hs
  unfold spec_path.f
  refine Ev.bind h1 ?_
  exact path_l0 s file hs L h2 L.length 0 1 (by omega)

end Go.Proofs.YtpbebckhemnooaaFmt.PS

namespace Go.Proofs.YtpbebckhemnooaaFmt.PS
open Go.RowKit Go.Proofs.YtpbebckhemnooaaFmtW.PrintWords Go.Proofs.YtpbebckhemnooaaFmtW.PrintLast Go.Proofs.YtpbebckhemnooaaFmtW.PrintMore Go.Proofs.YtpbebckhemnooaaFmt.PT
set_option linter.unusedVariables false
set_option linter.unusedSimpArgs false

theorem append_list (a b : ByteArray) : (a ++ b).data.toList = a.data.toList ++ b.data.toList := by simp [ByteArray.data_append]

def letterB (l : List UInt8) : Bool := decide (0 < l.length) && (allB true true [] (l.take 1) && !digitsB (l.take 1))
theorem letter_ev (s : ByteArray) (hs : s.size ≤ 1099511627776) : Ev (fun k => spec_letter.f k s) (letterB s.data.toList) := by
  have hx : (s.extract 0 1).data.toList = s.data.toList.take 1 := extract_take s 1
  have hx2 : (s.extract 0 1).size ≤ 1099511627776 := by rw [← len_size, hx, List.length_take]; omega
  obtain ⟨K1, e1⟩ := All_ev (s.extract 0 1) ⟨#[]⟩ true true hx2 (by decide)
  obtain ⟨K2, e2⟩ := digits_ev (s.extract 0 1) hx2
  refine ⟨K1 + K2, fun k hk => ?_⟩
  have e1' := e1 k (by omega)
  have e2' := e2 k (by omega)
  rw [hx] at e1' e2'
  unfold spec_letter.f letterB
  rw [len_size]
  by_cases h : 0 < s.size
  · simp only [show (s.size : Int) > 0 by omega, show (0 : Int) ≤ 1 by decide, show (1 : Int) ≤ (s.size : Int) by omega, if_true, e1', e2', Option.bind_some, h, decide_true, Bool.true_and]
    rw [if_pos (by decide)]
    cases allB true true [] (s.data.toList.take 1) <;> simp
  · simp only [show ¬ ((s.size : Int) > 0) by omega, if_false, h, decide_false, Bool.false_and]

/-! ### gopkg -/
def gopkgI (l : List UInt8) : List UInt8 × Int :=
  let list := cutL 47 l
  let parts := cutL 46 (lastD list)
  let v := lastD parts
  if parts.length < 2 then ([], 2)
  else if 2 < parts.length ∨ v.length < 2 ∨ lb v 0 ≠ 118 ∨ digitsB (v.drop 1) = false then ([], 0)
  else if (2 < v.length ∧ lb v 1 = 48) ∨ 3 < list.length ∨ letterB (parts.headD []) = false then ([], 0)
  else (46 :: v, 1)

theorem gopkg_j0 (A B : List ByteArray) (v : ByteArray) (b : Bool) (hB : 1 ≤ B.length) (hB0 : (rdOf ByteArray.empty B 0).size ≤ 1099511627776) (hv : v.size ≤ 1099511627776) (hv2 : b = false → 2 ≤ v.size) :
    ∃ t : ByteArray, ∃ n : Int, Ev (fun k => spec_gopkg.j0 k A B v b) (t, n) ∧ (t.data.toList, n) = if b = true then ([], 0) else if (2 < v.data.toList.length ∧ lb v.data.toList 1 = 48) ∨ 3 < A.length ∨ letterB (rdOf ByteArray.empty B 0).data.toList = false then ([], 0) else (46 :: v.data.toList, 1) := by
  cases b with
  | true =>
    refine ⟨⟨#[]⟩, 0, Ev.step ?_, by simp⟩
    simp only [spec_gopkg.j0, if_true]
    exact Ev.now
  | false =>
    have h2 := hv2 rfl
    rw [len_size]
    obtain ⟨K1, e1⟩ := letter_ev _ hB0
    have b1 : bt v 1 = lb v.data.toList 1 := bt_lb v 1 (by omega)
    have ho : ((⟨#[46]⟩ : ByteArray) ++ v).data.toList = 46 :: v.data.toList := by rw [append_list]; rfl
    by_cases c1 : 2 < v.size ∧ lb v.data.toList 1 = 48
    · refine ⟨⟨#[]⟩, 0, Ev.step ⟨0, fun k hk => ?_⟩, by simp [c1]⟩
      simp only [spec_gopkg.j0, show (v.size : Int) > 2 by omega, show (1 : Int) < (v.size : Int) by omega, if_true, b1, c1.2, if_false, reduceCtorEq, Bool.false_eq_true]
    · by_cases c2 : 3 < A.length
      · refine ⟨⟨#[]⟩, 0, Ev.step ⟨0, fun k hk => ?_⟩, by simp [c2]⟩
        simp only [spec_gopkg.j0, show (1 : Int) < (v.size : Int) by omega, show (A.length : Int) > 3 by omega, if_true, b1, Bool.false_eq_true, if_false]
        repeat' split
        all_goals rfl
      · cases c3 : letterB (rdOf ByteArray.empty B 0).data.toList with
        | false =>
          refine ⟨⟨#[]⟩, 0, Ev.step ⟨K1, fun k hk => ?_⟩, by simp⟩
          have e1' := e1 k (by omega)
          rw [c3] at e1'
          simp only [spec_gopkg.j0, show (1 : Int) < (v.size : Int) by omega, show ¬ ((A.length : Int) > 3) by omega, show (0 : Int) < (B.length : Int) by omega, if_true, b1, Bool.false_eq_true, if_false, e1', Option.bind_some]
          repeat' split
          all_goals rfl
        | true =>
          refine ⟨(⟨#[46]⟩ : ByteArray) ++ v, 1, Ev.step ⟨K1, fun k hk => ?_⟩, ?_⟩
          · have e1' := e1 k (by omega)
            rw [c3] at e1'
            by_cases c4 : 2 < v.size
            · have c5 : ¬ lb v.data.toList 1 = 48 := fun h => c1 ⟨c4, h⟩
              simp only [spec_gopkg.j0, show (v.size : Int) > 2 by omega, show (1 : Int) < (v.size : Int) by omega, show ¬ ((A.length : Int) > 3) by omega, show (0 : Int) < (B.length : Int) by omega, if_true, b1, Bool.false_eq_true, if_false, e1', Option.bind_some, c5, show 1 + v.size ≤ 9223372036854775807 by omega]
            · simp only [spec_gopkg.j0, show ¬ (v.size : Int) > 2 by omega, show ¬ ((A.length : Int) > 3) by omega, show (0 : Int) < (B.length : Int) by omega, if_true, b1, Bool.false_eq_true, if_false, e1', Option.bind_some, show 1 + v.size ≤ 9223372036854775807 by omega]
          · rw [ho, if_neg (by decide), if_neg (fun h => by
              rcases h with h | h | h
              · exact c1 h
              · exact c2 h
              · cases h)]

theorem gopkg_ev (s : ByteArray) (hs : s.size ≤ 1099511627776) : ∃ t : ByteArray, ∃ n : Int, Ev (fun k => spec_gopkg.f k s) (t, n) ∧ (t.data.toList, n) = gopkgI s.data.toList := by
  obtain ⟨A, a1, a2⟩ := Cut_ev s 47 hs
  have al := map_len a2
  obtain ⟨c1, c2⟩ := cut_len_le 47 s.data.toList
  rw [len_size] at c1
  obtain ⟨x, x1, x2⟩ := map_get a2 ((cutL 47 s.data.toList).length - 1) (by omega)
  have xm : x.data.toList ∈ cutL 47 s.data.toList := by rw [x2]; exact getD_mem (by omega)
  have xs := small_of (l := []) hs xm
  obtain ⟨B, b1, b2⟩ := Cut_ev x 46 xs
  have bl := map_len b2
  obtain ⟨d1, d2⟩ := cut_len_le 46 x.data.toList
  rw [len_size] at d1
  obtain ⟨v, v1, v2⟩ := map_get b2 ((cutL 46 x.data.toList).length - 1) (by omega)
  have vm : v.data.toList ∈ cutL 46 x.data.toList := by rw [v2]; exact getD_mem (by omega)
  have vs := small_of (l := []) xs vm
  obtain ⟨y, y1, y2⟩ := map_get b2 0 (by omega)
  have y1' : rdOf ByteArray.empty B 0 = y := y1
  have ym : y.data.toList ∈ cutL 46 x.data.toList := by rw [y2]; exact getD_mem (by omega)
  have ys := small_of (l := []) xs ym
  have hx : lastD (cutL 47 s.data.toList) = x.data.toList := x2.symm
  have hv : lastD (cutL 46 x.data.toList) = v.data.toList := v2.symm
  have hy : (cutL 46 x.data.toList).headD [] = y.data.toList := by
    rw [y2]
    cases cutL 46 x.data.toList <;> rfl
  have w1 : wrap64 ((A.length : Int) - 1) = (((cutL 47 s.data.toList).length - 1 : Nat) : Int) := by rw [al]; exact wrap_dn _ (by omega) (by omega)
  have w2 : wrap64 ((B.length : Int) - 1) = (((cutL 46 x.data.toList).length - 1 : Nat) : Int) := by rw [bl]; exact wrap_dn _ (by omega) (by omega)
  unfold gopkgI
  simp only [hx, hv, hy]
  have go : ∀ (t : ByteArray) (n : Int), Ev (fun k => if (B.length : Int) < 2 then (some ((⟨#[]⟩ : ByteArray), (2 : Int))) else (if 0 ≤ (wrap64 ((B.length : Int) - 1)) then (if (wrap64 ((B.length : Int) - 1)) < (B.length : Int) then (if (B.length : Int) > 2 then (spec_gopkg.j0 k A B (rdOf ByteArray.empty B (wrap64 ((B.length : Int) - 1))) true) else (if ((rdOf ByteArray.empty B (wrap64 ((B.length : Int) - 1))).size : Int) < 2 then (spec_gopkg.j0 k A B (rdOf ByteArray.empty B (wrap64 ((B.length : Int) - 1))) true) else (if 0 < ((rdOf ByteArray.empty B (wrap64 ((B.length : Int) - 1))).size : Int) then (if (bt (rdOf ByteArray.empty B (wrap64 ((B.length : Int) - 1))) 0) = 118 then (if 1 ≤ ((rdOf ByteArray.empty B (wrap64 ((B.length : Int) - 1))).size : Int) then ((spec_digits.f k ((rdOf ByteArray.empty B (wrap64 ((B.length : Int) - 1))).extract 1 (rdOf ByteArray.empty B (wrap64 ((B.length : Int) - 1))).size)).bind fun t145 => (spec_gopkg.j0 k A B (rdOf ByteArray.empty B (wrap64 ((B.length : Int) - 1))) (!t145))) else (none)) else (spec_gopkg.j0 k A B (rdOf ByteArray.empty B (wrap64 ((B.length : Int) - 1))) true)) else (none)))) else (none)) else (none))) (t, n) → Ev (fun k => spec_gopkg.f k s) (t, n) := by
    intro t n h
    unfold spec_gopkg.f
    refine Ev.bind a1 ?_
    simp only [w1, x1, show (0 : Int) ≤ (((cutL 47 s.data.toList).length - 1 : Nat) : Int) by omega, show (((cutL 47 s.data.toList).length - 1 : Nat) : Int) < (A.length : Int) by omega, if_true]
    exact Ev.bind b1 h
  by_cases q1 : (cutL 46 x.data.toList).length < 2
  · refine ⟨⟨#[]⟩, 2, go _ _ ?_, by simp [q1]⟩
    simp only [show (B.length : Int) < 2 by omega, if_true]
    exact Ev.now
  rw [if_neg q1]
  have m1 := gopkg_j0 A B v true (by omega) (by rw [y1']; exact ys) vs (fun h => Bool.noConfusion h)
  by_cases q2 : 2 < (cutL 46 x.data.toList).length ∨ v.data.toList.length < 2 ∨ lb v.data.toList 0 ≠ 118 ∨ digitsB (v.data.toList.drop 1) = false
  · obtain ⟨t, n, h1, h2⟩ := m1
    rw [if_pos rfl] at h2
    refine ⟨t, n, go _ _ ?_, by rw [h2, if_pos q2]⟩
    simp only [show ¬ ((B.length : Int) < 2) by omega, if_false, w2, v1, show (0 : Int) ≤ (((cutL 46 x.data.toList).length - 1 : Nat) : Int) by omega, show (((cutL 46 x.data.toList).length - 1 : Nat) : Int) < (B.length : Int) by omega, if_true]
    by_cases r1 : (B.length : Int) > 2
    · simp only [r1, if_true]; exact h1
    by_cases r2 : (v.size : Int) < 2
    · simp only [r1, r2, if_true, if_false]; exact h1
    have r3 : bt v 0 = lb v.data.toList 0 := bt_lb v 0 (by omega)
    by_cases r4 : lb v.data.toList 0 = 118
    · have hd := digits_ev (v.extract 1 v.size) (by rw [← len_size, extract_drop, List.length_drop, len_size]; omega)
      rw [extract_drop] at hd
      have hf : digitsB (v.data.toList.drop 1) = false := by
        rcases q2 with q | q | q | q
        · omega
        · rw [len_size] at q; omega
        · exact absurd r4 q
        · exact q
      rw [hf] at hd
      simp only [r1, r2, r3, r4, if_true, if_false, show (0 : Int) < (v.size : Int) by omega, show (1 : Int) ≤ (v.size : Int) by omega]
      exact Ev.bind hd h1
    · simp only [r1, r2, r3, r4, if_true, if_false, show (0 : Int) < (v.size : Int) by omega]
      exact h1
  · rw [if_neg q2]
    obtain ⟨p1, q3⟩ := not_or.1 q2
    obtain ⟨p2, q4⟩ := not_or.1 q3
    obtain ⟨p3, p4⟩ := not_or.1 q4
    rw [len_size] at p2
    have p3 : lb v.data.toList 0 = 118 := Classical.byContradiction p3
    have p4 : digitsB (v.data.toList.drop 1) = true := by cases hh : digitsB (v.data.toList.drop 1) <;> simp_all
    obtain ⟨t, n, h1, h2⟩ := gopkg_j0 A B v false (by omega) (by rw [y1']; exact ys) vs (fun _ => by omega)
    rw [if_neg (by decide), al, y1'] at h2
    refine ⟨t, n, go _ _ ?_, h2⟩
    have hd := digits_ev (v.extract 1 v.size) (by rw [← len_size, extract_drop, List.length_drop, len_size]; omega)
    rw [extract_drop, p4] at hd
    have r3 : bt v 0 = lb v.data.toList 0 := bt_lb v 0 (by omega)
    simp only [show ¬ ((B.length : Int) < 2) by omega, if_false, w2, v1, show (0 : Int) ≤ (((cutL 46 x.data.toList).length - 1 : Nat) : Int) by omega, show (((cutL 46 x.data.toList).length - 1 : Nat) : Int) < (B.length : Int) by omega, if_true,
      show ¬ ((B.length : Int) > 2) by omega, show ¬ ((v.size : Int) < 2) by omega, r3, p3, show (0 : Int) < (v.size : Int) by omega, show (1 : Int) ≤ (v.size : Int) by omega]
    exact Ev.bind hd h1

/-! ### Split -/
def gopkgL : List UInt8 := [103, 111, 112, 107, 103, 46, 105, 110, 47]
def splitI (l : List UInt8) : List UInt8 × Int :=
  if l.take 9 = gopkgL then gopkgI l
  else
    let list := cutL 47 l
    let last := lastD list
    if list.length < 2 ∨ last.length < 2 ∨ lb last 0 ≠ 118 ∨ allB false false [46] (last.drop 1) = false then ([], 1)
    else if lb last 1 = 48 ∨ lb last 1 = 46 ∨ last = [118, 49] ∨ hasB last 46 = true then ([], 2)
    else (47 :: last, 1)
theorem split_j1 (x : ByteArray) (b : Bool) (hx : x.size ≤ 1099511627776) (h2 : b = false → 2 ≤ x.size) :
    ∃ t : ByteArray, ∃ n : Int, Ev (fun k => spec_Split.j1 k x b) (t, n) ∧ (t.data.toList, n) = if b = true then ([], 1) else if lb x.data.toList 1 = 48 ∨ lb x.data.toList 1 = 46 ∨ x.data.toList = [118, 49] ∨ hasB x.data.toList 46 = true then ([], 2) else (47 :: x.data.toList, 1) := by
  cases b with
  | true =>
    refine ⟨⟨#[]⟩, 1, Ev.step ?_, by simp⟩
    simp only [spec_Split.j1, if_true]
    exact Ev.now
  | false =>
    have h2 := h2 rfl
    obtain ⟨K1, e1⟩ := In_ev x 46 hx
    have b1 : bt x 1 = lb x.data.toList 1 := bt_lb x 1 (by omega)
    have ho : ((⟨#[47]⟩ : ByteArray) ++ x).data.toList = 47 :: x.data.toList := by rw [append_list]; rfl
    rw [if_neg (by decide)]
    by_cases c : lb x.data.toList 1 = 48 ∨ lb x.data.toList 1 = 46 ∨ x.data.toList = [118, 49] ∨ hasB x.data.toList 46 = true
    · rw [if_pos c]
      refine ⟨⟨#[]⟩, 2, Ev.step ⟨K1, fun k hk => ?_⟩, rfl⟩
      simp only [spec_Split.j1, Bool.false_eq_true, if_false, show (1 : Int) < (x.size : Int) by omega, if_true, b1, e1 k (by omega), Option.bind_some, Lib.toList_data]
      by_cases c1 : lb x.data.toList 1 = 48
      · rw [if_pos c1]
      rw [if_neg c1]
      by_cases c2 : lb x.data.toList 1 = 46
      · rw [if_pos c2]
      rw [if_neg c2]
      by_cases c3 : x.data.toList = [118, 49]
      · rw [if_pos c3]
      rw [if_neg c3]
      have c4 : hasB x.data.toList 46 = true := by
        rcases c with c | c | c | c
        · exact absurd c c1
        · exact absurd c c2
        · exact absurd c c3
        · exact c
      rw [if_pos c4]
    · rw [if_neg c]
      obtain ⟨c1, c⟩ := not_or.1 c
      obtain ⟨c2, c⟩ := not_or.1 c
      obtain ⟨c3, c4⟩ := not_or.1 c
      refine ⟨(⟨#[47]⟩ : ByteArray) ++ x, 1, Ev.step ⟨K1, fun k hk => ?_⟩, by rw [ho]⟩
      simp only [spec_Split.j1, Bool.false_eq_true, if_false, show (1 : Int) < (x.size : Int) by omega, if_true, b1, e1 k (by omega), Option.bind_some, Lib.toList_data, c1, c2, c3, c4, show 1 + x.size ≤ 9223372036854775807 by omega]
theorem split_ev (s : ByteArray) (hs : s.size ≤ 1099511627776) : ∃ t : ByteArray, ∃ n : Int, Ev (fun k => spec_Split.f k s) (t, n) ∧ (t.data.toList, n) = splitI s.data.toList := by
  have ht : (s.extract 0 9).toList = s.data.toList.take 9 := by rw [Lib.toList_data, extract_take]
  have key : ∀ b : Bool, (b = true ↔ s.data.toList.take 9 = gopkgL) → ∃ t : ByteArray, ∃ n : Int, Ev (fun k => spec_Split.j0 k s b) (t, n) ∧ (t.data.toList, n) = splitI s.data.toList := by
    intro b hb
    unfold splitI
    cases b with
    | true =>
      rw [if_pos (hb.1 rfl)]
      obtain ⟨t, n, h1, h2⟩ := gopkg_ev s hs
      refine ⟨t, n, Ev.step ?_, h2⟩
      simp only [spec_Split.j0, if_true]
      exact Ev.bind h1 Ev.now
    | false =>
      rw [if_neg (fun h => by cases hb.2 h)]
      obtain ⟨A, a1, a2⟩ := Cut_ev s 47 hs
      have al := map_len a2
      obtain ⟨c1, c2⟩ := cut_len_le 47 s.data.toList
      rw [len_size] at c1
      obtain ⟨x, x1, x2⟩ := map_get a2 ((cutL 47 s.data.toList).length - 1) (by omega)
      have xm : x.data.toList ∈ cutL 47 s.data.toList := by rw [x2]; exact getD_mem (by omega)
      have xs := small_of (l := []) hs xm
      have hx : lastD (cutL 47 s.data.toList) = x.data.toList := x2.symm
      have w1 : wrap64 ((A.length : Int) - 1) = (((cutL 47 s.data.toList).length - 1 : Nat) : Int) := by rw [al]; exact wrap_dn _ (by omega) (by omega)
      simp only [hx]
      have m1 := split_j1 x true xs (fun h => Bool.noConfusion h)
      by_cases q : (cutL 47 s.data.toList).length < 2 ∨ x.data.toList.length < 2 ∨ lb x.data.toList 0 ≠ 118 ∨ allB false false [46] (x.data.toList.drop 1) = false
      · obtain ⟨t, n, h1, h2⟩ := m1
        rw [if_pos rfl] at h2
        refine ⟨t, n, Ev.step ?_, by rw [h2, if_pos q]⟩
        simp only [spec_Split.j0, Bool.false_eq_true, if_false]
        refine Ev.bind a1 ?_
        simp only [w1, x1, show (0 : Int) ≤ (((cutL 47 s.data.toList).length - 1 : Nat) : Int) by omega, show (((cutL 47 s.data.toList).length - 1 : Nat) : Int) < (A.length : Int) by omega, if_true]
        by_cases r1 : (A.length : Int) < 2
        · simp only [r1, if_true]; exact h1
        by_cases r2 : (x.size : Int) < 2
        · simp only [r1, r2, if_true, if_false]; exact h1
        have r3 : bt x 0 = lb x.data.toList 0 := bt_lb x 0 (by omega)
        by_cases r4 : lb x.data.toList 0 = 118
        · have hd := All_ev (x.extract 1 x.size) ⟨#[46]⟩ false false (by rw [← len_size, extract_drop, List.length_drop, len_size]; omega) (by decide)
          rw [extract_drop] at hd
          have hf : allB false false [46] (x.data.toList.drop 1) = false := by
            rcases q with q | q | q | q
            · omega
            · rw [len_size] at q; omega
            · exact absurd r4 q
            · exact q
          have e3 : (⟨#[46]⟩ : ByteArray).data.toList = [46] := rfl
          rw [e3, hf] at hd
          simp only [r1, r2, r3, r4, if_true, if_false, show (0 : Int) < (x.size : Int) by omega, show (1 : Int) ≤ (x.size : Int) by omega]
          exact Ev.bind hd h1
        · simp only [r1, r2, r3, r4, if_true, if_false, show (0 : Int) < (x.size : Int) by omega]
          exact h1
      · obtain ⟨p1, q3⟩ := not_or.1 q
        obtain ⟨p2, q4⟩ := not_or.1 q3
        obtain ⟨p3, p4⟩ := not_or.1 q4
        rw [len_size] at p2
        have p3 : lb x.data.toList 0 = 118 := Classical.byContradiction p3
        have p4 : allB false false [46] (x.data.toList.drop 1) = true := by cases hh : allB false false [46] (x.data.toList.drop 1) <;> simp_all
        obtain ⟨t, n, h1, h2⟩ := split_j1 x false xs (fun _ => by omega)
        rw [if_neg (by decide)] at h2
        refine ⟨t, n, Ev.step ?_, by rw [h2, if_neg q]⟩
        have hd := All_ev (x.extract 1 x.size) ⟨#[46]⟩ false false (by rw [← len_size, extract_drop, List.length_drop, len_size]; omega) (by decide)
        have e3 : (⟨#[46]⟩ : ByteArray).data.toList = [46] := rfl
        rw [extract_drop, e3, p4] at hd
        have r3 : bt x 0 = lb x.data.toList 0 := bt_lb x 0 (by omega)
        simp only [spec_Split.j0, Bool.false_eq_true, if_false]
        refine Ev.bind a1 ?_
        simp only [w1, x1, show (0 : Int) ≤ (((cutL 47 s.data.toList).length - 1 : Nat) : Int) by omega, show (((cutL 47 s.data.toList).length - 1 : Nat) : Int) < (A.length : Int) by omega, if_true, if_false,
          show ¬ ((A.length : Int) < 2) by omega, show ¬ ((x.size : Int) < 2) by omega, r3, p3, show (0 : Int) < (x.size : Int) by omega, show (1 : Int) ≤ (x.size : Int) by omega]
        exact Ev.bind hd h1
  by_cases h9 : (s.size : Int) ≥ 9
  · obtain ⟨t, n, h1, h2⟩ := key ((s.extract 0 9).toList == ([103, 111, 112, 107, 103, 46, 105, 110, 47] : List UInt8)) (by rw [beq_iff_eq, ht]; rfl)
    refine ⟨t, n, h1.eq fun k => ?_, h2⟩
    unfold spec_Split.f
    rw [if_pos h9, if_pos (by decide), if_pos (by omega)]
  · obtain ⟨t, n, h1, h2⟩ := key false ⟨fun h => Bool.noConfusion h, fun h => by
      have := congrArg List.length h
      rw [List.length_take, len_size] at this
      simp [gopkgL] at this
      omega⟩
    refine ⟨t, n, h1.eq fun k => ?_, h2⟩
    unfold spec_Split.f
    rw [if_neg h9]

/-! ### Path -/
def dotsAhead (M : List (List UInt8)) : Bool := M.any fun e => decide (0 < e.length) && decide (lb e 0 = 46)
def modPathI (l : List UInt8) : Int :=
  if dotsAhead (cutL 47 l) = true then 2
  else if allB true false [46, 45] ((cutL 47 l).headD []) = false ∨ hasB ((cutL 47 l).headD []) 46 = false ∨ lb ((cutL 47 l).headD []) 0 = 45 then 2
  else joinI (pathI false l) (splitI l).2
theorem path_j1 (s : ByteArray) (st : Int) (b : Bool) (hs : s.size ≤ 1099511627776) : Ev (fun k => spec_Path.j1 k s st b) (if b = true then 2 else joinI st (splitI s.data.toList).2) := by
  cases b with
  | true =>
    refine Ev.step ?_
    simp only [spec_Path.j1, if_true]
    exact Ev.now
  | false =>
    obtain ⟨t, n, h1, h2⟩ := split_ev s hs
    rw [if_neg (by decide), ← h2]
    refine Ev.step ?_
    simp only [spec_Path.j1, Bool.false_eq_true, if_false]
    refine Ev.bind h1 ?_
    exact Ev.bind (join_ev st n) Ev.now
theorem Path_l0 (s : ByteArray) (st : Int) (hs : s.size ≤ 1099511627776) (L : List ByteArray) (hL : L.map (fun x => x.data.toList) = cutL 47 s.data.toList) (d : Nat) : ∀ (i : Nat), i + d = L.length →
    Ev (fun k => spec_Path.l0 k s st L L (L.length : Int) (i : Int)) (if dotsAhead ((cutL 47 s.data.toList).drop i) = true then 2
      else if allB true false [46, 45] ((cutL 47 s.data.toList).headD []) = false ∨ hasB ((cutL 47 s.data.toList).headD []) 46 = false ∨ lb ((cutL 47 s.data.toList).headD []) 0 = 45 then 2
      else joinI st (splitI s.data.toList).2) := by
  have hl := map_len hL
  obtain ⟨c1, c2⟩ := cut_len_le 47 s.data.toList
  rw [len_size] at c1
  induction d with
  | zero =>
    intro i hi
    rw [List.drop_eq_nil_of_le (by omega)]
    obtain ⟨y, y1, y2⟩ := map_get hL 0 (by omega)
    have y1' : rdOf ByteArray.empty L 0 = y := y1
    have ym : y.data.toList ∈ cutL 47 s.data.toList := by rw [y2]; exact getD_mem (by omega)
    have ys := small_of (l := []) hs ym
    have hy : (cutL 47 s.data.toList).headD [] = y.data.toList := by
      rw [y2]
      cases cutL 47 s.data.toList <;> rfl
    rw [hy]
    have e0 : dotsAhead [] = false := rfl
    rw [e0, if_neg (by decide)]
    obtain ⟨K1, e1⟩ := All_ev y ⟨#[46, 45]⟩ true false ys (by decide)
    obtain ⟨K2, e2⟩ := In_ev y 46 ys
    obtain ⟨K3, e3⟩ := path_j1 s st true hs
    obtain ⟨K4, e4⟩ := path_j1 s st false hs
    refine Ev.step ⟨K1 + K2 + K3 + K4, fun k hk => ?_⟩
    have e1' := e1 k (by omega)
    have e2' := e2 k (by omega)
    have e3' := e3 k (by omega)
    have e4' := e4 k (by omega)
    rw [if_pos rfl] at e3'
    rw [if_neg (by decide)] at e4'
    have e5 : (⟨#[46, 45]⟩ : ByteArray).data.toList = [46, 45] := rfl
    rw [e5] at e1'
    simp only [spec_Path.l0, show ¬ ((i : Int) < (L.length : Int)) by omega, if_false, show (0 : Int) < (L.length : Int) by omega, if_true, y1', e1', e2', Option.bind_some]
    cases h1 : allB true false [46, 45] y.data.toList with
    | false => simp [e3']
    | true =>
      cases h2 : hasB y.data.toList 46 with
      | false => simp [e3']
      | true =>
        have hpos : 0 < y.size := by
          rw [← len_size]
          cases hh : y.data.toList with
          | nil => rw [hh] at h2; simp [hasB] at h2
          | cons a b => simp
        have b0 : bt y 0 = lb y.data.toList 0 := bt_lb y 0 hpos
        simp only [if_true, show (0 : Int) < (y.size : Int) by omega, b0, Bool.true_eq_false, reduceCtorEq, false_or]
        by_cases c : lb y.data.toList 0 = 45
        · simp [c, e3']
        · have c' : (lb y.data.toList 0 == 45) = false := by simpa using c
          rw [c', if_neg c]
          exact e4'
  | succ d ih =>
    intro i hi
    obtain ⟨t, e1, e2⟩ := map_get hL i (by omega)
    have hi2 : i < (cutL 47 s.data.toList).length := by omega
    have hd : (cutL 47 s.data.toList).drop i = t.data.toList :: (cutL 47 s.data.toList).drop (i + 1) := by
      rw [List.drop_eq_getElem_cons hi2, e2, List.getD_eq_getElem?_getD, List.getElem?_eq_getElem hi2]
      rfl
    obtain ⟨K3, e5⟩ := ih (i + 1) (by omega)
    refine Ev.step ⟨K3, fun k hk => ?_⟩
    have e5' := e5 k (by omega)
    have e6 : dotsAhead ((cutL 47 s.data.toList).drop i) = ((decide (0 < t.data.toList.length) && decide (lb t.data.toList 0 = 46)) || dotsAhead ((cutL 47 s.data.toList).drop (i + 1))) := by rw [hd]; rfl
    rw [e6, len_size]
    by_cases h0 : 0 < t.size
    · have b0 : bt t 0 = lb t.data.toList 0 := bt_lb t 0 h0
      simp only [spec_Path.l0, show (i : Int) < (L.length : Int) by omega, show (0 : Int) ≤ (i : Int) by omega, if_true, e1, show (t.size : Int) > 0 by omega, show (0 : Int) < (t.size : Int) by omega, b0, wrap_up i (by omega), e5', h0, decide_true, Bool.true_and]
      by_cases c : lb t.data.toList 0 = 46
      · simp [c]
      · simp [c]
    · simp only [spec_Path.l0, show (i : Int) < (L.length : Int) by omega, show (0 : Int) ≤ (i : Int) by omega, if_true, e1, show ¬ ((t.size : Int) > 0) by omega, if_false, wrap_up i (by omega), e5', h0, decide_false, Bool.false_and, Bool.false_or]
theorem Path_ev (s : ByteArray) (hs : s.size ≤ 1099511627776) : Ev (fun k => spec_Path.f k s) (modPathI s.data.toList) := by
  obtain ⟨L, h1, h2⟩ := Cut_ev s 47 hs
  unfold spec_Path.f
  refine Ev.bind (path_ev s false hs) ?_
  refine Ev.bind h1 ?_
  exact Path_l0 s _ hs L h2 L.length 0 (by omega)

end Go.Proofs.YtpbebckhemnooaaFmt.PS

namespace Go.Proofs.YtpbebckhemnooaaFmt.PS
open Go.RowKit Go.Proofs.YtpbebckhemnooaaFmtW.PrintWords Go.Proofs.YtpbebckhemnooaaFmtW.PrintLast Go.Proofs.YtpbebckhemnooaaFmtW.PrintMore Go.Proofs.YtpbebckhemnooaaFmt.PT
set_option linter.unusedVariables false
set_option linter.unusedSimpArgs false

/-- Where the last run of bytes of a kind begins. -/
def endI (p : UInt8 → Bool) : List UInt8 → Nat
  | [] => 0
  | c :: l => if (c :: l).all p then 0 else endI p l + 1
theorem endI_snoc (p : UInt8 → Bool) (c : UInt8) : ∀ l : List UInt8, endI p (l ++ [c]) = if p c = true then endI p l else l.length + 1
  | [] => by
    show (if [c].all p then 0 else 0 + 1) = _
    cases h : p c <;> simp [h, endI]
  | a :: l => by
    have ih := endI_snoc p c l
    rw [List.cons_append]
    unfold endI
    rw [ih]
    cases h : p c with
    | true => simp [h, List.all_append]
    | false => simp [h, List.all_append]
theorem endI_le (p : UInt8 → Bool) : ∀ l : List UInt8, endI p l ≤ l.length
  | [] => Nat.le_refl _
  | c :: l => by
    have := endI_le p l
    unfold endI
    split
    · omega
    · simp; omega
theorem endI_all (p : UInt8 → Bool) : ∀ l : List UInt8, (l.drop (endI p l)).all p = true
  | [] => rfl
  | c :: l => by
    have := endI_all p l
    unfold endI
    split
    · rename_i h; exact h
    · simpa using this
/-- A run of a kind at the end, and ahead of it a byte of none. -/
theorem endI_eq (p : UInt8 → Bool) (a t : List UInt8) (ht : t.all p = true) (ha : a = [] ∨ ∃ b c, a = b ++ [c] ∧ p c = false) : endI p (a ++ t) = a.length := by
  have key : ∀ (n : Nat) (t : List UInt8), t.length = n → t.all p = true → endI p (a ++ t) = endI p a := by
    intro n
    induction n with
    | zero =>
      intro t h _
      rw [List.eq_nil_of_length_eq_zero h, List.append_nil]
    | succ n ih =>
      intro t h hall
      have h0 : t ≠ [] := by rintro rfl; simp at h
      rw [← List.dropLast_concat_getLast h0, ← List.append_assoc, endI_snoc]
      have h1 := List.all_eq_true.1 hall _ (List.getLast_mem h0)
      rw [if_pos h1]
      exact ih _ (by rw [List.length_dropLast]; omega) (List.all_eq_true.2 fun c hc => List.all_eq_true.1 hall c ((List.dropLast_sublist _).subset hc))
  rw [key t.length t rfl ht]
  rcases ha with rfl | ⟨b, c, rfl, hc⟩
  · rfl
  · rw [endI_snoc, if_neg (by rw [hc]; decide)]
    simp

def dgB (c : UInt8) : Bool := decide (48 ≤ (c.toNat : Int)) && decide ((c.toNat : Int) ≤ 57)
def ddB2 (c : UInt8) : Bool := dgB c || decide ((c.toNat : Int) = 46)

def spvI (l : List UInt8) : List UInt8 × List UInt8 × Bool :=
  if l.take 9 = gopkgL then
    let i := endI dgB (l.take (if l.drop (l.length - 9) = [45, 117, 110, 115, 116, 97, 98, 108, 101] then l.length - 9 else l.length))
    if i ≤ 1 ∨ lb l (i - 1) ≠ 118 ∨ lb l (i - 2) ≠ 46 then (l, [], false)
    else if (l.drop (i - 2)).length ≤ 2 ∨ (lb (l.drop (i - 2)) 2 = 48 ∧ l.drop (i - 2) ≠ [46, 118, 48]) then (l, [], false)
    else (l.take (i - 2), l.drop (i - 2), true)
  else
    let i := endI ddB2 l
    if i ≤ 1 ∨ i = l.length ∨ lb l (i - 1) ≠ 118 ∨ lb l (i - 2) ≠ 47 then (l, [], true)
    else if hasB (l.drop i) 46 = true ∨ (l.drop (i - 2)).length ≤ 2 ∨ lb (l.drop (i - 2)) 2 = 48 ∨ l.drop (i - 2) = [47, 118, 49] then (l, [], false)
    else (l.take (i - 2), l.drop (i - 2), true)

/-- What is behind i0, at its least. -/
theorem take_bt (s : ByteArray) {i : Nat} (h0 : 1 ≤ i) (h : i ≤ s.size) : ∃ c : UInt8, s.data.toList.take i = s.data.toList.take (i - 1) ++ [c] ∧ bt s ((i - 1 : Nat) : Int) = (c.toNat : Int) := by
  obtain ⟨c, h1, h2⟩ := gb_take s (k := i - 1) (by omega)
  rw [show i - 1 + 1 = i by omega] at h1
  exact ⟨c, h1, h2⟩
theorem wrap_dn2 (i : Nat) (h : i ≤ 1099511627777) (h1 : 2 ≤ i) : wrap64 ((i : Int) - 2) = ((i - 2 : Nat) : Int) := by rw [w64 (by omega) (by omega)]; omega

abbrev Out3 (f : Nat → Option (ByteArray × ByteArray × Bool)) (r : List UInt8 × List UInt8 × Bool) : Prop := ∃ a b : ByteArray, ∃ ok : Bool, Ev f (a, b, ok) ∧ (a.data.toList, b.data.toList, ok) = r
theorem Out3.step {f : Nat → Option (ByteArray × ByteArray × Bool)} {r : List UInt8 × List UInt8 × Bool} (h : Out3 (fun k => f (k + 1)) r) : Out3 f r := by
  obtain ⟨a, b, ok, h1, h2⟩ := h
  exact ⟨a, b, ok, Ev.step h1, h2⟩
theorem Out3.now (a b : ByteArray) (ok : Bool) : Out3 (fun _ => some (a, b, ok)) (a.data.toList, b.data.toList, ok) := ⟨a, b, ok, Ev.now, rfl⟩

/-! ### gopkg.in -/
def gopI (l : List UInt8) (i : Nat) : List UInt8 × List UInt8 × Bool :=
  if i ≤ 1 ∨ lb l (i - 1) ≠ 118 ∨ lb l (i - 2) ≠ 46 then (l, [], false)
  else if (l.drop (i - 2)).length ≤ 2 ∨ (lb (l.drop (i - 2)) 2 = 48 ∧ l.drop (i - 2) ≠ [46, 118, 48]) then (l, [], false)
  else (l.take (i - 2), l.drop (i - 2), true)
theorem gop_j3 (s : ByteArray) (hs : s.size ≤ 1099511627776) (i : Nat) (hi : i ≤ s.size) (b : Bool) (h2 : b = false → 2 ≤ i) :
    Out3 (fun k => module_splitGopkgIn.j3 k s (i : Int) b) (if b = true then (s.data.toList, [], false) else if (s.data.toList.drop (i - 2)).length ≤ 2 ∨ (lb (s.data.toList.drop (i - 2)) 2 = 48 ∧ s.data.toList.drop (i - 2) ≠ [46, 118, 48]) then (s.data.toList, [], false) else (s.data.toList.take (i - 2), s.data.toList.drop (i - 2), true)) := by
  refine Out3.step ?_
  cases b with
  | true =>
    simp only [module_splitGopkgIn.j3, if_true]
    exact Out3.now s ⟨#[]⟩ false
  | false =>
    have h2 := h2 rfl
    have e1 : (((i - 2 : Nat) : Int)).toNat = i - 2 := by omega
    have hd : (s.extract (i - 2) s.size).data.toList = s.data.toList.drop (i - 2) := extract_drop s (i - 2)
    have ht : (s.extract 0 (i - 2)).data.toList = s.data.toList.take (i - 2) := extract_take s (i - 2)
    have hsz : (s.extract (i - 2) s.size).size = (s.data.toList.drop (i - 2)).length := by rw [← len_size, hd]
    simp only [module_splitGopkgIn.j3, Bool.false_eq_true, if_false, wrap_dn2 i (by omega) h2, show (0 : Int) ≤ ((i - 2 : Nat) : Int) by omega, show ((i - 2 : Nat) : Int) ≤ (s.size : Int) by omega, if_true, e1]
    obtain ⟨m, hm⟩ : ∃ m, s.extract (i - 2) s.size = m := ⟨_, rfl⟩
    rw [hm] at hd hsz ⊢
    obtain ⟨n, hn⟩ : ∃ n, s.data.toList.drop (i - 2) = n := ⟨_, rfl⟩
    rw [hn] at hd hsz ⊢
    rw [← ht]
    by_cases c1 : n.length ≤ 2
    · simp only [show (m.size : Int) ≤ 2 by omega, if_true, c1, true_or]
      exact Out3.now s ⟨#[]⟩ false
    · have b2 : bt m 2 = lb n 2 := by rw [← hd]; exact bt_lb m 2 (by omega)
      simp only [show ¬ ((m.size : Int) ≤ 2) by omega, if_false, show (2 : Int) < (m.size : Int) by omega, if_true, b2, c1, false_or, Lib.toList_data, hd]
      by_cases c2 : lb n 2 = 48
      · by_cases c3 : n = [46, 118, 48]
        · simp only [c2, c3, if_true, ne_eq, not_true, and_false, if_false]
          rw [← c3, ← hd]
          exact ⟨_, m, true, ⟨0, fun k _ => by split <;> rfl⟩, rfl⟩
        · simp only [c2, c3, if_true, ne_eq, not_false_iff, and_self, if_false]
          exact Out3.now s ⟨#[]⟩ false
      · simp only [c2, if_false, false_and]
        rw [← hd]
        exact Out3.now _ m true
theorem gop_j2 (s : ByteArray) (hs : s.size ≤ 1099511627776) (i : Nat) (hi : i ≤ s.size) : Out3 (fun k => module_splitGopkgIn.j2 k s (i : Int)) (gopI s.data.toList i) := by
  refine Out3.step ?_
  unfold gopI
  have t := gop_j3 s hs i hi true (fun h => Bool.noConfusion h)
  rw [if_pos rfl] at t
  by_cases c1 : i ≤ 1
  · simp only [module_splitGopkgIn.j2, show (i : Int) ≤ 1 by omega, if_true, c1, true_or]
    exact t
  · have b1 := bt_lb s (i - 1) (by omega)
    have b2 := bt_lb s (i - 2) (by omega)
    simp only [module_splitGopkgIn.j2, show ¬ ((i : Int) ≤ 1) by omega, if_false, wrap_dn i (by omega) (by omega), wrap_dn2 i (by omega) (by omega), show (0 : Int) ≤ ((i - 1 : Nat) : Int) by omega, show ((i - 1 : Nat) : Int) < (s.size : Int) by omega,
      show (0 : Int) ≤ ((i - 2 : Nat) : Int) by omega, show ((i - 2 : Nat) : Int) < (s.size : Int) by omega, if_true, b1, b2, c1, false_or]
    by_cases c2 : lb s.data.toList (i - 1) = 118
    · by_cases c3 : lb s.data.toList (i - 2) = 46
      · have t2 := gop_j3 s hs i hi false (fun _ => by omega)
        rw [if_neg (by decide)] at t2
        have e : (lb s.data.toList (i - 2) != 46) = false := by simpa using c3
        simp only [c2, c3, if_true, ne_eq, not_true, or_self, if_false, e]
        exact t2
      · have e : (lb s.data.toList (i - 2) != 46) = true := by simpa using c3
        simp only [c2, c3, if_true, ne_eq, not_true, not_false_iff, or_true, e]
        exact t
    · simp only [c2, if_false, ne_eq, not_false_iff, true_or, if_true]
      exact t
theorem gop_l0 (s : ByteArray) (hs : s.size ≤ 1099511627776) : ∀ i : Nat, i ≤ s.size → Out3 (fun k => module_splitGopkgIn.l0 k s (i : Int)) (gopI s.data.toList (endI dgB (s.data.toList.take i))) := by
  intro i
  induction i with
  | zero =>
    intro _
    refine Out3.step ?_
    simp only [module_splitGopkgIn.l0, show ¬ (((0 : Nat) : Int) > 0) by omega, if_false]
    exact gop_j2 s hs 0 (Nat.zero_le _)
  | succ i ih =>
    intro hi
    have ih := ih (by omega)
    obtain ⟨c, h1, h2⟩ := take_bt s (i := i + 1) (by omega) hi
    rw [show i + 1 - 1 = i by omega] at h1 h2
    have t := gop_j2 s hs (i + 1) hi
    refine Out3.step ?_
    have hw : wrap64 (((i + 1 : Nat) : Int) - 1) = (i : Int) := by rw [wrap_dn (i + 1) (by omega) (by omega), show i + 1 - 1 = i by omega]
    have hlen : (s.data.toList.take i).length = i := by rw [List.length_take, len_size]; omega
    simp only [module_splitGopkgIn.l0, show (((i + 1 : Nat) : Int) > 0) by omega, if_true, hw, show (0 : Int) ≤ (i : Int) by omega, show (i : Int) < (s.size : Int) by omega, h2]
    rw [h1, endI_snoc, hlen]
    by_cases c1 : 48 ≤ (c.toNat : Int)
    · by_cases c2 : (c.toNat : Int) ≤ 57
      · simp only [c1, c2, if_true, show dgB c = true by simp [dgB, c1, c2]]
        exact ih
      · simp only [c1, c2, if_true, if_false, show dgB c = false by simp [dgB, c2], Bool.false_eq_true]
        exact t
    · simp only [c1, if_false, show dgB c = false by simp [dgB, c1], Bool.false_eq_true]
      exact t

theorem prefix_eq (s p : ByteArray) : strings_HasPrefix.f s p = some (decide (s.data.toList.take p.size = p.data.toList)) := by
  unfold strings_HasPrefix.f stringslite_HasPrefix.f
  by_cases h : (s.size : Int) ≥ (p.size : Int)
  · have e : ((p.size : Int)).toNat = p.size := by omega
    rw [if_pos h, if_pos (by omega), if_pos (by omega), e, Option.bind_some, Lib.toList_data, Lib.toList_data, extract_take]
    congr 1
    rw [Bool.eq_iff_iff, beq_iff_eq, decide_eq_true_eq]
  · rw [if_neg h, Option.bind_some]
    congr 1
    symm
    apply decide_eq_false
    intro h2
    have := congrArg List.length h2
    rw [List.length_take, len_size, len_size] at this
    omega
theorem suffix_eq (s p : ByteArray) (hs : s.size ≤ 1099511627776) : strings_HasSuffix.f s p = some (decide (p.size ≤ s.size ∧ s.data.toList.drop (s.size - p.size) = p.data.toList)) := by
  unfold strings_HasSuffix.f stringslite_HasSuffix.f
  by_cases h : (s.size : Int) ≥ (p.size : Int)
  · have e0 : wrap64 ((s.size : Int) - (p.size : Int)) = ((s.size - p.size : Nat) : Int) := by rw [w64 (by omega) (by omega)]; omega
    have e : (((s.size - p.size : Nat) : Int)).toNat = s.size - p.size := by omega
    rw [if_pos h, e0, if_pos (by omega), if_pos (by omega), e, Option.bind_some, Lib.toList_data, Lib.toList_data, extract_drop]
    congr 1
    rw [Bool.eq_iff_iff, beq_iff_eq, decide_eq_true_eq]
    exact ⟨fun h2 => ⟨by omega, h2⟩, fun h2 => h2.2⟩
  · rw [if_neg h, Option.bind_some]
    congr 1
    symm
    apply decide_eq_false
    intro h2
    omega

theorem gop_ev (s : ByteArray) (hs : s.size ≤ 1099511627776) (h9 : s.data.toList.take 9 = gopkgL) : Out3 (fun k => module_splitGopkgIn.f k s) (spvI s.data.toList) := by
  have hlen : 9 ≤ s.size := by
    have := congrArg List.length h9
    rw [List.length_take, len_size] at this
    simp [gopkgL] at this
    omega
  unfold spvI
  rw [if_pos h9]
  show Out3 _ (gopI s.data.toList (endI dgB (s.data.toList.take (if s.data.toList.drop (s.data.toList.length - 9) = [45, 117, 110, 115, 116, 97, 98, 108, 101] then s.data.toList.length - 9 else s.data.toList.length))))
  rw [len_size]
  unfold module_splitGopkgIn.f
  have e9 : (⟨#[45, 117, 110, 115, 116, 97, 98, 108, 101]⟩ : ByteArray).size = 9 := rfl
  have d9 : (⟨#[45, 117, 110, 115, 116, 97, 98, 108, 101]⟩ : ByteArray).data.toList = [45, 117, 110, 115, 116, 97, 98, 108, 101] := rfl
  have e8 : (⟨#[103, 111, 112, 107, 103, 46, 105, 110, 47]⟩ : ByteArray).size = 9 := rfl
  have d8 : (⟨#[103, 111, 112, 107, 103, 46, 105, 110, 47]⟩ : ByteArray).data.toList = gopkgL := rfl
  simp only [prefix_eq, suffix_eq _ _ hs, e8, d8, e9, d9, Option.bind_some, h9, decide_true, if_true, hlen, true_and, decide_eq_true_eq]
  have hw : wrap64 ((s.size : Int) - 9) = ((s.size - 9 : Nat) : Int) := by rw [w64 (by omega) (by omega)]; omega
  by_cases c : s.data.toList.drop (s.size - 9) = [45, 117, 110, 115, 116, 97, 98, 108, 101]
  · rw [if_pos c]
    simp only [if_pos c, hw]
    refine Out3.step ?_
    simp only [module_splitGopkgIn.j0]
    exact gop_l0 s hs (s.size - 9) (by omega)
  · rw [if_neg c]
    simp only [if_neg c]
    refine Out3.step ?_
    simp only [module_splitGopkgIn.j0]
    exact gop_l0 s hs s.size (Nat.le_refl _)

/-! ### other paths -/
def othI (l : List UInt8) (i : Nat) (dot : Bool) : List UInt8 × List UInt8 × Bool :=
  if i ≤ 1 ∨ i = l.length ∨ lb l (i - 1) ≠ 118 ∨ lb l (i - 2) ≠ 47 then (l, [], true)
  else if dot = true ∨ (l.drop (i - 2)).length ≤ 2 ∨ lb (l.drop (i - 2)) 2 = 48 ∨ l.drop (i - 2) = [47, 118, 49] then (l, [], false)
  else (l.take (i - 2), l.drop (i - 2), true)
theorem oth_j2 (s : ByteArray) (hs : s.size ≤ 1099511627776) (i : Nat) (hi : i ≤ s.size) (dot b : Bool) (h2 : b = false → 2 ≤ i) :
    Out3 (fun k => module_SplitPathVersion.j2 k s (i : Int) dot b) (if b = true then (s.data.toList, [], true) else if dot = true ∨ (s.data.toList.drop (i - 2)).length ≤ 2 ∨ lb (s.data.toList.drop (i - 2)) 2 = 48 ∨ s.data.toList.drop (i - 2) = [47, 118, 49] then (s.data.toList, [], false) else (s.data.toList.take (i - 2), s.data.toList.drop (i - 2), true)) := by
  refine Out3.step ?_
  cases b with
  | true =>
    simp only [module_SplitPathVersion.j2, if_true]
    exact Out3.now s ⟨#[]⟩ true
  | false =>
    have h2 := h2 rfl
    have e1 : (((i - 2 : Nat) : Int)).toNat = i - 2 := by omega
    have hd : (s.extract (i - 2) s.size).data.toList = s.data.toList.drop (i - 2) := extract_drop s (i - 2)
    have ht : (s.extract 0 (i - 2)).data.toList = s.data.toList.take (i - 2) := extract_take s (i - 2)
    have hsz : (s.extract (i - 2) s.size).size = (s.data.toList.drop (i - 2)).length := by rw [← len_size, hd]
    simp only [module_SplitPathVersion.j2, Bool.false_eq_true, if_false, wrap_dn2 i (by omega) h2, show (0 : Int) ≤ ((i - 2 : Nat) : Int) by omega, show ((i - 2 : Nat) : Int) ≤ (s.size : Int) by omega, if_true, e1]
    obtain ⟨m, hm⟩ : ∃ m, s.extract (i - 2) s.size = m := ⟨_, rfl⟩
    rw [hm] at hd hsz ⊢
    obtain ⟨n, hn⟩ : ∃ n, s.data.toList.drop (i - 2) = n := ⟨_, rfl⟩
    rw [hn] at hd hsz ⊢
    rw [← ht]
    cases dot with
    | true =>
      simp only [if_true, true_or]
      exact Out3.now s ⟨#[]⟩ false
    | false =>
      simp only [Bool.false_eq_true, if_false, false_or]
      by_cases c1 : n.length ≤ 2
      · simp only [show (m.size : Int) ≤ 2 by omega, if_true, c1, true_or]
        exact Out3.now s ⟨#[]⟩ false
      · have b2 : bt m 2 = lb n 2 := by rw [← hd]; exact bt_lb m 2 (by omega)
        simp only [show ¬ ((m.size : Int) ≤ 2) by omega, if_false, show (2 : Int) < (m.size : Int) by omega, if_true, b2, c1, false_or, Lib.toList_data, hd]
        by_cases c2 : lb n 2 = 48
        · simp only [c2, if_true, true_or]
          exact Out3.now s ⟨#[]⟩ false
        · by_cases c3 : n = [47, 118, 49]
          · simp only [c2, if_false, c3, if_true, or_true]
            exact Out3.now s ⟨#[]⟩ false
          · simp only [c2, if_false, c3, or_self]
            rw [← hd]
            exact Out3.now _ m true
theorem oth_stop (s : ByteArray) (hs : s.size ≤ 1099511627776) (i : Nat) (hi : i ≤ s.size) (dot : Bool) : Out3 (fun k => module_SplitPathVersion.j1 k s (i : Int) dot false) (othI s.data.toList i dot) := by
  refine Out3.step ?_
  unfold othI
  rw [len_size]
  have t := oth_j2 s hs i hi dot true (fun h => Bool.noConfusion h)
  rw [if_pos rfl] at t
  by_cases c1 : i ≤ 1
  · simp only [module_SplitPathVersion.j1, Bool.false_eq_true, if_false, show (i : Int) ≤ 1 by omega, if_true, c1, true_or]
    exact t
  · by_cases c0 : i = s.size
    · simp only [module_SplitPathVersion.j1, Bool.false_eq_true, if_false, show ¬ ((i : Int) ≤ 1) by omega, show (i : Int) = (s.size : Int) by omega, if_true, c0, true_or, or_true]
      rw [c0] at t
      split <;> exact t
    · have b1 := bt_lb s (i - 1) (by omega)
      have b2 := bt_lb s (i - 2) (by omega)
      simp only [module_SplitPathVersion.j1, Bool.false_eq_true, show ¬ ((i : Int) ≤ 1) by omega, show ¬ ((i : Int) = (s.size : Int)) by omega, if_false, wrap_dn i (by omega) (by omega), wrap_dn2 i (by omega) (by omega), show (0 : Int) ≤ ((i - 1 : Nat) : Int) by omega, show ((i - 1 : Nat) : Int) < (s.size : Int) by omega,
        show (0 : Int) ≤ ((i - 2 : Nat) : Int) by omega, show ((i - 2 : Nat) : Int) < (s.size : Int) by omega, if_true, b1, b2, c1, c0, false_or]
      by_cases c2 : lb s.data.toList (i - 1) = 118
      · by_cases c3 : lb s.data.toList (i - 2) = 47
        · have t2 := oth_j2 s hs i hi dot false (fun _ => by omega)
          rw [if_neg (by decide)] at t2
          have e : (lb s.data.toList (i - 2) != 47) = false := by simpa using c3
          simp only [c2, c3, if_true, ne_eq, not_true, or_self, if_false, e]
          exact t2
        · have e : (lb s.data.toList (i - 2) != 47) = true := by simpa using c3
          simp only [c2, c3, if_true, ne_eq, not_true, not_false_iff, or_true, e]
          exact t
      · simp only [c2, if_false, ne_eq, not_false_iff, true_or, if_true]
        exact t
theorem oth_l0 (s : ByteArray) (hs : s.size ≤ 1099511627776) : ∀ (i : Nat) (dot : Bool), i ≤ s.size → Out3 (fun k => module_SplitPathVersion.l0 k s (i : Int) dot) (othI s.data.toList (endI ddB2 (s.data.toList.take i)) (dot || hasB ((s.data.toList.take i).drop (endI ddB2 (s.data.toList.take i))) 46)) := by
  intro i
  induction i with
  | zero =>
    intro dot _
    refine Out3.step ?_
    simp only [module_SplitPathVersion.l0, show ¬ (((0 : Nat) : Int) > 0) by omega, if_false]
    have := oth_stop s hs 0 (Nat.zero_le _) dot
    simpa [endI, hasB] using this
  | succ i ih =>
    intro dot hi
    have ih := fun d => ih d (by omega)
    obtain ⟨c, h1, h2⟩ := take_bt s (i := i + 1) (by omega) hi
    rw [show i + 1 - 1 = i by omega] at h1 h2
    have t := oth_stop s hs (i + 1) hi dot
    refine Out3.step ?_
    have hw : wrap64 (((i + 1 : Nat) : Int) - 1) = (i : Int) := by rw [wrap_dn (i + 1) (by omega) (by omega), show i + 1 - 1 = i by omega]
    have hlen : (s.data.toList.take i).length = i := by rw [List.length_take, len_size]; omega
    have hle := endI_le ddB2 (s.data.toList.take i)
    simp only [module_SplitPathVersion.l0, show (((i + 1 : Nat) : Int) > 0) by omega, if_true, hw, show (0 : Int) ≤ (i : Int) by omega, show (i : Int) < (s.size : Int) by omega, h2]
    rw [h1, endI_snoc, hlen]
    have hdr : (s.data.toList.take i ++ [c]).drop (i + 1) = [] := List.drop_eq_nil_of_le (by simp; omega)
    have hdr2 : (s.data.toList.take i ++ [c]).drop (endI ddB2 (s.data.toList.take i)) = (s.data.toList.take i).drop (endI ddB2 (s.data.toList.take i)) ++ [c] := List.drop_append_of_le_length hle
    have yes : ∀ d : Bool, d = (dot || decide ((c.toNat : Int) = 46)) → ddB2 c = true → Out3 (fun k => module_SplitPathVersion.j1 k s ((i + 1 : Nat) : Int) dot true) (othI s.data.toList (endI ddB2 (s.data.toList.take i)) (dot || hasB ((s.data.toList.take i).drop (endI ddB2 (s.data.toList.take i)) ++ [c]) 46)) := by
      intro d hd _
      refine Out3.step ?_
      have e : (dot || hasB ((s.data.toList.take i).drop (endI ddB2 (s.data.toList.take i)) ++ [c]) 46) = (d || hasB ((s.data.toList.take i).drop (endI ddB2 (s.data.toList.take i))) 46) := by
        rw [hd]
        simp only [hasB, List.any_append, List.any_cons, List.any_nil, Bool.or_false]
        cases dot <;> cases decide ((c.toNat : Int) = 46) <;> cases ((s.data.toList.take i).drop (endI ddB2 (s.data.toList.take i))).any (fun c => decide ((c.toNat : Int) = 46)) <;> rfl
      rw [e]
      simp only [module_SplitPathVersion.j1, if_true, hw, show (0 : Int) ≤ (i : Int) by omega, show (i : Int) < (s.size : Int) by omega, h2]
      by_cases c1 : (c.toNat : Int) = 46
      · simp only [c1, if_true]
        have hd' : d = true := by rw [hd]; simp [c1]
        rw [hd']
        exact ih true
      · simp only [c1, if_false]
        have hd' : d = dot := by rw [hd]; simp [c1]
        rw [hd']
        exact ih dot
    have no : ddB2 c = false → Out3 (fun k => module_SplitPathVersion.j1 k s ((i + 1 : Nat) : Int) dot false) (othI s.data.toList (i + 1) (dot || hasB [] 46)) := by
      intro _
      have e : (dot || hasB [] 46) = dot := by simp [hasB]
      rw [e]
      exact t
    cases hc : ddB2 c with
    | true =>
      rw [if_pos rfl, hdr2]
      by_cases c1 : 48 ≤ (c.toNat : Int)
      · by_cases c2 : (c.toNat : Int) ≤ 57
        · simp only [c1, c2, if_true]
          exact yes _ rfl hc
        · have c3 : (c.toNat : Int) = 46 := by simpa [ddB2, dgB, c1, c2] using hc
          omega
      · have c3 : (c.toNat : Int) = 46 := by simpa [ddB2, dgB, c1] using hc
        have e : ((c.toNat : Int) == 46) = true := by simpa using c3
        simp only [c1, if_false, e]
        exact yes _ rfl hc
    | false =>
      rw [if_neg (by decide), hdr]
      by_cases c1 : 48 ≤ (c.toNat : Int)
      · by_cases c2 : (c.toNat : Int) ≤ 57
        · simp [ddB2, dgB, c1, c2] at hc
        · have e : ((c.toNat : Int) == 46) = false := by simp; omega
          simp only [c1, c2, if_true, if_false, e]
          exact no hc
      · have c3 : ¬ (c.toNat : Int) = 46 := by simpa [ddB2, dgB, c1] using hc
        have e : ((c.toNat : Int) == 46) = false := by simpa using c3
        simp only [c1, if_false, e]
        exact no hc
theorem spv_ev (s : ByteArray) (hs : s.size ≤ 1099511627776) : Out3 (fun k => module_SplitPathVersion.f k s) (spvI s.data.toList) := by
  have e8 : (⟨#[103, 111, 112, 107, 103, 46, 105, 110, 47]⟩ : ByteArray).size = 9 := rfl
  have d8 : (⟨#[103, 111, 112, 107, 103, 46, 105, 110, 47]⟩ : ByteArray).data.toList = gopkgL := rfl
  unfold module_SplitPathVersion.f
  by_cases h9 : s.data.toList.take 9 = gopkgL
  · obtain ⟨a, b, ok, h1, h2⟩ := gop_ev s hs h9
    simp only [prefix_eq, e8, d8, Option.bind_some, h9, decide_true, if_true]
    exact ⟨a, b, ok, Ev.bind h1 Ev.now, h2⟩
  · simp only [prefix_eq, e8, d8, Option.bind_some, show ¬ (s.data.toList.take 9 = [103, 111, 112, 107, 103, 46, 105, 110, 47]) from h9, decide_false, Bool.false_eq_true, if_false]
    have := oth_l0 s hs s.size false (Nat.le_refl _)
    rw [List.take_of_length_le (by rw [len_size]; exact Nat.le_refl _), Bool.false_or] at this
    unfold spvI
    rw [if_neg h9]
    exact this

end Go.Proofs.YtpbebckhemnooaaFmt.PS
