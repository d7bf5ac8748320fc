/- What the printed functions of package spec compute, on lists of bytes; the condition is the text's size. -/
import Derived.Test.YtpbebckhemnooaaFmtPathDefs
import Derived.Test.YtpbebckhemnooaaFmtPSx
import Derived.Test.YtpbebckhemnooaaFmtPTx
namespace Go.Proofs.YtpbebckhemnooaaFmt.PS
open Go.RowKit Go.Proofs.YtpbebckhemnooaaFmtW.PrintWords Go.Proofs.YtpbebckhemnooaaFmtW.PrintLast Go.Proofs.YtpbebckhemnooaaFmtW.PrintMore
set_option linter.unusedVariables false
set_option linter.unusedSimpArgs false

/-- With fuel enough it comes to r. -/
def Ev {α : Type} (f : Nat → Option α) (r : α) : Prop := ∃ K, ∀ k, K ≤ k → f k = some r
theorem Ev.step {α : Type} {f : Nat → Option α} {r : α} (h : Ev (fun k => f (k + 1)) r) : Ev f r := by
  obtain ⟨K, hK⟩ := h
  refine ⟨K + 1, fun k hk => ?_⟩
  have := hK (k - 1) (by omega)
  simpa [show k - 1 + 1 = k by omega] using this
theorem Ev.now {α : Type} {r : α} : Ev (fun _ => some r) r := ⟨0, fun _ _ => rfl⟩
theorem Ev.bind {α β : Type} {f : Nat → Option α} {g : α → Nat → Option β} {a : α} {b : β} (h : Ev f a) (h2 : Ev (g a) b) : Ev (fun k => (f k).bind fun t => g t k) b := by
  obtain ⟨K, hK⟩ := h
  obtain ⟨L, hL⟩ := h2
  exact ⟨K + L, fun k hk => by show (f k).bind _ = _; rw [hK k (by omega)]; exact hL k (by omega)⟩
theorem Ev.eq {α : Type} {f g : Nat → Option α} {r : α} (h : Ev f r) (e : ∀ k, g k = f k) : Ev g r := by
  obtain ⟨K, hK⟩ := h
  exact ⟨K, fun k hk => by rw [e, hK k hk]⟩
theorem Ev.fin {α : Type} {f : Nat → Option α} {r : α} (h : Ev f r) : ∃ k, f k = some r := by
  obtain ⟨K, hK⟩ := h
  exact ⟨K, hK K (Nat.le_refl _)⟩

theorem drop_bt (s : ByteArray) {i : Nat} (h : i < s.size) : ∃ c : UInt8, s.data.toList.drop i = c :: s.data.toList.drop (i + 1) ∧ bt s (i : Int) = (c.toNat : Int) ∧ s.data.toList[i]? = some c := by
  have h' : i < s.data.toList.length := by rw [len_size]; exact h
  refine ⟨s.data.toList[i], List.drop_eq_getElem_cons h', ?_, List.getElem?_eq_getElem h'⟩
  unfold bt
  have e : ((i : Int)).toNat = i := by omega
  simp only [e, h, dif_pos]
  rfl
theorem drop_end (s : ByteArray) {i : Nat} (h : s.size ≤ i) : s.data.toList.drop i = [] := List.drop_eq_nil_of_le (by rw [len_size]; exact h)
theorem bt_lb (s : ByteArray) (i : Nat) (h : i < s.size) : bt s (i : Int) = lb s.data.toList i := by
  obtain ⟨c, _, h2, h3⟩ := drop_bt s h
  rw [h2]
  unfold lb
  rw [List.getD_eq_getElem?_getD, h3]
  rfl

/-! ### In -/
theorem hasB_cons (c : UInt8) (l : List UInt8) (r : Int) : hasB (c :: l) r = (decide ((c.toNat : Int) = r) || hasB l r) := by simp [hasB]
theorem In_from (s : ByteArray) (b : Int) (hs : s.size ≤ 1099511627776) (d : Nat) : ∀ i : Nat, i + d = s.size → Ev (fun k => spec_In.l0 k s b (s.size : Int) (i : Int)) (hasB (s.data.toList.drop i) b) := by
  induction d with
  | zero =>
    intro i hi
    refine Ev.step ?_
    simp only [spec_In.l0]
    rw [drop_end s (by omega)]
    simp only [show ¬ ((i : Int) < (s.size : Int)) by omega, if_false]
    exact Ev.now
  | succ d ih =>
    intro i hi
    refine Ev.step ?_
    simp only [spec_In.l0]
    obtain ⟨c, h1, h2, -⟩ := drop_bt s (i := i) (by omega)
    simp only [show (i : Int) < (s.size : Int) by omega, show (0 : Int) ≤ (i : Int) by omega, if_true, h1, h2, hasB_cons]
    by_cases hc : (c.toNat : Int) = b
    · simp only [hc, if_true, decide_true, Bool.true_or]
      exact Ev.now
    · simp only [hc, if_false, decide_false, Bool.false_or]
      rw [w64 (by omega) (by omega)]
      exact ih (i + 1) (by omega)
theorem In_ev (s : ByteArray) (b : Int) (hs : s.size ≤ 1099511627776) : Ev (fun k => spec_In.f k s b) (hasB s.data.toList b) := In_from s b hs s.size 0 (by omega)

/-! ### Ascii -/
def ascB (l : List UInt8) : Bool := l.all fun c => decide (c.toNat < 128)
theorem ascB_iff (l : List UInt8) : ascB l = true ↔ asc l := by simp [ascB, asc]
theorem Ascii_from (s : ByteArray) (hs : s.size ≤ 1099511627776) (d : Nat) : ∀ i : Nat, i + d = s.size → Ev (fun k => spec_Ascii.l0 k s (s.size : Int) (i : Int)) (ascB (s.data.toList.drop i)) := by
  induction d with
  | zero =>
    intro i hi
    refine Ev.step ?_
    simp only [spec_Ascii.l0]
    rw [drop_end s (by omega)]
    simp only [show ¬ ((i : Int) < (s.size : Int)) by omega, if_false]
    exact Ev.now
  | succ d ih =>
    intro i hi
    refine Ev.step ?_
    simp only [spec_Ascii.l0]
    obtain ⟨c, h1, h2, -⟩ := drop_bt s (i := i) (by omega)
    simp only [show (i : Int) < (s.size : Int) by omega, show (0 : Int) ≤ (i : Int) by omega, if_true, h1, h2, ascB, List.all_cons]
    by_cases hc : (c.toNat : Int) ≥ 128
    · simp only [hc, if_true, show ¬ c.toNat < 128 by omega, decide_false, Bool.false_and]
      exact Ev.now
    · simp only [hc, if_false, show c.toNat < 128 by omega, decide_true, Bool.true_and]
      rw [w64 (by omega) (by omega)]
      exact ih (i + 1) (by omega)
theorem Ascii_ev (s : ByteArray) (hs : s.size ≤ 1099511627776) : Ev (fun k => spec_Ascii.f k s) (ascB s.data.toList) := Ascii_from s hs s.size 0 (by omega)

/-! ### All -/
def okC (sm gr : Bool) (o : List UInt8) (r : Int) : Bool := (sm && (decide (97 ≤ r) && decide (r ≤ 122))) || (gr && (decide (65 ≤ r) && decide (r ≤ 90))) || (decide (48 ≤ r) && decide (r ≤ 57)) || hasB o r
def allB (sm gr : Bool) (o l : List UInt8) : Bool := l.all fun c => okC sm gr o (c.toNat : Int)
theorem All_from (s o : ByteArray) (sm gr : Bool) (hs : s.size ≤ 1099511627776) (ho : o.size ≤ 1099511627776) (d : Nat) : ∀ i : Nat, i + d = s.size → Ev (fun k => spec_All.l0 k s sm gr o (s.size : Int) (i : Int)) (allB sm gr o.data.toList (s.data.toList.drop i)) := by
  induction d with
  | zero =>
    intro i hi
    refine Ev.step ?_
    simp only [spec_All.l0]
    rw [drop_end s (by omega)]
    simp only [show ¬ ((i : Int) < (s.size : Int)) by omega, if_false]
    exact Ev.now
  | succ d ih =>
    intro i hi
    obtain ⟨c, h1, h2, -⟩ := drop_bt s (i := i) (by omega)
    obtain ⟨K1, e1⟩ := ih (i + 1) (by omega)
    obtain ⟨K2, e2⟩ := In_ev o (c.toNat : Int) ho
    have hw : wrap64 ((i : Int) + 1) = ((i + 1 : Nat) : Int) := by rw [w64 (by omega) (by omega)]; omega
    refine Ev.step ⟨K1 + K2, fun k hk => ?_⟩
    have e1' := e1 k (by omega)
    have e2' := e2 k (by omega)
    obtain ⟨r, hr⟩ : ∃ r : Int, (c.toNat : Int) = r := ⟨_, rfl⟩
    rw [h1]
    simp only [spec_All.l0, show (i : Int) < (s.size : Int) by omega, show (0 : Int) ≤ (i : Int) by omega, if_true, h2, hw, allB, List.all_cons] at e1' ⊢
    rw [hr] at e2' ⊢
    obtain ⟨R, hR⟩ : ∃ R, ((List.drop (i + 1) s.data.toList).all fun c => okC sm gr o.data.toList (c.toNat : Int)) = R := ⟨_, rfl⟩
    rw [hR] at e1' ⊢
    simp only [e1', e2', Option.bind_some]
    cases hh : hasB o.data.toList r <;> cases sm <;> cases gr <;> by_cases c1 : 97 ≤ r <;> by_cases c2 : r ≤ 122 <;> by_cases c3 : 65 ≤ r <;> by_cases c4 : r ≤ 90 <;> by_cases c5 : 48 ≤ r <;> by_cases c6 : r ≤ 57 <;> simp [okC, hh, c1, c2, c3, c4, c5, c6] <;> omega
theorem All_ev (s o : ByteArray) (sm gr : Bool) (hs : s.size ≤ 1099511627776) (ho : o.size ≤ 1099511627776) : Ev (fun k => spec_All.f k s sm gr o) (allB sm gr o.data.toList s.data.toList) := All_from s o sm gr hs ho s.size 0 (by omega)

/-! ### join -/
def joinI (a b : Int) : Int := if a = 2 ∨ b = 2 then 2 else if a = 0 ∨ b = 0 then 0 else 1
theorem join_ev (a b : Int) : Ev (fun k => spec_join.f k a b) (joinI a b) := by
  refine ⟨1, fun k hk => ?_⟩
  obtain ⟨k, rfl⟩ : ∃ m, k = m + 1 := ⟨k - 1, by omega⟩
  unfold spec_join.f joinI
  simp only [spec_join.j0]
  by_cases ha : a = 2 <;> by_cases hb : b = 2 <;> by_cases ha0 : a = 0 <;> by_cases hb0 : b = 0 <;> simp [ha, hb, ha0, hb0]

/-! ### Cut -/
theorem cut_step (b c : UInt8) (l : List UInt8) : cutL b (c :: l) = if c = b then [] :: cutL b l else (c :: (cutL b l).headD []) :: (cutL b l).tail := rfl
/-- The pieces, the first with some bytes ahead. -/
def ahead (p : List UInt8) (L : List (List UInt8)) : List (List UInt8) := (p ++ L.headD []) :: L.tail
theorem ahead_nil (b : UInt8) (l : List UInt8) : ahead [] (cutL b l) = cutL b l := by
  unfold ahead
  rw [List.nil_append]
  exact (cut_eq b l).symm
theorem ahead_cons (b c : UInt8) (p l : List UInt8) : ahead p (cutL b (c :: l)) = if c = b then p :: ahead [] (cutL b l) else ahead (p ++ [c]) (cutL b l) := by
  rw [cut_step]
  split
  · rw [ahead_nil]
    simp [ahead]
  · simp [ahead]
theorem extract_snoc (s : ByteArray) {from_ i : Nat} (h1 : from_ ≤ i) (h2 : i < s.size) {c : UInt8} (hc : s.data.toList[i]? = some c) :
    (s.extract from_ (i + 1)).data.toList = (s.extract from_ i).data.toList ++ [c] := by
  rw [extract_mid, extract_mid, show i + 1 - from_ = (i - from_) + 1 by omega, List.take_add_one, List.getElem?_drop, show from_ + (i - from_) = i by omega, hc]
  rfl
theorem Cut_from (s : ByteArray) (b : UInt8) (hs : s.size ≤ 1099511627776) (d : Nat) : ∀ (i from_ : Nat) (out : List ByteArray), i + d = s.size → from_ ≤ i → out.length ≤ i →
    ∃ L : List ByteArray, Ev (fun k => spec_Cut.l0 k s (b.toNat : Int) out (from_ : Int) (s.size : Int) (i : Int)) (out ++ L) ∧ L.map (fun x => x.data.toList) = ahead (s.extract from_ i).data.toList (cutL b (s.data.toList.drop i)) := by
  induction d with
  | zero =>
    intro i from_ out hi hf ho
    refine ⟨[s.extract from_ s.size], ?_, ?_⟩
    · refine Ev.step ?_
      simp only [spec_Cut.l0]
      have e : ((from_ : Int)).toNat = from_ := by omega
      simp only [show ¬ ((i : Int) < (s.size : Int)) by omega, if_false, show (0 : Int) ≤ (from_ : Int) by omega, show (from_ : Int) ≤ (s.size : Int) by omega, show out.length < 8796093022208 by omega, if_true, e]
      exact Ev.now
    · rw [drop_end s (by omega)]
      have hi' : i = s.size := by omega
      simp [ahead, cutL, hi']
  | succ d ih =>
    intro i from_ out hi hf ho
    obtain ⟨c, h1, h2, h3⟩ := drop_bt s (i := i) (by omega)
    have hw : wrap64 ((i : Int) + 1) = ((i + 1 : Nat) : Int) := by rw [w64 (by omega) (by omega)]; omega
    have e : ((from_ : Int)).toNat = from_ := by omega
    have e2 : ((i : Int)).toNat = i := by omega
    have hcb : ((c.toNat : Int) = (b.toNat : Int)) ↔ c = b := ⟨fun h => UInt8.toNat_inj.1 (by omega), fun h => by rw [h]⟩
    rw [h1, ahead_cons]
    by_cases hc : c = b
    · obtain ⟨L, hL1, hL2⟩ := ih (i + 1) (i + 1) (out ++ [s.extract from_ i]) (by omega) (by omega) (by simp; omega)
      refine ⟨s.extract from_ i :: L, ?_, ?_⟩
      · refine Ev.step ?_
        simp only [spec_Cut.l0]
        simp only [show (i : Int) < (s.size : Int) by omega, show (0 : Int) ≤ (i : Int) by omega, if_true, h2, hcb.2 hc, hw, e, e2, show (0 : Int) ≤ (from_ : Int) by omega, show (from_ : Int) ≤ (i : Int) by omega, show (i : Int) ≤ (s.size : Int) by omega, show out.length < 8796093022208 by omega]
        simpa using hL1
      · rw [if_pos hc, List.map_cons, hL2]
        congr 1
        have : (s.extract (i + 1) (i + 1)).data.toList = [] := by rw [extract_mid]; simp
        rw [this]
    · obtain ⟨L, hL1, hL2⟩ := ih (i + 1) from_ out (by omega) (by omega) (by omega)
      refine ⟨L, ?_, ?_⟩
      · refine Ev.step ?_
        simp only [spec_Cut.l0]
        simp only [show (i : Int) < (s.size : Int) by omega, show (0 : Int) ≤ (i : Int) by omega, if_true, h2, hw, show ¬ ((c.toNat : Int) = (b.toNat : Int)) from fun h => hc (hcb.1 h), if_false]
        exact hL1
      · rw [if_neg hc, hL2, extract_snoc s hf (by omega) h3]
theorem Cut_ev (s : ByteArray) (b : UInt8) (hs : s.size ≤ 1099511627776) : ∃ L : List ByteArray, Ev (fun k => spec_Cut.f k s (b.toNat : Int)) L ∧ L.map (fun x => x.data.toList) = cutL b s.data.toList := by
  obtain ⟨L, h1, h2⟩ := Cut_from s b hs s.size 0 0 [] (by omega) (Nat.le_refl _) (Nat.zero_le _)
  refine ⟨L, by rw [List.nil_append] at h1; exact h1, ?_⟩
  rw [h2, List.drop_zero]
  have : (s.extract 0 0).data.toList = [] := by rw [extract_mid]; simp
  rw [this, ahead_nil]

end Go.Proofs.YtpbebckhemnooaaFmt.PS
