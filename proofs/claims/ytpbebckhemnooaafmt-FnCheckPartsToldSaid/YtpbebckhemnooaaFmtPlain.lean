/- The plain law of elements and paths: what package spec tells against what package module asks; on lists of bytes, no program in sight, no condition. The plain law of elements and paths, second part; on lists of bytes, no program in sight, no condition. -/
import Derived.Test.YtpbebckhemnooaaFmtLists

namespace Go.Proofs.YtpbebckhemnooaaFmt.PS
open Go.RowKit
set_option linter.unusedVariables false
set_option linter.unusedSimpArgs false

theorem join_two {a b : Int} : joinI a b = 2 ↔ a = 2 ∨ b = 2 := by
  unfold joinI
  by_cases h : a = 2 ∨ b = 2
  · simp [h]
  · rw [if_neg h]
    constructor
    · intro h2; split at h2 <;> cases h2
    · intro h2; exact absurd h2 h
theorem join_one {a b : Int} (h : joinI a b = 1) : a ≠ 2 ∧ b ≠ 2 ∧ a ≠ 0 ∧ b ≠ 0 := by
  unfold joinI at h
  by_cases h1 : a = 2 ∨ b = 2
  · rw [if_pos h1] at h; cases h
  · rw [if_neg h1] at h
    by_cases h2 : a = 0 ∨ b = 0
    · rw [if_pos h2] at h; cases h
    · exact ⟨fun e => h1 (.inl e), fun e => h1 (.inr e), fun e => h2 (.inl e), fun e => h2 (.inr e)⟩
theorem join_zero {a : Int} : joinI a 0 ≠ 1 := fun h => (join_one h).2.2.2 rfl

/-! ### letters -/
set_option maxRecDepth 100000 in
theorem okC_mod_all : ∀ n : Fin 256, okC true true [45, 46, 95, 126] (n.val : Int) = modI (n.val : Int) := by decide
theorem okC_mod (c : UInt8) : okC true true (othersE false) (c.toNat : Int) = modI (c.toNat : Int) := okC_mod_all ⟨c.toNat, c.toNat_lt⟩
theorem all_mod (l : List UInt8) : allB true true (othersE false) l = true ↔ ∀ c ∈ l, modI (c.toNat : Int) = true := by
  simp only [allB, List.all_eq_true, okC_mod]
/-! ### names -/
theorem up_names : ∀ j, j < 22 → ∀ c ∈ namesL.getD j [], ¬ (97 ≤ c.toNat ∧ c.toNat ≤ 122) := by decide
theorem up_toNat (c : UInt8) : (up c).toNat = if 97 ≤ c.toNat ∧ c.toNat ≤ 122 then c.toNat - 32 else c.toNat := by
  unfold up
  have h := c.toNat_lt
  have e1 : (97 ≤ c ∧ c ≤ 122) ↔ (97 ≤ c.toNat ∧ c.toNat ≤ 122) := Iff.rfl
  by_cases h1 : 97 ≤ c.toNat ∧ c.toNat ≤ 122
  · rw [if_pos (e1.2 h1), if_pos h1]
    have : (32 : UInt8) ≤ c := by
      show (32 : UInt8).toNat ≤ c.toNat
      have : (32 : UInt8).toNat = 32 := rfl
      omega
    rw [UInt8.toNat_sub_of_le _ _ this]
    rfl
  · rw [if_neg (fun h => h1 (e1.1 h)), if_neg h1]
theorem fold_up : ∀ {n l : List UInt8}, (∀ c ∈ n, ¬ (97 ≤ c.toNat ∧ c.toNat ≤ 122)) → (Lib.equalFold n l = true ↔ l.map up = n)
  | [], [], _ => by simp [Lib.equalFold]
  | [], _ :: _, _ => by simp [Lib.equalFold]
  | _ :: _, [], _ => by simp [Lib.equalFold]
  | x :: n, y :: l, h => by
    have ih := fold_up (n := n) (l := l) fun c hc => h c (List.mem_cons_of_mem _ hc)
    have hx := h x List.mem_cons_self
    have e : Lib.foldEq x y = true ↔ up y = x := by
      rw [← UInt8.toNat_inj, up_toNat]
      unfold Lib.foldEq
      rw [decide_eq_true_eq]
      split <;> omega
    simp only [Lib.equalFold, Bool.and_eq_true, ih, e, List.map_cons, List.cons.injEq]
theorem badN_iff (l : List UInt8) : badN l ↔ ∃ j, j < 22 ∧ l.map up = namesL.getD j [] := by
  unfold badN
  constructor
  · rintro ⟨j, hj, h⟩; exact ⟨j, hj, (fold_up (up_names j hj)).1 h⟩
  · rintro ⟨j, hj, h⟩; exact ⟨j, hj, (fold_up (up_names j hj)).2 h⟩

def resD (l : List UInt8) : Int :=
  if l = [67, 79, 78, 73, 78, 36] then 0 else if l = [67, 79, 78, 79, 85, 84, 36] then 0
  else if 0 < l.length ∧ lb l (l.length - 1) = 32 then 0
  else if l = [67, 79, 78] then 2 else if l = [80, 82, 78] then 2 else if l = [65, 85, 88] then 2 else if l = [78, 85, 76] then 2
  else if l.length = 4 ∧ (l.take 3 = [67, 79, 77] ∨ l.take 3 = [76, 80, 84]) then
    (if 49 ≤ lb l 3 ∧ lb l 3 ≤ 57 then 2 else if lb l 3 = 48 then 0 else 1)
  else 1
theorem resB_eq (g : ByteArray) : resB g = resD g.data.toList := by
  unfold resB resD
  rw [Lib.toList_data, Lib.toList_data, extract_take, len_size]
  rfl
theorem res_names : ∀ j, j < 22 → resD (namesL.getD j []) = 2 := by decide
theorem four_of {l : List UInt8} (h : l.length = 4) : ∃ a b c d, l = [a, b, c, d] := by
  match l, h with
  | [a, b, c, d], _ => exact ⟨a, b, c, d, rfl⟩
theorem names_com : ∀ n, 49 ≤ n → n ≤ 57 → [67, 79, 77, UInt8.ofNat n] = namesL.getD (n - 45) [] ∧ [76, 80, 84, UInt8.ofNat n] = namesL.getD (n - 36) [] := by
  intro n h1 h2
  have : n = 49 ∨ n = 50 ∨ n = 51 ∨ n = 52 ∨ n = 53 ∨ n = 54 ∨ n = 55 ∨ n = 56 ∨ n = 57 := by omega
  rcases this with h | h | h | h | h | h | h | h | h <;> subst h <;> decide
theorem resD_two {l : List UInt8} (h : resD l = 2) : ∃ j, j < 22 ∧ l = namesL.getD j [] := by
  unfold resD at h
  by_cases c1 : l = [67, 79, 78, 73, 78, 36]
  · rw [if_pos c1] at h; cases h
  rw [if_neg c1] at h
  by_cases c2 : l = [67, 79, 78, 79, 85, 84, 36]
  · rw [if_pos c2] at h; cases h
  rw [if_neg c2] at h
  by_cases c3 : 0 < l.length ∧ lb l (l.length - 1) = 32
  · rw [if_pos c3] at h; cases h
  rw [if_neg c3] at h
  by_cases c4 : l = [67, 79, 78]
  · exact ⟨0, by decide, c4⟩
  by_cases c5 : l = [80, 82, 78]
  · exact ⟨1, by decide, c5⟩
  by_cases c6 : l = [65, 85, 88]
  · exact ⟨2, by decide, c6⟩
  by_cases c7 : l = [78, 85, 76]
  · exact ⟨3, by decide, c7⟩
  rw [if_neg c4, if_neg c5, if_neg c6, if_neg c7] at h
  by_cases c8 : l.length = 4 ∧ (l.take 3 = [67, 79, 77] ∨ l.take 3 = [76, 80, 84])
  · rw [if_pos c8] at h
    by_cases c9 : 49 ≤ lb l 3 ∧ lb l 3 ≤ 57
    · obtain ⟨h4, h5⟩ := c8
      obtain ⟨a, b, c, d, rfl⟩ := four_of h4
      have e : lb [a, b, c, d] 3 = (d.toNat : Int) := rfl
      rw [e] at c9
      have hd : d = UInt8.ofNat d.toNat := by simp
      obtain ⟨n1, n2⟩ := names_com d.toNat (by omega) (by omega)
      rw [← hd] at n1 n2
      rcases h5 with h5 | h5 <;> simp at h5 <;> obtain ⟨rfl, rfl, rfl⟩ := h5
      · exact ⟨d.toNat - 45, by omega, n1⟩
      · exact ⟨d.toNat - 36, by omega, n2⟩
    · rw [if_neg c9] at h
      split at h <;> cases h
  · rw [if_neg c8] at h; cases h
theorem res_two {l : List UInt8} (h : resL l = 2) : badN (shortL l) := by
  rw [badN_iff]
  unfold resL at h
  rw [resB_eq] at h
  obtain ⟨j, hj, h2⟩ := resD_two h
  exact ⟨j, hj, by simpa using h2⟩
theorem res_one {l : List UInt8} (h : resL l = 1) : ¬ badN (shortL l) := by
  rw [badN_iff]
  rintro ⟨j, hj, h2⟩
  unfold resL at h
  rw [resB_eq, h2, res_names j hj] at h
  cases h

end Go.Proofs.YtpbebckhemnooaaFmt.PS

namespace Go.Proofs.YtpbebckhemnooaaFmt.PS
open Go.RowKit
set_option linter.unusedVariables false
set_option linter.unusedSimpArgs false

/-! ### tilde and figures -/
theorem split_last (b : UInt8) : ∀ l : List UInt8, (∀ c ∈ l, c ≠ b) ∨ ∃ p q, l = p ++ b :: q ∧ ∀ c ∈ q, c ≠ b
  | [] => .inl fun c h => by simp at h
  | x :: l => by
    rcases split_last b l with h | ⟨p, q, rfl, h⟩
    · by_cases hx : x = b
      · subst hx; exact .inr ⟨[], l, rfl, h⟩
      · exact .inl fun c hc => by
          rcases List.mem_cons.1 hc with rfl | hc
          · exact hx
          · exact h c hc
    · exact .inr ⟨x :: p, q, rfl, h⟩
theorem cut_split {b : UInt8} : ∀ {p q : List UInt8}, (∀ c ∈ q, c ≠ b) → cutL b (p ++ b :: q) = cutL b p ++ [q]
  | [], q, h => by simp [cutL, cut_none h]
  | x :: p, q, h => by
    have ih := cut_split (p := p) h
    rw [List.cons_append, cut_step, ih]
    by_cases hx : x = b
    · subst hx; simp [cutL]
    · rw [if_neg hx, cut_step, if_neg hx, cut_eq b p]
      simp
theorem lastI_none {c : Int} : ∀ {l : List UInt8}, (∀ x ∈ l, (x.toNat : Int) ≠ c) → lastI c l = -1
  | [], _ => rfl
  | x :: l, h => by
    have ih := lastI_none (l := l) fun y hy => h y (List.mem_cons_of_mem _ hy)
    unfold lastI
    rw [ih, if_neg (by decide), if_neg (h x List.mem_cons_self)]
theorem lastI_split {b : UInt8} : ∀ {p q : List UInt8}, (∀ c ∈ q, c ≠ b) → lastI (b.toNat : Int) (p ++ b :: q) = p.length
  | [], q, h => by
    have := lastI_none (c := (b.toNat : Int)) (l := q) fun y hy e => h y hy (UInt8.toNat_inj.1 (by omega))
    show lastI _ (b :: q) = _
    unfold lastI
    rw [this, if_neg (by decide), if_pos rfl]
    rfl
  | x :: p, q, h => by
    have ih := lastI_split (p := p) h
    rw [List.cons_append]
    unfold lastI
    rw [ih, if_pos (by omega), List.length_cons]
    omega
theorem dig_ok (c : UInt8) : okC false false [] (c.toNat : Int) = true ↔ digC c := by
  unfold digC
  simp only [okC, hasB, List.any_nil, Bool.false_and, Bool.false_or, Bool.or_false, Bool.and_eq_true, decide_eq_true_eq]
  omega
theorem digits_iff (l : List UInt8) : digitsB l = true ↔ l ≠ [] ∧ ∀ c ∈ l, digC c := by
  simp only [digitsB, Bool.and_eq_true, decide_eq_true_eq, allB, List.all_eq_true, dig_ok, List.length_pos_iff]
theorem tilde_iff (l : List UInt8) : tildeBad l ↔ shortB l = true := by
  rcases split_last 126 l with h | ⟨p, q, rfl, h⟩
  · have e := lastI_none (c := 126) (l := l) fun x hx e => h x hx ((byte_eq x 126 (by decide)).1 e)
    have e2 := cut_none h
    unfold tildeBad shortB
    rw [e, e2]
    simp
  · have e : lastI 126 (p ++ 126 :: q) = p.length := lastI_split h
    have e2 := cut_split (p := p) h
    have c2 := (cut_len_le 126 p).2
    have e3 : lastD (cutL 126 p ++ [q]) = q := by
      unfold lastD
      rw [List.length_append, List.getD_eq_getElem?_getD, List.getElem?_append_right (by simp)]
      simp
    unfold tildeBad shortB
    rw [e, e2, e3, Bool.and_eq_true, decide_eq_true_eq, digits_iff, List.length_append, List.length_append, List.length_cons]
    have e4 : (p ++ 126 :: q).drop (((p.length : Int)).toNat + 1) = q := by
      have : ((p.length : Int)).toNat = p.length := by omega
      rw [this]
      simp
    rw [e4]
    constructor
    · rintro ⟨_, h2, h3⟩
      refine ⟨by simp; omega, ?_, h3⟩
      intro hq
      subst hq
      simp at h2
    · rintro ⟨_, h2, h3⟩
      have : 0 < q.length := List.length_pos_iff.2 h2
      exact ⟨by omega, by omega, h3⟩
theorem pair_cons {P : UInt8 → UInt8 → Bool} (a : UInt8) : ∀ {l : List UInt8}, pairB P l = true → pairB P (a :: l) = true
  | [], h => by simp [pairB] at h
  | [_], h => by simp [pairB] at h
  | x :: y :: l, h => by simp only [pairB, Bool.or_eq_true] at h ⊢; exact .inr h
theorem pair_ahead {P : UInt8 → UInt8 → Bool} : ∀ (p : List UInt8) {l : List UInt8}, pairB P l = true → pairB P (p ++ l) = true
  | [], _, h => h
  | a :: p, l, h => pair_cons a (pair_ahead p h)
theorem pair_behind {P : UInt8 → UInt8 → Bool} : ∀ {l : List UInt8} (r : List UInt8), pairB P l = true → pairB P (l ++ r) = true
  | [], _, h => by simp [pairB] at h
  | [_], _, h => by simp [pairB] at h
  | x :: y :: l, r, h => by
    simp only [pairB, Bool.or_eq_true] at h
    have e : x :: y :: l ++ r = x :: y :: (l ++ r) := rfl
    rw [e]
    simp only [pairB, Bool.or_eq_true]
    rcases h with h | h
    · exact .inl h
    · exact .inr (pair_behind (l := y :: l) r h)
theorem num_of_short {l : List UInt8} (h : shortB l = true) : numB l = true := by
  rcases split_last 126 l with h1 | ⟨p, q, rfl, h1⟩
  · unfold shortB at h
    rw [cut_none h1] at h
    simp at h
  · have e2 := cut_split (p := p) h1
    have e3 : lastD (cutL 126 p ++ [q]) = q := by
      unfold lastD
      rw [List.length_append, List.getD_eq_getElem?_getD, List.getElem?_append_right (by simp)]
      simp
    unfold shortB at h
    rw [e2, e3, Bool.and_eq_true, digits_iff] at h
    obtain ⟨-, h2, h3⟩ := h
    cases q with
    | nil => exact absurd rfl h2
    | cons c q =>
      apply pair_ahead
      unfold pairB numP
      rw [show digitsB [c] = true from (digits_iff [c]).2 ⟨by simp, fun d hd => by rw [List.mem_singleton.1 hd]; exact h3 c List.mem_cons_self⟩]
      rfl
theorem hasB_iff (l : List UInt8) (n : Nat) (hn : n < 256) : hasB l (n : Int) = true ↔ UInt8.ofNat n ∈ l := by
  simp only [hasB, List.any_eq_true, decide_eq_true_eq]
  constructor
  · rintro ⟨c, hc, h⟩
    rw [← (byte_eq c n hn).1 h]; exact hc
  · intro h
    exact ⟨_, h, (byte_eq _ n hn).2 rfl⟩
theorem tw_all : ∀ {l : List UInt8}, (∀ c ∈ l, c ≠ 46) → l.takeWhile (· != 46) = l
  | [], _ => rfl
  | x :: l, h => by
    have hx : (x != 46) = true := by simpa using h x List.mem_cons_self
    rw [List.takeWhile_cons, if_pos hx, tw_all fun c hc => h c (List.mem_cons_of_mem _ hc)]
theorem short_all {l : List UInt8} (h : hasB l 46 = false) : shortL l = l := by
  unfold shortL
  have h2 : ¬ (46 : UInt8) ∈ l := fun h3 => by
    have := (hasB_iff l 46 (by decide)).2 h3
    have h' : hasB l 46 = true := this
    rw [h] at h'
    cases h'
  exact tw_all fun c hc e => h2 (e ▸ hc)
theorem num_short {l : List UInt8} (h : numB (shortL l) = true) : numB l = true := by
  have e := List.takeWhile_append_dropWhile (p := (· != (46 : UInt8))) (l := l)
  have : numB (shortL l ++ l.dropWhile (· != 46)) = true := pair_behind _ h
  unfold shortL at this
  rw [e] at this
  exact this

/-! ### elements -/
theorem not_dots {l : List UInt8} (h0 : l ≠ []) (h : lb l (l.length - 1) ≠ 46) : dots l ≠ l.length := by
  intro e
  unfold dots at e
  rw [List.length_filter_eq_length_iff] at e
  apply h
  have hl : 0 < l.length := List.length_pos_iff.2 h0
  have := e (l[l.length - 1]'(by omega)) (List.getElem_mem _)
  simp at this
  unfold lb
  rw [List.getD_eq_getElem?_getD, List.getElem?_eq_getElem (by omega)]
  simp [this]
theorem elem_fine_imp {l : List UInt8} (h : elemI false l = 1) : asc l ∧ ElemOK 1 l ∧ (¬ lb l 0 = 46 → ElemOK 0 l) := by
  unfold elemI at h
  by_cases c1 : l = [] ∨ lb l (l.length - 1) = 46 ∨ (allB true true (othersE false) l = false ∧ ascB l = true)
  · rw [if_pos c1] at h; cases h
  rw [if_neg c1] at h
  obtain ⟨n1, c1⟩ := not_or.1 c1
  obtain ⟨n2, n3⟩ := not_or.1 c1
  unfold elem2I at h
  by_cases c2 : false = false ∧ hasB l 46 = true ∧ numB l = true
  · rw [if_pos c2] at h; exact absurd h join_zero
  rw [if_neg c2] at h
  by_cases c3 : shortB l = true
  · rw [if_pos c3] at h; cases h
  rw [if_neg c3] at h
  by_cases c4 : ascB l = false ∧ false = false
  · rw [if_pos c4] at h; cases h
  rw [if_neg c4] at h
  have ha : ascB l = true := by cases hh : ascB l <;> simp_all
  have hal : allB true true (othersE false) l = true := by cases hh : allB true true (othersE false) l <;> simp_all
  have hr : resL l = 1 := by
    unfold elem3I at h
    split at h
    · exact absurd h join_zero
    · split at h
      · exact absurd h join_zero
      · exact h
  have hasc := (ascB_iff l).1 ha
  have hm := (all_mod l).1 hal
  have hb := res_one hr
  have ht : ¬ tildeBad (shortL l) := by
    intro h2
    have h3 := (tilde_iff _).1 h2
    cases hd : hasB l 46 with
    | false => rw [short_all hd] at h3; exact c3 h3
    | true => exact c2 ⟨rfl, hd, num_short (num_of_short h3)⟩
  exact ⟨hasc, ⟨n1, not_dots n1 n2, fun h => absurd h.2 (by decide), n2, fun c hc => by simp [charI, hm c hc], hb, .inr ht⟩,
    fun h0 => ⟨n1, not_dots n1 n2, fun h => h0 h.1, n2, fun c hc => by simp [charI, hm c hc], hb, .inr ht⟩⟩
theorem elem_wrong_imp {l : List UInt8} (h : elemI false l = 2) (ha : asc l) : ¬ ElemOK 0 l ∧ (hasB l 43 = false → ¬ ElemOK 1 l) := by
  have key : ∀ K : Int, K ≠ 2 → ((∀ c ∈ l, charI K (c.toNat : Int) = true) → ∀ c ∈ l, modI (c.toNat : Int) = true) → ¬ ElemOK K l := by
    rintro K hK hm ⟨m1, m2, m3, m4, m5, m6, m7⟩
    have m7 : ¬ tildeBad (shortL l) := m7.elim (fun h => absurd h hK) id
    have hal := (all_mod l).2 (hm m5)
    unfold elemI at h
    rw [if_neg (fun c => by
      rcases c with c | c | c
      · exact m1 c
      · exact m4 c
      · rw [hal] at c; cases c.1)] at h
    unfold elem2I at h
    have hres : resL l ≠ 2 := fun h2 => m6 (res_two h2)
    by_cases c2 : false = false ∧ hasB l 46 = true ∧ numB l = true
    · rw [if_pos c2, join_two] at h
      exact h.elim hres (by decide)
    rw [if_neg c2] at h
    by_cases c3 : shortB l = true
    · have hd : hasB l 46 = false := by
        cases hd : hasB l 46 with
        | false => rfl
        | true => exact absurd ⟨rfl, hd, num_of_short c3⟩ c2
      rw [short_all hd] at m7
      exact m7 ((tilde_iff l).2 c3)
    rw [if_neg c3] at h
    rw [if_neg (fun c => by rw [(ascB_iff l).2 ha] at c; cases c.1)] at h
    unfold elem3I at h
    split at h
    · rw [join_two] at h; exact h.elim hres (by decide)
    · split at h
      · rw [join_two] at h; exact h.elim hres (by decide)
      · exact hres h
  refine ⟨key 0 (by decide) fun hc c hm => by have := hc c hm; simpa [charI] using this, fun hp => key 1 (by decide) fun hc c hm => ?_⟩
  have h1 := hc c hm
  simp only [charI, show ¬ ((1 : Int) = 0) by decide, if_false, if_true, Bool.or_eq_true, beq_iff_eq] at h1
  rcases h1 with h1 | h1
  · exact h1
  · have h2 : hasB l 43 = true := (hasB_iff l 43 (by decide)).2 (by rw [← (byte_eq c 43 (by decide)).1 h1]; exact hm)
    rw [hp] at h2; cases h2
/-! ### paths -/
theorem fold_two {file : Bool} : ∀ {M : List (List UInt8)} {st : Int}, foldI file st M = 2 → st = 2 ∨ ∃ e ∈ M, elemI file e = 2
  | [], st, h => .inl h
  | e :: M, st, h => by
    rcases fold_two (M := M) h with h | ⟨x, hx, h⟩
    · rcases join_two.1 h with h | h
      · exact .inl h
      · exact .inr ⟨e, List.mem_cons_self, h⟩
    · exact .inr ⟨x, List.mem_cons_of_mem _ hx, h⟩
theorem elemI_range (file : Bool) (l : List UInt8) (h2 : elemI file l ≠ 2) (h0 : elemI file l ≠ 0) : elemI file l = 1 := by
  have hj : ∀ a : Int, (a = 0 ∨ a = 1 ∨ a = 2) → joinI a 0 = 0 ∨ joinI a 0 = 1 ∨ joinI a 0 = 2 := by
    intro a ha
    unfold joinI
    split
    · exact .inr (.inr rfl)
    · split
      · exact .inl rfl
      · exact .inr (.inl rfl)
  have hr : resL l = 0 ∨ resL l = 1 ∨ resL l = 2 := by
    unfold resL
    rw [resB_eq]
    unfold resD
    repeat' split
    all_goals simp
  have : elemI file l = 0 ∨ elemI file l = 1 ∨ elemI file l = 2 := by
    unfold elemI elem2I elem3I
    repeat' split
    all_goals first | exact hj _ hr | exact hr | exact .inr (.inr rfl)
  rcases this with h | h | h
  · exact absurd h h0
  · exact h
  · exact absurd h h2
theorem joinI_range (a b : Int) : joinI a b = 0 ∨ joinI a b = 1 ∨ joinI a b = 2 := by
  unfold joinI
  repeat' split
  all_goals simp
theorem fold_one {file : Bool} : ∀ {M : List (List UInt8)} {st : Int}, (st = 0 ∨ st = 1 ∨ st = 2) → foldI file st M = 1 → st = 1 ∧ ∀ e ∈ M, elemI file e = 1
  | [], st, hst, h => ⟨h, fun e he => by simp at he⟩
  | e :: M, st, hst, h => by
    obtain ⟨h1, h2⟩ := fold_one (M := M) (joinI_range _ _) h
    obtain ⟨a, b, c, d⟩ := join_one h1
    have hs : st = 1 := by
      rcases hst with h | h | h
      · exact absurd h c
      · exact h
      · exact absurd h a
    exact ⟨hs, fun x hx => by
      rcases List.mem_cons.1 hx with rfl | hx
      · exact elemI_range file _ b d
      · exact h2 x hx⟩
theorem path_two {file : Bool} {l : List UInt8} (h : pathI file l = 2) : ∃ e ∈ cutL 47 l, elemI file e = 2 := by
  have h1 : foldI file 1 (cutL 47 l) = 2 := by
    unfold pathI at h
    split at h
    · rw [join_two] at h; exact h.elim id fun h => by cases h
    · exact h
  rcases fold_two h1 with h1 | h1
  · cases h1
  · exact h1
theorem path_one {file : Bool} {l : List UInt8} (h : pathI file l = 1) : l ≠ [] ∧ lb l 0 ≠ 45 ∧ ∀ e ∈ cutL 47 l, elemI file e = 1 := by
  unfold pathI at h
  by_cases c : l ≠ [] ∧ lb l 0 = 45
  · rw [if_pos c] at h; exact absurd h join_zero
  rw [if_neg c] at h
  have h2 := (fold_one (.inr (.inl rfl)) h).2
  have h0 : l ≠ [] := by
    rintro rfl
    have := h2 [] (by simp [cutL])
    unfold elemI at this
    rw [if_pos (.inl rfl)] at this
    cases this
  exact ⟨h0, fun e => c ⟨h0, e⟩, h2⟩

end Go.Proofs.YtpbebckhemnooaaFmt.PS
