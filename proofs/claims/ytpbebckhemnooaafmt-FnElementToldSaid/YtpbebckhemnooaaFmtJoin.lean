/- Paths with a stroke and an element more, numbers, names: plain laws on lists of bytes; no program in sight, no condition. -/
import Derived.Test.YtpbebckhemnooaaFmtPlainB
namespace Go.Proofs.YtpbebckhemnooaaFmt.PS
open Go.RowKit
set_option linter.unusedVariables false
set_option linter.unusedSimpArgs false

theorem cut_join (b : UInt8) : ∀ p q : List UInt8, cutL b (p ++ b :: q) = cutL b p ++ cutL b q
  | [], q => by simp [cutL]
  | c :: p, q => by
    have ih := cut_join b p q
    by_cases hc : c = b
    · subst hc
      simp [cutL, ih]
    · have e1 : cutL b (c :: p ++ b :: q) = (c :: (cutL b (p ++ b :: q)).headD []) :: (cutL b (p ++ b :: q)).tail := by simp [cutL, hc]
      have e2 : cutL b (c :: p) = (c :: (cutL b p).headD []) :: (cutL b p).tail := by simp [cutL, hc]
      rw [e1, e2, ih, cut_eq b p]
      simp
theorem lb_app {p : List UInt8} (q : List UInt8) (h : p ≠ []) : lb (p ++ q) 0 = lb p 0 := by
  cases p with
  | nil => exact absurd rfl h
  | cons c p => rfl
theorem path_join {K : Int} {p q : List UInt8} : PathOK K (p ++ 47 :: q) ↔ PathOK K p ∧ ∀ e ∈ cutL 47 q, ElemOK K e := by
  constructor
  · rintro ⟨h0, h1, h2⟩
    rw [cut_join] at h2
    have hp : p ≠ [] := fun e => by
      subst e
      exact (h2 [] (by simp [cutL])).1 rfl
    rw [lb_app _ hp] at h1
    exact ⟨⟨hp, h1, fun e he => h2 e (List.mem_append_left _ he)⟩, fun e he => h2 e (List.mem_append_right _ he)⟩
  · rintro ⟨⟨h0, h1, h2⟩, h3⟩
    refine ⟨by simp [h0], by rw [lb_app _ h0]; exact h1, fun e he => ?_⟩
    rw [cut_join] at he
    rcases List.mem_append.1 he with he | he
    · exact h2 e he
    · exact h3 e he
theorem first_join : ∀ p q : List UInt8, firstL (p ++ 47 :: q) = firstL p
  | [], q => by simp [firstL]
  | c :: p, q => by
    have ih := first_join p q
    unfold firstL at ih ⊢
    rw [List.cons_append, List.takeWhile_cons, List.takeWhile_cons, ih]
theorem asc_app {p q : List UInt8} (hp : asc p) (hq : asc q) : asc (p ++ q) := fun c hc => (List.mem_append.1 hc).elim (hp c) (hq c)
theorem asc_cons {c : UInt8} {q : List UInt8} (hc : c.toNat < 128) (hq : asc q) : asc (c :: q) := fun d hd => by
  rcases List.mem_cons.1 hd with rfl | hd
  · exact hc
  · exact hq d hd
theorem asc_left {p q : List UInt8} (h : asc (p ++ q)) : asc p := fun c hc => h c (List.mem_append_left _ hc)
theorem mod_join {p q : List UInt8} : ModOK (p ++ 47 :: q) ↔ PathOK 0 p ∧ (∀ e ∈ cutL 47 q, ElemOK 0 e) ∧ (idxL [46] (firstL p)).isSome = true ∧ (∀ c ∈ firstL p, firstI (c.toNat : Int) = true) ∧ (spvI (p ++ 47 :: q)).2.2 = true := by
  unfold ModOK
  rw [path_join, first_join, and_assoc]

/-! ### elements -/
theorem lb_mem {l : List UInt8} {n : Nat} (h : n < l.length) : ∃ c ∈ l, lb l n = (c.toNat : Int) := by
  refine ⟨l[n], List.getElem_mem h, ?_⟩
  unfold lb
  rw [List.getD_eq_getElem?_getD, List.getElem?_eq_getElem h]
  rfl
theorem nat46 {c : UInt8} : (c.toNat : Int) = 46 ↔ c = 46 := by
  rw [← UInt8.toNat_inj]
  have : (46 : UInt8).toNat = 46 := rfl
  omega
set_option maxRecDepth 100000 in
theorem mod_file_all : ∀ n : Fin 256, (modI (n.val : Int) || (n.val : Int) == 43) = true → fileOK (n.val : Int) = true := by decide
theorem mod_file (c : UInt8) (h : (modI (c.toNat : Int) || (c.toNat : Int) == 43) = true) : fileOK (c.toNat : Int) = true := mod_file_all ⟨c.toNat, c.toNat_lt⟩ h
theorem elem_simple {K : Int} (hK : K = 0 ∨ K = 1 ∨ K = 2) {e : List UInt8} (h0 : e ≠ []) (h : ∀ c ∈ e, modI (c.toNat : Int) = true ∧ c ≠ 46) (hb : ¬ badN e) (ht : K = 2 ∨ ¬ tildeBad e) : ElemOK K e := by
  have hs : shortL e = e := tw_all fun c hc => (h c hc).2
  have hl : 0 < e.length := List.length_pos_iff.2 h0
  have hno : ∀ n, n < e.length → lb e n ≠ 46 := fun n hn he => by
    obtain ⟨c, hc, h2⟩ := lb_mem hn
    rw [h2] at he
    exact (h c hc).2 (nat46.1 he)
  refine ⟨h0, ?_, fun h2 => hno 0 hl h2.1, hno _ (by omega), fun c hc => ?_, by rw [hs]; exact hb, by rw [hs]; exact ht⟩
  · exact not_dots h0 (hno _ (by omega))
  · rcases hK with rfl | rfl | rfl
    · exact (h c hc).1
    · show (modI (c.toNat : Int) || (c.toNat : Int) == 43) = true
      rw [(h c hc).1]; rfl
    · exact mod_file c (by rw [(h c hc).1]; rfl)
theorem elem_01 {l : List UInt8} (h : ElemOK 0 l) : ElemOK 1 l := by
  obtain ⟨h1, h2, h3, h4, h5, h6, h7⟩ := h
  refine ⟨h1, h2, fun e => absurd e.2 (by decide), h4, fun c hc => ?_, h6, .inr (h7.elim (fun e => absurd e (by decide)) id)⟩
  show (modI (c.toNat : Int) || (c.toNat : Int) == 43) = true
  have : modI (c.toNat : Int) = true := h5 c hc
  rw [this]; rfl
theorem elem_12 {l : List UInt8} (h : ElemOK 1 l) : ElemOK 2 l := by
  obtain ⟨h1, h2, h3, h4, h5, h6, h7⟩ := h
  exact ⟨h1, h2, fun e => absurd e.2 (by decide), h4, fun c hc => mod_file c (h5 c hc), h6, .inl rfl⟩
theorem path_01 {l : List UInt8} (h : PathOK 0 l) : PathOK 1 l := ⟨h.1, fun e => h.2.1 ⟨e.1, by decide⟩, fun e he => elem_01 (h.2.2 e he)⟩
theorem path_12 {l : List UInt8} (h : PathOK 1 l) : PathOK 2 l := ⟨h.1, fun e => e.2 rfl, fun e he => elem_12 (h.2.2 e he)⟩

/-! ### numbers -/
def numL (n : Nat) : List UInt8 := if n < 10 then [UInt8.ofNat (48 + n)] else numL (n / 10) ++ [UInt8.ofNat (48 + n % 10)]
termination_by n
decreasing_by omega
theorem num_small {n : Nat} (h : n < 10) : numL n = [UInt8.ofNat (48 + n)] := by
  rw [numL, if_pos h]
theorem num_great {n : Nat} (h : ¬ n < 10) : numL n = numL (n / 10) ++ numL (n % 10) := by
  rw [numL, if_neg h, num_small (n := n % 10) (by omega)]
theorem dig_nat {n : Nat} (h : n < 10) : (UInt8.ofNat (48 + n)).toNat = 48 + n := by
  rw [UInt8.toNat_ofNat']
  omega
theorem num_dig : ∀ (n : Nat), ∀ c ∈ numL n, digC c := by
  intro n
  induction n using Nat.strongRecOn with
  | ind n ih =>
    by_cases h : n < 10
    · rw [num_small h]
      intro c hc
      rw [List.mem_singleton.1 hc, digC, dig_nat h]
      omega
    · rw [num_great h]
      intro c hc
      rcases List.mem_append.1 hc with hc | hc
      · exact ih (n / 10) (by omega) c hc
      · exact ih (n % 10) (by omega) c hc
theorem num_ne (n : Nat) : numL n ≠ [] := by
  by_cases h : n < 10
  · rw [num_small h]; simp
  · rw [numL, if_neg h]; simp
theorem num_head : ∀ (n : Nat), 1 ≤ n → ∃ c r, numL n = c :: r ∧ c.toNat ≠ 48 := by
  intro n
  induction n using Nat.strongRecOn with
  | ind n ih =>
    intro h1
    by_cases h : n < 10
    · exact ⟨_, _, num_small h, by rw [dig_nat h]; omega⟩
    · obtain ⟨c, r, e, h2⟩ := ih (n / 10) (by omega) (by omega)
      exact ⟨c, r ++ numL (n % 10), by rw [num_great h, e]; rfl, h2⟩
theorem num_one {n : Nat} (h : numL n = [49]) : n = 1 := by
  by_cases hn : n < 10
  · rw [num_small hn] at h
    have e := congrArg UInt8.toNat (List.cons.inj h).1
    rw [dig_nat hn] at e
    have : (49 : UInt8).toNat = 49 := rfl
    omega
  · rw [numL, if_neg hn] at h
    have e := congrArg List.length h
    have := List.length_pos_iff.2 (num_ne (n / 10))
    simp at e
    exact absurd e (num_ne (n / 10))
theorem num_len : ∀ (n : Nat), (numL n).length ≤ n + 1 := by
  intro n
  induction n using Nat.strongRecOn with
  | ind n ih =>
    by_cases h : n < 10
    · rw [num_small h]; simp
    · have := ih (n / 10) (by omega)
      rw [numL, if_neg h, List.length_append]
      simp
      omega
set_option maxRecDepth 100000 in
theorem digC_mod_all : ∀ n : Fin 256, 48 ≤ n.val ∧ n.val ≤ 57 → modI (n.val : Int) = true := by decide
theorem digC_mod {c : UInt8} (h : digC c) : modI (c.toNat : Int) = true ∧ c ≠ 46 := ⟨digC_mod_all ⟨c.toNat, c.toNat_lt⟩ h, (digC_no h).2.1⟩
theorem digC_asc {c : UInt8} (h : digC c) : c.toNat < 128 := by unfold digC at h; omega

/-! ### what ends with /v and a number -/
theorem not_gopkg {p q : List UInt8} (h1 : p.take 9 ≠ gopkgL) (h2 : p ≠ [103, 111, 112, 107, 103, 46, 105, 110]) : (p ++ 47 :: q).take 9 ≠ gopkgL := by
  intro h
  have hg : ∀ j, j < 8 → gopkgL[j]? ≠ some 47 := by decide
  by_cases c1 : p.length < 8
  · refine hg p.length c1 ?_
    rw [← h, List.getElem?_take_of_lt (by omega), List.getElem?_append_right (Nat.le_refl _), Nat.sub_self]
    rfl
  · by_cases c2 : p.length = 8
    · apply h2
      have e : (p ++ 47 :: q).take 8 = gopkgL.take 8 := by rw [← h, List.take_take]; rfl
      rw [List.take_append_of_le_length (by omega), List.take_of_length_le (by omega)] at e
      exact e
    · rw [List.take_append_of_le_length (by omega)] at h
      exact h1 h
theorem dig_dd {c : UInt8} (h : digC c) : ddB2 c = true := by
  unfold ddB2
  rw [(dg_ok c).2 h]
  rfl
theorem spv_v {p ds : List UInt8} (h9 : (p ++ 47 :: 118 :: ds).take 9 ≠ gopkgL) (h0 : ds ≠ []) (hd : ds.all ddB2 = true) :
    (spvI (p ++ 47 :: 118 :: ds)).2.2 = true ↔ ¬ (hasB ds 46 = true ∨ lb ds 0 = 48 ∨ ds = [49]) := by
  have e1 : p ++ 47 :: 118 :: ds = (p ++ [47, 118]) ++ ds := by simp
  have hi : endI ddB2 (p ++ 47 :: 118 :: ds) = p.length + 2 := by
    rw [e1, endI_eq ddB2 (p ++ [47, 118]) ds hd (.inr ⟨p ++ [47], 118, by simp, by decide⟩)]
    simp
  have hl : 0 < ds.length := List.length_pos_iff.2 h0
  have l1 : lb (p ++ 47 :: 118 :: ds) (p.length + 2 - 1) = 118 := by
    rw [show p.length + 2 - 1 = p.length + 1 by omega]
    unfold lb
    simp [List.getD_eq_getElem?_getD, List.getElem?_append_right]
  have l2 : lb (p ++ 47 :: 118 :: ds) (p.length + 2 - 2) = 47 := by
    rw [show p.length + 2 - 2 = p.length by omega]
    unfold lb
    simp [List.getD_eq_getElem?_getD, List.getElem?_append_right]
  have d1 : (p ++ 47 :: 118 :: ds).drop (p.length + 2) = ds := by rw [e1, List.drop_left' (by simp)]
  have d2 : (p ++ 47 :: 118 :: ds).drop (p.length + 2 - 2) = 47 :: 118 :: ds := by rw [show p.length + 2 - 2 = p.length by omega, List.drop_left' rfl]
  have d3 : lb (47 :: 118 :: ds) 2 = lb ds 0 := by cases ds <;> rfl
  unfold spvI
  rw [if_neg h9]
  simp only [hi, l1, l2, d1, d2, d3]
  rw [if_neg (by
    have : (p ++ 47 :: 118 :: ds).length = p.length + 2 + ds.length := by simp; omega
    rw [this]
    rintro (h | h | h | h)
    · omega
    · omega
    · exact h rfl
    · exact h rfl)]
  by_cases c : hasB ds 46 = true ∨ lb ds 0 = 48 ∨ ds = [49]
  · rw [if_pos (by
      rcases c with c | c | c
      · exact .inl c
      · exact .inr (.inr (.inl c))
      · exact .inr (.inr (.inr (by rw [c]))))]
    simp [c]
  · rw [if_neg (by
      rintro (h | h | h | h)
      · exact c (.inl h)
      · have h3 : (47 :: 118 :: ds).length = ds.length + 2 := rfl
        omega
      · exact c (.inr (.inl h))
      · exact c (.inr (.inr (by simpa using h))))]
    simp [c]

/-- An element of v and what is no name of Windows'. -/
theorem v_names : ∀ j, j < 22 → (namesL.getD j []).head? ≠ some 86 := by decide
theorem v_elem {K : Int} (hK : K = 0 ∨ K = 1 ∨ K = 2) {ds : List UInt8} (h : ∀ c ∈ ds, digC c) : ElemOK K (118 :: ds) := by
  refine elem_simple hK (by simp) (fun c hc => ?_) (fun hb => ?_) (.inr fun ht => ?_)
  · rcases List.mem_cons.1 hc with rfl | hc
    · exact ⟨by decide, by decide⟩
    · exact digC_mod (h c hc)
  · obtain ⟨j, hj, e⟩ := (badN_iff _).1 hb
    exact v_names j hj (by rw [← e]; rfl)
  · rw [tilde_iff, shortB] at ht
    have hn : cutL 126 (118 :: ds) = [118 :: ds] := cut_none fun c hc => by
      rcases List.mem_cons.1 hc with rfl | hc
      · decide
      · intro e; subst e; have := h _ hc; revert this; unfold digC; decide
    rw [hn] at ht
    simp at ht

/-- The law of FnMajorElement. -/
theorem major_law {p : List UInt8} (h : modPathI p = 1) (h9 : p.take 9 ≠ gopkgL) (h8 : p ≠ [103, 111, 112, 107, 103, 46, 105, 110]) (n : Nat) {b0 b1 b2 b3 : Bool} (m0 : MB p b0) (m1 : MB (p ++ 47 :: 118 :: numL n) b1)
    (m2 : MB (p ++ 47 :: 118 :: 48 :: numL n) b2) (m3 : MB (p ++ 47 :: 118 :: (numL n ++ [46, 49])) b3) : b0 = true ∧ b1 = decide (1 < n) ∧ b2 = false ∧ b3 = false := by
  obtain ⟨ha, hm, -, -⟩ := mod_fine h
  have hd := num_dig n
  have hn : asc (numL n) := fun c hc => digC_asc (hd c hc)
  have a1 : asc (p ++ 47 :: 118 :: numL n) := asc_app ha (asc_cons (by decide) (asc_cons (by decide) hn))
  have a2 : asc (p ++ 47 :: 118 :: 48 :: numL n) := asc_app ha (asc_cons (by decide) (asc_cons (by decide) (asc_cons (by decide) hn)))
  have a3 : asc (p ++ 47 :: 118 :: (numL n ++ [46, 49])) := asc_app ha (asc_cons (by decide) (asc_cons (by decide) (asc_app hn (asc_cons (by decide) (asc_cons (by decide) fun c hc => by simp at hc)))))
  have dd : (numL n).all ddB2 = true := List.all_eq_true.2 fun c hc => dig_dd (hd c hc)
  have no46 : hasB (numL n) 46 = false := by
    cases e : hasB (numL n) 46 with
    | false => rfl
    | true =>
      have := (hasB_iff _ 46 (by decide)).1 e
      exact absurd rfl ((digC_no (hd _ this)).2.1)
  refine ⟨(m0.1 ha).2 hm, ?_, ?_, ?_⟩
  · have e : b1 = true ↔ 1 < n := by
      rw [m1.1 a1, mod_join, spv_v (not_gopkg h9 h8) (num_ne n) dd, no46]
      constructor
      · rintro ⟨-, -, -, -, h5⟩
        apply Classical.byContradiction
        intro hlt
        have : n = 0 ∨ n = 1 := by omega
        rcases this with rfl | rfl
        · exact h5 (.inr (.inl (by rw [num_small (by omega)]; rfl)))
        · exact h5 (.inr (.inr (by rw [num_small (by omega)]; rfl)))
      · intro h1
        refine ⟨hm.1, fun e he => ?_, hm.2.1, hm.2.2.1, ?_⟩
        · rw [cut_none fun c hc => ?_] at he
          · rw [List.mem_singleton.1 he]
            exact v_elem (.inl rfl) hd
          · rcases List.mem_cons.1 hc with rfl | hc
            · decide
            · exact (digC_no (hd c hc)).1
        · rintro (h5 | h5 | h5)
          · cases h5
          · obtain ⟨c, r, e, h6⟩ := num_head n (by omega)
            rw [e] at h5
            have : lb (c :: r) 0 = (c.toNat : Int) := rfl
            omega
          · have := num_one h5
            omega
    cases b1 with
    | true => exact (decide_eq_true (e.1 rfl)).symm
    | false => exact (decide_eq_false fun h1 => by have := e.2 h1; cases this).symm
  · cases b2 with
    | false => rfl
    | true =>
      have h5 := ((mod_join (q := 118 :: 48 :: numL n)).1 ((m2.1 a2).1 rfl)).2.2.2.2
      rw [spv_v (not_gopkg h9 h8) (by simp) (by simp only [List.all_cons, dd, Bool.and_true]; decide)] at h5
      exact absurd (.inr (.inl rfl)) h5
  · cases b3 with
    | false => rfl
    | true =>
      have h5 := ((mod_join (q := 118 :: (numL n ++ [46, 49]))).1 ((m3.1 a3).1 rfl)).2.2.2.2
      rw [spv_v (not_gopkg h9 h8) (by simp) (by simp only [List.all_append, dd, Bool.true_and]; decide)] at h5
      exact absurd (.inl (by rw [hasB_app]; simp [hasB])) h5

/-! ### a tilde and figures -/
set_option maxRecDepth 100000 in
theorem head_ok_all : ∀ n : Fin 256, okC true true [45, 95] (n.val : Int) = true → modI (n.val : Int) = true ∧ n.val ≠ 46 ∧ n.val ≠ 126 ∧ n.val ≠ 47 := by decide
theorem head_ok {l : List UInt8} (h : allB true true [45, 95] l = true) : ∀ c ∈ l, modI (c.toNat : Int) = true ∧ c ≠ 46 ∧ c ≠ 126 ∧ c ≠ 47 := by
  intro c hc
  obtain ⟨h1, h2, h3, h4⟩ := head_ok_all ⟨c.toNat, c.toNat_lt⟩ (by simp only [allB, List.all_eq_true] at h; exact h c hc)
  refine ⟨h1, fun e => h2 ?_, fun e => h3 ?_, fun e => h4 ?_⟩ <;> (subst e; rfl)
theorem head_asc {l : List UInt8} (h : allB true true [45, 95] l = true) : asc l := fun c hc => by
  have := modI_asc (head_ok h c hc).1
  omega
theorem no_126 : ∀ j, j < 22 → (126 : UInt8) ∉ namesL.getD j [] := by decide
theorem short_bad {K : Int} (hK : K = 0 ∨ K = 1) {hd : List UInt8} (h : allB true true [45, 95] hd = true) (n : Nat) : ¬ ElemOK K (hd ++ 126 :: numL n) := by
  intro he
  have h1 := head_ok h
  have hs : shortL (hd ++ 126 :: numL n) = hd ++ 126 :: numL n := tw_all fun c hc => by
    rcases List.mem_append.1 hc with hc | hc
    · exact (h1 c hc).2.1
    · rcases List.mem_cons.1 hc with rfl | hc
      · decide
      · exact (digC_mod (num_dig n c hc)).2
  have h2 := he.2.2.2.2.2.2
  rw [hs, tilde_iff] at h2
  rcases h2 with h2 | h2
  · rcases hK with rfl | rfl <;> cases h2
  · apply h2
    obtain ⟨e1, e2⟩ := lastD_split (b := 126) (p := hd) (q := numL n) fun c hc => by
      intro e; subst e; have := num_dig n _ hc; revert this; unfold digC; decide
    unfold shortB
    rw [e1, (digits_iff _).2 ⟨num_ne n, num_dig n⟩]
    simp
    omega
theorem short_good {K : Int} (hK : K = 0 ∨ K = 1 ∨ K = 2) {hd : List UInt8} (h : allB true true [45, 95] hd = true) : ElemOK K (hd ++ [126, 120]) := by
  have h1 := head_ok h
  refine elem_simple hK (by simp) (fun c hc => ?_) (fun hb => ?_) (.inr fun ht => ?_)
  · rcases List.mem_append.1 hc with hc | hc
    · exact ⟨(h1 c hc).1, (h1 c hc).2.1⟩
    · simp at hc
      rcases hc with rfl | rfl <;> exact ⟨by decide, by decide⟩
  · obtain ⟨j, hj, e⟩ := (badN_iff _).1 hb
    apply no_126 j hj
    rw [← e, List.map_append]
    exact List.mem_append_right _ (by decide)
  · rw [tilde_iff] at ht
    obtain ⟨e1, e2⟩ := lastD_split (b := 126) (p := hd) (q := [120]) (by decide)
    unfold shortB at ht
    rw [e1] at ht
    revert ht
    have : digitsB [120] = false := by decide
    rw [this]
    simp
theorem no47_cut {e : List UInt8} (h : ∀ c ∈ e, c ≠ 47) : cutL 47 e = [e] := cut_none h
theorem join_bad {K : Int} {p e : List UInt8} (h : ∀ c ∈ e, c ≠ 47) (he : ¬ ElemOK K e) : ¬ PathOK K (p ++ 47 :: e) := fun h2 => he ((path_join.1 h2).2 e (by rw [no47_cut h]; exact List.mem_singleton.2 rfl))

/-- The law of FnShortName. -/
theorem short_law {p hd : List UInt8} (h : allB true true [45, 95] hd = true) (n : Nat) {b0 b1 b2 b3 : Bool} (m0 : PB 1 p b0) (m1 : MB (p ++ 47 :: (hd ++ 126 :: numL n)) b1)
    (m2 : PB 1 (p ++ 47 :: (hd ++ 126 :: numL n)) b2) (m3 : PB 1 (p ++ 47 :: (hd ++ [126, 120])) b3) : b1 = false ∧ b2 = false ∧ (importI p = 1 → b3 = true) := by
  have h1 := head_ok h
  have n47 : ∀ c ∈ hd ++ 126 :: numL n, c ≠ 47 := fun c hc => by
    rcases List.mem_append.1 hc with hc | hc
    · exact (h1 c hc).2.2.2
    · rcases List.mem_cons.1 hc with rfl | hc
      · decide
      · exact (digC_no (num_dig n c hc)).1
  refine ⟨?_, ?_, fun hf => ?_⟩
  · cases b1 with
    | false => rfl
    | true =>
      have ha : asc (p ++ 47 :: (hd ++ 126 :: numL n)) := Classical.byContradiction fun h2 => by have := m1.2 h2; cases this
      exact absurd ((m1.1 ha).1 rfl).1 (join_bad n47 (short_bad (.inl rfl) h n))
  · cases b2 with
    | false => rfl
    | true =>
      have ha : asc (p ++ 47 :: (hd ++ 126 :: numL n)) := Classical.byContradiction fun h2 => by have := (m2.2 h2).1 (by decide); cases this
      exact absurd ((m2.1 ha).1 rfl) (join_bad n47 (short_bad (.inr rfl) h n))
  · obtain ⟨ha, hp⟩ := import_fine hf
    have n47' : ∀ c ∈ hd ++ [126, 120], c ≠ 47 := fun c hc => by
      rcases List.mem_append.1 hc with hc | hc
      · exact (h1 c hc).2.2.2
      · simp at hc
        rcases hc with rfl | rfl <;> decide
    refine (m3.1 (asc_app ha (asc_cons (by decide) (asc_app (head_asc h) (asc_cons (by decide) (asc_cons (by decide) fun c hc => by simp at hc)))))).2 ?_
    rw [path_join, no47_cut n47']
    exact ⟨hp, fun e he => by rw [List.mem_singleton.1 he]; exact short_good (.inr (.inl rfl)) h⟩

/-! ### the first element -/
set_option maxRecDepth 100000 in
theorem mod_plus_all : ∀ n : Fin 256, (modI (n.val : Int) || (n.val : Int) == 43) = true → n.val ≠ 43 → modI (n.val : Int) = true := by decide
theorem elem_10 {l : List UInt8} (h : ElemOK 1 l) (h0 : lb l 0 ≠ 46) (h43 : hasB l 43 = false) : ElemOK 0 l := by
  obtain ⟨h1, h2, h3, h4, h5, h6, h7⟩ := h
  refine ⟨h1, h2, fun e => h0 e.1, h4, fun c hc => mod_plus_all ⟨c.toNat, c.toNat_lt⟩ (h5 c hc) fun e => ?_, h6, .inr (h7.elim (fun e => absurd e (by decide)) id)⟩
  have : hasB l 43 = true := (hasB_iff l 43 (by decide)).2 (by
    have h43 : c = UInt8.ofNat 43 := UInt8.toNat_inj.1 e
    rw [← h43]; exact hc)
  rw [h43] at this
  cases this
theorem import_plus {l : List UInt8} (h : importI l = 1) : hasB l 43 = false := by
  unfold importI at h
  cases e : hasB l 43 with
  | false => rfl
  | true => rw [e, if_pos rfl] at h; cases h
theorem import_dash {l : List UInt8} (h : importI l = 1) : l ≠ [] ∧ lb l 0 ≠ 45 := by
  unfold importI at h
  rw [if_neg (by rw [import_plus h]; decide)] at h
  exact ⟨(path_one h).1, (path_one h).2.1⟩

/-- The law of FnLeading. -/
theorem leading_law {f r : List UInt8} (hf : importI f = 1) (hr : importI r = 1) (hf47 : hasB f 47 = false) (hr47 : hasB r 47 = false) (hr0 : lb r 0 ≠ 118) (hr1 : lb r 0 ≠ 46) (h8 : f ≠ [103, 111, 112, 107, 103, 46, 105, 110])
    {b : Bool} (m : MB (f ++ 47 :: r) b) : b = (allB true false [46, 45] f && hasB f 46 && decide (lb f 0 ≠ 46) && decide (lb f 0 ≠ 45)) := by
  obtain ⟨haf, hpf⟩ := import_fine hf
  obtain ⟨har, hpr⟩ := import_fine hr
  obtain ⟨nf, df⟩ := import_dash hf
  obtain ⟨nr, dr⟩ := import_dash hr
  have f47 : ∀ c ∈ f, c ≠ 47 := fun c hc e => by
    have h2 : hasB f 47 = true := (hasB_iff f 47 (by decide)).2 (by rw [show UInt8.ofNat 47 = c from e.symm]; exact hc)
    rw [hf47] at h2; cases h2
  have r47 : ∀ c ∈ r, c ≠ 47 := fun c hc e => by
    have h2 : hasB r 47 = true := (hasB_iff r 47 (by decide)).2 (by rw [show UInt8.ofNat 47 = c from e.symm]; exact hc)
    rw [hr47] at h2; cases h2
  have ef : ElemOK 1 f := hpf.2.2 f (by rw [no47_cut f47]; exact List.mem_singleton.2 rfl)
  have er : ElemOK 1 r := hpr.2.2 r (by rw [no47_cut r47]; exact List.mem_singleton.2 rfl)
  have er0 : ElemOK 0 r := elem_10 er hr1 (import_plus hr)
  have e1 : firstL f = f := by
    unfold firstL
    have : ∀ {l : List UInt8}, (∀ c ∈ l, c ≠ 47) → l.takeWhile (· != 47) = l := by
      intro l
      induction l with
      | nil => intro _; rfl
      | cons c l ih => intro h; rw [List.takeWhile_cons, if_pos (by simpa using h c List.mem_cons_self), ih fun d hd => h d (List.mem_cons_of_mem _ hd)]
    exact this f47
  have hp : PathOK 0 f ↔ lb f 0 ≠ 46 := by
    constructor
    · intro h e
      exact (h.2.2 f (by rw [no47_cut f47]; exact List.mem_singleton.2 rfl)).2.2.1 ⟨e, rfl⟩
    · intro h
      refine ⟨nf, fun e => df e.1, fun e he => ?_⟩
      rw [no47_cut f47] at he
      rw [List.mem_singleton.1 he]
      exact elem_10 ef h (import_plus hf)
  have g9 : (f ++ 47 :: r).take 9 ≠ gopkgL := by
    refine not_gopkg (fun h => ?_) h8
    have : (47 : UInt8) ∈ f.take 9 := by rw [h]; decide
    exact f47 47 (List.mem_of_mem_take this) rfl
  have hs : (spvI (f ++ 47 :: r)).2.2 = true := by
    unfold spvI
    rw [if_neg g9]
    dsimp only
    rw [if_pos ?_]
    apply Classical.byContradiction
    intro hc
    have c1 : ¬ endI ddB2 (f ++ 47 :: r) ≤ 1 := fun h => hc (.inl h)
    have c3 : lb (f ++ 47 :: r) (endI ddB2 (f ++ 47 :: r) - 1) = 118 := Classical.byContradiction fun h => hc (.inr (.inr (.inl h)))
    have c4 : lb (f ++ 47 :: r) (endI ddB2 (f ++ 47 :: r) - 2) = 47 := Classical.byContradiction fun h => hc (.inr (.inr (.inr h)))
    have hle := endI_le ddB2 (f ++ 47 :: r)
    obtain ⟨i, hi⟩ : ∃ i, endI ddB2 (f ++ 47 :: r) = i := ⟨_, rfl⟩
    rw [hi] at c1 c3 c4 hle
    have hi2 : i - 2 = f.length := by
      have hx := (lb_byte (l := f ++ 47 :: r) (n := i - 2) (by omega) 47 (by decide)).1 c4
      by_cases q1 : i - 2 < f.length
      · rw [List.getElem?_append_left q1] at hx
        exact absurd rfl (f47 47 (List.mem_of_getElem? hx))
      · by_cases q2 : i - 2 = f.length
        · exact q2
        · rw [List.getElem?_append_right (by omega), List.getElem?_cons, if_neg (by omega)] at hx
          exact absurd rfl (r47 47 (List.mem_of_getElem? hx))
    have : lb (f ++ 47 :: r) (i - 1) = lb r 0 := by
      rw [show i - 1 = f.length + 1 by omega]
      unfold lb
      rw [List.getD_eq_getElem?_getD, List.getElem?_append_right (by omega), show f.length + 1 - f.length = 1 by omega, List.getD_eq_getElem?_getD]
      rfl
    rw [this] at c3
    exact hr0 c3
  have key : b = true ↔ (allB true false [46, 45] f = true ∧ hasB f 46 = true ∧ lb f 0 ≠ 46) := by
    rw [m.1 (asc_app haf (asc_cons (by decide) har)), mod_join, e1, hp, idx_dot, all_first]
    constructor
    · rintro ⟨h1, -, h2, h3, -⟩
      exact ⟨h3, h2, h1⟩
    · rintro ⟨h3, h2, h1⟩
      refine ⟨h1, fun e he => ?_, h2, h3, hs⟩
      rw [no47_cut r47] at he
      rw [List.mem_singleton.1 he]
      exact er0
  rw [Bool.eq_iff_iff, key]
  simp only [Bool.and_eq_true, decide_eq_true_eq]
  exact ⟨fun ⟨h1, h2, h3⟩ => ⟨⟨⟨h1, h2⟩, h3⟩, df⟩, fun ⟨⟨⟨h1, h2⟩, h3⟩, _⟩ => ⟨h1, h2, h3⟩⟩

end Go.Proofs.YtpbebckhemnooaaFmt.PS
