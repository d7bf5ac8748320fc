/- The plain law of a module's path and its version; on lists of bytes, no program in sight, no condition. The plain law of a module's path, second part: gopkg.in, and the page's word on the whole; on lists of bytes, no program in sight, no condition. The plain law of a module's path: the page's word against what package module asks; on lists of bytes, no program in sight, no condition. -/
import Derived.Test.YtpbebckhemnooaaFmtPlain
import Derived.Test.YtpbebckhemnooaaFmtLists
import Derived.Test.YtpbebckhemnooaaFmtMod

namespace Go.Proofs.YtpbebckhemnooaaFmt.PS
open Go.RowKit
set_option linter.unusedVariables false
set_option linter.unusedSimpArgs false

theorem lb_at {l : List UInt8} {n : Nat} {c : UInt8} (h : l[n]? = some c) : lb l n = (c.toNat : Int) := by
  unfold lb
  rw [List.getD_eq_getElem?_getD, h]
  rfl
theorem lb_byte {l : List UInt8} {n : Nat} (h : n < l.length) (m : Nat) (hm : m < 256) : lb l n = (m : Int) ↔ l[n]? = some (UInt8.ofNat m) := by
  rw [List.getElem?_eq_getElem h]
  have e := lb_at (l := l) (n := n) (List.getElem?_eq_getElem h)
  rw [e, byte_eq _ m hm]
  exact ⟨fun h => by rw [h], fun h => Option.some.inj h⟩
theorem lastD_split {b : UInt8} {p q : List UInt8} (h : ∀ c ∈ q, c ≠ b) : lastD (cutL b (p ++ b :: q)) = q ∧ 2 ≤ (cutL b (p ++ b :: q)).length := by
  rw [cut_split h]
  have c2 := (cut_len_le b p).2
  refine ⟨?_, by simp; omega⟩
  unfold lastD
  rw [List.length_append, List.getD_eq_getElem?_getD, List.getElem?_append_right (by simp)]
  simp
theorem dd_ok (c : UInt8) : okC false false [46] (c.toNat : Int) = ddB2 c := by
  unfold ddB2 dgB
  simp only [okC, hasB, List.any_cons, List.any_nil, Bool.false_and, Bool.false_or, Bool.or_false]
  congr 1
  have e : ((46 : UInt8).toNat : Int) = 46 := rfl
  rw [e]
  exact decide_eq_decide.2 ⟨fun h => h.symm, fun h => h.symm⟩
theorem all_dd (l : List UInt8) : allB false false [46] l = l.all ddB2 := by
  unfold allB
  congr 1
  funext c
  exact dd_ok c
theorem dd_no {c : UInt8} (h : ddB2 c = true) : c ≠ 47 ∧ c ≠ 118 := by
  constructor <;> (rintro rfl; revert h; decide)
theorem two_parts {l : List UInt8} {i : Nat} (h2 : 2 ≤ i) (hi : i ≤ l.length) {a b : Nat} (ha : a < 256) (hb : b < 256) (h1 : lb l (i - 2) = (a : Int)) (h3 : lb l (i - 1) = (b : Int)) :
    l.drop (i - 2) = UInt8.ofNat a :: UInt8.ofNat b :: l.drop i ∧ l = l.take (i - 2) ++ UInt8.ofNat a :: UInt8.ofNat b :: l.drop i := by
  have e1 := (lb_byte (l := l) (n := i - 2) (by omega) a ha).1 h1
  have e2 := (lb_byte (l := l) (n := i - 1) (by omega) b hb).1 h3
  have d : l.drop (i - 2) = UInt8.ofNat a :: UInt8.ofNat b :: l.drop i := by
    have x1 : i - 2 < l.length := by omega
    have x2 : i - 1 < l.length := by omega
    rw [List.drop_eq_getElem_cons x1, show i - 2 + 1 = i - 1 by omega, List.drop_eq_getElem_cons x2, show i - 1 + 1 = i by omega]
    rw [List.getElem?_eq_getElem x1] at e1
    rw [List.getElem?_eq_getElem x2] at e2
    rw [Option.some.inj e1, Option.some.inj e2]
  refine ⟨d, ?_⟩
  rw [← d, List.take_append_drop]
/-- A path of no gopkg.in. -/
theorem split_other {l : List UInt8} (h9 : l.take 9 ≠ gopkgL) : ((splitI l).2 = 1 ∧ (spvI l).2.2 = true ∧ (spvI l).2.1 = (splitI l).1) ∨ ((splitI l).2 = 2 ∧ (spvI l).2.2 = false) := by
  have hle := endI_le ddB2 l
  have hall := endI_all ddB2 l
  unfold splitI spvI
  rw [if_neg h9, if_neg h9]
  simp only []
  rcases split_last 47 l with hno | ⟨p, q, rfl, hq⟩
  · have hc := cut_none hno
    rw [hc]
    left
    rw [if_pos (.inl (by simp)), if_pos ?_]
    · exact ⟨rfl, rfl, rfl⟩
    · by_cases h1 : endI ddB2 l ≤ 1
      · exact .inl h1
      · refine .inr (.inr (.inr fun h => ?_))
        have := (lb_byte (l := l) (n := endI ddB2 l - 2) (by omega) 47 (by decide)).1 h
        exact hno _ (List.mem_of_getElem? this) rfl
  · obtain ⟨hl1, hl2⟩ := lastD_split (p := p) hq
    rw [hl1]
    by_cases c : q.length < 2 ∨ lb q 0 ≠ 118 ∨ allB false false [46] (q.drop 1) = false
    · rw [if_pos (.inr c)]
      left
      rw [if_pos ?_]
      · exact ⟨rfl, rfl, rfl⟩
      · apply Classical.byContradiction
        intro hn
        obtain ⟨n1, hn⟩ := not_or.1 hn
        obtain ⟨n2, hn⟩ := not_or.1 hn
        obtain ⟨n3, n4⟩ := not_or.1 hn
        have n3 := Classical.byContradiction n3
        have n4 := Classical.byContradiction n4
        obtain ⟨_, hd⟩ := two_parts (l := p ++ 47 :: q) (i := endI ddB2 (p ++ 47 :: q)) (by omega) hle (a := 47) (b := 118) (by decide) (by decide) n4 n3
        have hu : ∀ c ∈ (p ++ 47 :: q).drop (endI ddB2 (p ++ 47 :: q)), c ≠ 47 := fun c hc => (dd_no (List.all_eq_true.1 hall c hc)).1
        have hq2 : q = 118 :: (p ++ 47 :: q).drop (endI ddB2 (p ++ 47 :: q)) := by
          have := (lastD_split (p := (p ++ 47 :: q).take (endI ddB2 (p ++ 47 :: q) - 2)) (b := 47) (q := 118 :: (p ++ 47 :: q).drop (endI ddB2 (p ++ 47 :: q))) (fun c hc => by
            rcases List.mem_cons.1 hc with rfl | hc
            · decide
            · exact hu c hc)).1
          have e47 : UInt8.ofNat 47 = 47 := rfl
          have e118 : UInt8.ofNat 118 = 118 := rfl
          rw [e47, e118] at hd
          rw [← hd, hl1] at this
          exact this
        have hne : 0 < ((p ++ 47 :: q).drop (endI ddB2 (p ++ 47 :: q))).length := by rw [List.length_drop]; omega
        rcases c with c | c | c
        · rw [hq2, List.length_cons] at c
          omega
        · rw [hq2] at c
          exact c rfl
        · rw [hq2, all_dd] at c
          simp only [List.drop_succ_cons, List.drop_zero] at c
          rw [hall] at c
          cases c
    · obtain ⟨n1, c⟩ := not_or.1 c
      obtain ⟨n2, n3⟩ := not_or.1 c
      have n2 := Classical.byContradiction n2
      have n3 : (q.drop 1).all ddB2 = true := by
        rw [← all_dd]
        cases hh : allB false false [46] (q.drop 1) <;> simp_all
      obtain ⟨u, rfl⟩ : ∃ u, q = 118 :: u := by
        cases q with
        | nil => simp at n1
        | cons a u =>
          have : a = 118 := (byte_eq a 118 (by decide)).1 n2
          exact ⟨u, by rw [this]⟩
      simp only [List.drop_succ_cons, List.drop_zero] at n3
      have hu0 : 0 < u.length := by simp at n1; omega
      have e : endI ddB2 (p ++ 47 :: 118 :: u) = p.length + 2 := by
        have := endI_eq ddB2 (p ++ [47, 118]) u n3 (.inr ⟨p ++ [47], 118, by simp, by decide⟩)
        rw [List.append_assoc] at this
        rw [show p ++ 47 :: 118 :: u = p ++ ([47, 118] ++ u) from rfl, this]
        simp
      have dq : (p ++ 47 :: 118 :: u).drop p.length = 47 :: 118 :: u := by simp
      have du : (p ++ 47 :: 118 :: u).drop (p.length + 2) = u := by rw [← List.drop_drop, dq]; rfl
      have l1 : lb (p ++ 47 :: 118 :: u) (p.length + 2 - 1) = 118 := lb_at (c := 118) (by rw [List.getElem?_append_right (by omega), show p.length + 2 - 1 - p.length = 1 by omega]; rfl)
      have l2 : lb (p ++ 47 :: 118 :: u) (p.length + 2 - 2) = 47 := lb_at (c := 47) (by rw [List.getElem?_append_right (by omega), show p.length + 2 - 2 - p.length = 0 by omega]; rfl)
      have A1 : ¬ ((cutL 47 (p ++ 47 :: 118 :: u)).length < 2 ∨ (118 :: u).length < 2 ∨ lb (118 :: u) 0 ≠ 118 ∨ allB false false [46] ((118 :: u).drop 1) = false) := by
        rintro (h | h | h | h)
        · omega
        · rw [List.length_cons] at h; omega
        · exact h rfl
        · rw [all_dd] at h; simp only [List.drop_succ_cons, List.drop_zero] at h; rw [n3] at h; cases h
      have A2 : ¬ (p.length + 2 ≤ 1 ∨ p.length + 2 = (p ++ 47 :: 118 :: u).length ∨ lb (p ++ 47 :: 118 :: u) (p.length + 2 - 1) ≠ 118 ∨ lb (p ++ 47 :: 118 :: u) (p.length + 2 - 2) ≠ 47) := by
        rintro (h | h | h | h)
        · omega
        · rw [List.length_append, List.length_cons, List.length_cons] at h; omega
        · exact h l1
        · exact h l2
      rw [e, if_neg A1, if_neg A2]
      rw [show p.length + 2 - 2 = p.length by omega, dq, du]
      have hb : hasB (118 :: u) 46 = hasB u 46 := by simp [hasB]
      have hl : lb (118 :: u) 1 = lb (47 :: 118 :: u) 2 := rfl
      rw [hb, hl]
      have hlen : ¬ (47 :: 118 :: u).length ≤ 2 := by rw [List.length_cons, List.length_cons]; omega
      have h46 : lb (47 :: 118 :: u) 2 = 46 → hasB u 46 = true := by
        intro h
        cases u with
        | nil => simp at hu0
        | cons a u =>
          have h' : (a.toNat : Int) = 46 := h
          simp [hasB, h']
      by_cases c1 : hasB u 46 = true ∨ lb (47 :: 118 :: u) 2 = 48 ∨ (118 :: u) = [118, 49]
      · right
        have B1 : lb (47 :: 118 :: u) 2 = 48 ∨ lb (47 :: 118 :: u) 2 = 46 ∨ (118 :: u) = [118, 49] ∨ hasB u 46 = true := by
          rcases c1 with c1 | c1 | c1
          · exact .inr (.inr (.inr c1))
          · exact .inl c1
          · exact .inr (.inr (.inl c1))
        have B2 : hasB u 46 = true ∨ (47 :: 118 :: u).length ≤ 2 ∨ lb (47 :: 118 :: u) 2 = 48 ∨ (47 :: 118 :: u) = [47, 118, 49] := by
          rcases c1 with c1 | c1 | c1
          · exact .inl c1
          · exact .inr (.inr (.inl c1))
          · exact .inr (.inr (.inr (by rw [c1])))
        rw [if_pos B1, if_pos B2]
        exact ⟨rfl, rfl⟩
      · obtain ⟨m1, c1⟩ := not_or.1 c1
        obtain ⟨m2, m3⟩ := not_or.1 c1
        left
        have B1 : ¬ (lb (47 :: 118 :: u) 2 = 48 ∨ lb (47 :: 118 :: u) 2 = 46 ∨ (118 :: u) = [118, 49] ∨ hasB u 46 = true) := by
          rintro (h | h | h | h)
          · exact m2 h
          · exact m1 (h46 h)
          · exact m3 h
          · exact m1 h
        have B2 : ¬ (hasB u 46 = true ∨ (47 :: 118 :: u).length ≤ 2 ∨ lb (47 :: 118 :: u) 2 = 48 ∨ (47 :: 118 :: u) = [47, 118, 49]) := by
          rintro (h | h | h | h)
          · exact m1 h
          · exact hlen h
          · exact m2 h
          · exact m3 (List.cons.inj h).2
        rw [if_neg B1, if_neg B2]
        exact ⟨rfl, rfl, rfl⟩

end Go.Proofs.YtpbebckhemnooaaFmt.PS

namespace Go.Proofs.YtpbebckhemnooaaFmt.PS
open Go.RowKit
set_option linter.unusedVariables false
set_option linter.unusedSimpArgs false

theorem dg_ok (c : UInt8) : dgB c = true ↔ digC c := by
  unfold dgB digC
  simp only [Bool.and_eq_true, decide_eq_true_eq]
  omega
theorem digC_no {c : UInt8} (h : digC c) : c ≠ 47 ∧ c ≠ 46 ∧ c ≠ 118 ∧ c ≠ 101 := by
  obtain ⟨h1, h2⟩ := h
  refine ⟨?_, ?_, ?_, ?_⟩ <;> (rintro rfl; revert h1 h2; decide)

/-- A path of gopkg.in. -/
theorem split_gopkg {l : List UInt8} (h9 : l.take 9 = gopkgL) : (splitI l).2 = 0 ∨ ((splitI l).2 = 1 ∧ (spvI l).2.2 = true ∧ (spvI l).2.1 = (splitI l).1) ∨ ((splitI l).2 = 2 ∧ (spvI l).2.2 = false) := by
  have hlen : 9 ≤ l.length := by
    have := congrArg List.length h9
    rw [List.length_take] at this
    simp [gopkgL] at this
    omega
  have h8 : (47 : UInt8) ∈ l := by
    have : (47 : UInt8) ∈ l.take 9 := by rw [h9]; decide
    exact List.mem_of_mem_take this
  obtain ⟨p, q, rfl, hq⟩ : ∃ p q, l = p ++ 47 :: q ∧ ∀ c ∈ q, c ≠ 47 := by
    rcases split_last 47 l with h | h
    · exact absurd rfl (h 47 h8)
    · exact h
  obtain ⟨hl1, hl2⟩ := lastD_split (p := p) hq
  have es : splitI (p ++ 47 :: q) = gopkgI (p ++ 47 :: q) := by unfold splitI; rw [if_pos h9]
  rw [es]
  unfold gopkgI
  simp only [hl1]
  by_cases g1 : (cutL 46 q).length < 2
  · rw [if_pos g1]
    right; right
    refine ⟨rfl, ?_⟩
    have hdot : ∀ c ∈ q, c ≠ 46 := by
      rcases split_last 46 q with h | ⟨a, b, rfl, h⟩
      · exact h
      · have := (lastD_split (p := a) h).2
        omega
    have i0le : (if (p ++ 47 :: q).drop ((p ++ 47 :: q).length - 9) = [45, 117, 110, 115, 116, 97, 98, 108, 101] then (p ++ 47 :: q).length - 9 else (p ++ 47 :: q).length) ≤ (p ++ 47 :: q).length := by split <;> omega
    have hd0 : ∀ c ∈ (p ++ 47 :: q).drop (if (p ++ 47 :: q).drop ((p ++ 47 :: q).length - 9) = [45, 117, 110, 115, 116, 97, 98, 108, 101] then (p ++ 47 :: q).length - 9 else (p ++ 47 :: q).length), c ≠ 47 := by
      split
      · rename_i h
        rw [h]
        decide
      · rw [List.drop_length]
        intro c hc
        simp at hc
    unfold spvI
    rw [if_pos h9]
    simp only []
    obtain ⟨i0, hi0⟩ : ∃ i0, (if (p ++ 47 :: q).drop ((p ++ 47 :: q).length - 9) = [45, 117, 110, 115, 116, 97, 98, 108, 101] then (p ++ 47 :: q).length - 9 else (p ++ 47 :: q).length) = i0 := ⟨_, rfl⟩
    rw [hi0] at i0le hd0 ⊢
    obtain ⟨i, hi⟩ : ∃ i, endI dgB ((p ++ 47 :: q).take i0) = i := ⟨_, rfl⟩
    have hile := endI_le dgB ((p ++ 47 :: q).take i0)
    have hiall := endI_all dgB ((p ++ 47 :: q).take i0)
    rw [hi] at hile hiall ⊢
    rw [List.length_take] at hile
    by_cases c : i ≤ 1 ∨ lb (p ++ 47 :: q) (i - 1) ≠ 118 ∨ lb (p ++ 47 :: q) (i - 2) ≠ 46
    · rw [if_pos c]
    · exfalso
      obtain ⟨c1, c⟩ := not_or.1 c
      obtain ⟨c2, c3⟩ := not_or.1 c
      have c2 := Classical.byContradiction c2
      have c3 := Classical.byContradiction c3
      obtain ⟨d1, d2⟩ := two_parts (l := p ++ 47 :: q) (i := i) (by omega) (by omega) (a := 46) (b := 118) (by decide) (by decide) c3 c2
      have hno : ∀ c ∈ (p ++ 47 :: q).drop i, c ≠ 47 := by
        intro c hc
        have e : (p ++ 47 :: q).drop i = ((p ++ 47 :: q).take i0).drop i ++ (p ++ 47 :: q).drop i0 := by
          conv => lhs; rw [← List.take_append_drop i0 (p ++ 47 :: q)]
          rw [List.drop_append_of_le_length (by rw [List.length_take]; omega)]
        rw [e, List.mem_append] at hc
        rcases hc with hc | hc
        · exact (digC_no ((dg_ok c).1 (List.all_eq_true.1 hiall c hc))).1
        · exact hd0 c hc
      have e46 : UInt8.ofNat 46 = 46 := rfl
      have e118 : UInt8.ofNat 118 = 118 := rfl
      rw [e46, e118] at d1 d2
      have hno2 : ∀ c ∈ (46 : UInt8) :: 118 :: (p ++ 47 :: q).drop i, c ≠ 47 := by
        intro c hc
        rcases List.mem_cons.1 hc with rfl | hc
        · decide
        · rcases List.mem_cons.1 hc with rfl | hc
          · decide
          · exact hno c hc
      rcases split_last 47 ((p ++ 47 :: q).take (i - 2)) with h | ⟨p1, q1, h1, h2⟩
      · have : (47 : UInt8) ∈ (p ++ 47 :: q).take (i - 2) ++ 46 :: 118 :: (p ++ 47 :: q).drop i := by rw [← d2]; exact h8
        rcases List.mem_append.1 this with h3 | h3
        · exact h _ h3 rfl
        · exact hno2 _ h3 rfl
      · have hq2 : ∀ c ∈ q1 ++ 46 :: 118 :: (p ++ 47 :: q).drop i, c ≠ 47 := by
          intro c hc
          rcases List.mem_append.1 hc with hc | hc
          · exact h2 c hc
          · exact hno2 c hc
        have hl3 := (lastD_split (p := p1) hq2).1
        have e5 : p1 ++ 47 :: (q1 ++ 46 :: 118 :: (p ++ 47 :: q).drop i) = p ++ 47 :: q := by
          conv => rhs; rw [d2, h1]
          simp
        rw [e5, hl1] at hl3
        have : (46 : UInt8) ∈ q := by rw [hl3]; simp
        exact hdot _ this rfl
  · rw [if_neg g1]
    by_cases g2 : 2 < (cutL 46 q).length ∨ (lastD (cutL 46 q)).length < 2 ∨ lb (lastD (cutL 46 q)) 0 ≠ 118 ∨ digitsB ((lastD (cutL 46 q)).drop 1) = false
    · rw [if_pos g2]; exact .inl rfl
    rw [if_neg g2]
    by_cases g3 : (2 < (lastD (cutL 46 q)).length ∧ lb (lastD (cutL 46 q)) 1 = 48) ∨ 3 < (cutL 47 (p ++ 47 :: q)).length ∨ letterB ((cutL 46 q).headD []) = false
    · rw [if_pos g3]; exact .inl rfl
    rw [if_neg g3]
    right; left
    refine ⟨rfl, ?_⟩
    obtain ⟨m1, g2⟩ := not_or.1 g2
    obtain ⟨m2, g2⟩ := not_or.1 g2
    obtain ⟨m3, m4⟩ := not_or.1 g2
    have m3 := Classical.byContradiction m3
    obtain ⟨k1, -⟩ := not_or.1 g3
    obtain ⟨a, v, rfl, hv⟩ : ∃ a v, q = a ++ 46 :: v ∧ ∀ c ∈ v, c ≠ 46 := by
      rcases split_last 46 q with h | h
      · rw [cut_none h] at g1
        simp at g1
      · exact h
    have hv1 := (lastD_split (p := a) hv).1
    rw [hv1] at m2 m3 m4 k1 ⊢
    obtain ⟨ds, rfl⟩ : ∃ ds, v = 118 :: ds := by
      cases v with
      | nil => simp at m2
      | cons x ds => exact ⟨ds, by rw [(byte_eq x 118 (by decide)).1 m3]; rfl⟩
    have hds : digitsB ds = true := by
      simp only [List.drop_succ_cons, List.drop_zero] at m4
      cases hh : digitsB ds <;> simp_all
    obtain ⟨hd0, hd1⟩ := (digits_iff ds).1 hds
    have hdl : 0 < ds.length := List.length_pos_iff.2 hd0
    have hdb : ds.all dgB = true := List.all_eq_true.2 fun c hc => (dg_ok c).2 (hd1 c hc)
    obtain ⟨L, hL⟩ : ∃ L, p ++ 47 :: (a ++ 46 :: 118 :: ds) = L := ⟨_, rfl⟩
    have hL2 : L = (p ++ 47 :: a) ++ 46 :: 118 :: ds := by rw [← hL]; simp
    have hlL : L.length = (p ++ 47 :: a).length + 2 + ds.length := by rw [hL2, List.length_append, List.length_cons, List.length_cons]; omega
    obtain ⟨P, hP⟩ : ∃ P, p ++ 47 :: a = P := ⟨_, rfl⟩
    rw [hP] at hL2 hlL
    have hns : ¬ L.drop (L.length - 9) = [45, 117, 110, 115, 116, 97, 98, 108, 101] := by
      intro h
      have h2 : (L.drop (L.length - 9)).getLast? = some 101 := by rw [h]; rfl
      have hL3 : L = (P ++ [46, 118]) ++ ds := by rw [hL2]; simp
      rw [List.getLast?_drop, if_neg (by rw [hL] at hlen; omega), hL3, List.getLast?_append, List.getLast?_eq_some_getLast hd0, Option.some_or] at h2
      have h2 := Option.some.inj h2
      exact (digC_no (hd1 _ (List.getLast_mem hd0))).2.2.2 h2
    rw [hL] at h9 ⊢
    unfold spvI
    rw [if_pos h9, if_neg hns, List.take_of_length_le (Nat.le_refl _)]
    have e : endI dgB L = P.length + 2 := by
      have := endI_eq dgB (P ++ [46, 118]) ds hdb (.inr ⟨P ++ [46], 118, by simp, by decide⟩)
      rw [List.append_assoc] at this
      rw [hL2, show P ++ 46 :: 118 :: ds = P ++ ([46, 118] ++ ds) from rfl, this]
      simp
    have dq : L.drop P.length = 46 :: 118 :: ds := by rw [hL2]; simp
    have l1 : lb L (P.length + 2 - 1) = 118 := lb_at (c := 118) (by rw [hL2, List.getElem?_append_right (by omega), show P.length + 2 - 1 - P.length = 1 by omega]; rfl)
    have l2 : lb L (P.length + 2 - 2) = 46 := lb_at (c := 46) (by rw [hL2, List.getElem?_append_right (by omega), show P.length + 2 - 2 - P.length = 0 by omega]; rfl)
    have A1 : ¬ (P.length + 2 ≤ 1 ∨ lb L (P.length + 2 - 1) ≠ 118 ∨ lb L (P.length + 2 - 2) ≠ 46) := by
      rintro (h | h | h)
      · omega
      · exact h l1
      · exact h l2
    have A2 : ¬ ((46 :: 118 :: ds).length ≤ 2 ∨ (lb (46 :: 118 :: ds) 2 = 48 ∧ (46 :: 118 :: ds) ≠ [46, 118, 48])) := by
      rintro (h | ⟨h, h2⟩)
      · rw [List.length_cons, List.length_cons] at h; omega
      · have h3 : ¬ 2 < (118 :: ds).length := fun h3 => k1 ⟨h3, h⟩
        rw [List.length_cons] at h3
        cases ds with
        | nil => exact hd0 rfl
        | cons x ds =>
          have hx : x = 48 := (byte_eq x 48 (by decide)).1 h
          have : ds = [] := by
            rw [List.length_cons] at h3
            exact List.eq_nil_of_length_eq_zero (by omega)
          subst this
          subst hx
          exact h2 rfl
    simp only []
    rw [e, if_neg A1, show P.length + 2 - 2 = P.length by omega, dq, if_neg A2]
    exact ⟨rfl, rfl⟩

end Go.Proofs.YtpbebckhemnooaaFmt.PS

namespace Go.Proofs.YtpbebckhemnooaaFmt.PS
open Go.RowKit
set_option linter.unusedVariables false
set_option linter.unusedSimpArgs false

set_option maxRecDepth 100000 in
theorem okC_first_all : ∀ n : Fin 256, okC true false [46, 45] (n.val : Int) = firstI (n.val : Int) := by decide
theorem all_first (l : List UInt8) : allB true false [46, 45] l = true ↔ ∀ c ∈ l, firstI (c.toNat : Int) = true := by
  simp only [allB, List.all_eq_true]
  exact ⟨fun h c hc => by rw [← okC_first_all ⟨c.toNat, c.toNat_lt⟩]; exact h c hc, fun h c hc => by
    have := h c hc
    rw [← okC_first_all ⟨c.toNat, c.toNat_lt⟩] at this
    exact this⟩
theorem idx_dot : ∀ l : List UInt8, (idxL [46] l).isSome = hasB l 46
  | [] => rfl
  | c :: l => by
    have ih := idx_dot l
    by_cases hc : c = 46
    · subst hc
      simp [idxL, hasB]
    · have e : idxL [46] (c :: l) = (idxL [46] l).map (· + 1) := by simp [idxL, hc]
      have e2 : ¬ ((c.toNat : Int) = 46) := fun h => hc ((byte_eq c 46 (by decide)).1 h)
      rw [e, hasB_cons, Option.isSome_map, ih]
      simp [e2]
theorem head_first (l : List UInt8) : (cutL 47 l).headD [] = firstL l := cut_head 47 l
theorem split_any (l : List UInt8) : (splitI l).2 = 0 ∨ ((splitI l).2 = 1 ∧ (spvI l).2.2 = true ∧ (spvI l).2.1 = (splitI l).1) ∨ ((splitI l).2 = 2 ∧ (spvI l).2.2 = false) := by
  by_cases h : l.take 9 = gopkgL
  · exact split_gopkg h
  · exact .inr (split_other h)
theorem pathI_range (file : Bool) (l : List UInt8) : pathI file l = 0 ∨ pathI file l = 1 ∨ pathI file l = 2 := by
  have fr : ∀ (M : List (List UInt8)) (st : Int), (st = 0 ∨ st = 1 ∨ st = 2) → foldI file st M = 0 ∨ foldI file st M = 1 ∨ foldI file st M = 2 := by
    intro M
    induction M with
    | nil => exact fun st h => h
    | cons e M ih => exact fun st h => ih _ (joinI_range _ _)
  unfold pathI
  split
  · exact joinI_range _ _
  · exact fr _ _ (.inr (.inl rfl))
theorem modPathI_range (l : List UInt8) : modPathI l = 0 ∨ modPathI l = 1 ∨ modPathI l = 2 := by
  unfold modPathI
  split
  · exact .inr (.inr rfl)
  · split
    · exact .inr (.inr rfl)
    · exact joinI_range _ _
theorem first_lb {l : List UInt8} (h : firstL l ≠ []) : lb (firstL l) 0 = lb l 0 := by
  cases l with
  | nil => rfl
  | cons c l =>
    unfold firstL at h ⊢
    rw [List.takeWhile_cons] at h ⊢
    split
    · rfl
    · rename_i h2
      rw [if_neg h2] at h
      exact absurd rfl h

theorem mod_fine {l : List UInt8} (h : modPathI l = 1) : asc l ∧ ModOK l ∧ pathI false l = 1 ∧ (splitI l).2 = 1 := by
  unfold modPathI at h
  rw [head_first] at h
  by_cases c1 : dotsAhead (cutL 47 l) = true
  · rw [if_pos c1] at h; cases h
  rw [if_neg c1] at h
  by_cases c2 : allB true false [46, 45] (firstL l) = false ∨ hasB (firstL l) 46 = false ∨ lb (firstL l) 0 = 45
  · rw [if_pos c2] at h; cases h
  rw [if_neg c2] at h
  obtain ⟨j1, j2, j3, j4⟩ := join_one h
  have hp : pathI false l = 1 := by
    rcases pathI_range false l with h | h | h
    · exact absurd h j3
    · exact h
    · exact absurd h j1
  have hs : (splitI l).2 = 1 ∧ (spvI l).2.2 = true := by
    rcases split_any l with h | h | h
    · exact absurd h j4
    · exact ⟨h.1, h.2.1⟩
    · exact absurd h.1 j2
  obtain ⟨k1, c2⟩ := not_or.1 c2
  obtain ⟨k2, k3⟩ := not_or.1 c2
  obtain ⟨h0, h1, h2⟩ := path_one hp
  have ha : asc l := asc_of_cut fun e he => (elem_fine_imp (h2 e he)).1
  refine ⟨ha, ⟨⟨h0, fun h => h1 h.1, fun e he => (elem_fine_imp (h2 e he)).2.2 fun hd => c1 ?_⟩, ?_, ?_, hs.2⟩, hp, hs.1⟩
  · have hne := (elem_fine_imp (h2 e he)).2.1.1
    unfold dotsAhead
    rw [List.any_eq_true]
    exact ⟨e, he, by simp [List.length_pos_iff.2 hne, hd]⟩
  · rw [idx_dot]
    cases hh : hasB (firstL l) 46 with
    | true => rfl
    | false => exact absurd hh k2
  · refine (all_first _).1 ?_
    cases hh : allB true false [46, 45] (firstL l) with
    | true => rfl
    | false => exact absurd hh k1
theorem mod_wrong {l : List UInt8} (h : modPathI l = 2) (ha : asc l) : ¬ ModOK l := by
  rintro ⟨⟨p1, p2, p3⟩, p4, p5, p6⟩
  unfold modPathI at h
  rw [head_first] at h
  by_cases c1 : dotsAhead (cutL 47 l) = true
  · unfold dotsAhead at c1
    rw [List.any_eq_true] at c1
    obtain ⟨e, he, h2⟩ := c1
    simp only [Bool.and_eq_true, decide_eq_true_eq] at h2
    exact (p3 e he).2.2.1 ⟨h2.2, rfl⟩
  rw [if_neg c1] at h
  by_cases c2 : allB true false [46, 45] (firstL l) = false ∨ hasB (firstL l) 46 = false ∨ lb (firstL l) 0 = 45
  · rcases c2 with c | c | c
    · have := (all_first _).2 p5
      rw [c] at this; cases this
    · rw [idx_dot, c] at p4; cases p4
    · have hne := (p3 _ (first_mem l)).1
      rw [first_lb hne] at c
      exact p2 ⟨c, by decide⟩
  rw [if_neg c2, join_two] at h
  rcases h with h | h
  · obtain ⟨e, he, h2⟩ := path_two h
    exact (elem_wrong_imp h2 (asc_cut ha he)).1 (p3 e he)
  · rcases split_any l with h2 | h2 | h2
    · rw [h] at h2; cases h2
    · rw [h] at h2; cases h2.1
    · rw [h2.2] at p6; cases p6
end Go.Proofs.YtpbebckhemnooaaFmt.PS
