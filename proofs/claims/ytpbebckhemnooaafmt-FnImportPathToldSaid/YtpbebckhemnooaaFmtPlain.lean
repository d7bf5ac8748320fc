/- The plain law of elements and paths: what package spec tells against what package module asks; on lists of bytes, no program in sight, no condition. -/
import Derived.Test.YtpbebckhemnooaaFmtLists3
namespace Go.Proofs.YtpbebckhemnooaaFmt.PS
open Go.RowKit
set_option linter.unusedVariables false
set_option linter.unusedSimpArgs false

theorem join_two {a b : Int} : joinI a b = 2 ↔ a = 2 ∨ b = 2 := by
  unfold joinI
  by_cases h : a = 2 ∨ b = 2
  · simp [h]
  · rw [if_neg h]
    constructor
    · intro h2; split at h2 <;> cases h2
    · intro h2; exact absurd h2 h
theorem join_one {a b : Int} (h : joinI a b = 1) : a ≠ 2 ∧ b ≠ 2 ∧ a ≠ 0 ∧ b ≠ 0 := by
  unfold joinI at h
  by_cases h1 : a = 2 ∨ b = 2
  · rw [if_pos h1] at h; cases h
  · rw [if_neg h1] at h
    by_cases h2 : a = 0 ∨ b = 0
    · rw [if_pos h2] at h; cases h
    · exact ⟨fun e => h1 (.inl e), fun e => h1 (.inr e), fun e => h2 (.inl e), fun e => h2 (.inr e)⟩
theorem join_zero {a : Int} : joinI a 0 ≠ 1 := fun h => (join_one h).2.2.2 rfl

/-! ### letters -/
set_option maxRecDepth 100000 in
theorem okC_mod_all : ∀ n : Fin 256, okC true true [45, 46, 95, 126] (n.val : Int) = modI (n.val : Int) := by decide
set_option maxRecDepth 100000 in
theorem okC_file_all : ∀ n : Fin 128, okC true true [32, 33, 35, 36, 37, 38, 40, 41, 43, 44, 45, 46, 61, 64, 91, 93, 94, 95, 123, 125, 126] (n.val : Int) = fileOK (n.val : Int) := by decide
set_option maxRecDepth 100000 in
theorem okC_high_all : ∀ n : Fin 128, okC true true [32, 33, 35, 36, 37, 38, 40, 41, 43, 44, 45, 46, 61, 64, 91, 93, 94, 95, 123, 125, 126] ((n.val + 128 : Nat) : Int) = false := by decide
theorem okC_mod (c : UInt8) : okC true true (othersE false) (c.toNat : Int) = modI (c.toNat : Int) := okC_mod_all ⟨c.toNat, c.toNat_lt⟩
theorem okC_file (c : UInt8) (h : c.toNat < 128) : okC true true (othersE true) (c.toNat : Int) = fileOK (c.toNat : Int) := okC_file_all ⟨c.toNat, h⟩
theorem okC_high (c : UInt8) (h : ¬ c.toNat < 128) : okC true true (othersE true) (c.toNat : Int) = false := by
  have h2 := c.toNat_lt
  have := okC_high_all ⟨c.toNat - 128, by omega⟩
  rw [show c.toNat - 128 + 128 = c.toNat by omega] at this
  exact this
theorem modI_asc {r : Int} (h : modI r = true) : r < 128 := by
  unfold modI at h
  simp only [Bool.and_eq_true, decide_eq_true_eq] at h
  exact h.1
theorem all_mod (l : List UInt8) : allB true true (othersE false) l = true ↔ ∀ c ∈ l, modI (c.toNat : Int) = true := by
  simp only [allB, List.all_eq_true, okC_mod]
theorem all_file {l : List UInt8} (ha : asc l) : allB true true (othersE true) l = true ↔ ∀ c ∈ l, fileOK (c.toNat : Int) = true := by
  simp only [allB, List.all_eq_true]
  exact ⟨fun h c hc => by rw [← okC_file c (ha c hc)]; exact h c hc, fun h c hc => by rw [okC_file c (ha c hc)]; exact h c hc⟩
theorem all_file_asc {l : List UInt8} (h : allB true true (othersE true) l = true) : asc l := by
  simp only [allB, List.all_eq_true] at h
  intro c hc
  apply Classical.byContradiction
  intro h2
  have := h c hc
  rw [okC_high c h2] at this
  cases this
theorem all_mod_asc {l : List UInt8} (h : allB true true (othersE false) l = true) : asc l := by
  intro c hc
  have := modI_asc ((all_mod l).1 h c hc)
  omega

/-! ### names -/
theorem up_names : ∀ j, j < 22 → ∀ c ∈ namesL.getD j [], ¬ (97 ≤ c.toNat ∧ c.toNat ≤ 122) := by decide
theorem up_toNat (c : UInt8) : (up c).toNat = if 97 ≤ c.toNat ∧ c.toNat ≤ 122 then c.toNat - 32 else c.toNat := by
  unfold up
  have h := c.toNat_lt
  have e1 : (97 ≤ c ∧ c ≤ 122) ↔ (97 ≤ c.toNat ∧ c.toNat ≤ 122) := Iff.rfl
  by_cases h1 : 97 ≤ c.toNat ∧ c.toNat ≤ 122
  · rw [if_pos (e1.2 h1), if_pos h1]
    have : (32 : UInt8) ≤ c := by
      show (32 : UInt8).toNat ≤ c.toNat
      have : (32 : UInt8).toNat = 32 := rfl
      omega
    rw [UInt8.toNat_sub_of_le _ _ this]
    rfl
  · rw [if_neg (fun h => h1 (e1.1 h)), if_neg h1]
theorem fold_up : ∀ {n l : List UInt8}, (∀ c ∈ n, ¬ (97 ≤ c.toNat ∧ c.toNat ≤ 122)) → (Lib.equalFold n l = true ↔ l.map up = n)
  | [], [], _ => by simp [Lib.equalFold]
  | [], _ :: _, _ => by simp [Lib.equalFold]
  | _ :: _, [], _ => by simp [Lib.equalFold]
  | x :: n, y :: l, h => by
    have ih := fold_up (n := n) (l := l) fun c hc => h c (List.mem_cons_of_mem _ hc)
    have hx := h x List.mem_cons_self
    have e : Lib.foldEq x y = true ↔ up y = x := by
      rw [← UInt8.toNat_inj, up_toNat]
      unfold Lib.foldEq
      rw [decide_eq_true_eq]
      split <;> omega
    simp only [Lib.equalFold, Bool.and_eq_true, ih, e, List.map_cons, List.cons.injEq]
theorem badN_iff (l : List UInt8) : badN l ↔ ∃ j, j < 22 ∧ l.map up = namesL.getD j [] := by
  unfold badN
  constructor
  · rintro ⟨j, hj, h⟩; exact ⟨j, hj, (fold_up (up_names j hj)).1 h⟩
  · rintro ⟨j, hj, h⟩; exact ⟨j, hj, (fold_up (up_names j hj)).2 h⟩

def resD (l : List UInt8) : Int :=
  if l = [67, 79, 78, 73, 78, 36] then 0 else if l = [67, 79, 78, 79, 85, 84, 36] then 0
  else if 0 < l.length ∧ lb l (l.length - 1) = 32 then 0
  else if l = [67, 79, 78] then 2 else if l = [80, 82, 78] then 2 else if l = [65, 85, 88] then 2 else if l = [78, 85, 76] then 2
  else if l.length = 4 ∧ (l.take 3 = [67, 79, 77] ∨ l.take 3 = [76, 80, 84]) then
    (if 49 ≤ lb l 3 ∧ lb l 3 ≤ 57 then 2 else if lb l 3 = 48 then 0 else 1)
  else 1
theorem resB_eq (g : ByteArray) : resB g = resD g.data.toList := by
  unfold resB resD
  rw [Lib.toList_data, Lib.toList_data, extract_take, len_size]
  rfl
theorem res_names : ∀ j, j < 22 → resD (namesL.getD j []) = 2 := by decide
theorem four_of {l : List UInt8} (h : l.length = 4) : ∃ a b c d, l = [a, b, c, d] := by
  match l, h with
  | [a, b, c, d], _ => exact ⟨a, b, c, d, rfl⟩
theorem names_com : ∀ n, 49 ≤ n → n ≤ 57 → [67, 79, 77, UInt8.ofNat n] = namesL.getD (n - 45) [] ∧ [76, 80, 84, UInt8.ofNat n] = namesL.getD (n - 36) [] := by
  intro n h1 h2
  have : n = 49 ∨ n = 50 ∨ n = 51 ∨ n = 52 ∨ n = 53 ∨ n = 54 ∨ n = 55 ∨ n = 56 ∨ n = 57 := by omega
  rcases this with h | h | h | h | h | h | h | h | h <;> subst h <;> decide
theorem resD_two {l : List UInt8} (h : resD l = 2) : ∃ j, j < 22 ∧ l = namesL.getD j [] := by
  unfold resD at h
  by_cases c1 : l = [67, 79, 78, 73, 78, 36]
  · rw [if_pos c1] at h; cases h
  rw [if_neg c1] at h
  by_cases c2 : l = [67, 79, 78, 79, 85, 84, 36]
  · rw [if_pos c2] at h; cases h
  rw [if_neg c2] at h
  by_cases c3 : 0 < l.length ∧ lb l (l.length - 1) = 32
  · rw [if_pos c3] at h; cases h
  rw [if_neg c3] at h
  by_cases c4 : l = [67, 79, 78]
  · exact ⟨0, by decide, c4⟩
  by_cases c5 : l = [80, 82, 78]
  · exact ⟨1, by decide, c5⟩
  by_cases c6 : l = [65, 85, 88]
  · exact ⟨2, by decide, c6⟩
  by_cases c7 : l = [78, 85, 76]
  · exact ⟨3, by decide, c7⟩
  rw [if_neg c4, if_neg c5, if_neg c6, if_neg c7] at h
  by_cases c8 : l.length = 4 ∧ (l.take 3 = [67, 79, 77] ∨ l.take 3 = [76, 80, 84])
  · rw [if_pos c8] at h
    by_cases c9 : 49 ≤ lb l 3 ∧ lb l 3 ≤ 57
    · obtain ⟨h4, h5⟩ := c8
      obtain ⟨a, b, c, d, rfl⟩ := four_of h4
      have e : lb [a, b, c, d] 3 = (d.toNat : Int) := rfl
      rw [e] at c9
      have hd : d = UInt8.ofNat d.toNat := by simp
      obtain ⟨n1, n2⟩ := names_com d.toNat (by omega) (by omega)
      rw [← hd] at n1 n2
      rcases h5 with h5 | h5 <;> simp at h5 <;> obtain ⟨rfl, rfl, rfl⟩ := h5
      · exact ⟨d.toNat - 45, by omega, n1⟩
      · exact ⟨d.toNat - 36, by omega, n2⟩
    · rw [if_neg c9] at h
      split at h <;> cases h
  · rw [if_neg c8] at h; cases h
theorem res_two {l : List UInt8} (h : resL l = 2) : badN (shortL l) := by
  rw [badN_iff]
  unfold resL at h
  rw [resB_eq] at h
  obtain ⟨j, hj, h2⟩ := resD_two h
  exact ⟨j, hj, by simpa using h2⟩
theorem res_one {l : List UInt8} (h : resL l = 1) : ¬ badN (shortL l) := by
  rw [badN_iff]
  rintro ⟨j, hj, h2⟩
  unfold resL at h
  rw [resB_eq, h2, res_names j hj] at h
  cases h

end Go.Proofs.YtpbebckhemnooaaFmt.PS
