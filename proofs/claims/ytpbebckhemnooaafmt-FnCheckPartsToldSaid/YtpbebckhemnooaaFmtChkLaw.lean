/- spec.Major and spec.Check on lists of bytes, and the plain law of module.Check; no condition. -/
import Derived.Test.YtpbebckhemnooaaFmtReadR
import Derived.Test.YtpbebckhemnooaaFmtCpmC
namespace Go.Proofs.YtpbebckhemnooaaFmt.PS
open Go.RowKit
set_option linter.unusedVariables false
set_option linter.unusedSimpArgs false

def majorI (v pm : List UInt8) : Int :=
  match rdL v with
  | none => 0
  | some x =>
    if pm = [] then (if x.2.1 = incL then 0 else if x.1 = [48] ∨ x.1 = [49] then 1 else 2)
    else if pm.length < 3 ∨ lb pm 1 ≠ 118 ∨ svNumB (pm.drop 2) = false ∨ (lb pm 0 ≠ 47 ∧ lb pm 0 ≠ 46) ∨ (lb pm 0 = 47 ∧ (pm = [47, 118, 48] ∨ pm = [47, 118, 49])) then 0
    else if x.2.1 = incL then 0
    else if pm = [46, 118, 49] ∧ 7 < v.length ∧ v.take 7 = v000L then 1
    else if x.1 = pm.drop 2 then 1 else 2
def checkI (s v : List UInt8) : Int :=
  match rdL v with
  | none => 2
  | some x => if modPathI s = 2 then 2 else if x.2.2 < 3 then 0 else if (splitI s).2 = 0 then 0 else joinI (modPathI s) (majorI v (splitI s).1)

theorem rd_long {v : List UInt8} (h : v.take 7 = v000L) (hx : (rdL v).isSome = true) : 7 < v.length := by
  refine Decidable.byContradiction fun hl => ?_
  rw [List.take_of_length_le (by omega)] at h
  rw [h] at hx
  exact absurd hx (by decide)
theorem major_law {v pm : List UInt8} {x : List UInt8 × List UInt8 × Nat} (hx : rdL v = some x) : (majorI v pm = 1 → cpmL v pm = true) ∧ (majorI v pm = 2 → cpmL v pm = false) := by
  have hs : semL v = some (x.1, x.2.1) := by rw [sem_rd, hx]; rfl
  have hm : majL v = 118 :: x.1 := by unfold majL; rw [hs]
  have hb : buiL v = x.2.1 := by unfold buiL; rw [hs]
  have hi : (rdL v).isSome = true := by rw [hx]; rfl
  unfold majorI cpmL
  rw [hx, hm, hb]
  simp only []
  by_cases h0 : pm = []
  · subst h0
    have hz : ¬ (decide (v.take 7 = v000L) && (([] : List UInt8) == [46, 118, 49])) = true := by simp
    rw [if_pos rfl, if_neg hz, if_pos rfl]
    by_cases h1 : x.2.1 = incL
    · rw [if_pos h1]; exact ⟨fun h => absurd h (by decide), fun h => absurd h (by decide)⟩
    rw [if_neg h1]
    by_cases h2 : x.1 = [48] ∨ x.1 = [49]
    · rw [if_pos h2]
      refine ⟨fun _ => ?_, fun h => absurd h (by decide)⟩
      rcases h2 with h2 | h2 <;> rw [h2] <;> rfl
    · rw [if_neg h2]
      obtain ⟨a, b⟩ := not_or.1 h2
      refine ⟨fun h => absurd h (by decide), fun _ => ?_⟩
      simp [a, b, h1]
  rw [if_neg h0, if_neg h0]
  by_cases h1 : pm.length < 3 ∨ lb pm 1 ≠ 118 ∨ svNumB (pm.drop 2) = false ∨ (lb pm 0 ≠ 47 ∧ lb pm 0 ≠ 46) ∨ (lb pm 0 = 47 ∧ (pm = [47, 118, 48] ∨ pm = [47, 118, 49]))
  · rw [if_pos h1]; exact ⟨fun h => absurd h (by decide), fun h => absurd h (by decide)⟩
  rw [if_neg h1]
  obtain ⟨c1, h1⟩ := not_or.1 h1
  obtain ⟨c2, h1⟩ := not_or.1 h1
  obtain ⟨-, h1⟩ := not_or.1 h1
  obtain ⟨c4, -⟩ := not_or.1 h1
  have c2 := Decidable.byContradiction c2
  have c4 : lb pm 0 = 47 ∨ lb pm 0 = 46 := Decidable.byContradiction fun h => c4 (not_or.1 h)
  by_cases h2 : x.2.1 = incL
  · rw [if_pos h2]; exact ⟨fun h => absurd h (by decide), fun h => absurd h (by decide)⟩
  rw [if_neg h2]
  by_cases h3 : pm = [46, 118, 49] ∧ 7 < v.length ∧ v.take 7 = v000L
  · rw [if_pos h3]
    refine ⟨fun _ => ?_, fun h => absurd h (by decide)⟩
    rw [if_pos (by rw [h3.2.2, h3.1]; rfl)]
  have hz : ¬ (decide (v.take 7 = v000L) && (pm == [46, 118, 49])) = true := by
    intro h
    simp only [Bool.and_eq_true, decide_eq_true_eq, beq_iff_eq] at h
    exact h3 ⟨h.2, rd_long h.1 hi, h.1⟩
  rw [if_neg h3, if_neg hz, if_pos c4]
  have e : pm.drop 1 = 118 :: pm.drop 2 := by
    obtain ⟨a, b, r, rfl⟩ : ∃ a b r, pm = a :: b :: r := by
      cases pm with
      | nil => simp at c1
      | cons a pm =>
        cases pm with
        | nil => simp at c1
        | cons b r => exact ⟨a, b, r, rfl⟩
    have : b = 118 := (nat_eq (n := 118) (by omega)).1 c2
    rw [this]
    rfl
  rw [e]
  by_cases h4 : x.1 = pm.drop 2
  · rw [if_pos h4, h4]; exact ⟨fun _ => by simp, fun h => absurd h (by decide)⟩
  · rw [if_neg h4]; exact ⟨fun h => absurd h (by decide), fun _ => by simpa using h4⟩
theorem majorI_range (v pm : List UInt8) : majorI v pm = 0 ∨ majorI v pm = 1 ∨ majorI v pm = 2 := by
  unfold majorI
  cases rdL v with
  | none => exact .inl rfl
  | some x =>
    simp only []
    repeat' split
    all_goals simp

theorem trimB_digits {p d : List UInt8} (h0 : d ≠ []) (h : ∀ c ∈ d, digC c) : trimB (p ++ d) = false := by
  refine Bool.eq_false_iff.2 fun ht => ?_
  unfold trimB at ht
  rw [Bool.and_eq_true, decide_eq_true_eq, decide_eq_true_eq] at ht
  have h2 : ((p ++ d).drop ((p ++ d).length - 9)).getLast? = some 101 := by rw [ht.2.2]; rfl
  rw [List.getLast?_drop, if_neg (by omega), List.getLast?_append, List.getLast?_eq_some_getLast h0, Option.some_or] at h2
  exact (digC_no (h _ (List.getLast_mem h0))).2.2.2 (Option.some.inj h2)
theorem split_trim {l : List UInt8} (h : (splitI l).2 = 1) : trimL (splitI l).1 = (splitI l).1 := by
  have key : trimB (splitI l).1 = false := by
    unfold splitI at h ⊢
    by_cases h9 : l.take 9 = gopkgL
    · rw [if_pos h9] at h ⊢
      unfold gopkgI at h ⊢
      simp only [] at h ⊢
      by_cases g1 : (cutL 46 (lastD (cutL 47 l))).length < 2
      · rw [if_pos g1] at h; exact absurd h (by decide)
      rw [if_neg g1] at h ⊢
      by_cases g2 : 2 < (cutL 46 (lastD (cutL 47 l))).length ∨ (lastD (cutL 46 (lastD (cutL 47 l)))).length < 2 ∨ lb (lastD (cutL 46 (lastD (cutL 47 l)))) 0 ≠ 118 ∨ digitsB ((lastD (cutL 46 (lastD (cutL 47 l)))).drop 1) = false
      · rw [if_pos g2] at h; exact absurd h (by decide)
      rw [if_neg g2] at h ⊢
      obtain ⟨-, g2⟩ := not_or.1 g2
      obtain ⟨m2, g2⟩ := not_or.1 g2
      obtain ⟨m3, m4⟩ := not_or.1 g2
      split
      · decide
      · generalize lastD (cutL 46 (lastD (cutL 47 l))) = v at *
        cases v with
        | nil => simp at m2
        | cons x ds =>
          have hds : digitsB ds = true := by
            simp only [List.drop_succ_cons, List.drop_zero] at m4
            cases hh : digitsB ds <;> simp_all
          obtain ⟨hd0, hd1⟩ := (digits_iff ds).1 hds
          exact trimB_digits (p := [46, x]) hd0 hd1
    · rw [if_neg h9] at h ⊢
      simp only [] at h ⊢
      split
      · decide
      · split
        · decide
        · rfl
  unfold trimL
  rw [if_neg (by rw [key]; decide)]

/-- module.Check answers as spec.Check says. -/
theorem check_law {s v : List UInt8} {b : Bool} (h : MB s b) : laws_told.f (checkL b s v) (checkI s v) = some true := by
  unfold laws_told.f checkL checkI
  cases hx : rdL v with
  | none =>
    have hs : semL v = none := by rw [sem_rd, hx]; rfl
    rw [hs]
    simp
  | some x =>
    have hs : semL v = some (x.1, x.2.1) := by rw [sem_rd, hx]; rfl
    rw [hs]
    simp only [Option.isSome_some, Bool.and_true]
    by_cases h2 : modPathI s = 2
    · have hb : b = false := by
        by_cases ha : asc s
        · cases b with
          | false => rfl
          | true => exact absurd ((h.1 ha).1 rfl) (mod_wrong h2 ha)
        · exact h.2 ha
      rw [if_pos h2, hb]
      rfl
    rw [if_neg h2]
    by_cases h3 : x.2.2 < 3
    · rw [if_pos h3]; rfl
    rw [if_neg h3]
    by_cases h4 : (splitI s).2 = 0
    · rw [if_pos h4]; rfl
    rw [if_neg h4]
    obtain ⟨k1, k2⟩ : (splitI s).2 = 1 ∧ (spvI s).2.1 = (splitI s).1 := by
      rcases split_any s with e | e | e
      · exact absurd e h4
      · exact ⟨e.1, e.2.2⟩
      · exfalso
        apply h2
        unfold modPathI
        split
        · rfl
        · split
          · rfl
          · rw [join_two]; exact .inr e.1
    rw [k2, split_trim k1]
    obtain ⟨l1, l2⟩ := major_law (pm := (splitI s).1) hx
    rcases majorI_range v (splitI s).1 with m | m | m
    · rcases modPathI_range s with n | n | n
      · rw [m, n]; rfl
      · rw [m, n]; rfl
      · exact absurd n h2
    · rcases modPathI_range s with n | n | n
      · rw [m, n]; rfl
      · obtain ⟨ha, hp, -⟩ := mod_fine n
        rw [m, n, l1 m, (h.1 ha).2 hp]; rfl
      · exact absurd n h2
    · rcases modPathI_range s with n | n | n
      · rw [m, n, l2 m, Bool.and_false]; rfl
      · rw [m, n, l2 m, Bool.and_false]; rfl
      · exact absurd n h2

end Go.Proofs.YtpbebckhemnooaaFmt.PS
