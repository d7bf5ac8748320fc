/- The plain laws of files' paths, of the names that Windows keeps, and of the three kinds of paths; on lists of bytes, no program in sight, no condition. -/
import Derived.Test.YtpbebckhemnooaaFmtJoin
namespace Go.Proofs.YtpbebckhemnooaaFmt.PS
open Go.RowKit
set_option linter.unusedVariables false
set_option linter.unusedSimpArgs false

theorem file_law {l : List UInt8} {b : Bool} (h : PB 2 l b) : laws_told.f b (pathI true l) = some true := by
  rcases pathI_range true l with e | e | e
  · rw [e]; rfl
  · obtain ⟨h0, h1, h2⟩ := path_one e
    have ha : asc l := asc_of_cut fun x hx => (elem_fine_file (h2 x hx)).1
    have hb : b = true := (h.1 ha).2 ⟨h0, fun c => c.2 rfl, fun x hx => (elem_fine_file (h2 x hx)).2⟩
    rw [e, hb]; rfl
  · obtain ⟨x, hx, h2⟩ := path_two e
    have hw := elem_wrong_file h2
    have hb : b = false := by
      by_cases ha : asc l
      · cases b with
        | false => rfl
        | true => exact absurd (((h.1 ha).1 rfl).2.2 x hx) (hw.1 (asc_cut ha hx))
      · refine (h.2 ha).2 (.inr ⟨x, hx, ?_⟩)
        by_cases hx2 : asc x
        · exact .inr ⟨hx2, hw.1 hx2⟩
        · exact .inl (hw.2 hx2)
    rw [e, hb]; rfl

theorem PB.one {K : Int} {l : List UInt8} (hK : K ≠ 2) {b c : Bool} (h : PB K l b) (h2 : PB K l c) : b = c := by
  by_cases ha : asc l
  · have e : b = true ↔ c = true := (h.1 ha).trans (h2.1 ha).symm
    cases b <;> cases c <;> simp_all
  · rw [(h.2 ha).1 hK, (h2.2 ha).1 hK]

/-- The law of FnThreeKinds. -/
theorem kinds_law {l : List UInt8} {a b c : Bool} (ha : MB l a) (hb : PB 1 l b) (hc : PB 2 l c) : (a = true → b = true) ∧ (b = true → c = true) := by
  refine ⟨fun h => ?_, fun h => ?_⟩
  · subst h
    have hl : asc l := Classical.byContradiction fun h2 => by have := ha.2 h2; cases this
    exact (hb.1 hl).2 (path_01 ((ha.1 hl).1 rfl).1)
  · subst h
    have hl : asc l := Classical.byContradiction fun h2 => by have := (hb.2 h2).1 (by decide); cases this
    exact (hc.1 hl).2 (path_12 ((hb.1 hl).1 rfl))

/-- The eight names of FnElement. -/
def eightL : List (List UInt8) := [[99, 111, 110], [80, 82, 78], [65, 117, 120], [110, 85, 108], [99, 111, 109, 49], [67, 79, 77, 57], [108, 112, 116, 51], [76, 112, 84, 55]]
theorem eight_bad : ∀ j, j < 8 → badN (eightL.getD j []) := by
  intro j hj
  rw [badN_iff]
  have : j = 0 ∨ j = 1 ∨ j = 2 ∨ j = 3 ∨ j = 4 ∨ j = 5 ∨ j = 6 ∨ j = 7 := by omega
  rcases this with rfl | rfl | rfl | rfl | rfl | rfl | rfl | rfl
  · exact ⟨0, by decide, by decide⟩
  · exact ⟨1, by decide, by decide⟩
  · exact ⟨2, by decide, by decide⟩
  · exact ⟨3, by decide, by decide⟩
  · exact ⟨4, by decide, by decide⟩
  · exact ⟨12, by decide, by decide⟩
  · exact ⟨15, by decide, by decide⟩
  · exact ⟨19, by decide, by decide⟩
theorem eight_plain : ∀ j, j < 8 → ∀ c ∈ eightL.getD j [], c ≠ 46 ∧ c ≠ 47 ∧ c.toNat < 128 := by decide
theorem tw_dot : ∀ {n t : List UInt8}, (∀ c ∈ n, c ≠ 46) → shortL (n ++ 46 :: t) = n
  | [], t, _ => rfl
  | c :: n, t, h => by
    have ih := tw_dot (n := n) (t := t) fun d hd => h d (List.mem_cons_of_mem _ hd)
    unfold shortL at ih ⊢
    rw [List.cons_append, List.takeWhile_cons, if_pos (by simpa using h c List.mem_cons_self), ih]
/-- The element of FnElement. -/
def elemN (j : Nat) (t : List UInt8) : List UInt8 := if t = [] then eightL.getD j [] else eightL.getD j [] ++ 46 :: t
theorem elemN_short (j : Nat) (hj : j < 8) (t : List UInt8) : badN (shortL (elemN j t)) := by
  unfold elemN
  have h := eight_plain j hj
  split
  · rw [show shortL (eightL.getD j []) = eightL.getD j [] from tw_all fun c hc => (h c hc).1]
    exact eight_bad j hj
  · rw [tw_dot fun c hc => (h c hc).1]
    exact eight_bad j hj
theorem elemN_47 (j : Nat) (hj : j < 8) {t : List UInt8} (ht : allB true true [45, 95] t = true) : ∀ c ∈ elemN j t, c ≠ 47 := by
  have h := eight_plain j hj
  have h2 := head_ok ht
  intro c hc
  unfold elemN at hc
  split at hc
  · exact (h c hc).2.1
  · rcases List.mem_append.1 hc with hc | hc
    · exact (h c hc).2.1
    · rcases List.mem_cons.1 hc with rfl | hc
      · decide
      · exact (h2 c hc).2.2.2
theorem element_law {p : List UInt8} (j : Nat) (hj : j < 8) {t : List UInt8} (ht : allB true true [45, 95] t = true) {b1 b2 b3 : Bool} (m1 : MB (p ++ 47 :: elemN j t) b1) (m2 : PB 1 (p ++ 47 :: elemN j t) b2)
    (m3 : PB 2 (p ++ 47 :: elemN j t) b3) : b1 = false ∧ b2 = false ∧ b3 = false := by
  have h47 := elemN_47 j hj ht
  have hb := elemN_short j hj t
  have hno : ∀ {K : Int}, ¬ ElemOK K (elemN j t) := fun h => h.2.2.2.2.2.1 hb
  refine ⟨?_, ?_, ?_⟩
  · cases b1 with
    | false => rfl
    | true =>
      have ha : asc (p ++ 47 :: elemN j t) := Classical.byContradiction fun h2 => by have := m1.2 h2; cases this
      exact absurd ((m1.1 ha).1 rfl).1 (join_bad h47 hno)
  · cases b2 with
    | false => rfl
    | true =>
      have ha : asc (p ++ 47 :: elemN j t) := Classical.byContradiction fun h2 => by have := (m2.2 h2).1 (by decide); cases this
      exact absurd ((m2.1 ha).1 rfl) (join_bad h47 hno)
  · by_cases ha : asc (p ++ 47 :: elemN j t)
    · cases b3 with
      | false => rfl
      | true => exact absurd ((m3.1 ha).1 rfl) (join_bad h47 hno)
    · refine (m3.2 ha).2 (.inr ⟨elemN j t, ?_, .inl (.inr (.inr hb))⟩)
      rw [cut_join, no47_cut h47]
      simp

end Go.Proofs.YtpbebckhemnooaaFmt.PS
