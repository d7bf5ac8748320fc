/- strings.EqualFold of two texts of ASCII alone; the walk is turned from the shelf's. -/
import Derived.Test.YtpbebckhemnooaaFmtProg
import Derived.WalkKit
import Derived.Lib.Walk
import Derived.Lib.Strings
import Derived.Laws.Strings3
import Derived.Deep.LoopGhost
import Derived.Lib.Fold
namespace Go.Proofs.YtpbebckhemnooaaFmt
open Go.RowKit Go.Lib
set_option linter.unusedVariables false
set_option linter.unusedSimpArgs false

set_option maxHeartbeats 8000000 in
set_option maxRecDepth 1000000 in
theorem fold_ascii (s t : ByteArray) (w : World) (hs : s.size < 4294967281)
    (has : ∀ (j : Nat) b, s.data.toList[j]? = some b → b.toNat < 128) (hat : ∀ (j : Nat) b, t.data.toList[j]? = some b → b.toNat < 128) :
    Calls Tryf.prog 77 #[.string s, .string t] w fun e w' => e = .returned (.bool (Lib.equalFold s.data.toList t.data.toList)) ∧ w' = w := by
  have HS : Aside (∀ (j : Nat) b, s.data.toList[j]? = some b → b.toNat < 128) := has
  have HT : Aside (∀ (j : Nat) b, t.data.toList[j]? = some b → b.toNat < 128) := hat
  clear has hat
  obtain ⟨M, hM⟩ : ∃ M : Nat, min (s.size : Int) (t.size : Int) = (M : Int) := ⟨min s.size t.size, by omega⟩
  have hMs : M ≤ s.size := by omega
  have hMt : M ≤ t.size := by omega
  have hMe : M = s.size ∨ M = t.size := by omega
  go_enter Tryf.func77, Tryf.ntmps77
  go_wp2
  go_step3
  go_wp2
  go_loopg [5] M (fun g s5 wx => w = wx ∧ ∃ i : Nat, i + g = M ∧ s5 = .int .i64 i ∧ Lib.equalFold (s.data.toList.drop i) (t.data.toList.drop i) = Lib.equalFold s.data.toList t.data.toList)
  case atStart => exact ⟨rfl, 0, by omega, rfl, rfl⟩
  case round =>
    obtain ⟨rfl, i, hig, rfl, hinv⟩ := hrel
    have HI : Aside (Lib.equalFold (s.data.toList.drop i) (t.data.toList.drop i) = Lib.equalFold s.data.toList t.data.toList) := hinv
    clear hinv hM
    cases gk with
    | zero =>
      -- the shorter one has come to its end: 'return len(s) == len(t)'
      have hiM : ¬ ((i : Int) < (M : Int)) := by omega
      obtain rfl : i = M := by omega
      have hE : Lib.equalFold s.data.toList t.data.toList = decide (s.size = t.size) := by
        rw [← HI.out, Lib.equalFold_end _ _ (by
          rcases hMe with h | h
          · exact Or.inl (List.drop_eq_nil_of_le (by rw [← Lib.size_eq]; omega))
          · exact Or.inr (List.drop_eq_nil_of_le (by rw [← Lib.size_eq]; omega))), List.length_drop, List.length_drop, ← Lib.size_eq, ← Lib.size_eq]
        exact decide_eq_decide.2 (by omega)
      by_cases hst : s.size = t.size
      · have hb : ((s.size : Int) == (t.size : Int)) = true := beq_iff_eq.2 (by omega)
        go_wp2
        go_ret
        exact ⟨by rw [hE]; simp [hst], rfl⟩
      · have hb : ((s.size : Int) == (t.size : Int)) = false := beq_eq_false_iff_ne.2 (by omega)
        go_wp2
        go_ret
        exact ⟨by rw [hE]; simp [hst], rfl⟩
    | succ g =>
      have hiM : (i : Int) < (M : Int) := by omega
      have hisz : (i : Int) < (s.size : Int) := by omega
      have hitz : (i : Int) < (t.size : Int) := by omega
      obtain ⟨x, hx⟩ : ∃ x : UInt8, s[i]'(by omega) = x := ⟨_, rfl⟩
      obtain ⟨y, hy⟩ : ∃ y : UInt8, t[i]'(by omega) = y := ⟨_, rfl⟩
      have hxl : s.data.toList[i]? = some x := by rw [← hx]; exact Lib.data_getElem? s i (by omega)
      have hyl : t.data.toList[i]? = some y := by rw [← hy]; exact Lib.data_getElem? t i (by omega)
      have hx128 : x.toNat < 128 := HS.out i x hxl
      have hy128 : y.toNat < 128 := HT.out i y hyl
      have hor : bits .or .u8 (x.toNat : Int) (y.toNat : Int) = ((x.toNat ||| y.toNat : Nat) : Int) := u8_or_nat _ _ (by omega) (by omega)
      have hor128 : ¬ ((128 : Int) ≤ ((x.toNat ||| y.toNat : Nat) : Int)) := by have := Nat.or_lt_two_pow (n := 7) hx128 hy128; omega
      have Hx : Aside (s.data.toList[i]? = some x ∧ t.data.toList[i]? = some y) := ⟨hxl, hyl⟩
      clear hxl hyl
      go_wp2
      -- (the walk parts by itself: nine ways: three go on, six hand back false)
      all_goals (try simp only [beq_iff_eq, beq_eq_false_iff_ne, ne_eq] at *)
      all_goals first
        | (go_roundg g
           case measure => omega
           case rel => exact ⟨rfl, i + 1, by omega, by first | rfl | simp, by rw [← HI.out, Lib.drop_at Hx.out.1, Lib.drop_at Hx.out.2, Lib.equalFold_yes _ _ _ _ (decide_eq_true (by omega))]⟩)
        | (go_ret
           refine ⟨?_, rfl⟩
           rw [← HI.out, Lib.drop_at Hx.out.1, Lib.drop_at Hx.out.2, Lib.equalFold_no _ _ _ _ (decide_eq_false (by omega))]
           rfl)

end Go.Proofs.YtpbebckhemnooaaFmt
