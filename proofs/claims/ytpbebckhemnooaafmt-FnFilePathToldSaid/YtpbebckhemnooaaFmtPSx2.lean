-- Written by a program (myprint.sh: the kit's print, turned to take contracts of mine): one Lean function and its contract for each Go function.
import Derived.Test.YtpbebckhemnooaaFmtPSx0
import Derived.Test.YtpbebckhemnooaaFmtPSx1
namespace Go.Proofs.YtpbebckhemnooaaFmt.PS
open Go.RowKit Go.Proofs.YtpbebckhemnooaaFmtW.PrintWords Go.Proofs.YtpbebckhemnooaaFmtW.PrintLast Go.Proofs.YtpbebckhemnooaaFmtW.PrintMore
attribute [local go_sem] max2_int min2_int max_two min_two max_three min_three max_four min_four   -- for this text's walks alone
set_option linter.unusedVariables false
set_option linter.unusedSimpArgs false

/-! ### spec_All: function 28 -/
def spec_All.l0 : Nat → ByteArray → Bool → Bool → ByteArray → Int → Int → Option (Bool)
  | 0, _, _, _, _, _, _ => none
  | k + 1, x0, x1, x2, x3, x12, x13 => if x13 < x12 then (if 0 ≤ x13 then (if x13 < (x0.size : Int) then (if x1 = true then (if (bt x0 x13) ≥ 97 then (if (bt x0 x13) ≤ 122 then (spec_All.l0 k x0 x1 x2 x3 x12 (wrap64 (x13 + 1))) else (if x2 = true then (if (bt x0 x13) ≥ 65 then (if (bt x0 x13) ≤ 90 then (spec_All.l0 k x0 x1 x2 x3 x12 (wrap64 (x13 + 1))) else (if (bt x0 x13) ≥ 48 then (if (bt x0 x13) ≤ 57 then (spec_All.l0 k x0 x1 x2 x3 x12 (wrap64 (x13 + 1))) else ((spec_In.f k x3 (bt x0 x13)).bind fun t110 => (if t110 = true then (spec_All.l0 k x0 x1 x2 x3 x12 (wrap64 (x13 + 1))) else (some false)))) else ((spec_In.f k x3 (bt x0 x13)).bind fun t111 => (if t111 = true then (spec_All.l0 k x0 x1 x2 x3 x12 (wrap64 (x13 + 1))) else (some false))))) else (if (bt x0 x13) ≥ 48 then (if (bt x0 x13) ≤ 57 then (spec_All.l0 k x0 x1 x2 x3 x12 (wrap64 (x13 + 1))) else ((spec_In.f k x3 (bt x0 x13)).bind fun t112 => (if t112 = true then (spec_All.l0 k x0 x1 x2 x3 x12 (wrap64 (x13 + 1))) else (some false)))) else ((spec_In.f k x3 (bt x0 x13)).bind fun t113 => (if t113 = true then (spec_All.l0 k x0 x1 x2 x3 x12 (wrap64 (x13 + 1))) else (some false))))) else (if (bt x0 x13) ≥ 48 then (if (bt x0 x13) ≤ 57 then (spec_All.l0 k x0 x1 x2 x3 x12 (wrap64 (x13 + 1))) else ((spec_In.f k x3 (bt x0 x13)).bind fun t114 => (if t114 = true then (spec_All.l0 k x0 x1 x2 x3 x12 (wrap64 (x13 + 1))) else (some false)))) else ((spec_In.f k x3 (bt x0 x13)).bind fun t115 => (if t115 = true then (spec_All.l0 k x0 x1 x2 x3 x12 (wrap64 (x13 + 1))) else (some false)))))) else (if x2 = true then (if (bt x0 x13) ≥ 65 then (if (bt x0 x13) ≤ 90 then (spec_All.l0 k x0 x1 x2 x3 x12 (wrap64 (x13 + 1))) else (if (bt x0 x13) ≥ 48 then (if (bt x0 x13) ≤ 57 then (spec_All.l0 k x0 x1 x2 x3 x12 (wrap64 (x13 + 1))) else ((spec_In.f k x3 (bt x0 x13)).bind fun t116 => (if t116 = true then (spec_All.l0 k x0 x1 x2 x3 x12 (wrap64 (x13 + 1))) else (some false)))) else ((spec_In.f k x3 (bt x0 x13)).bind fun t117 => (if t117 = true then (spec_All.l0 k x0 x1 x2 x3 x12 (wrap64 (x13 + 1))) else (some false))))) else (if (bt x0 x13) ≥ 48 then (if (bt x0 x13) ≤ 57 then (spec_All.l0 k x0 x1 x2 x3 x12 (wrap64 (x13 + 1))) else ((spec_In.f k x3 (bt x0 x13)).bind fun t118 => (if t118 = true then (spec_All.l0 k x0 x1 x2 x3 x12 (wrap64 (x13 + 1))) else (some false)))) else ((spec_In.f k x3 (bt x0 x13)).bind fun t119 => (if t119 = true then (spec_All.l0 k x0 x1 x2 x3 x12 (wrap64 (x13 + 1))) else (some false))))) else (if (bt x0 x13) ≥ 48 then (if (bt x0 x13) ≤ 57 then (spec_All.l0 k x0 x1 x2 x3 x12 (wrap64 (x13 + 1))) else ((spec_In.f k x3 (bt x0 x13)).bind fun t120 => (if t120 = true then (spec_All.l0 k x0 x1 x2 x3 x12 (wrap64 (x13 + 1))) else (some false)))) else ((spec_In.f k x3 (bt x0 x13)).bind fun t121 => (if t121 = true then (spec_All.l0 k x0 x1 x2 x3 x12 (wrap64 (x13 + 1))) else (some false)))))) else (if x2 = true then (if (bt x0 x13) ≥ 65 then (if (bt x0 x13) ≤ 90 then (spec_All.l0 k x0 x1 x2 x3 x12 (wrap64 (x13 + 1))) else (if (bt x0 x13) ≥ 48 then (if (bt x0 x13) ≤ 57 then (spec_All.l0 k x0 x1 x2 x3 x12 (wrap64 (x13 + 1))) else ((spec_In.f k x3 (bt x0 x13)).bind fun t122 => (if t122 = true then (spec_All.l0 k x0 x1 x2 x3 x12 (wrap64 (x13 + 1))) else (some false)))) else ((spec_In.f k x3 (bt x0 x13)).bind fun t123 => (if t123 = true then (spec_All.l0 k x0 x1 x2 x3 x12 (wrap64 (x13 + 1))) else (some false))))) else (if (bt x0 x13) ≥ 48 then (if (bt x0 x13) ≤ 57 then (spec_All.l0 k x0 x1 x2 x3 x12 (wrap64 (x13 + 1))) else ((spec_In.f k x3 (bt x0 x13)).bind fun t124 => (if t124 = true then (spec_All.l0 k x0 x1 x2 x3 x12 (wrap64 (x13 + 1))) else (some false)))) else ((spec_In.f k x3 (bt x0 x13)).bind fun t125 => (if t125 = true then (spec_All.l0 k x0 x1 x2 x3 x12 (wrap64 (x13 + 1))) else (some false))))) else (if (bt x0 x13) ≥ 48 then (if (bt x0 x13) ≤ 57 then (spec_All.l0 k x0 x1 x2 x3 x12 (wrap64 (x13 + 1))) else ((spec_In.f k x3 (bt x0 x13)).bind fun t126 => (if t126 = true then (spec_All.l0 k x0 x1 x2 x3 x12 (wrap64 (x13 + 1))) else (some false)))) else ((spec_In.f k x3 (bt x0 x13)).bind fun t127 => (if t127 = true then (spec_All.l0 k x0 x1 x2 x3 x12 (wrap64 (x13 + 1))) else (some false)))))) else (none)) else (none)) else (some true)
def spec_All.f (k : Nat) (a0 : ByteArray) (a1 : Bool) (a2 : Bool) (a3 : ByteArray) : Option (Bool) := spec_All.l0 k a0 a1 a2 a3 (a0.size : Int) 0
theorem spec_All.mono_l : ∀ k, (∀ y0 y1 y2 y3 y4 y5, LeO (spec_All.l0 k y0 y1 y2 y3 y4 y5) (spec_All.l0 (k + 1) y0 y1 y2 y3 y4 y5))
  | 0 => fun _ _ _ _ _ _ r h => by simp [spec_All.l0] at h
  | k + 1 => by
    have ih0 := spec_All.mono_l k
    · intro y0 y1 y2 y3 y4 y5
      unfold spec_All.l0
      repeat' first
      | (with_reducible exact ih0 _ _ _ _ _ _)
      | (with_reducible exact spec_In.mono _ _ _)
      | (with_reducible exact LeO.refl _)
      | (with_reducible exact LeO.none _)
      | (with_reducible refine LeO.ite ?_ ?_)
      | (with_reducible refine LeO.bind ?_ (fun _ => ?_))
      | exact ih0 _ _ _ _ _ _
      | exact spec_In.mono _ _ _
      | exact LeO.none _
      | refine LeO.ite ?_ ?_
      | refine LeO.bind ?_ (fun _ => ?_)
theorem spec_All.mono : ∀ a0 a1 a2 a3 k, LeO (spec_All.f k a0 a1 a2 a3) (spec_All.f (k + 1) a0 a1 a2 a3) := by
  intro a0 a1 a2 a3 k
  have ih0 := spec_All.mono_l k
  unfold spec_All.f
  repeat' first
      | (with_reducible exact ih0 _ _ _ _ _ _)
      | (with_reducible exact spec_In.mono _ _ _)
      | (with_reducible exact LeO.refl _)
      | (with_reducible exact LeO.none _)
      | (with_reducible refine LeO.ite ?_ ?_)
      | (with_reducible refine LeO.bind ?_ (fun _ => ?_))
      | exact ih0 _ _ _ _ _ _
      | exact spec_In.mono _ _ _
      | exact LeO.none _
      | refine LeO.ite ?_ ?_
      | refine LeO.bind ?_ (fun _ => ?_)
set_option maxHeartbeats 8000000 in
set_option maxRecDepth 100000 in
theorem spec_All.calls (k : Nat) (a0 : ByteArray) (a1 : Bool) (a2 : Bool) (a3 : ByteArray) (r : Bool) (w : World) (h : spec_All.f k a0 a1 a2 a3 = some r) :
    Calls Tryf.prog 28 #[.string a0, .bool a1, .bool a2, .string a3] w fun e w' => e = .returned (.bool r) ∧ Drawn0 w w' := by
  have H : (spec_All.l0 k a0 a1 a2 a3 (a0.size : Int) 0) = some r := h
  clear h
  have H' := Aside0.mk H
  clear H
  go_enter Tryf.func28, Tryf.ntmps28
  go_wp2
  go_loopg [13] k (fun kq v13 w' => ∃ (x13_1 : Int), v13 = .int .i64 x13_1 ∧ Aside0 (spec_All.l0 kq a0 a1 a2 a3 (a0.size : Int) x13_1 = some r) ∧ Aside0 (kq ≤ k) ∧ Drawn0 w w')
  case atStart => exact ⟨(0), (by first | rfl | (simp; done) | (simp [*]; done)), H', ⟨Nat.le_refl _⟩, by repeat (first | exact Drawn0.refl _ | apply Drawn0.step)⟩
  case round =>
    clear H'
    try clear c2
    try clear p2
    obtain ⟨x13_1, rfl, HA, HK1, ⟨m1, rfl⟩⟩ := hrel
    cases gk with
    | zero => exact absurd HA.out (by simp [spec_All.l0])
    | succ k1 =>
      have H := HA.out
      clear HA
      simp only [spec_All.l0] at H
      by_cases c5 : x13_1 < (a0.size : Int)
      · rw [if_pos c5] at H
        have c5b0 : decide (x13_1 < (a0.size : Int)) = true := decide_eq_true c5
        clear c5
        by_cases c6 : 0 ≤ x13_1
        · rw [if_pos c6] at H
          have c6b0 : decide (0 ≤ x13_1) = true := decide_eq_true c6
          clear c6
          by_cases c7 : x13_1 < (a0.size : Int)
          · rw [if_pos c7] at H
            have c7b0 : decide (x13_1 < (a0.size : Int)) = true := decide_eq_true c7
            clear c7
            by_cases c9 : a1 = true
            · subst c9
              have H1 : (if (bt a0 x13_1) ≥ 97 then (if (bt a0 x13_1) ≤ 122 then (spec_All.l0 k1 a0 true a2 a3 (a0.size : Int) (wrap64 (x13_1 + 1))) else (if a2 = true then (if (bt a0 x13_1) ≥ 65 then (if (bt a0 x13_1) ≤ 90 then (spec_All.l0 k1 a0 true a2 a3 (a0.size : Int) (wrap64 (x13_1 + 1))) else (if (bt a0 x13_1) ≥ 48 then (if (bt a0 x13_1) ≤ 57 then (spec_All.l0 k1 a0 true a2 a3 (a0.size : Int) (wrap64 (x13_1 + 1))) else ((spec_In.f k1 a3 (bt a0 x13_1)).bind fun t110 => (if t110 = true then (spec_All.l0 k1 a0 true a2 a3 (a0.size : Int) (wrap64 (x13_1 + 1))) else (some false)))) else ((spec_In.f k1 a3 (bt a0 x13_1)).bind fun t111 => (if t111 = true then (spec_All.l0 k1 a0 true a2 a3 (a0.size : Int) (wrap64 (x13_1 + 1))) else (some false))))) else (if (bt a0 x13_1) ≥ 48 then (if (bt a0 x13_1) ≤ 57 then (spec_All.l0 k1 a0 true a2 a3 (a0.size : Int) (wrap64 (x13_1 + 1))) else ((spec_In.f k1 a3 (bt a0 x13_1)).bind fun t112 => (if t112 = true then (spec_All.l0 k1 a0 true a2 a3 (a0.size : Int) (wrap64 (x13_1 + 1))) else (some false)))) else ((spec_In.f k1 a3 (bt a0 x13_1)).bind fun t113 => (if t113 = true then (spec_All.l0 k1 a0 true a2 a3 (a0.size : Int) (wrap64 (x13_1 + 1))) else (some false))))) else (if (bt a0 x13_1) ≥ 48 then (if (bt a0 x13_1) ≤ 57 then (spec_All.l0 k1 a0 true a2 a3 (a0.size : Int) (wrap64 (x13_1 + 1))) else ((spec_In.f k1 a3 (bt a0 x13_1)).bind fun t114 => (if t114 = true then (spec_All.l0 k1 a0 true a2 a3 (a0.size : Int) (wrap64 (x13_1 + 1))) else (some false)))) else ((spec_In.f k1 a3 (bt a0 x13_1)).bind fun t115 => (if t115 = true then (spec_All.l0 k1 a0 true a2 a3 (a0.size : Int) (wrap64 (x13_1 + 1))) else (some false)))))) else (if a2 = true then (if (bt a0 x13_1) ≥ 65 then (if (bt a0 x13_1) ≤ 90 then (spec_All.l0 k1 a0 true a2 a3 (a0.size : Int) (wrap64 (x13_1 + 1))) else (if (bt a0 x13_1) ≥ 48 then (if (bt a0 x13_1) ≤ 57 then (spec_All.l0 k1 a0 true a2 a3 (a0.size : Int) (wrap64 (x13_1 + 1))) else ((spec_In.f k1 a3 (bt a0 x13_1)).bind fun t116 => (if t116 = true then (spec_All.l0 k1 a0 true a2 a3 (a0.size : Int) (wrap64 (x13_1 + 1))) else (some false)))) else ((spec_In.f k1 a3 (bt a0 x13_1)).bind fun t117 => (if t117 = true then (spec_All.l0 k1 a0 true a2 a3 (a0.size : Int) (wrap64 (x13_1 + 1))) else (some false))))) else (if (bt a0 x13_1) ≥ 48 then (if (bt a0 x13_1) ≤ 57 then (spec_All.l0 k1 a0 true a2 a3 (a0.size : Int) (wrap64 (x13_1 + 1))) else ((spec_In.f k1 a3 (bt a0 x13_1)).bind fun t118 => (if t118 = true then (spec_All.l0 k1 a0 true a2 a3 (a0.size : Int) (wrap64 (x13_1 + 1))) else (some false)))) else ((spec_In.f k1 a3 (bt a0 x13_1)).bind fun t119 => (if t119 = true then (spec_All.l0 k1 a0 true a2 a3 (a0.size : Int) (wrap64 (x13_1 + 1))) else (some false))))) else (if (bt a0 x13_1) ≥ 48 then (if (bt a0 x13_1) ≤ 57 then (spec_All.l0 k1 a0 true a2 a3 (a0.size : Int) (wrap64 (x13_1 + 1))) else ((spec_In.f k1 a3 (bt a0 x13_1)).bind fun t120 => (if t120 = true then (spec_All.l0 k1 a0 true a2 a3 (a0.size : Int) (wrap64 (x13_1 + 1))) else (some false)))) else ((spec_In.f k1 a3 (bt a0 x13_1)).bind fun t121 => (if t121 = true then (spec_All.l0 k1 a0 true a2 a3 (a0.size : Int) (wrap64 (x13_1 + 1))) else (some false)))))) = some r := by rw [if_pos rfl] at H; exact H
              clear H
              have H := H1
              clear H1
              by_cases c10 : (bt a0 x13_1) ≥ 97
              · rw [if_pos c10] at H
                have c10b0 : decide (97 ≤ (bt a0 x13_1)) = true := decide_eq_true c10
                clear c10
                by_cases c11 : (bt a0 x13_1) ≤ 122
                · rw [if_pos c11] at H
                  have c11b0 : decide ((bt a0 x13_1) ≤ 122) = true := decide_eq_true c11
                  clear c11
                  have H' := Aside0.mk H
                  clear H
                  have p8 : 0 ≤ (x13_1 : Int) := of_decide_eq_true (by first | (with_reducible assumption) | assumption)
                  have q8 : x13_1 < (a0.size : Int) := of_decide_eq_true (by first | (with_reducible assumption) | assumption)
                  have hx8 := bt_at a0 x13_1
                  replace p8 := eq_true p8
                  replace q8 := eq_true q8
                  go_wp2
                  go_roundg k1
                  case measure => have := HK1.out; omega
                  case rel => exact ⟨(wrap64 (x13_1 + 1)), (by first | rfl | (simp; done) | (simp [*]; done)), H', ⟨by have := HK1.out; omega⟩, by repeat (first | exact Drawn0.refl _ | apply Drawn0.step)⟩
                · rw [if_neg c11] at H
                  have c11b0 : decide ((bt a0 x13_1) ≤ 122) = false := decide_eq_false c11
                  clear c11
                  by_cases c12 : a2 = true
                  · subst c12
                    have H1 : (if (bt a0 x13_1) ≥ 65 then (if (bt a0 x13_1) ≤ 90 then (spec_All.l0 k1 a0 true true a3 (a0.size : Int) (wrap64 (x13_1 + 1))) else (if (bt a0 x13_1) ≥ 48 then (if (bt a0 x13_1) ≤ 57 then (spec_All.l0 k1 a0 true true a3 (a0.size : Int) (wrap64 (x13_1 + 1))) else ((spec_In.f k1 a3 (bt a0 x13_1)).bind fun t110 => (if t110 = true then (spec_All.l0 k1 a0 true true a3 (a0.size : Int) (wrap64 (x13_1 + 1))) else (some false)))) else ((spec_In.f k1 a3 (bt a0 x13_1)).bind fun t111 => (if t111 = true then (spec_All.l0 k1 a0 true true a3 (a0.size : Int) (wrap64 (x13_1 + 1))) else (some false))))) else (if (bt a0 x13_1) ≥ 48 then (if (bt a0 x13_1) ≤ 57 then (spec_All.l0 k1 a0 true true a3 (a0.size : Int) (wrap64 (x13_1 + 1))) else ((spec_In.f k1 a3 (bt a0 x13_1)).bind fun t112 => (if t112 = true then (spec_All.l0 k1 a0 true true a3 (a0.size : Int) (wrap64 (x13_1 + 1))) else (some false)))) else ((spec_In.f k1 a3 (bt a0 x13_1)).bind fun t113 => (if t113 = true then (spec_All.l0 k1 a0 true true a3 (a0.size : Int) (wrap64 (x13_1 + 1))) else (some false))))) = some r := by rw [if_pos rfl] at H; exact H
                    clear H
                    have H := H1
                    clear H1
                    by_cases c13 : (bt a0 x13_1) ≥ 65
                    · rw [if_pos c13] at H
                      have c13b0 : decide (65 ≤ (bt a0 x13_1)) = true := decide_eq_true c13
                      clear c13
                      by_cases c14 : (bt a0 x13_1) ≤ 90
                      · rw [if_pos c14] at H
                        have c14b0 : decide ((bt a0 x13_1) ≤ 90) = true := decide_eq_true c14
                        clear c14
                        have H' := Aside0.mk H
                        clear H
                        have p8 : 0 ≤ (x13_1 : Int) := of_decide_eq_true (by first | (with_reducible assumption) | assumption)
                        have q8 : x13_1 < (a0.size : Int) := of_decide_eq_true (by first | (with_reducible assumption) | assumption)
                        have hx8 := bt_at a0 x13_1
                        replace p8 := eq_true p8
                        replace q8 := eq_true q8
                        go_wp2
                        go_roundg k1
                        case measure => have := HK1.out; omega
                        case rel => exact ⟨(wrap64 (x13_1 + 1)), (by first | rfl | (simp; done) | (simp [*]; done)), H', ⟨by have := HK1.out; omega⟩, by repeat (first | exact Drawn0.refl _ | apply Drawn0.step)⟩
                      · rw [if_neg c14] at H
                        have c14b0 : decide ((bt a0 x13_1) ≤ 90) = false := decide_eq_false c14
                        clear c14
                        by_cases c15 : (bt a0 x13_1) ≥ 48
                        · rw [if_pos c15] at H
                          have c15b0 : decide (48 ≤ (bt a0 x13_1)) = true := decide_eq_true c15
                          clear c15
                          by_cases c16 : (bt a0 x13_1) ≤ 57
                          · rw [if_pos c16] at H
                            have c16b0 : decide ((bt a0 x13_1) ≤ 57) = true := decide_eq_true c16
                            clear c16
                            have H' := Aside0.mk H
                            clear H
                            have p8 : 0 ≤ (x13_1 : Int) := of_decide_eq_true (by first | (with_reducible assumption) | assumption)
                            have q8 : x13_1 < (a0.size : Int) := of_decide_eq_true (by first | (with_reducible assumption) | assumption)
                            have hx8 := bt_at a0 x13_1
                            replace p8 := eq_true p8
                            replace q8 := eq_true q8
                            go_wp2
                            go_roundg k1
                            case measure => have := HK1.out; omega
                            case rel => exact ⟨(wrap64 (x13_1 + 1)), (by first | rfl | (simp; done) | (simp [*]; done)), H', ⟨by have := HK1.out; omega⟩, by repeat (first | exact Drawn0.refl _ | apply Drawn0.step)⟩
                          · rw [if_neg c16] at H
                            have c16b0 : decide ((bt a0 x13_1) ≤ 57) = false := decide_eq_false c16
                            clear c16
                            replace H := Option.bind_eq_some_iff.mp H
                            obtain ⟨t110, A170, H⟩ := H
                            replace H : (if t110 = true then (spec_All.l0 k1 a0 true true a3 (a0.size : Int) (wrap64 (x13_1 + 1))) else (some false)) = some r := H
                            have A17 := Aside0.mk A170
                            clear A170
                            by_cases c18 : t110 = true
                            · subst c18
                              have H1 : (spec_All.l0 k1 a0 true true a3 (a0.size : Int) (wrap64 (x13_1 + 1))) = some r := by rw [if_pos rfl] at H; exact H
                              clear H
                              have H := H1
                              clear H1
                              have H' := Aside0.mk H
                              clear H
                              have p8 : 0 ≤ (x13_1 : Int) := of_decide_eq_true (by first | (with_reducible assumption) | assumption)
                              have q8 : x13_1 < (a0.size : Int) := of_decide_eq_true (by first | (with_reducible assumption) | assumption)
                              have hx8 := bt_at a0 x13_1
                              replace p8 := eq_true p8
                              replace q8 := eq_true q8
                              go_wp2_with (first | (go_at_call 27; (with_reducible refine (spec_In.calls k1 a3 (bt a0 x13_1) true _ A17.out).mono ?_); rintro e w' ⟨rfl, ⟨nd, rfl⟩⟩))
                              go_roundg k1
                              case measure => have := HK1.out; omega
                              case rel => exact ⟨(wrap64 (x13_1 + 1)), (by first | rfl | (simp; done) | (simp [*]; done)), H', ⟨by have := HK1.out; omega⟩, by repeat (first | exact Drawn0.refl _ | apply Drawn0.step)⟩
                            · replace c18 := Bool.eq_false_iff.mpr c18
                              subst c18
                              have H1 : (some false) = some r := by rw [if_neg (show ¬ (false = true) by decide)] at H; exact H
                              clear H
                              have H := H1
                              clear H1
                              obtain rfl := Option.some.inj H
                              have p8 : 0 ≤ (x13_1 : Int) := of_decide_eq_true (by first | (with_reducible assumption) | assumption)
                              have q8 : x13_1 < (a0.size : Int) := of_decide_eq_true (by first | (with_reducible assumption) | assumption)
                              have hx8 := bt_at a0 x13_1
                              replace p8 := eq_true p8
                              replace q8 := eq_true q8
                              go_wp2_with (first | (go_at_call 27; (with_reducible refine (spec_In.calls k1 a3 (bt a0 x13_1) false _ A17.out).mono ?_); rintro e w' ⟨rfl, ⟨nd, rfl⟩⟩))
                              go_ret
                              exact ⟨by first | rfl | (simp; done) | (simp [*]; done), by repeat (first | exact Drawn0.refl _ | apply Drawn0.step)⟩
                        · rw [if_neg c15] at H
                          have c15b0 : decide (48 ≤ (bt a0 x13_1)) = false := decide_eq_false c15
                          clear c15
                          replace H := Option.bind_eq_some_iff.mp H
                          obtain ⟨t111, A190, H⟩ := H
                          replace H : (if t111 = true then (spec_All.l0 k1 a0 true true a3 (a0.size : Int) (wrap64 (x13_1 + 1))) else (some false)) = some r := H
                          have A19 := Aside0.mk A190
                          clear A190
                          by_cases c20 : t111 = true
                          · subst c20
                            have H1 : (spec_All.l0 k1 a0 true true a3 (a0.size : Int) (wrap64 (x13_1 + 1))) = some r := by rw [if_pos rfl] at H; exact H
                            clear H
                            have H := H1
                            clear H1
                            have H' := Aside0.mk H
                            clear H
                            have p8 : 0 ≤ (x13_1 : Int) := of_decide_eq_true (by first | (with_reducible assumption) | assumption)
                            have q8 : x13_1 < (a0.size : Int) := of_decide_eq_true (by first | (with_reducible assumption) | assumption)
                            have hx8 := bt_at a0 x13_1
                            replace p8 := eq_true p8
                            replace q8 := eq_true q8
                            go_wp2_with (first | (go_at_call 27; (with_reducible refine (spec_In.calls k1 a3 (bt a0 x13_1) true _ A19.out).mono ?_); rintro e w' ⟨rfl, ⟨nd, rfl⟩⟩))
                            go_roundg k1
                            case measure => have := HK1.out; omega
                            case rel => exact ⟨(wrap64 (x13_1 + 1)), (by first | rfl | (simp; done) | (simp [*]; done)), H', ⟨by have := HK1.out; omega⟩, by repeat (first | exact Drawn0.refl _ | apply Drawn0.step)⟩
                          · replace c20 := Bool.eq_false_iff.mpr c20
                            subst c20
                            have H1 : (some false) = some r := by rw [if_neg (show ¬ (false = true) by decide)] at H; exact H
                            clear H
                            have H := H1
                            clear H1
                            obtain rfl := Option.some.inj H
                            have p8 : 0 ≤ (x13_1 : Int) := of_decide_eq_true (by first | (with_reducible assumption) | assumption)
                            have q8 : x13_1 < (a0.size : Int) := of_decide_eq_true (by first | (with_reducible assumption) | assumption)
                            have hx8 := bt_at a0 x13_1
                            replace p8 := eq_true p8
                            replace q8 := eq_true q8
                            go_wp2_with (first | (go_at_call 27; (with_reducible refine (spec_In.calls k1 a3 (bt a0 x13_1) false _ A19.out).mono ?_); rintro e w' ⟨rfl, ⟨nd, rfl⟩⟩))
                            go_ret
                            exact ⟨by first | rfl | (simp; done) | (simp [*]; done), by repeat (first | exact Drawn0.refl _ | apply Drawn0.step)⟩
                    · rw [if_neg c13] at H
                      have c13b0 : decide (65 ≤ (bt a0 x13_1)) = false := decide_eq_false c13
                      clear c13
                      by_cases c21 : (bt a0 x13_1) ≥ 48
                      · rw [if_pos c21] at H
                        have c21b0 : decide (48 ≤ (bt a0 x13_1)) = true := decide_eq_true c21
                        clear c21
                        by_cases c22 : (bt a0 x13_1) ≤ 57
                        · rw [if_pos c22] at H
                          have c22b0 : decide ((bt a0 x13_1) ≤ 57) = true := decide_eq_true c22
                          clear c22
                          have H' := Aside0.mk H
                          clear H
                          have p8 : 0 ≤ (x13_1 : Int) := of_decide_eq_true (by first | (with_reducible assumption) | assumption)
                          have q8 : x13_1 < (a0.size : Int) := of_decide_eq_true (by first | (with_reducible assumption) | assumption)
                          have hx8 := bt_at a0 x13_1
                          replace p8 := eq_true p8
                          replace q8 := eq_true q8
                          go_wp2
                          go_roundg k1
                          case measure => have := HK1.out; omega
                          case rel => exact ⟨(wrap64 (x13_1 + 1)), (by first | rfl | (simp; done) | (simp [*]; done)), H', ⟨by have := HK1.out; omega⟩, by repeat (first | exact Drawn0.refl _ | apply Drawn0.step)⟩
                        · rw [if_neg c22] at H
                          have c22b0 : decide ((bt a0 x13_1) ≤ 57) = false := decide_eq_false c22
                          clear c22
                          replace H := Option.bind_eq_some_iff.mp H
                          obtain ⟨t112, A230, H⟩ := H
                          replace H : (if t112 = true then (spec_All.l0 k1 a0 true true a3 (a0.size : Int) (wrap64 (x13_1 + 1))) else (some false)) = some r := H
                          have A23 := Aside0.mk A230
                          clear A230
                          by_cases c24 : t112 = true
                          · subst c24
                            have H1 : (spec_All.l0 k1 a0 true true a3 (a0.size : Int) (wrap64 (x13_1 + 1))) = some r := by rw [if_pos rfl] at H; exact H
                            clear H
                            have H := H1
                            clear H1
                            have H' := Aside0.mk H
                            clear H
                            have p8 : 0 ≤ (x13_1 : Int) := of_decide_eq_true (by first | (with_reducible assumption) | assumption)
                            have q8 : x13_1 < (a0.size : Int) := of_decide_eq_true (by first | (with_reducible assumption) | assumption)
                            have hx8 := bt_at a0 x13_1
                            replace p8 := eq_true p8
                            replace q8 := eq_true q8
                            go_wp2_with (first | (go_at_call 27; (with_reducible refine (spec_In.calls k1 a3 (bt a0 x13_1) true _ A23.out).mono ?_); rintro e w' ⟨rfl, ⟨nd, rfl⟩⟩))
                            go_roundg k1
                            case measure => have := HK1.out; omega
                            case rel => exact ⟨(wrap64 (x13_1 + 1)), (by first | rfl | (simp; done) | (simp [*]; done)), H', ⟨by have := HK1.out; omega⟩, by repeat (first | exact Drawn0.refl _ | apply Drawn0.step)⟩
                          · replace c24 := Bool.eq_false_iff.mpr c24
                            subst c24
                            have H1 : (some false) = some r := by rw [if_neg (show ¬ (false = true) by decide)] at H; exact H
                            clear H
                            have H := H1
                            clear H1
                            obtain rfl := Option.some.inj H
                            have p8 : 0 ≤ (x13_1 : Int) := of_decide_eq_true (by first | (with_reducible assumption) | assumption)
                            have q8 : x13_1 < (a0.size : Int) := of_decide_eq_true (by first | (with_reducible assumption) | assumption)
                            have hx8 := bt_at a0 x13_1
                            replace p8 := eq_true p8
                            replace q8 := eq_true q8
                            go_wp2_with (first | (go_at_call 27; (with_reducible refine (spec_In.calls k1 a3 (bt a0 x13_1) false _ A23.out).mono ?_); rintro e w' ⟨rfl, ⟨nd, rfl⟩⟩))
                            go_ret
                            exact ⟨by first | rfl | (simp; done) | (simp [*]; done), by repeat (first | exact Drawn0.refl _ | apply Drawn0.step)⟩
                      · rw [if_neg c21] at H
                        have c21b0 : decide (48 ≤ (bt a0 x13_1)) = false := decide_eq_false c21
                        clear c21
                        replace H := Option.bind_eq_some_iff.mp H
                        obtain ⟨t113, A250, H⟩ := H
                        replace H : (if t113 = true then (spec_All.l0 k1 a0 true true a3 (a0.size : Int) (wrap64 (x13_1 + 1))) else (some false)) = some r := H
                        have A25 := Aside0.mk A250
                        clear A250
                        by_cases c26 : t113 = true
                        · subst c26
                          have H1 : (spec_All.l0 k1 a0 true true a3 (a0.size : Int) (wrap64 (x13_1 + 1))) = some r := by rw [if_pos rfl] at H; exact H
                          clear H
                          have H := H1
                          clear H1
                          have H' := Aside0.mk H
                          clear H
                          have p8 : 0 ≤ (x13_1 : Int) := of_decide_eq_true (by first | (with_reducible assumption) | assumption)
                          have q8 : x13_1 < (a0.size : Int) := of_decide_eq_true (by first | (with_reducible assumption) | assumption)
                          have hx8 := bt_at a0 x13_1
                          replace p8 := eq_true p8
                          replace q8 := eq_true q8
                          go_wp2_with (first | (go_at_call 27; (with_reducible refine (spec_In.calls k1 a3 (bt a0 x13_1) true _ A25.out).mono ?_); rintro e w' ⟨rfl, ⟨nd, rfl⟩⟩))
                          go_roundg k1
                          case measure => have := HK1.out; omega
                          case rel => exact ⟨(wrap64 (x13_1 + 1)), (by first | rfl | (simp; done) | (simp [*]; done)), H', ⟨by have := HK1.out; omega⟩, by repeat (first | exact Drawn0.refl _ | apply Drawn0.step)⟩
                        · replace c26 := Bool.eq_false_iff.mpr c26
                          subst c26
                          have H1 : (some false) = some r := by rw [if_neg (show ¬ (false = true) by decide)] at H; exact H
                          clear H
                          have H := H1
                          clear H1
                          obtain rfl := Option.some.inj H
                          have p8 : 0 ≤ (x13_1 : Int) := of_decide_eq_true (by first | (with_reducible assumption) | assumption)
                          have q8 : x13_1 < (a0.size : Int) := of_decide_eq_true (by first | (with_reducible assumption) | assumption)
                          have hx8 := bt_at a0 x13_1
                          replace p8 := eq_true p8
                          replace q8 := eq_true q8
                          go_wp2_with (first | (go_at_call 27; (with_reducible refine (spec_In.calls k1 a3 (bt a0 x13_1) false _ A25.out).mono ?_); rintro e w' ⟨rfl, ⟨nd, rfl⟩⟩))
                          go_ret
                          exact ⟨by first | rfl | (simp; done) | (simp [*]; done), by repeat (first | exact Drawn0.refl _ | apply Drawn0.step)⟩
                  · replace c12 := Bool.eq_false_iff.mpr c12
                    subst c12
                    have H1 : (if (bt a0 x13_1) ≥ 48 then (if (bt a0 x13_1) ≤ 57 then (spec_All.l0 k1 a0 true false a3 (a0.size : Int) (wrap64 (x13_1 + 1))) else ((spec_In.f k1 a3 (bt a0 x13_1)).bind fun t114 => (if t114 = true then (spec_All.l0 k1 a0 true false a3 (a0.size : Int) (wrap64 (x13_1 + 1))) else (some false)))) else ((spec_In.f k1 a3 (bt a0 x13_1)).bind fun t115 => (if t115 = true then (spec_All.l0 k1 a0 true false a3 (a0.size : Int) (wrap64 (x13_1 + 1))) else (some false)))) = some r := by rw [if_neg (show ¬ (false = true) by decide)] at H; exact H
                    clear H
                    have H := H1
                    clear H1
                    by_cases c27 : (bt a0 x13_1) ≥ 48
                    · rw [if_pos c27] at H
                      have c27b0 : decide (48 ≤ (bt a0 x13_1)) = true := decide_eq_true c27
                      clear c27
                      by_cases c28 : (bt a0 x13_1) ≤ 57
                      · rw [if_pos c28] at H
                        have c28b0 : decide ((bt a0 x13_1) ≤ 57) = true := decide_eq_true c28
                        clear c28
                        have H' := Aside0.mk H
                        clear H
                        have p8 : 0 ≤ (x13_1 : Int) := of_decide_eq_true (by first | (with_reducible assumption) | assumption)
                        have q8 : x13_1 < (a0.size : Int) := of_decide_eq_true (by first | (with_reducible assumption) | assumption)
                        have hx8 := bt_at a0 x13_1
                        replace p8 := eq_true p8
                        replace q8 := eq_true q8
                        go_wp2
                        go_roundg k1
                        case measure => have := HK1.out; omega
                        case rel => exact ⟨(wrap64 (x13_1 + 1)), (by first | rfl | (simp; done) | (simp [*]; done)), H', ⟨by have := HK1.out; omega⟩, by repeat (first | exact Drawn0.refl _ | apply Drawn0.step)⟩
                      · rw [if_neg c28] at H
                        have c28b0 : decide ((bt a0 x13_1) ≤ 57) = false := decide_eq_false c28
                        clear c28
                        replace H := Option.bind_eq_some_iff.mp H
                        obtain ⟨t114, A290, H⟩ := H
                        replace H : (if t114 = true then (spec_All.l0 k1 a0 true false a3 (a0.size : Int) (wrap64 (x13_1 + 1))) else (some false)) = some r := H
                        have A29 := Aside0.mk A290
                        clear A290
                        by_cases c30 : t114 = true
                        · subst c30
                          have H1 : (spec_All.l0 k1 a0 true false a3 (a0.size : Int) (wrap64 (x13_1 + 1))) = some r := by rw [if_pos rfl] at H; exact H
                          clear H
                          have H := H1
                          clear H1
                          have H' := Aside0.mk H
                          clear H
                          have p8 : 0 ≤ (x13_1 : Int) := of_decide_eq_true (by first | (with_reducible assumption) | assumption)
                          have q8 : x13_1 < (a0.size : Int) := of_decide_eq_true (by first | (with_reducible assumption) | assumption)
                          have hx8 := bt_at a0 x13_1
                          replace p8 := eq_true p8
                          replace q8 := eq_true q8
                          go_wp2_with (first | (go_at_call 27; (with_reducible refine (spec_In.calls k1 a3 (bt a0 x13_1) true _ A29.out).mono ?_); rintro e w' ⟨rfl, ⟨nd, rfl⟩⟩))
                          go_roundg k1
                          case measure => have := HK1.out; omega
                          case rel => exact ⟨(wrap64 (x13_1 + 1)), (by first | rfl | (simp; done) | (simp [*]; done)), H', ⟨by have := HK1.out; omega⟩, by repeat (first | exact Drawn0.refl _ | apply Drawn0.step)⟩
                        · replace c30 := Bool.eq_false_iff.mpr c30
                          subst c30
                          have H1 : (some false) = some r := by rw [if_neg (show ¬ (false = true) by decide)] at H; exact H
                          clear H
                          have H := H1
                          clear H1
                          obtain rfl := Option.some.inj H
                          have p8 : 0 ≤ (x13_1 : Int) := of_decide_eq_true (by first | (with_reducible assumption) | assumption)
                          have q8 : x13_1 < (a0.size : Int) := of_decide_eq_true (by first | (with_reducible assumption) | assumption)
                          have hx8 := bt_at a0 x13_1
                          replace p8 := eq_true p8
                          replace q8 := eq_true q8
                          go_wp2_with (first | (go_at_call 27; (with_reducible refine (spec_In.calls k1 a3 (bt a0 x13_1) false _ A29.out).mono ?_); rintro e w' ⟨rfl, ⟨nd, rfl⟩⟩))
                          go_ret
                          exact ⟨by first | rfl | (simp; done) | (simp [*]; done), by repeat (first | exact Drawn0.refl _ | apply Drawn0.step)⟩
                    · rw [if_neg c27] at H
                      have c27b0 : decide (48 ≤ (bt a0 x13_1)) = false := decide_eq_false c27
                      clear c27
                      replace H := Option.bind_eq_some_iff.mp H
                      obtain ⟨t115, A310, H⟩ := H
                      replace H : (if t115 = true then (spec_All.l0 k1 a0 true false a3 (a0.size : Int) (wrap64 (x13_1 + 1))) else (some false)) = some r := H
                      have A31 := Aside0.mk A310
                      clear A310
                      by_cases c32 : t115 = true
                      · subst c32
                        have H1 : (spec_All.l0 k1 a0 true false a3 (a0.size : Int) (wrap64 (x13_1 + 1))) = some r := by rw [if_pos rfl] at H; exact H
                        clear H
                        have H := H1
                        clear H1
                        have H' := Aside0.mk H
                        clear H
                        have p8 : 0 ≤ (x13_1 : Int) := of_decide_eq_true (by first | (with_reducible assumption) | assumption)
                        have q8 : x13_1 < (a0.size : Int) := of_decide_eq_true (by first | (with_reducible assumption) | assumption)
                        have hx8 := bt_at a0 x13_1
                        replace p8 := eq_true p8
                        replace q8 := eq_true q8
                        go_wp2_with (first | (go_at_call 27; (with_reducible refine (spec_In.calls k1 a3 (bt a0 x13_1) true _ A31.out).mono ?_); rintro e w' ⟨rfl, ⟨nd, rfl⟩⟩))
                        go_roundg k1
                        case measure => have := HK1.out; omega
                        case rel => exact ⟨(wrap64 (x13_1 + 1)), (by first | rfl | (simp; done) | (simp [*]; done)), H', ⟨by have := HK1.out; omega⟩, by repeat (first | exact Drawn0.refl _ | apply Drawn0.step)⟩
                      · replace c32 := Bool.eq_false_iff.mpr c32
                        subst c32
                        have H1 : (some false) = some r := by rw [if_neg (show ¬ (false = true) by decide)] at H; exact H
                        clear H
                        have H := H1
                        clear H1
                        obtain rfl := Option.some.inj H
                        have p8 : 0 ≤ (x13_1 : Int) := of_decide_eq_true (by first | (with_reducible assumption) | assumption)
                        have q8 : x13_1 < (a0.size : Int) := of_decide_eq_true (by first | (with_reducible assumption) | assumption)
                        have hx8 := bt_at a0 x13_1
                        replace p8 := eq_true p8
                        replace q8 := eq_true q8
                        go_wp2_with (first | (go_at_call 27; (with_reducible refine (spec_In.calls k1 a3 (bt a0 x13_1) false _ A31.out).mono ?_); rintro e w' ⟨rfl, ⟨nd, rfl⟩⟩))
                        go_ret
                        exact ⟨by first | rfl | (simp; done) | (simp [*]; done), by repeat (first | exact Drawn0.refl _ | apply Drawn0.step)⟩
              · rw [if_neg c10] at H
                have c10b0 : decide (97 ≤ (bt a0 x13_1)) = false := decide_eq_false c10
                clear c10
                by_cases c33 : a2 = true
                · subst c33
                  have H1 : (if (bt a0 x13_1) ≥ 65 then (if (bt a0 x13_1) ≤ 90 then (spec_All.l0 k1 a0 true true a3 (a0.size : Int) (wrap64 (x13_1 + 1))) else (if (bt a0 x13_1) ≥ 48 then (if (bt a0 x13_1) ≤ 57 then (spec_All.l0 k1 a0 true true a3 (a0.size : Int) (wrap64 (x13_1 + 1))) else ((spec_In.f k1 a3 (bt a0 x13_1)).bind fun t116 => (if t116 = true then (spec_All.l0 k1 a0 true true a3 (a0.size : Int) (wrap64 (x13_1 + 1))) else (some false)))) else ((spec_In.f k1 a3 (bt a0 x13_1)).bind fun t117 => (if t117 = true then (spec_All.l0 k1 a0 true true a3 (a0.size : Int) (wrap64 (x13_1 + 1))) else (some false))))) else (if (bt a0 x13_1) ≥ 48 then (if (bt a0 x13_1) ≤ 57 then (spec_All.l0 k1 a0 true true a3 (a0.size : Int) (wrap64 (x13_1 + 1))) else ((spec_In.f k1 a3 (bt a0 x13_1)).bind fun t118 => (if t118 = true then (spec_All.l0 k1 a0 true true a3 (a0.size : Int) (wrap64 (x13_1 + 1))) else (some false)))) else ((spec_In.f k1 a3 (bt a0 x13_1)).bind fun t119 => (if t119 = true then (spec_All.l0 k1 a0 true true a3 (a0.size : Int) (wrap64 (x13_1 + 1))) else (some false))))) = some r := by rw [if_pos rfl] at H; exact H
                  clear H
                  have H := H1
                  clear H1
                  by_cases c34 : (bt a0 x13_1) ≥ 65
                  · rw [if_pos c34] at H
                    have c34b0 : decide (65 ≤ (bt a0 x13_1)) = true := decide_eq_true c34
                    clear c34
                    by_cases c35 : (bt a0 x13_1) ≤ 90
                    · rw [if_pos c35] at H
                      have c35b0 : decide ((bt a0 x13_1) ≤ 90) = true := decide_eq_true c35
                      clear c35
                      have H' := Aside0.mk H
                      clear H
                      have p8 : 0 ≤ (x13_1 : Int) := of_decide_eq_true (by first | (with_reducible assumption) | assumption)
                      have q8 : x13_1 < (a0.size : Int) := of_decide_eq_true (by first | (with_reducible assumption) | assumption)
                      have hx8 := bt_at a0 x13_1
                      replace p8 := eq_true p8
                      replace q8 := eq_true q8
                      go_wp2
                      go_roundg k1
                      case measure => have := HK1.out; omega
                      case rel => exact ⟨(wrap64 (x13_1 + 1)), (by first | rfl | (simp; done) | (simp [*]; done)), H', ⟨by have := HK1.out; omega⟩, by repeat (first | exact Drawn0.refl _ | apply Drawn0.step)⟩
                    · rw [if_neg c35] at H
                      have c35b0 : decide ((bt a0 x13_1) ≤ 90) = false := decide_eq_false c35
                      clear c35
                      by_cases c36 : (bt a0 x13_1) ≥ 48
                      · rw [if_pos c36] at H
                        have c36b0 : decide (48 ≤ (bt a0 x13_1)) = true := decide_eq_true c36
                        clear c36
                        by_cases c37 : (bt a0 x13_1) ≤ 57
                        · rw [if_pos c37] at H
                          have c37b0 : decide ((bt a0 x13_1) ≤ 57) = true := decide_eq_true c37
                          clear c37
                          have H' := Aside0.mk H
                          clear H
                          have p8 : 0 ≤ (x13_1 : Int) := of_decide_eq_true (by first | (with_reducible assumption) | assumption)
                          have q8 : x13_1 < (a0.size : Int) := of_decide_eq_true (by first | (with_reducible assumption) | assumption)
                          have hx8 := bt_at a0 x13_1
                          replace p8 := eq_true p8
                          replace q8 := eq_true q8
                          go_wp2
                          go_roundg k1
                          case measure => have := HK1.out; omega
                          case rel => exact ⟨(wrap64 (x13_1 + 1)), (by first | rfl | (simp; done) | (simp [*]; done)), H', ⟨by have := HK1.out; omega⟩, by repeat (first | exact Drawn0.refl _ | apply Drawn0.step)⟩
                        · rw [if_neg c37] at H
                          have c37b0 : decide ((bt a0 x13_1) ≤ 57) = false := decide_eq_false c37
                          clear c37
                          replace H := Option.bind_eq_some_iff.mp H
                          obtain ⟨t116, A380, H⟩ := H
                          replace H : (if t116 = true then (spec_All.l0 k1 a0 true true a3 (a0.size : Int) (wrap64 (x13_1 + 1))) else (some false)) = some r := H
                          have A38 := Aside0.mk A380
                          clear A380
                          by_cases c39 : t116 = true
                          · subst c39
                            have H1 : (spec_All.l0 k1 a0 true true a3 (a0.size : Int) (wrap64 (x13_1 + 1))) = some r := by rw [if_pos rfl] at H; exact H
                            clear H
                            have H := H1
                            clear H1
                            have H' := Aside0.mk H
                            clear H
                            have p8 : 0 ≤ (x13_1 : Int) := of_decide_eq_true (by first | (with_reducible assumption) | assumption)
                            have q8 : x13_1 < (a0.size : Int) := of_decide_eq_true (by first | (with_reducible assumption) | assumption)
                            have hx8 := bt_at a0 x13_1
                            replace p8 := eq_true p8
                            replace q8 := eq_true q8
                            go_wp2_with (first | (go_at_call 27; (with_reducible refine (spec_In.calls k1 a3 (bt a0 x13_1) true _ A38.out).mono ?_); rintro e w' ⟨rfl, ⟨nd, rfl⟩⟩))
                            go_roundg k1
                            case measure => have := HK1.out; omega
                            case rel => exact ⟨(wrap64 (x13_1 + 1)), (by first | rfl | (simp; done) | (simp [*]; done)), H', ⟨by have := HK1.out; omega⟩, by repeat (first | exact Drawn0.refl _ | apply Drawn0.step)⟩
                          · replace c39 := Bool.eq_false_iff.mpr c39
                            subst c39
                            have H1 : (some false) = some r := by rw [if_neg (show ¬ (false = true) by decide)] at H; exact H
                            clear H
                            have H := H1
                            clear H1
                            obtain rfl := Option.some.inj H
                            have p8 : 0 ≤ (x13_1 : Int) := of_decide_eq_true (by first | (with_reducible assumption) | assumption)
                            have q8 : x13_1 < (a0.size : Int) := of_decide_eq_true (by first | (with_reducible assumption) | assumption)
                            have hx8 := bt_at a0 x13_1
                            replace p8 := eq_true p8
                            replace q8 := eq_true q8
                            go_wp2_with (first | (go_at_call 27; (with_reducible refine (spec_In.calls k1 a3 (bt a0 x13_1) false _ A38.out).mono ?_); rintro e w' ⟨rfl, ⟨nd, rfl⟩⟩))
                            go_ret
                            exact ⟨by first | rfl | (simp; done) | (simp [*]; done), by repeat (first | exact Drawn0.refl _ | apply Drawn0.step)⟩
                      · rw [if_neg c36] at H
                        have c36b0 : decide (48 ≤ (bt a0 x13_1)) = false := decide_eq_false c36
                        clear c36
                        replace H := Option.bind_eq_some_iff.mp H
                        obtain ⟨t117, A400, H⟩ := H
                        replace H : (if t117 = true then (spec_All.l0 k1 a0 true true a3 (a0.size : Int) (wrap64 (x13_1 + 1))) else (some false)) = some r := H
                        have A40 := Aside0.mk A400
                        clear A400
                        by_cases c41 : t117 = true
                        · subst c41
                          have H1 : (spec_All.l0 k1 a0 true true a3 (a0.size : Int) (wrap64 (x13_1 + 1))) = some r := by rw [if_pos rfl] at H; exact H
                          clear H
                          have H := H1
                          clear H1
                          have H' := Aside0.mk H
                          clear H
                          have p8 : 0 ≤ (x13_1 : Int) := of_decide_eq_true (by first | (with_reducible assumption) | assumption)
                          have q8 : x13_1 < (a0.size : Int) := of_decide_eq_true (by first | (with_reducible assumption) | assumption)
                          have hx8 := bt_at a0 x13_1
                          replace p8 := eq_true p8
                          replace q8 := eq_true q8
                          go_wp2_with (first | (go_at_call 27; (with_reducible refine (spec_In.calls k1 a3 (bt a0 x13_1) true _ A40.out).mono ?_); rintro e w' ⟨rfl, ⟨nd, rfl⟩⟩))
                          go_roundg k1
                          case measure => have := HK1.out; omega
                          case rel => exact ⟨(wrap64 (x13_1 + 1)), (by first | rfl | (simp; done) | (simp [*]; done)), H', ⟨by have := HK1.out; omega⟩, by repeat (first | exact Drawn0.refl _ | apply Drawn0.step)⟩
                        · replace c41 := Bool.eq_false_iff.mpr c41
                          subst c41
                          have H1 : (some false) = some r := by rw [if_neg (show ¬ (false = true) by decide)] at H; exact H
                          clear H
                          have H := H1
                          clear H1
                          obtain rfl := Option.some.inj H
                          have p8 : 0 ≤ (x13_1 : Int) := of_decide_eq_true (by first | (with_reducible assumption) | assumption)
                          have q8 : x13_1 < (a0.size : Int) := of_decide_eq_true (by first | (with_reducible assumption) | assumption)
                          have hx8 := bt_at a0 x13_1
                          replace p8 := eq_true p8
                          replace q8 := eq_true q8
                          go_wp2_with (first | (go_at_call 27; (with_reducible refine (spec_In.calls k1 a3 (bt a0 x13_1) false _ A40.out).mono ?_); rintro e w' ⟨rfl, ⟨nd, rfl⟩⟩))
                          go_ret
                          exact ⟨by first | rfl | (simp; done) | (simp [*]; done), by repeat (first | exact Drawn0.refl _ | apply Drawn0.step)⟩
                  · rw [if_neg c34] at H
                    have c34b0 : decide (65 ≤ (bt a0 x13_1)) = false := decide_eq_false c34
                    clear c34
                    by_cases c42 : (bt a0 x13_1) ≥ 48
                    · rw [if_pos c42] at H
                      have c42b0 : decide (48 ≤ (bt a0 x13_1)) = true := decide_eq_true c42
                      clear c42
                      by_cases c43 : (bt a0 x13_1) ≤ 57
                      · rw [if_pos c43] at H
                        have c43b0 : decide ((bt a0 x13_1) ≤ 57) = true := decide_eq_true c43
                        clear c43
                        have H' := Aside0.mk H
                        clear H
                        have p8 : 0 ≤ (x13_1 : Int) := of_decide_eq_true (by first | (with_reducible assumption) | assumption)
                        have q8 : x13_1 < (a0.size : Int) := of_decide_eq_true (by first | (with_reducible assumption) | assumption)
                        have hx8 := bt_at a0 x13_1
                        replace p8 := eq_true p8
                        replace q8 := eq_true q8
                        go_wp2
                        go_roundg k1
                        case measure => have := HK1.out; omega
                        case rel => exact ⟨(wrap64 (x13_1 + 1)), (by first | rfl | (simp; done) | (simp [*]; done)), H', ⟨by have := HK1.out; omega⟩, by repeat (first | exact Drawn0.refl _ | apply Drawn0.step)⟩
                      · rw [if_neg c43] at H
                        have c43b0 : decide ((bt a0 x13_1) ≤ 57) = false := decide_eq_false c43
                        clear c43
                        replace H := Option.bind_eq_some_iff.mp H
                        obtain ⟨t118, A440, H⟩ := H
                        replace H : (if t118 = true then (spec_All.l0 k1 a0 true true a3 (a0.size : Int) (wrap64 (x13_1 + 1))) else (some false)) = some r := H
                        have A44 := Aside0.mk A440
                        clear A440
                        by_cases c45 : t118 = true
                        · subst c45
                          have H1 : (spec_All.l0 k1 a0 true true a3 (a0.size : Int) (wrap64 (x13_1 + 1))) = some r := by rw [if_pos rfl] at H; exact H
                          clear H
                          have H := H1
                          clear H1
                          have H' := Aside0.mk H
                          clear H
                          have p8 : 0 ≤ (x13_1 : Int) := of_decide_eq_true (by first | (with_reducible assumption) | assumption)
                          have q8 : x13_1 < (a0.size : Int) := of_decide_eq_true (by first | (with_reducible assumption) | assumption)
                          have hx8 := bt_at a0 x13_1
                          replace p8 := eq_true p8
                          replace q8 := eq_true q8
                          go_wp2_with (first | (go_at_call 27; (with_reducible refine (spec_In.calls k1 a3 (bt a0 x13_1) true _ A44.out).mono ?_); rintro e w' ⟨rfl, ⟨nd, rfl⟩⟩))
                          go_roundg k1
                          case measure => have := HK1.out; omega
                          case rel => exact ⟨(wrap64 (x13_1 + 1)), (by first | rfl | (simp; done) | (simp [*]; done)), H', ⟨by have := HK1.out; omega⟩, by repeat (first | exact Drawn0.refl _ | apply Drawn0.step)⟩
                        · replace c45 := Bool.eq_false_iff.mpr c45
                          subst c45
                          have H1 : (some false) = some r := by rw [if_neg (show ¬ (false = true) by decide)] at H; exact H
                          clear H
                          have H := H1
                          clear H1
                          obtain rfl := Option.some.inj H
                          have p8 : 0 ≤ (x13_1 : Int) := of_decide_eq_true (by first | (with_reducible assumption) | assumption)
                          have q8 : x13_1 < (a0.size : Int) := of_decide_eq_true (by first | (with_reducible assumption) | assumption)
                          have hx8 := bt_at a0 x13_1
                          replace p8 := eq_true p8
                          replace q8 := eq_true q8
                          go_wp2_with (first | (go_at_call 27; (with_reducible refine (spec_In.calls k1 a3 (bt a0 x13_1) false _ A44.out).mono ?_); rintro e w' ⟨rfl, ⟨nd, rfl⟩⟩))
                          go_ret
                          exact ⟨by first | rfl | (simp; done) | (simp [*]; done), by repeat (first | exact Drawn0.refl _ | apply Drawn0.step)⟩
                    · rw [if_neg c42] at H
                      have c42b0 : decide (48 ≤ (bt a0 x13_1)) = false := decide_eq_false c42
                      clear c42
                      replace H := Option.bind_eq_some_iff.mp H
                      obtain ⟨t119, A460, H⟩ := H
                      replace H : (if t119 = true then (spec_All.l0 k1 a0 true true a3 (a0.size : Int) (wrap64 (x13_1 + 1))) else (some false)) = some r := H
                      have A46 := Aside0.mk A460
                      clear A460
                      by_cases c47 : t119 = true
                      · subst c47
                        have H1 : (spec_All.l0 k1 a0 true true a3 (a0.size : Int) (wrap64 (x13_1 + 1))) = some r := by rw [if_pos rfl] at H; exact H
                        clear H
                        have H := H1
                        clear H1
                        have H' := Aside0.mk H
                        clear H
                        have p8 : 0 ≤ (x13_1 : Int) := of_decide_eq_true (by first | (with_reducible assumption) | assumption)
                        have q8 : x13_1 < (a0.size : Int) := of_decide_eq_true (by first | (with_reducible assumption) | assumption)
                        have hx8 := bt_at a0 x13_1
                        replace p8 := eq_true p8
                        replace q8 := eq_true q8
                        go_wp2_with (first | (go_at_call 27; (with_reducible refine (spec_In.calls k1 a3 (bt a0 x13_1) true _ A46.out).mono ?_); rintro e w' ⟨rfl, ⟨nd, rfl⟩⟩))
                        go_roundg k1
                        case measure => have := HK1.out; omega
                        case rel => exact ⟨(wrap64 (x13_1 + 1)), (by first | rfl | (simp; done) | (simp [*]; done)), H', ⟨by have := HK1.out; omega⟩, by repeat (first | exact Drawn0.refl _ | apply Drawn0.step)⟩
                      · replace c47 := Bool.eq_false_iff.mpr c47
                        subst c47
                        have H1 : (some false) = some r := by rw [if_neg (show ¬ (false = true) by decide)] at H; exact H
                        clear H
                        have H := H1
                        clear H1
                        obtain rfl := Option.some.inj H
                        have p8 : 0 ≤ (x13_1 : Int) := of_decide_eq_true (by first | (with_reducible assumption) | assumption)
                        have q8 : x13_1 < (a0.size : Int) := of_decide_eq_true (by first | (with_reducible assumption) | assumption)
                        have hx8 := bt_at a0 x13_1
                        replace p8 := eq_true p8
                        replace q8 := eq_true q8
                        go_wp2_with (first | (go_at_call 27; (with_reducible refine (spec_In.calls k1 a3 (bt a0 x13_1) false _ A46.out).mono ?_); rintro e w' ⟨rfl, ⟨nd, rfl⟩⟩))
                        go_ret
                        exact ⟨by first | rfl | (simp; done) | (simp [*]; done), by repeat (first | exact Drawn0.refl _ | apply Drawn0.step)⟩
                · replace c33 := Bool.eq_false_iff.mpr c33
                  subst c33
                  have H1 : (if (bt a0 x13_1) ≥ 48 then (if (bt a0 x13_1) ≤ 57 then (spec_All.l0 k1 a0 true false a3 (a0.size : Int) (wrap64 (x13_1 + 1))) else ((spec_In.f k1 a3 (bt a0 x13_1)).bind fun t120 => (if t120 = true then (spec_All.l0 k1 a0 true false a3 (a0.size : Int) (wrap64 (x13_1 + 1))) else (some false)))) else ((spec_In.f k1 a3 (bt a0 x13_1)).bind fun t121 => (if t121 = true then (spec_All.l0 k1 a0 true false a3 (a0.size : Int) (wrap64 (x13_1 + 1))) else (some false)))) = some r := by rw [if_neg (show ¬ (false = true) by decide)] at H; exact H
                  clear H
                  have H := H1
                  clear H1
                  by_cases c48 : (bt a0 x13_1) ≥ 48
                  · rw [if_pos c48] at H
                    have c48b0 : decide (48 ≤ (bt a0 x13_1)) = true := decide_eq_true c48
                    clear c48
                    by_cases c49 : (bt a0 x13_1) ≤ 57
                    · rw [if_pos c49] at H
                      have c49b0 : decide ((bt a0 x13_1) ≤ 57) = true := decide_eq_true c49
                      clear c49
                      have H' := Aside0.mk H
                      clear H
                      have p8 : 0 ≤ (x13_1 : Int) := of_decide_eq_true (by first | (with_reducible assumption) | assumption)
                      have q8 : x13_1 < (a0.size : Int) := of_decide_eq_true (by first | (with_reducible assumption) | assumption)
                      have hx8 := bt_at a0 x13_1
                      replace p8 := eq_true p8
                      replace q8 := eq_true q8
                      go_wp2
                      go_roundg k1
                      case measure => have := HK1.out; omega
                      case rel => exact ⟨(wrap64 (x13_1 + 1)), (by first | rfl | (simp; done) | (simp [*]; done)), H', ⟨by have := HK1.out; omega⟩, by repeat (first | exact Drawn0.refl _ | apply Drawn0.step)⟩
                    · rw [if_neg c49] at H
                      have c49b0 : decide ((bt a0 x13_1) ≤ 57) = false := decide_eq_false c49
                      clear c49
                      replace H := Option.bind_eq_some_iff.mp H
                      obtain ⟨t120, A500, H⟩ := H
                      replace H : (if t120 = true then (spec_All.l0 k1 a0 true false a3 (a0.size : Int) (wrap64 (x13_1 + 1))) else (some false)) = some r := H
                      have A50 := Aside0.mk A500
                      clear A500
                      by_cases c51 : t120 = true
                      · subst c51
                        have H1 : (spec_All.l0 k1 a0 true false a3 (a0.size : Int) (wrap64 (x13_1 + 1))) = some r := by rw [if_pos rfl] at H; exact H
                        clear H
                        have H := H1
                        clear H1
                        have H' := Aside0.mk H
                        clear H
                        have p8 : 0 ≤ (x13_1 : Int) := of_decide_eq_true (by first | (with_reducible assumption) | assumption)
                        have q8 : x13_1 < (a0.size : Int) := of_decide_eq_true (by first | (with_reducible assumption) | assumption)
                        have hx8 := bt_at a0 x13_1
                        replace p8 := eq_true p8
                        replace q8 := eq_true q8
                        go_wp2_with (first | (go_at_call 27; (with_reducible refine (spec_In.calls k1 a3 (bt a0 x13_1) true _ A50.out).mono ?_); rintro e w' ⟨rfl, ⟨nd, rfl⟩⟩))
                        go_roundg k1
                        case measure => have := HK1.out; omega
                        case rel => exact ⟨(wrap64 (x13_1 + 1)), (by first | rfl | (simp; done) | (simp [*]; done)), H', ⟨by have := HK1.out; omega⟩, by repeat (first | exact Drawn0.refl _ | apply Drawn0.step)⟩
                      · replace c51 := Bool.eq_false_iff.mpr c51
                        subst c51
                        have H1 : (some false) = some r := by rw [if_neg (show ¬ (false = true) by decide)] at H; exact H
                        clear H
                        have H := H1
                        clear H1
                        obtain rfl := Option.some.inj H
                        have p8 : 0 ≤ (x13_1 : Int) := of_decide_eq_true (by first | (with_reducible assumption) | assumption)
                        have q8 : x13_1 < (a0.size : Int) := of_decide_eq_true (by first | (with_reducible assumption) | assumption)
                        have hx8 := bt_at a0 x13_1
                        replace p8 := eq_true p8
                        replace q8 := eq_true q8
                        go_wp2_with (first | (go_at_call 27; (with_reducible refine (spec_In.calls k1 a3 (bt a0 x13_1) false _ A50.out).mono ?_); rintro e w' ⟨rfl, ⟨nd, rfl⟩⟩))
                        go_ret
                        exact ⟨by first | rfl | (simp; done) | (simp [*]; done), by repeat (first | exact Drawn0.refl _ | apply Drawn0.step)⟩
                  · rw [if_neg c48] at H
                    have c48b0 : decide (48 ≤ (bt a0 x13_1)) = false := decide_eq_false c48
                    clear c48
                    replace H := Option.bind_eq_some_iff.mp H
                    obtain ⟨t121, A520, H⟩ := H
                    replace H : (if t121 = true then (spec_All.l0 k1 a0 true false a3 (a0.size : Int) (wrap64 (x13_1 + 1))) else (some false)) = some r := H
                    have A52 := Aside0.mk A520
                    clear A520
                    by_cases c53 : t121 = true
                    · subst c53
                      have H1 : (spec_All.l0 k1 a0 true false a3 (a0.size : Int) (wrap64 (x13_1 + 1))) = some r := by rw [if_pos rfl] at H; exact H
                      clear H
                      have H := H1
                      clear H1
                      have H' := Aside0.mk H
                      clear H
                      have p8 : 0 ≤ (x13_1 : Int) := of_decide_eq_true (by first | (with_reducible assumption) | assumption)
                      have q8 : x13_1 < (a0.size : Int) := of_decide_eq_true (by first | (with_reducible assumption) | assumption)
                      have hx8 := bt_at a0 x13_1
                      replace p8 := eq_true p8
                      replace q8 := eq_true q8
                      go_wp2_with (first | (go_at_call 27; (with_reducible refine (spec_In.calls k1 a3 (bt a0 x13_1) true _ A52.out).mono ?_); rintro e w' ⟨rfl, ⟨nd, rfl⟩⟩))
                      go_roundg k1
                      case measure => have := HK1.out; omega
                      case rel => exact ⟨(wrap64 (x13_1 + 1)), (by first | rfl | (simp; done) | (simp [*]; done)), H', ⟨by have := HK1.out; omega⟩, by repeat (first | exact Drawn0.refl _ | apply Drawn0.step)⟩
                    · replace c53 := Bool.eq_false_iff.mpr c53
                      subst c53
                      have H1 : (some false) = some r := by rw [if_neg (show ¬ (false = true) by decide)] at H; exact H
                      clear H
                      have H := H1
                      clear H1
                      obtain rfl := Option.some.inj H
                      have p8 : 0 ≤ (x13_1 : Int) := of_decide_eq_true (by first | (with_reducible assumption) | assumption)
                      have q8 : x13_1 < (a0.size : Int) := of_decide_eq_true (by first | (with_reducible assumption) | assumption)
                      have hx8 := bt_at a0 x13_1
                      replace p8 := eq_true p8
                      replace q8 := eq_true q8
                      go_wp2_with (first | (go_at_call 27; (with_reducible refine (spec_In.calls k1 a3 (bt a0 x13_1) false _ A52.out).mono ?_); rintro e w' ⟨rfl, ⟨nd, rfl⟩⟩))
                      go_ret
                      exact ⟨by first | rfl | (simp; done) | (simp [*]; done), by repeat (first | exact Drawn0.refl _ | apply Drawn0.step)⟩
            · replace c9 := Bool.eq_false_iff.mpr c9
              subst c9
              have H1 : (if a2 = true then (if (bt a0 x13_1) ≥ 65 then (if (bt a0 x13_1) ≤ 90 then (spec_All.l0 k1 a0 false a2 a3 (a0.size : Int) (wrap64 (x13_1 + 1))) else (if (bt a0 x13_1) ≥ 48 then (if (bt a0 x13_1) ≤ 57 then (spec_All.l0 k1 a0 false a2 a3 (a0.size : Int) (wrap64 (x13_1 + 1))) else ((spec_In.f k1 a3 (bt a0 x13_1)).bind fun t122 => (if t122 = true then (spec_All.l0 k1 a0 false a2 a3 (a0.size : Int) (wrap64 (x13_1 + 1))) else (some false)))) else ((spec_In.f k1 a3 (bt a0 x13_1)).bind fun t123 => (if t123 = true then (spec_All.l0 k1 a0 false a2 a3 (a0.size : Int) (wrap64 (x13_1 + 1))) else (some false))))) else (if (bt a0 x13_1) ≥ 48 then (if (bt a0 x13_1) ≤ 57 then (spec_All.l0 k1 a0 false a2 a3 (a0.size : Int) (wrap64 (x13_1 + 1))) else ((spec_In.f k1 a3 (bt a0 x13_1)).bind fun t124 => (if t124 = true then (spec_All.l0 k1 a0 false a2 a3 (a0.size : Int) (wrap64 (x13_1 + 1))) else (some false)))) else ((spec_In.f k1 a3 (bt a0 x13_1)).bind fun t125 => (if t125 = true then (spec_All.l0 k1 a0 false a2 a3 (a0.size : Int) (wrap64 (x13_1 + 1))) else (some false))))) else (if (bt a0 x13_1) ≥ 48 then (if (bt a0 x13_1) ≤ 57 then (spec_All.l0 k1 a0 false a2 a3 (a0.size : Int) (wrap64 (x13_1 + 1))) else ((spec_In.f k1 a3 (bt a0 x13_1)).bind fun t126 => (if t126 = true then (spec_All.l0 k1 a0 false a2 a3 (a0.size : Int) (wrap64 (x13_1 + 1))) else (some false)))) else ((spec_In.f k1 a3 (bt a0 x13_1)).bind fun t127 => (if t127 = true then (spec_All.l0 k1 a0 false a2 a3 (a0.size : Int) (wrap64 (x13_1 + 1))) else (some false))))) = some r := by rw [if_neg (show ¬ (false = true) by decide)] at H; exact H
              clear H
              have H := H1
              clear H1
              by_cases c54 : a2 = true
              · subst c54
                have H1 : (if (bt a0 x13_1) ≥ 65 then (if (bt a0 x13_1) ≤ 90 then (spec_All.l0 k1 a0 false true a3 (a0.size : Int) (wrap64 (x13_1 + 1))) else (if (bt a0 x13_1) ≥ 48 then (if (bt a0 x13_1) ≤ 57 then (spec_All.l0 k1 a0 false true a3 (a0.size : Int) (wrap64 (x13_1 + 1))) else ((spec_In.f k1 a3 (bt a0 x13_1)).bind fun t122 => (if t122 = true then (spec_All.l0 k1 a0 false true a3 (a0.size : Int) (wrap64 (x13_1 + 1))) else (some false)))) else ((spec_In.f k1 a3 (bt a0 x13_1)).bind fun t123 => (if t123 = true then (spec_All.l0 k1 a0 false true a3 (a0.size : Int) (wrap64 (x13_1 + 1))) else (some false))))) else (if (bt a0 x13_1) ≥ 48 then (if (bt a0 x13_1) ≤ 57 then (spec_All.l0 k1 a0 false true a3 (a0.size : Int) (wrap64 (x13_1 + 1))) else ((spec_In.f k1 a3 (bt a0 x13_1)).bind fun t124 => (if t124 = true then (spec_All.l0 k1 a0 false true a3 (a0.size : Int) (wrap64 (x13_1 + 1))) else (some false)))) else ((spec_In.f k1 a3 (bt a0 x13_1)).bind fun t125 => (if t125 = true then (spec_All.l0 k1 a0 false true a3 (a0.size : Int) (wrap64 (x13_1 + 1))) else (some false))))) = some r := by rw [if_pos rfl] at H; exact H
                clear H
                have H := H1
                clear H1
                by_cases c55 : (bt a0 x13_1) ≥ 65
                · rw [if_pos c55] at H
                  have c55b0 : decide (65 ≤ (bt a0 x13_1)) = true := decide_eq_true c55
                  clear c55
                  by_cases c56 : (bt a0 x13_1) ≤ 90
                  · rw [if_pos c56] at H
                    have c56b0 : decide ((bt a0 x13_1) ≤ 90) = true := decide_eq_true c56
                    clear c56
                    have H' := Aside0.mk H
                    clear H
                    have p8 : 0 ≤ (x13_1 : Int) := of_decide_eq_true (by first | (with_reducible assumption) | assumption)
                    have q8 : x13_1 < (a0.size : Int) := of_decide_eq_true (by first | (with_reducible assumption) | assumption)
                    have hx8 := bt_at a0 x13_1
                    replace p8 := eq_true p8
                    replace q8 := eq_true q8
                    go_wp2
                    go_roundg k1
                    case measure => have := HK1.out; omega
                    case rel => exact ⟨(wrap64 (x13_1 + 1)), (by first | rfl | (simp; done) | (simp [*]; done)), H', ⟨by have := HK1.out; omega⟩, by repeat (first | exact Drawn0.refl _ | apply Drawn0.step)⟩
                  · rw [if_neg c56] at H
                    have c56b0 : decide ((bt a0 x13_1) ≤ 90) = false := decide_eq_false c56
                    clear c56
                    by_cases c57 : (bt a0 x13_1) ≥ 48
                    · rw [if_pos c57] at H
                      have c57b0 : decide (48 ≤ (bt a0 x13_1)) = true := decide_eq_true c57
                      clear c57
                      by_cases c58 : (bt a0 x13_1) ≤ 57
                      · rw [if_pos c58] at H
                        have c58b0 : decide ((bt a0 x13_1) ≤ 57) = true := decide_eq_true c58
                        clear c58
                        have H' := Aside0.mk H
                        clear H
                        have p8 : 0 ≤ (x13_1 : Int) := of_decide_eq_true (by first | (with_reducible assumption) | assumption)
                        have q8 : x13_1 < (a0.size : Int) := of_decide_eq_true (by first | (with_reducible assumption) | assumption)
                        have hx8 := bt_at a0 x13_1
                        replace p8 := eq_true p8
                        replace q8 := eq_true q8
                        go_wp2
                        go_roundg k1
                        case measure => have := HK1.out; omega
                        case rel => exact ⟨(wrap64 (x13_1 + 1)), (by first | rfl | (simp; done) | (simp [*]; done)), H', ⟨by have := HK1.out; omega⟩, by repeat (first | exact Drawn0.refl _ | apply Drawn0.step)⟩
                      · rw [if_neg c58] at H
                        have c58b0 : decide ((bt a0 x13_1) ≤ 57) = false := decide_eq_false c58
                        clear c58
                        replace H := Option.bind_eq_some_iff.mp H
                        obtain ⟨t122, A590, H⟩ := H
                        replace H : (if t122 = true then (spec_All.l0 k1 a0 false true a3 (a0.size : Int) (wrap64 (x13_1 + 1))) else (some false)) = some r := H
                        have A59 := Aside0.mk A590
                        clear A590
                        by_cases c60 : t122 = true
                        · subst c60
                          have H1 : (spec_All.l0 k1 a0 false true a3 (a0.size : Int) (wrap64 (x13_1 + 1))) = some r := by rw [if_pos rfl] at H; exact H
                          clear H
                          have H := H1
                          clear H1
                          have H' := Aside0.mk H
                          clear H
                          have p8 : 0 ≤ (x13_1 : Int) := of_decide_eq_true (by first | (with_reducible assumption) | assumption)
                          have q8 : x13_1 < (a0.size : Int) := of_decide_eq_true (by first | (with_reducible assumption) | assumption)
                          have hx8 := bt_at a0 x13_1
                          replace p8 := eq_true p8
                          replace q8 := eq_true q8
                          go_wp2_with (first | (go_at_call 27; (with_reducible refine (spec_In.calls k1 a3 (bt a0 x13_1) true _ A59.out).mono ?_); rintro e w' ⟨rfl, ⟨nd, rfl⟩⟩))
                          go_roundg k1
                          case measure => have := HK1.out; omega
                          case rel => exact ⟨(wrap64 (x13_1 + 1)), (by first | rfl | (simp; done) | (simp [*]; done)), H', ⟨by have := HK1.out; omega⟩, by repeat (first | exact Drawn0.refl _ | apply Drawn0.step)⟩
                        · replace c60 := Bool.eq_false_iff.mpr c60
                          subst c60
                          have H1 : (some false) = some r := by rw [if_neg (show ¬ (false = true) by decide)] at H; exact H
                          clear H
                          have H := H1
                          clear H1
                          obtain rfl := Option.some.inj H
                          have p8 : 0 ≤ (x13_1 : Int) := of_decide_eq_true (by first | (with_reducible assumption) | assumption)
                          have q8 : x13_1 < (a0.size : Int) := of_decide_eq_true (by first | (with_reducible assumption) | assumption)
                          have hx8 := bt_at a0 x13_1
                          replace p8 := eq_true p8
                          replace q8 := eq_true q8
                          go_wp2_with (first | (go_at_call 27; (with_reducible refine (spec_In.calls k1 a3 (bt a0 x13_1) false _ A59.out).mono ?_); rintro e w' ⟨rfl, ⟨nd, rfl⟩⟩))
                          go_ret
                          exact ⟨by first | rfl | (simp; done) | (simp [*]; done), by repeat (first | exact Drawn0.refl _ | apply Drawn0.step)⟩
                    · rw [if_neg c57] at H
                      have c57b0 : decide (48 ≤ (bt a0 x13_1)) = false := decide_eq_false c57
                      clear c57
                      replace H := Option.bind_eq_some_iff.mp H
                      obtain ⟨t123, A610, H⟩ := H
                      replace H : (if t123 = true then (spec_All.l0 k1 a0 false true a3 (a0.size : Int) (wrap64 (x13_1 + 1))) else (some false)) = some r := H
                      have A61 := Aside0.mk A610
                      clear A610
                      by_cases c62 : t123 = true
                      · subst c62
                        have H1 : (spec_All.l0 k1 a0 false true a3 (a0.size : Int) (wrap64 (x13_1 + 1))) = some r := by rw [if_pos rfl] at H; exact H
                        clear H
                        have H := H1
                        clear H1
                        have H' := Aside0.mk H
                        clear H
                        have p8 : 0 ≤ (x13_1 : Int) := of_decide_eq_true (by first | (with_reducible assumption) | assumption)
                        have q8 : x13_1 < (a0.size : Int) := of_decide_eq_true (by first | (with_reducible assumption) | assumption)
                        have hx8 := bt_at a0 x13_1
                        replace p8 := eq_true p8
                        replace q8 := eq_true q8
                        go_wp2_with (first | (go_at_call 27; (with_reducible refine (spec_In.calls k1 a3 (bt a0 x13_1) true _ A61.out).mono ?_); rintro e w' ⟨rfl, ⟨nd, rfl⟩⟩))
                        go_roundg k1
                        case measure => have := HK1.out; omega
                        case rel => exact ⟨(wrap64 (x13_1 + 1)), (by first | rfl | (simp; done) | (simp [*]; done)), H', ⟨by have := HK1.out; omega⟩, by repeat (first | exact Drawn0.refl _ | apply Drawn0.step)⟩
                      · replace c62 := Bool.eq_false_iff.mpr c62
                        subst c62
                        have H1 : (some false) = some r := by rw [if_neg (show ¬ (false = true) by decide)] at H; exact H
                        clear H
                        have H := H1
                        clear H1
                        obtain rfl := Option.some.inj H
                        have p8 : 0 ≤ (x13_1 : Int) := of_decide_eq_true (by first | (with_reducible assumption) | assumption)
                        have q8 : x13_1 < (a0.size : Int) := of_decide_eq_true (by first | (with_reducible assumption) | assumption)
                        have hx8 := bt_at a0 x13_1
                        replace p8 := eq_true p8
                        replace q8 := eq_true q8
                        go_wp2_with (first | (go_at_call 27; (with_reducible refine (spec_In.calls k1 a3 (bt a0 x13_1) false _ A61.out).mono ?_); rintro e w' ⟨rfl, ⟨nd, rfl⟩⟩))
                        go_ret
                        exact ⟨by first | rfl | (simp; done) | (simp [*]; done), by repeat (first | exact Drawn0.refl _ | apply Drawn0.step)⟩
                · rw [if_neg c55] at H
                  have c55b0 : decide (65 ≤ (bt a0 x13_1)) = false := decide_eq_false c55
                  clear c55
                  by_cases c63 : (bt a0 x13_1) ≥ 48
                  · rw [if_pos c63] at H
                    have c63b0 : decide (48 ≤ (bt a0 x13_1)) = true := decide_eq_true c63
                    clear c63
                    by_cases c64 : (bt a0 x13_1) ≤ 57
                    · rw [if_pos c64] at H
                      have c64b0 : decide ((bt a0 x13_1) ≤ 57) = true := decide_eq_true c64
                      clear c64
                      have H' := Aside0.mk H
                      clear H
                      have p8 : 0 ≤ (x13_1 : Int) := of_decide_eq_true (by first | (with_reducible assumption) | assumption)
                      have q8 : x13_1 < (a0.size : Int) := of_decide_eq_true (by first | (with_reducible assumption) | assumption)
                      have hx8 := bt_at a0 x13_1
                      replace p8 := eq_true p8
                      replace q8 := eq_true q8
                      go_wp2
                      go_roundg k1
                      case measure => have := HK1.out; omega
                      case rel => exact ⟨(wrap64 (x13_1 + 1)), (by first | rfl | (simp; done) | (simp [*]; done)), H', ⟨by have := HK1.out; omega⟩, by repeat (first | exact Drawn0.refl _ | apply Drawn0.step)⟩
                    · rw [if_neg c64] at H
                      have c64b0 : decide ((bt a0 x13_1) ≤ 57) = false := decide_eq_false c64
                      clear c64
                      replace H := Option.bind_eq_some_iff.mp H
                      obtain ⟨t124, A650, H⟩ := H
                      replace H : (if t124 = true then (spec_All.l0 k1 a0 false true a3 (a0.size : Int) (wrap64 (x13_1 + 1))) else (some false)) = some r := H
                      have A65 := Aside0.mk A650
                      clear A650
                      by_cases c66 : t124 = true
                      · subst c66
                        have H1 : (spec_All.l0 k1 a0 false true a3 (a0.size : Int) (wrap64 (x13_1 + 1))) = some r := by rw [if_pos rfl] at H; exact H
                        clear H
                        have H := H1
                        clear H1
                        have H' := Aside0.mk H
                        clear H
                        have p8 : 0 ≤ (x13_1 : Int) := of_decide_eq_true (by first | (with_reducible assumption) | assumption)
                        have q8 : x13_1 < (a0.size : Int) := of_decide_eq_true (by first | (with_reducible assumption) | assumption)
                        have hx8 := bt_at a0 x13_1
                        replace p8 := eq_true p8
                        replace q8 := eq_true q8
                        go_wp2_with (first | (go_at_call 27; (with_reducible refine (spec_In.calls k1 a3 (bt a0 x13_1) true _ A65.out).mono ?_); rintro e w' ⟨rfl, ⟨nd, rfl⟩⟩))
                        go_roundg k1
                        case measure => have := HK1.out; omega
                        case rel => exact ⟨(wrap64 (x13_1 + 1)), (by first | rfl | (simp; done) | (simp [*]; done)), H', ⟨by have := HK1.out; omega⟩, by repeat (first | exact Drawn0.refl _ | apply Drawn0.step)⟩
                      · replace c66 := Bool.eq_false_iff.mpr c66
                        subst c66
                        have H1 : (some false) = some r := by rw [if_neg (show ¬ (false = true) by decide)] at H; exact H
                        clear H
                        have H := H1
                        clear H1
                        obtain rfl := Option.some.inj H
                        have p8 : 0 ≤ (x13_1 : Int) := of_decide_eq_true (by first | (with_reducible assumption) | assumption)
                        have q8 : x13_1 < (a0.size : Int) := of_decide_eq_true (by first | (with_reducible assumption) | assumption)
                        have hx8 := bt_at a0 x13_1
                        replace p8 := eq_true p8
                        replace q8 := eq_true q8
                        go_wp2_with (first | (go_at_call 27; (with_reducible refine (spec_In.calls k1 a3 (bt a0 x13_1) false _ A65.out).mono ?_); rintro e w' ⟨rfl, ⟨nd, rfl⟩⟩))
                        go_ret
                        exact ⟨by first | rfl | (simp; done) | (simp [*]; done), by repeat (first | exact Drawn0.refl _ | apply Drawn0.step)⟩
                  · rw [if_neg c63] at H
                    have c63b0 : decide (48 ≤ (bt a0 x13_1)) = false := decide_eq_false c63
                    clear c63
                    replace H := Option.bind_eq_some_iff.mp H
                    obtain ⟨t125, A670, H⟩ := H
                    replace H : (if t125 = true then (spec_All.l0 k1 a0 false true a3 (a0.size : Int) (wrap64 (x13_1 + 1))) else (some false)) = some r := H
                    have A67 := Aside0.mk A670
                    clear A670
                    by_cases c68 : t125 = true
                    · subst c68
                      have H1 : (spec_All.l0 k1 a0 false true a3 (a0.size : Int) (wrap64 (x13_1 + 1))) = some r := by rw [if_pos rfl] at H; exact H
                      clear H
                      have H := H1
                      clear H1
                      have H' := Aside0.mk H
                      clear H
                      have p8 : 0 ≤ (x13_1 : Int) := of_decide_eq_true (by first | (with_reducible assumption) | assumption)
                      have q8 : x13_1 < (a0.size : Int) := of_decide_eq_true (by first | (with_reducible assumption) | assumption)
                      have hx8 := bt_at a0 x13_1
                      replace p8 := eq_true p8
                      replace q8 := eq_true q8
                      go_wp2_with (first | (go_at_call 27; (with_reducible refine (spec_In.calls k1 a3 (bt a0 x13_1) true _ A67.out).mono ?_); rintro e w' ⟨rfl, ⟨nd, rfl⟩⟩))
                      go_roundg k1
                      case measure => have := HK1.out; omega
                      case rel => exact ⟨(wrap64 (x13_1 + 1)), (by first | rfl | (simp; done) | (simp [*]; done)), H', ⟨by have := HK1.out; omega⟩, by repeat (first | exact Drawn0.refl _ | apply Drawn0.step)⟩
                    · replace c68 := Bool.eq_false_iff.mpr c68
                      subst c68
                      have H1 : (some false) = some r := by rw [if_neg (show ¬ (false = true) by decide)] at H; exact H
                      clear H
                      have H := H1
                      clear H1
                      obtain rfl := Option.some.inj H
                      have p8 : 0 ≤ (x13_1 : Int) := of_decide_eq_true (by first | (with_reducible assumption) | assumption)
                      have q8 : x13_1 < (a0.size : Int) := of_decide_eq_true (by first | (with_reducible assumption) | assumption)
                      have hx8 := bt_at a0 x13_1
                      replace p8 := eq_true p8
                      replace q8 := eq_true q8
                      go_wp2_with (first | (go_at_call 27; (with_reducible refine (spec_In.calls k1 a3 (bt a0 x13_1) false _ A67.out).mono ?_); rintro e w' ⟨rfl, ⟨nd, rfl⟩⟩))
                      go_ret
                      exact ⟨by first | rfl | (simp; done) | (simp [*]; done), by repeat (first | exact Drawn0.refl _ | apply Drawn0.step)⟩
              · replace c54 := Bool.eq_false_iff.mpr c54
                subst c54
                have H1 : (if (bt a0 x13_1) ≥ 48 then (if (bt a0 x13_1) ≤ 57 then (spec_All.l0 k1 a0 false false a3 (a0.size : Int) (wrap64 (x13_1 + 1))) else ((spec_In.f k1 a3 (bt a0 x13_1)).bind fun t126 => (if t126 = true then (spec_All.l0 k1 a0 false false a3 (a0.size : Int) (wrap64 (x13_1 + 1))) else (some false)))) else ((spec_In.f k1 a3 (bt a0 x13_1)).bind fun t127 => (if t127 = true then (spec_All.l0 k1 a0 false false a3 (a0.size : Int) (wrap64 (x13_1 + 1))) else (some false)))) = some r := by rw [if_neg (show ¬ (false = true) by decide)] at H; exact H
                clear H
                have H := H1
                clear H1
                by_cases c69 : (bt a0 x13_1) ≥ 48
                · rw [if_pos c69] at H
                  have c69b0 : decide (48 ≤ (bt a0 x13_1)) = true := decide_eq_true c69
                  clear c69
                  by_cases c70 : (bt a0 x13_1) ≤ 57
                  · rw [if_pos c70] at H
                    have c70b0 : decide ((bt a0 x13_1) ≤ 57) = true := decide_eq_true c70
                    clear c70
                    have H' := Aside0.mk H
                    clear H
                    have p8 : 0 ≤ (x13_1 : Int) := of_decide_eq_true (by first | (with_reducible assumption) | assumption)
                    have q8 : x13_1 < (a0.size : Int) := of_decide_eq_true (by first | (with_reducible assumption) | assumption)
                    have hx8 := bt_at a0 x13_1
                    replace p8 := eq_true p8
                    replace q8 := eq_true q8
                    go_wp2
                    go_roundg k1
                    case measure => have := HK1.out; omega
                    case rel => exact ⟨(wrap64 (x13_1 + 1)), (by first | rfl | (simp; done) | (simp [*]; done)), H', ⟨by have := HK1.out; omega⟩, by repeat (first | exact Drawn0.refl _ | apply Drawn0.step)⟩
                  · rw [if_neg c70] at H
                    have c70b0 : decide ((bt a0 x13_1) ≤ 57) = false := decide_eq_false c70
                    clear c70
                    replace H := Option.bind_eq_some_iff.mp H
                    obtain ⟨t126, A710, H⟩ := H
                    replace H : (if t126 = true then (spec_All.l0 k1 a0 false false a3 (a0.size : Int) (wrap64 (x13_1 + 1))) else (some false)) = some r := H
                    have A71 := Aside0.mk A710
                    clear A710
                    by_cases c72 : t126 = true
                    · subst c72
                      have H1 : (spec_All.l0 k1 a0 false false a3 (a0.size : Int) (wrap64 (x13_1 + 1))) = some r := by rw [if_pos rfl] at H; exact H
                      clear H
                      have H := H1
                      clear H1
                      have H' := Aside0.mk H
                      clear H
                      have p8 : 0 ≤ (x13_1 : Int) := of_decide_eq_true (by first | (with_reducible assumption) | assumption)
                      have q8 : x13_1 < (a0.size : Int) := of_decide_eq_true (by first | (with_reducible assumption) | assumption)
                      have hx8 := bt_at a0 x13_1
                      replace p8 := eq_true p8
                      replace q8 := eq_true q8
                      go_wp2_with (first | (go_at_call 27; (with_reducible refine (spec_In.calls k1 a3 (bt a0 x13_1) true _ A71.out).mono ?_); rintro e w' ⟨rfl, ⟨nd, rfl⟩⟩))
                      go_roundg k1
                      case measure => have := HK1.out; omega
                      case rel => exact ⟨(wrap64 (x13_1 + 1)), (by first | rfl | (simp; done) | (simp [*]; done)), H', ⟨by have := HK1.out; omega⟩, by repeat (first | exact Drawn0.refl _ | apply Drawn0.step)⟩
                    · replace c72 := Bool.eq_false_iff.mpr c72
                      subst c72
                      have H1 : (some false) = some r := by rw [if_neg (show ¬ (false = true) by decide)] at H; exact H
                      clear H
                      have H := H1
                      clear H1
                      obtain rfl := Option.some.inj H
                      have p8 : 0 ≤ (x13_1 : Int) := of_decide_eq_true (by first | (with_reducible assumption) | assumption)
                      have q8 : x13_1 < (a0.size : Int) := of_decide_eq_true (by first | (with_reducible assumption) | assumption)
                      have hx8 := bt_at a0 x13_1
                      replace p8 := eq_true p8
                      replace q8 := eq_true q8
                      go_wp2_with (first | (go_at_call 27; (with_reducible refine (spec_In.calls k1 a3 (bt a0 x13_1) false _ A71.out).mono ?_); rintro e w' ⟨rfl, ⟨nd, rfl⟩⟩))
                      go_ret
                      exact ⟨by first | rfl | (simp; done) | (simp [*]; done), by repeat (first | exact Drawn0.refl _ | apply Drawn0.step)⟩
                · rw [if_neg c69] at H
                  have c69b0 : decide (48 ≤ (bt a0 x13_1)) = false := decide_eq_false c69
                  clear c69
                  replace H := Option.bind_eq_some_iff.mp H
                  obtain ⟨t127, A730, H⟩ := H
                  replace H : (if t127 = true then (spec_All.l0 k1 a0 false false a3 (a0.size : Int) (wrap64 (x13_1 + 1))) else (some false)) = some r := H
                  have A73 := Aside0.mk A730
                  clear A730
                  by_cases c74 : t127 = true
                  · subst c74
                    have H1 : (spec_All.l0 k1 a0 false false a3 (a0.size : Int) (wrap64 (x13_1 + 1))) = some r := by rw [if_pos rfl] at H; exact H
                    clear H
                    have H := H1
                    clear H1
                    have H' := Aside0.mk H
                    clear H
                    have p8 : 0 ≤ (x13_1 : Int) := of_decide_eq_true (by first | (with_reducible assumption) | assumption)
                    have q8 : x13_1 < (a0.size : Int) := of_decide_eq_true (by first | (with_reducible assumption) | assumption)
                    have hx8 := bt_at a0 x13_1
                    replace p8 := eq_true p8
                    replace q8 := eq_true q8
                    go_wp2_with (first | (go_at_call 27; (with_reducible refine (spec_In.calls k1 a3 (bt a0 x13_1) true _ A73.out).mono ?_); rintro e w' ⟨rfl, ⟨nd, rfl⟩⟩))
                    go_roundg k1
                    case measure => have := HK1.out; omega
                    case rel => exact ⟨(wrap64 (x13_1 + 1)), (by first | rfl | (simp; done) | (simp [*]; done)), H', ⟨by have := HK1.out; omega⟩, by repeat (first | exact Drawn0.refl _ | apply Drawn0.step)⟩
                  · replace c74 := Bool.eq_false_iff.mpr c74
                    subst c74
                    have H1 : (some false) = some r := by rw [if_neg (show ¬ (false = true) by decide)] at H; exact H
                    clear H
                    have H := H1
                    clear H1
                    obtain rfl := Option.some.inj H
                    have p8 : 0 ≤ (x13_1 : Int) := of_decide_eq_true (by first | (with_reducible assumption) | assumption)
                    have q8 : x13_1 < (a0.size : Int) := of_decide_eq_true (by first | (with_reducible assumption) | assumption)
                    have hx8 := bt_at a0 x13_1
                    replace p8 := eq_true p8
                    replace q8 := eq_true q8
                    go_wp2_with (first | (go_at_call 27; (with_reducible refine (spec_In.calls k1 a3 (bt a0 x13_1) false _ A73.out).mono ?_); rintro e w' ⟨rfl, ⟨nd, rfl⟩⟩))
                    go_ret
                    exact ⟨by first | rfl | (simp; done) | (simp [*]; done), by repeat (first | exact Drawn0.refl _ | apply Drawn0.step)⟩
          · rw [if_neg c7] at H
            exact absurd H (by simp)
        · rw [if_neg c6] at H
          exact absurd H (by simp)
      · rw [if_neg c5] at H
        have c5b0 : decide (x13_1 < (a0.size : Int)) = false := decide_eq_false c5
        clear c5
        obtain rfl := Option.some.inj H
        go_wp2
        go_ret
        exact ⟨by first | rfl | (simp; done) | (simp [*]; done), by repeat (first | exact Drawn0.refl _ | apply Drawn0.step)⟩

end Go.Proofs.YtpbebckhemnooaaFmt.PS
