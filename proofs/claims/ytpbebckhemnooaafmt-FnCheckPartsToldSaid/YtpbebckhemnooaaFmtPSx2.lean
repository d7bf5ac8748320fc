/- spec.All, walked by hand (the print's text of it was ninety thousand bytes); no condition. -/
import Derived.Test.YtpbebckhemnooaaFmtPSx0
import Derived.Test.YtpbebckhemnooaaFmtPSx1
namespace Go.Proofs.YtpbebckhemnooaaFmt.PS
open Go.RowKit Go.Proofs.YtpbebckhemnooaaFmtW.PrintWords Go.Proofs.YtpbebckhemnooaaFmtW.PrintLast Go.Proofs.YtpbebckhemnooaaFmtW.PrintMore
attribute [local go_sem] max2_int min2_int max_two min_two max_three min_three max_four min_four
set_option linter.unusedVariables false
set_option linter.unusedSimpArgs false

/-- One byte of All's test. -/
def okF (k : Nat) (sm gr : Bool) (o : ByteArray) (b : Int) : Option Bool :=
  if sm = true ∧ 97 ≤ b ∧ b ≤ 122 then some true else if gr = true ∧ 65 ≤ b ∧ b ≤ 90 then some true else if 48 ≤ b ∧ b ≤ 57 then some true else spec_In.f k o b
theorem okF_cases {k : Nat} {sm gr : Bool} {o : ByteArray} {b : Int} {t : Bool} (h : okF k sm gr o b = some t) :
    (t = true ∧ ((sm = true ∧ 97 ≤ b ∧ b ≤ 122) ∨ (gr = true ∧ 65 ≤ b ∧ b ≤ 90) ∨ (48 ≤ b ∧ b ≤ 57))) ∨
    (¬ (sm = true ∧ 97 ≤ b ∧ b ≤ 122) ∧ ¬ (gr = true ∧ 65 ≤ b ∧ b ≤ 90) ∧ ¬ (48 ≤ b ∧ b ≤ 57) ∧ spec_In.f k o b = some t) := by
  unfold okF at h
  by_cases h1 : sm = true ∧ 97 ≤ b ∧ b ≤ 122
  · rw [if_pos h1] at h; exact .inl ⟨(Option.some.inj h).symm, .inl h1⟩
  rw [if_neg h1] at h
  by_cases h2 : gr = true ∧ 65 ≤ b ∧ b ≤ 90
  · rw [if_pos h2] at h; exact .inl ⟨(Option.some.inj h).symm, .inr (.inl h2)⟩
  rw [if_neg h2] at h
  by_cases h3 : 48 ≤ b ∧ b ≤ 57
  · rw [if_pos h3] at h; exact .inl ⟨(Option.some.inj h).symm, .inr (.inr h3)⟩
  rw [if_neg h3] at h
  exact .inr ⟨h1, h2, h3, h⟩
def spec_All.l0 : Nat → ByteArray → Bool → Bool → ByteArray → Int → Int → Option (Bool)
  | 0, _, _, _, _, _, _ => none
  | k + 1, x0, x1, x2, x3, x12, x13 => if x13 < x12 then (if 0 ≤ x13 then (if x13 < (x0.size : Int) then ((okF k x1 x2 x3 (bt x0 x13)).bind fun t => (if t = true then (spec_All.l0 k x0 x1 x2 x3 x12 (wrap64 (x13 + 1))) else (some false))) else (none)) else (none)) else (some true)
def spec_All.f (k : Nat) (a0 : ByteArray) (a1 : Bool) (a2 : Bool) (a3 : ByteArray) : Option (Bool) := spec_All.l0 k a0 a1 a2 a3 (a0.size : Int) 0
set_option maxHeartbeats 8000000 in
set_option maxRecDepth 100000 in
theorem spec_All.calls (k : Nat) (a0 : ByteArray) (a1 : Bool) (a2 : Bool) (a3 : ByteArray) (r : Bool) (w : World) (h : spec_All.f k a0 a1 a2 a3 = some r) :
    Calls Tryf.prog 28 #[.string a0, .bool a1, .bool a2, .string a3] w fun e w' => e = .returned (.bool r) ∧ Drawn0 w w' := by
  have H : (spec_All.l0 k a0 a1 a2 a3 (a0.size : Int) 0) = some r := h
  clear h
  have H' := Aside0.mk H
  clear H
  go_enter Tryf.func28, Tryf.ntmps28
  go_wp2
  go_loopg [13] k (fun kq v13 w' => ∃ (x13_1 : Int), v13 = .int .i64 x13_1 ∧ Aside0 (spec_All.l0 kq a0 a1 a2 a3 (a0.size : Int) x13_1 = some r) ∧ Aside0 (kq ≤ k) ∧ Drawn0 w w')
  case atStart => exact ⟨(0), (by first | rfl | (simp; done) | (simp [*]; done)), H', ⟨Nat.le_refl _⟩, by repeat (first | exact Drawn0.refl _ | apply Drawn0.step)⟩
  case round =>
    clear H'
    try clear c2
    try clear p2
    obtain ⟨x13_1, rfl, HA, HK1, ⟨m1, rfl⟩⟩ := hrel
    cases gk with
    | zero => exact absurd HA.out (by simp [spec_All.l0])
    | succ k1 =>
      have H := HA.out
      clear HA
      simp only [spec_All.l0] at H
      by_cases c5 : x13_1 < (a0.size : Int)
      · by_cases c6 : 0 ≤ x13_1
        · simp only [if_pos c5, if_pos c6] at H
          obtain ⟨t, A0, H⟩ := Option.bind_eq_some_iff.mp H
          have H : (if t = true then (spec_All.l0 k1 a0 a1 a2 a3 (a0.size : Int) (wrap64 (x13_1 + 1))) else (some false)) = some r := H
          have H' := Aside0.mk H
          clear H
          have A0' := okF_cases A0
          clear A0
          have c5b0 : decide (x13_1 < (a0.size : Int)) = true := decide_eq_true c5
          have c6b0 : decide (0 ≤ x13_1) = true := decide_eq_true c6
          have hx8 := bt_at a0 x13_1
          have p8 := eq_true c6
          have q8 := eq_true c5
          clear c5 c6
          have hiv : ((bt a0 x13_1) < 48) ∨ (48 ≤ (bt a0 x13_1) ∧ (bt a0 x13_1) ≤ 57) ∨ (57 < (bt a0 x13_1) ∧ (bt a0 x13_1) < 65) ∨ (65 ≤ (bt a0 x13_1) ∧ (bt a0 x13_1) ≤ 90) ∨ (90 < (bt a0 x13_1) ∧ (bt a0 x13_1) < 97) ∨ (97 ≤ (bt a0 x13_1) ∧ (bt a0 x13_1) ≤ 122) ∨ (122 < (bt a0 x13_1)) := by omega
          obtain ⟨d1, e1⟩ : ∃ d, decide (97 ≤ (bt a0 x13_1)) = d := ⟨_, rfl⟩
          obtain ⟨d2, e2⟩ : ∃ d, decide ((bt a0 x13_1) ≤ 122) = d := ⟨_, rfl⟩
          obtain ⟨d3, e3⟩ : ∃ d, decide (65 ≤ (bt a0 x13_1)) = d := ⟨_, rfl⟩
          obtain ⟨d4, e4⟩ : ∃ d, decide ((bt a0 x13_1) ≤ 90) = d := ⟨_, rfl⟩
          obtain ⟨d5, e5⟩ : ∃ d, decide (48 ≤ (bt a0 x13_1)) = d := ⟨_, rfl⟩
          obtain ⟨d6, e6⟩ : ∃ d, decide ((bt a0 x13_1) ≤ 57) = d := ⟨_, rfl⟩
          have hD : ((97 ≤ (bt a0 x13_1)) ↔ d1 = true) ∧ (((bt a0 x13_1) ≤ 122) ↔ d2 = true) ∧ ((65 ≤ (bt a0 x13_1)) ↔ d3 = true) ∧ (((bt a0 x13_1) ≤ 90) ↔ d4 = true) ∧ ((48 ≤ (bt a0 x13_1)) ↔ d5 = true) ∧ (((bt a0 x13_1) ≤ 57) ↔ d6 = true) := by
            subst e1 e2 e3 e4 e5 e6
            simp only [decide_eq_true_eq, iff_self, and_self]
          obtain ⟨g1, g2, g3, g4, g5, g6⟩ := hD
          rw [g1, g2, g3, g4, g5, g6] at A0'
          have hw : (d1 = true → d3 = true) ∧ (d3 = true → d5 = true) ∧ (d6 = true → d4 = true) ∧ (d4 = true → d2 = true) ∧ (d1 = true ∨ d2 = true) ∧ (d3 = true ∨ d4 = true) ∧ (d5 = true ∨ d6 = true) ∧ (d1 = true → ¬ d4 = true) ∧ (d3 = true → ¬ d6 = true) := by
            rw [← g1, ← g2, ← g3, ← g4, ← g5, ← g6]; omega
          have hB : (t = true ∧ ((a1 && (d1 && d2)) || (a2 && (d3 && d4)) || (d5 && d6)) = true) ∨ (((a1 && (d1 && d2)) || (a2 && (d3 && d4)) || (d5 && d6)) = false ∧ spec_In.f k1 a3 (bt a0 x13_1) = some t) := by
            rcases A0' with ⟨h1, h2⟩ | ⟨h1, h2, h3, h4⟩
            · refine .inl ⟨h1, ?_⟩
              simpa [or_assoc] using h2
            · refine .inr ⟨?_, h4⟩
              simp only [Bool.or_eq_false_iff]
              refine ⟨⟨?_, ?_⟩, ?_⟩
              · revert h1; cases a1 <;> cases d1 <;> cases d2 <;> simp
              · revert h2; cases a2 <;> cases d3 <;> cases d4 <;> simp
              · revert h3; cases d5 <;> cases d6 <;> simp
          clear A0' hiv g1 g2 g3 g4 g5 g6
          obtain ⟨hw1, hw2, hw3, hw4, hw5, hw6, hw7, hw8, hw9⟩ := hw
          cases d1 <;> cases d2 <;> cases d3 <;> cases d4 <;> cases d5 <;> cases d6 <;> (first
            | (exfalso; revert hw1 hw2 hw3 hw4 hw5 hw6 hw7 hw8 hw9; decide)
            | (clear hw1 hw2 hw3 hw4 hw5 hw6 hw7 hw8 hw9
               cases a1 <;> cases a2 <;> rcases hB with ⟨rfl, hB⟩ | ⟨hB, hI⟩ <;> (first
               | (exact absurd hB (by decide))
               | (have H := H'.out
                  clear H' hB
                  rw [if_pos rfl] at H
                  have H' := Aside0.mk H
                  clear H
                  go_wp2
                  go_roundg k1
                  case measure => have := HK1.out; omega
                  case rel => exact ⟨(wrap64 (x13_1 + 1)), (by first | rfl | (simp; done) | (simp [*]; done)), H', ⟨by have := HK1.out; omega⟩, by repeat (first | exact Drawn0.refl _ | apply Drawn0.step)⟩)
               | (have A := Aside0.mk hI
                  have H := H'.out
                  clear H' hB hI
                  cases t
                  · rw [if_neg (by decide)] at H
                    obtain rfl := Option.some.inj H
                    go_wp2_with (first | (go_at_call 27; (with_reducible refine (spec_In.calls k1 a3 (bt a0 x13_1) false _ A.out).mono ?_); rintro e w' ⟨rfl, ⟨nd, rfl⟩⟩))
                    go_ret
                    exact ⟨by first | rfl | (simp; done) | (simp [*]; done), by repeat (first | exact Drawn0.refl _ | apply Drawn0.step)⟩
                  · rw [if_pos rfl] at H
                    have H' := Aside0.mk H
                    clear H
                    go_wp2_with (first | (go_at_call 27; (with_reducible refine (spec_In.calls k1 a3 (bt a0 x13_1) true _ A.out).mono ?_); rintro e w' ⟨rfl, ⟨nd, rfl⟩⟩))
                    go_roundg k1
                    case measure => have := HK1.out; omega
                    case rel => exact ⟨(wrap64 (x13_1 + 1)), (by first | rfl | (simp; done) | (simp [*]; done)), H', ⟨by have := HK1.out; omega⟩, by repeat (first | exact Drawn0.refl _ | apply Drawn0.step)⟩))))
        · simp only [if_pos c5, if_neg c6] at H
          exact absurd H (by simp)
      · simp only [if_neg c5] at H
        have c5b0 : decide (x13_1 < (a0.size : Int)) = false := decide_eq_false c5
        clear c5
        obtain rfl := Option.some.inj H
        go_wp2
        go_ret
        exact ⟨by first | rfl | (simp; done) | (simp [*]; done), by repeat (first | exact Drawn0.refl _ | apply Drawn0.step)⟩

end Go.Proofs.YtpbebckhemnooaaFmt.PS
