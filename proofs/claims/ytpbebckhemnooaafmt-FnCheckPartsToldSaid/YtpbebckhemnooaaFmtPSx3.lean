-- Written by a program (myprint.sh: the kit's print, turned to take contracts of mine): one Lean function and its contract for each Go function.
import Derived.Test.YtpbebckhemnooaaFmtPSx0
import Derived.Test.YtpbebckhemnooaaFmtPSx1
import Derived.Test.YtpbebckhemnooaaFmtPSx2
namespace Go.Proofs.YtpbebckhemnooaaFmt.PS
open Go.RowKit Go.Proofs.YtpbebckhemnooaaFmtW.PrintWords Go.Proofs.YtpbebckhemnooaaFmtW.PrintLast Go.Proofs.YtpbebckhemnooaaFmtW.PrintMore
attribute [local go_sem] max2_int min2_int max_two min_two max_three min_three max_four min_four   -- for this text's walks alone
set_option linter.unusedVariables false
set_option linter.unusedSimpArgs false

/-! ### spec_digits: function 70 -/
def spec_digits.f (k : Nat) (a0 : ByteArray) : Option (Bool) := if (a0.size : Int) > 0 then ((spec_All.f k a0 false false (⟨#[]⟩ : ByteArray)).bind fun t128 => (some t128)) else (some false)
set_option maxHeartbeats 8000000 in
set_option maxRecDepth 100000 in
theorem spec_digits.calls (k : Nat) (a0 : ByteArray) (r : Bool) (w : World) (h : spec_digits.f k a0 = some r) :
    Calls Tryf.prog 70 #[.string a0] w fun e w' => e = .returned (.bool r) ∧ Drawn0 w w' := by
  have H : (if (a0.size : Int) > 0 then ((spec_All.f k a0 false false (⟨#[]⟩ : ByteArray)).bind fun t128 => (some t128)) else (some false)) = some r := h
  clear h
  by_cases c2 : (a0.size : Int) > 0
  · rw [if_pos c2] at H
    have c2b0 : decide (0 < (a0.size : Int)) = true := decide_eq_true c2
    have c2b1 : decide (0 < a0.size) = true := decide_eq_true (by omega)
    clear c2
    replace H := Option.bind_eq_some_iff.mp H
    obtain ⟨t128, A30, H⟩ := H
    replace H : (some t128) = some r := H
    have A3 := Aside0.mk A30
    clear A30
    obtain rfl := Option.some.inj H
    go_enter Tryf.func70, Tryf.ntmps70
    go_wp2_with (first | (go_at_call 28; (with_reducible refine (spec_All.calls k a0 false false (⟨#[]⟩ : ByteArray) t128 _ A3.out).mono ?_); rintro e w' ⟨rfl, ⟨nd, rfl⟩⟩))
    go_ret
    exact ⟨by first | rfl | (simp; done) | (simp [*]; done), by repeat (first | exact Drawn0.refl _ | apply Drawn0.step)⟩
  · rw [if_neg c2] at H
    have c2b0 : decide (0 < (a0.size : Int)) = false := decide_eq_false c2
    have c2b1 : decide (0 < a0.size) = false := decide_eq_false (by omega)
    clear c2
    obtain rfl := Option.some.inj H
    go_enter Tryf.func70, Tryf.ntmps70
    go_wp2
    go_ret
    exact ⟨by first | rfl | (simp; done) | (simp [*]; done), by repeat (first | exact Drawn0.refl _ | apply Drawn0.step)⟩

/-! ### spec_numbered: function 58 -/
def spec_numbered.l0 : Nat → ByteArray → Int → Option (Bool)
  | 0, _, _ => none
  | k + 1, x0, x3 => if x3 < (x0.size : Int) then (if 0 ≤ (wrap64 (x3 - 1)) then (if (wrap64 (x3 - 1)) < (x0.size : Int) then (if (bt x0 (wrap64 (x3 - 1))) = 126 then (if 0 ≤ x3 then (if x3 ≤ (wrap64 (x3 + 1)) then (if (wrap64 (x3 + 1)) ≤ (x0.size : Int) then ((spec_digits.f k (x0.extract (x3 : Int).toNat ((wrap64 (x3 + 1)) : Int).toNat)).bind fun t129 => (if t129 = true then (some true) else (spec_numbered.l0 k x0 (wrap64 (x3 + 1))))) else (none)) else (none)) else (none)) else (spec_numbered.l0 k x0 (wrap64 (x3 + 1)))) else (none)) else (none)) else (some false)
def spec_numbered.f (k : Nat) (a0 : ByteArray) : Option (Bool) := spec_numbered.l0 k a0 1
set_option maxHeartbeats 8000000 in
set_option maxRecDepth 100000 in
theorem spec_numbered.calls (k : Nat) (a0 : ByteArray) (r : Bool) (w : World) (h : spec_numbered.f k a0 = some r) :
    Calls Tryf.prog 58 #[.string a0] w fun e w' => e = .returned (.bool r) ∧ Drawn0 w w' := by
  have H : (spec_numbered.l0 k a0 1) = some r := h
  clear h
  have H' := Aside0.mk H
  clear H
  go_enter Tryf.func58, Tryf.ntmps58
  go_wp2
  go_loopg [3] k (fun kq v3 w' => ∃ (x3_1 : Int), v3 = .int .i64 x3_1 ∧ Aside0 (spec_numbered.l0 kq a0 x3_1 = some r) ∧ Aside0 (kq ≤ k) ∧ Drawn0 w w')
  case atStart => exact ⟨(1), (by first | rfl | (simp; done) | (simp [*]; done)), H', ⟨Nat.le_refl _⟩, by repeat (first | exact Drawn0.refl _ | apply Drawn0.step)⟩
  case round =>
    clear H'
    obtain ⟨x3_1, rfl, HA, HK1, ⟨m1, rfl⟩⟩ := hrel
    cases gk with
    | zero => exact absurd HA.out (by simp [spec_numbered.l0])
    | succ k1 =>
      have H := HA.out
      clear HA
      simp only [spec_numbered.l0] at H
      by_cases c2 : x3_1 < (a0.size : Int)
      · rw [if_pos c2] at H
        have c2b0 : decide (x3_1 < (a0.size : Int)) = true := decide_eq_true c2
        clear c2
        obtain ⟨ji3, hji3⟩ : ∃ j_ : Int, (wrap64 (x3_1 - 1)) = j_ := ⟨_, rfl⟩
        replace H : (if 0 ≤ (ji3) then (if (ji3) < (a0.size : Int) then (if (bt a0 (ji3)) = 126 then (if 0 ≤ x3_1 then (if x3_1 ≤ (wrap64 (x3_1 + 1)) then (if (wrap64 (x3_1 + 1)) ≤ (a0.size : Int) then ((spec_digits.f k1 (a0.extract (x3_1 : Int).toNat ((wrap64 (x3_1 + 1)) : Int).toNat)).bind fun t129 => (if t129 = true then (some true) else (spec_numbered.l0 k1 a0 (wrap64 (x3_1 + 1))))) else (none)) else (none)) else (none)) else (spec_numbered.l0 k1 a0 (wrap64 (x3_1 + 1)))) else (none)) else (none)) = some r := by first | (rw [hji3] at H; exact H) | (simp only [hji3] at H ⊢; exact H)
        have hji3w : (IntKind.i64.wrap (x3_1 - 1)) = ji3 := (i64_w _).trans hji3
        by_cases c4 : 0 ≤ (ji3)
        · rw [if_pos c4] at H
          have c4b0 : decide (0 ≤ (ji3)) = true := decide_eq_true c4
          clear c4
          by_cases c5 : (ji3) < (a0.size : Int)
          · rw [if_pos c5] at H
            have c5b0 : decide ((ji3) < (a0.size : Int)) = true := decide_eq_true c5
            clear c5
            by_cases c7 : (bt a0 (ji3)) = 126
            · rw [if_pos c7] at H
              have c7b0 : ((bt a0 (ji3)) == 126) = true := beq_iff_eq.mpr c7
              have c7b1 : ((bt a0 (ji3)) != 126) = false := bne_eq_false_iff_eq.mpr c7
              clear c7
              by_cases c8 : 0 ≤ x3_1
              · rw [if_pos c8] at H
                have c8b0 := eq_true c8
                have c8b1 : decide (0 ≤ x3_1) = true := decide_eq_true c8
                clear c8
                by_cases c9 : x3_1 ≤ (wrap64 (x3_1 + 1))
                · rw [if_pos c9] at H
                  have c9b0 := eq_true c9
                  have c9b1 : decide (x3_1 ≤ (wrap64 (x3_1 + 1))) = true := decide_eq_true c9
                  by_cases c10 : (wrap64 (x3_1 + 1)) ≤ (a0.size : Int)
                  · rw [if_pos c10] at H
                    have c10b0 := eq_true c10
                    have c10b1 : decide ((wrap64 (x3_1 + 1)) ≤ (a0.size : Int)) = true := decide_eq_true c10
                    replace H := Option.bind_eq_some_iff.mp H
                    obtain ⟨t129, A110, H⟩ := H
                    replace H : (if t129 = true then (some true) else (spec_numbered.l0 k1 a0 (wrap64 (x3_1 + 1)))) = some r := H
                    have A11 := Aside0.mk A110
                    clear A110
                    by_cases c12 : t129 = true
                    · subst c12
                      have H1 : (some true) = some r := by rw [if_pos rfl] at H; exact H
                      clear H
                      have H := H1
                      clear H1
                      obtain rfl := Option.some.inj H
                      have p6 : 0 ≤ ((ji3) : Int) := of_decide_eq_true (by first | (with_reducible assumption) | assumption)
                      have q6 : (ji3) < (a0.size : Int) := of_decide_eq_true (by first | (with_reducible assumption) | assumption)
                      have hx6 := bt_at a0 (ji3)
                      replace p6 := eq_true p6
                      replace q6 := eq_true q6
                      go_wp2_with (first | (go_at_call 70; (with_reducible refine (spec_digits.calls k1 (a0.extract (x3_1 : Int).toNat ((wrap64 (x3_1 + 1)) : Int).toNat) true _ A11.out).mono ?_); rintro e w' ⟨rfl, ⟨nd, rfl⟩⟩))
                      go_ret
                      exact ⟨by first | rfl | (simp; done) | (simp only [← hji3] <;> (first | rfl | simp)) | (simp [*]; done), by repeat (first | exact Drawn0.refl _ | apply Drawn0.step)⟩
                    · replace c12 := Bool.eq_false_iff.mpr c12
                      subst c12
                      have H1 : (spec_numbered.l0 k1 a0 (wrap64 (x3_1 + 1))) = some r := by rw [if_neg (show ¬ (false = true) by decide)] at H; exact H
                      clear H
                      have H := H1
                      clear H1
                      have H' := Aside0.mk H
                      clear H
                      have p6 : 0 ≤ ((ji3) : Int) := of_decide_eq_true (by first | (with_reducible assumption) | assumption)
                      have q6 : (ji3) < (a0.size : Int) := of_decide_eq_true (by first | (with_reducible assumption) | assumption)
                      have hx6 := bt_at a0 (ji3)
                      replace p6 := eq_true p6
                      replace q6 := eq_true q6
                      go_wp2_with (first | (go_at_call 70; (with_reducible refine (spec_digits.calls k1 (a0.extract (x3_1 : Int).toNat ((wrap64 (x3_1 + 1)) : Int).toNat) false _ A11.out).mono ?_); rintro e w' ⟨rfl, ⟨nd, rfl⟩⟩))
                      go_roundg k1
                      case measure => have := HK1.out; omega
                      case rel => exact ⟨(wrap64 (x3_1 + 1)), (by first | rfl | (simp; done) | (simp [*]; done)), H', ⟨by have := HK1.out; omega⟩, by repeat (first | exact Drawn0.refl _ | apply Drawn0.step)⟩
                  · rw [if_neg c10] at H
                    exact absurd H (by simp)
                · rw [if_neg c9] at H
                  exact absurd H (by simp)
              · rw [if_neg c8] at H
                exact absurd H (by simp)
            · rw [if_neg c7] at H
              have c7b0 : ((bt a0 (ji3)) == 126) = false := beq_eq_false_iff_ne.mpr c7
              have c7b1 : ((bt a0 (ji3)) != 126) = true := bne_iff_ne.mpr c7
              have H' := Aside0.mk H
              clear H
              have p6 : 0 ≤ ((ji3) : Int) := of_decide_eq_true (by first | (with_reducible assumption) | assumption)
              have q6 : (ji3) < (a0.size : Int) := of_decide_eq_true (by first | (with_reducible assumption) | assumption)
              have hx6 := bt_at a0 (ji3)
              replace p6 := eq_true p6
              replace q6 := eq_true q6
              go_wp2
              go_roundg k1
              case measure => have := HK1.out; omega
              case rel => exact ⟨(wrap64 (x3_1 + 1)), (by first | rfl | (simp; done) | (simp [*]; done)), H', ⟨by have := HK1.out; omega⟩, by repeat (first | exact Drawn0.refl _ | apply Drawn0.step)⟩
          · rw [if_neg c5] at H
            exact absurd H (by simp)
        · rw [if_neg c4] at H
          exact absurd H (by simp)
      · rw [if_neg c2] at H
        have c2b0 : decide (x3_1 < (a0.size : Int)) = false := decide_eq_false c2
        clear c2
        obtain rfl := Option.some.inj H
        go_wp2
        go_ret
        exact ⟨by first | rfl | (simp; done) | (simp [*]; done), by repeat (first | exact Drawn0.refl _ | apply Drawn0.step)⟩

/-! ### spec_short: function 59 -/
def spec_short.f (k : Nat) (a0 : ByteArray) : Option (Bool) := (spec_Cut.f k a0 126).bind fun t130 => (if (t130.length : Int) > 1 then (if 0 ≤ (wrap64 ((t130.length : Int) - 1)) then (if (wrap64 ((t130.length : Int) - 1)) < (t130.length : Int) then ((spec_digits.f k (rdOf ByteArray.empty t130 (wrap64 ((t130.length : Int) - 1)))).bind fun t134 => (some t134)) else (none)) else (none)) else (some false))
set_option maxHeartbeats 8000000 in
set_option maxRecDepth 100000 in
theorem spec_short.calls (k : Nat) (a0 : ByteArray) (r : Bool) (w : World) (h : spec_short.f k a0 = some r) :
    Calls Tryf.prog 59 #[.string a0] w fun e w' => e = .returned (.bool r) ∧ Below w.heap.size w w' := by
  have HB := Aside0.mk (Below.refl w.heap.size w)
  have H : ((spec_Cut.f k a0 126).bind fun t130 => (if (t130.length : Int) > 1 then (if 0 ≤ (wrap64 ((t130.length : Int) - 1)) then (if (wrap64 ((t130.length : Int) - 1)) < (t130.length : Int) then ((spec_digits.f k (rdOf ByteArray.empty t130 (wrap64 ((t130.length : Int) - 1)))).bind fun t134 => (some t134)) else (none)) else (none)) else (some false))) = some r := h
  clear h
  replace H := Option.bind_eq_some_iff.mp H
  obtain ⟨t130, A20, H⟩ := H
  replace H : (if (t130.length : Int) > 1 then (if 0 ≤ (wrap64 ((t130.length : Int) - 1)) then (if (wrap64 ((t130.length : Int) - 1)) < (t130.length : Int) then ((spec_digits.f k (rdOf ByteArray.empty t130 (wrap64 ((t130.length : Int) - 1)))).bind fun t134 => (some t134)) else (none)) else (none)) else (some false)) = some r := H
  have A2 := Aside0.mk A20
  clear A20
  by_cases c3 : (t130.length : Int) > 1
  · rw [if_pos c3] at H
    have c3b0 : decide (1 < (t130.length : Int)) = true := decide_eq_true c3
    have c3b1 : decide (1 < t130.length) = true := decide_eq_true (by omega)
    clear c3
    obtain ⟨ji4, hji4⟩ : ∃ j_ : Int, (wrap64 ((t130.length : Int) - 1)) = j_ := ⟨_, rfl⟩
    replace H : (if 0 ≤ (ji4) then (if (ji4) < (t130.length : Int) then ((spec_digits.f k (rdOf ByteArray.empty t130 (ji4))).bind fun t134 => (some t134)) else (none)) else (none)) = some r := by first | (rw [hji4] at H; exact H) | (simp only [hji4] at H ⊢; exact H)
    (try rw [hji4] at A2)
    have hji4w : (IntKind.i64.wrap ((t130.length : Int) - 1)) = ji4 := (i64_w _).trans hji4
    by_cases c5 : 0 ≤ (ji4)
    · rw [if_pos c5] at H
      have c5b0 : decide (0 ≤ (ji4)) = true := decide_eq_true c5
      clear c5
      by_cases c6 : (ji4) < (t130.length : Int)
      · rw [if_pos c6] at H
        have c6b0 : decide ((ji4) < (t130.length : Int)) = true := decide_eq_true c6
        clear c6
        replace H := Option.bind_eq_some_iff.mp H
        obtain ⟨t134, A70, H⟩ := H
        replace H : (some t134) = some r := H
        have A7 := Aside0.mk A70
        clear A70
        obtain rfl := Option.some.inj H
        go_enter Tryf.func59, Tryf.ntmps59
        go_wp2_with (first | ((with_reducible refine gate_callee (f := 44) rfl ?_); refine goesL_ (some 5) rfl rfl Tryf.func44 (by kernel_rfl) rfl #[.string a0, .int .u8 126] rfl (by (try simp only [List.map_toArray, List.map_cons, List.map_nil]); first | done | rfl | (simp only [List.length_drop, List.length_take]; rfl)) ?_; (with_reducible refine (spec_Cut.calls k a0 126 t130 _ A2.out).mono ?_); rintro e w8 ⟨v131, rfl, ho0, hb⟩; refine ⟨_, rfl, ?_⟩; have n0_ := Aside0.mk (Kd.R_lower ho0 (below_size (by repeat (first | (with_reducible first | exact HB.out | apply below_alloc | apply pw_below_drewN | apply below_drew1) | exact HB.out)))); have n1_ := Aside0.mk (below_step (by repeat (first | (with_reducible first | exact HB.out | apply below_alloc | apply pw_below_drewN | apply below_drew1) | exact HB.out)) hb); clear HB; have HO132 := n0_; have HB := n1_; clear n0_ n1_; (try clear hb); (try clear hb2); (try clear hk); (try clear hi); (try clear ho0); obtain ⟨Ao9, co9, eo9⟩ := Kd.R_slice HO132.out; subst eo9; have p133 : 0 ≤ ((ji4) : Int) := of_decide_eq_true (by first | (with_reducible assumption) | assumption); have q133 : (ji4) < (t130.length : Int) := of_decide_eq_true (by first | (with_reducible assumption) | assumption); obtain ⟨ad133, e133, hx133_0⟩ := Kd.at_string (Kd.R_reads' HO132.out).2.2 (ji4) p133 q133; cases e133; replace p133 := eq_true p133; replace q133 := eq_true q133) | (go_at_call 70; (with_reducible refine (spec_digits.calls k (rdOf ByteArray.empty t130 (ji4)) t134 _ A7.out).mono ?_); rintro e w' ⟨rfl, ⟨nd, rfl⟩⟩))
        go_ret
        exact ⟨by first | rfl | (simp [errW_none, errW_some] <;> rfl) | (simp only [← hji4]; first | rfl | (simp [errW_none, errW_some] <;> rfl)) | (simp [*, errW_none, errW_some] <;> rfl), by repeat (first | (with_reducible first | exact HB.out | apply below_alloc | apply pw_below_drewN | apply below_drew1) | exact HB.out)⟩
      · rw [if_neg c6] at H
        exact absurd H (by simp)
    · rw [if_neg c5] at H
      exact absurd H (by simp)
  · rw [if_neg c3] at H
    have c3b0 : decide (1 < (t130.length : Int)) = false := decide_eq_false c3
    have c3b1 : decide (1 < t130.length) = false := decide_eq_false (by omega)
    clear c3
    obtain rfl := Option.some.inj H
    go_enter Tryf.func59, Tryf.ntmps59
    go_wp2_with (first | ((with_reducible refine gate_callee (f := 44) rfl ?_); refine goesL_ (some 5) rfl rfl Tryf.func44 (by kernel_rfl) rfl #[.string a0, .int .u8 126] rfl (by (try simp only [List.map_toArray, List.map_cons, List.map_nil]); first | done | rfl | (simp only [List.length_drop, List.length_take]; rfl)) ?_; (with_reducible refine (spec_Cut.calls k a0 126 t130 _ A2.out).mono ?_); rintro e w10 ⟨v131, rfl, ho0, hb⟩; refine ⟨_, rfl, ?_⟩; have n0_ := Aside0.mk (Kd.R_lower ho0 (below_size (by repeat (first | (with_reducible first | exact HB.out | apply below_alloc | apply pw_below_drewN | apply below_drew1) | exact HB.out)))); have n1_ := Aside0.mk (below_step (by repeat (first | (with_reducible first | exact HB.out | apply below_alloc | apply pw_below_drewN | apply below_drew1) | exact HB.out)) hb); clear HB; have HO132 := n0_; have HB := n1_; clear n0_ n1_; (try clear hb); (try clear hb2); (try clear hk); (try clear hi); (try clear ho0); obtain ⟨Ao11, co11, eo11⟩ := Kd.R_slice HO132.out; subst eo11))
    go_ret
    exact ⟨by first | rfl | (simp [errW_none, errW_some] <;> rfl) | (simp [*, errW_none, errW_some] <;> rfl), by repeat (first | (with_reducible first | exact HB.out | apply below_alloc | apply pw_below_drewN | apply below_drew1) | exact HB.out)⟩

/-! ### spec_letter: function 84 -/
def spec_letter.f (k : Nat) (a0 : ByteArray) : Option (Bool) := if (a0.size : Int) > 0 then (if 0 ≤ 1 then (if 1 ≤ (a0.size : Int) then ((spec_All.f k (a0.extract 0 1) true true (⟨#[]⟩ : ByteArray)).bind fun t135 => (if t135 = true then ((spec_digits.f k (a0.extract 0 1)).bind fun t136 => (some (!t136))) else (some false))) else (none)) else (none)) else (some false)
set_option maxHeartbeats 8000000 in
set_option maxRecDepth 100000 in
theorem spec_letter.calls (k : Nat) (a0 : ByteArray) (r : Bool) (w : World) (h : spec_letter.f k a0 = some r) :
    Calls Tryf.prog 84 #[.string a0] w fun e w' => e = .returned (.bool r) ∧ Drawn0 w w' := by
  have H : (if (a0.size : Int) > 0 then (if 0 ≤ 1 then (if 1 ≤ (a0.size : Int) then ((spec_All.f k (a0.extract 0 1) true true (⟨#[]⟩ : ByteArray)).bind fun t135 => (if t135 = true then ((spec_digits.f k (a0.extract 0 1)).bind fun t136 => (some (!t136))) else (some false))) else (none)) else (none)) else (some false)) = some r := h
  clear h
  by_cases c2 : (a0.size : Int) > 0
  · rw [if_pos c2] at H
    have c2b0 : decide (0 < (a0.size : Int)) = true := decide_eq_true c2
    have c2b1 : decide (0 < a0.size) = true := decide_eq_true (by omega)
    clear c2
    by_cases c3 : 0 ≤ 1
    · rw [if_pos c3] at H
      have c3b0 := eq_true c3
      have c3b1 : decide (0 ≤ 1) = true := decide_eq_true c3
      clear c3
      by_cases c4 : 1 ≤ (a0.size : Int)
      · rw [if_pos c4] at H
        have c4b0 := eq_true c4
        have c4b1 : decide (1 ≤ (a0.size : Int)) = true := decide_eq_true c4
        clear c4
        replace H := Option.bind_eq_some_iff.mp H
        obtain ⟨t135, A50, H⟩ := H
        replace H : (if t135 = true then ((spec_digits.f k (a0.extract 0 1)).bind fun t136 => (some (!t136))) else (some false)) = some r := H
        have A5 := Aside0.mk A50
        clear A50
        by_cases c6 : t135 = true
        · subst c6
          have H1 : ((spec_digits.f k (a0.extract 0 1)).bind fun t136 => (some (!t136))) = some r := by rw [if_pos rfl] at H; exact H
          clear H
          have H := H1
          clear H1
          have c7b0 := eq_true (of_decide_eq_true (by first | (with_reducible assumption) | assumption) : 0 ≤ 1)
          have c8b0 := eq_true (of_decide_eq_true (by first | (with_reducible assumption) | assumption) : 1 ≤ (a0.size : Int))
          replace H := Option.bind_eq_some_iff.mp H
          obtain ⟨t136, A90, H⟩ := H
          replace H : (some (!t136)) = some r := H
          have A9 := Aside0.mk A90
          clear A90
          obtain rfl := Option.some.inj H
          go_enter Tryf.func84, Tryf.ntmps84
          go_wp2_with (first | (go_at_call 28; (with_reducible refine (spec_All.calls k (a0.extract 0 1) true true (⟨#[]⟩ : ByteArray) true _ A5.out).mono ?_); rintro e w' ⟨rfl, ⟨nd, rfl⟩⟩) | (go_at_call 70; (with_reducible refine (spec_digits.calls k (a0.extract 0 1) t136 _ A9.out).mono ?_); rintro e w' ⟨rfl, ⟨nd, rfl⟩⟩))
          go_ret
          exact ⟨by first | rfl | (simp; done) | (simp [*]; done), by repeat (first | exact Drawn0.refl _ | apply Drawn0.step)⟩
        · replace c6 := Bool.eq_false_iff.mpr c6
          subst c6
          have H1 : (some false) = some r := by rw [if_neg (show ¬ (false = true) by decide)] at H; exact H
          clear H
          have H := H1
          clear H1
          obtain rfl := Option.some.inj H
          go_enter Tryf.func84, Tryf.ntmps84
          go_wp2_with (first | (go_at_call 28; (with_reducible refine (spec_All.calls k (a0.extract 0 1) true true (⟨#[]⟩ : ByteArray) false _ A5.out).mono ?_); rintro e w' ⟨rfl, ⟨nd, rfl⟩⟩))
          go_ret
          exact ⟨by first | rfl | (simp; done) | (simp [*]; done), by repeat (first | exact Drawn0.refl _ | apply Drawn0.step)⟩
      · rw [if_neg c4] at H
        exact absurd H (by simp)
    · rw [if_neg c3] at H
      exact absurd H (by simp)
  · rw [if_neg c2] at H
    have c2b0 : decide (0 < (a0.size : Int)) = false := decide_eq_false c2
    have c2b1 : decide (0 < a0.size) = false := decide_eq_false (by omega)
    clear c2
    obtain rfl := Option.some.inj H
    go_enter Tryf.func84, Tryf.ntmps84
    go_wp2
    go_ret
    exact ⟨by first | rfl | (simp; done) | (simp [*]; done), by repeat (first | exact Drawn0.refl _ | apply Drawn0.step)⟩

/-! ### spec_gopkg: function 66 -/
def spec_gopkg.j0 : Nat → List ByteArray → List ByteArray → ByteArray → Bool → Option (ByteArray × Int)
  | 0, _, _, _, _ => none
  | k + 1, x4, x6, x8, x45 => if x45 = true then (some ((⟨#[]⟩ : ByteArray), 0)) else (if (x8.size : Int) > 2 then (if 1 < (x8.size : Int) then (if (bt x8 1) = 48 then (some ((⟨#[]⟩ : ByteArray), 0)) else (if (x4.length : Int) > 3 then (some ((⟨#[]⟩ : ByteArray), 0)) else (if 0 < (x6.length : Int) then ((spec_letter.f k (rdOf ByteArray.empty x6 0)).bind fun t147 => (if t147 = true then (if 1 + x8.size ≤ 9223372036854775807 then (some ((⟨#[46]⟩ : ByteArray) ++ x8, 1)) else (none)) else (some ((⟨#[]⟩ : ByteArray), 0)))) else (none)))) else (none)) else (if (x4.length : Int) > 3 then (some ((⟨#[]⟩ : ByteArray), 0)) else (if 0 < (x6.length : Int) then ((spec_letter.f k (rdOf ByteArray.empty x6 0)).bind fun t149 => (if t149 = true then (if 1 + x8.size ≤ 9223372036854775807 then (some ((⟨#[46]⟩ : ByteArray) ++ x8, 1)) else (none)) else (some ((⟨#[]⟩ : ByteArray), 0)))) else (none))))
def spec_gopkg.f (k : Nat) (a0 : ByteArray) : Option (ByteArray × Int) := (spec_Cut.f k a0 47).bind fun t137 => (if 0 ≤ (wrap64 ((t137.length : Int) - 1)) then (if (wrap64 ((t137.length : Int) - 1)) < (t137.length : Int) then ((spec_Cut.f k (rdOf ByteArray.empty t137 (wrap64 ((t137.length : Int) - 1))) 46).bind fun t141 => (if (t141.length : Int) < 2 then (some ((⟨#[]⟩ : ByteArray), 2)) else (if 0 ≤ (wrap64 ((t141.length : Int) - 1)) then (if (wrap64 ((t141.length : Int) - 1)) < (t141.length : Int) then (if (t141.length : Int) > 2 then (spec_gopkg.j0 k t137 t141 (rdOf ByteArray.empty t141 (wrap64 ((t141.length : Int) - 1))) true) else (if ((rdOf ByteArray.empty t141 (wrap64 ((t141.length : Int) - 1))).size : Int) < 2 then (spec_gopkg.j0 k t137 t141 (rdOf ByteArray.empty t141 (wrap64 ((t141.length : Int) - 1))) true) else (if 0 < ((rdOf ByteArray.empty t141 (wrap64 ((t141.length : Int) - 1))).size : Int) then (if (bt (rdOf ByteArray.empty t141 (wrap64 ((t141.length : Int) - 1))) 0) = 118 then (if 1 ≤ ((rdOf ByteArray.empty t141 (wrap64 ((t141.length : Int) - 1))).size : Int) then ((spec_digits.f k ((rdOf ByteArray.empty t141 (wrap64 ((t141.length : Int) - 1))).extract 1 (rdOf ByteArray.empty t141 (wrap64 ((t141.length : Int) - 1))).size)).bind fun t145 => (spec_gopkg.j0 k t137 t141 (rdOf ByteArray.empty t141 (wrap64 ((t141.length : Int) - 1))) (!t145))) else (none)) else (spec_gopkg.j0 k t137 t141 (rdOf ByteArray.empty t141 (wrap64 ((t141.length : Int) - 1))) true)) else (none)))) else (none)) else (none)))) else (none)) else (none))
set_option maxHeartbeats 8000000 in
set_option maxRecDepth 100000 in
theorem spec_gopkg.calls (k : Nat) (a0 : ByteArray) (r1 : ByteArray) (r2 : Int) (w : World) (h : spec_gopkg.f k a0 = some (r1, r2)) :
    Calls Tryf.prog 66 #[.string a0] w fun e w' => e = .returned (.tuple #[.string r1, .int .i64 r2]) ∧ Below w.heap.size w w' := by
  have HB := Aside0.mk (Below.refl w.heap.size w)
  have H : ((spec_Cut.f k a0 47).bind fun t137 => (if 0 ≤ (wrap64 ((t137.length : Int) - 1)) then (if (wrap64 ((t137.length : Int) - 1)) < (t137.length : Int) then ((spec_Cut.f k (rdOf ByteArray.empty t137 (wrap64 ((t137.length : Int) - 1))) 46).bind fun t141 => (if (t141.length : Int) < 2 then (some ((⟨#[]⟩ : ByteArray), 2)) else (if 0 ≤ (wrap64 ((t141.length : Int) - 1)) then (if (wrap64 ((t141.length : Int) - 1)) < (t141.length : Int) then (if (t141.length : Int) > 2 then (spec_gopkg.j0 k t137 t141 (rdOf ByteArray.empty t141 (wrap64 ((t141.length : Int) - 1))) true) else (if ((rdOf ByteArray.empty t141 (wrap64 ((t141.length : Int) - 1))).size : Int) < 2 then (spec_gopkg.j0 k t137 t141 (rdOf ByteArray.empty t141 (wrap64 ((t141.length : Int) - 1))) true) else (if 0 < ((rdOf ByteArray.empty t141 (wrap64 ((t141.length : Int) - 1))).size : Int) then (if (bt (rdOf ByteArray.empty t141 (wrap64 ((t141.length : Int) - 1))) 0) = 118 then (if 1 ≤ ((rdOf ByteArray.empty t141 (wrap64 ((t141.length : Int) - 1))).size : Int) then ((spec_digits.f k ((rdOf ByteArray.empty t141 (wrap64 ((t141.length : Int) - 1))).extract 1 (rdOf ByteArray.empty t141 (wrap64 ((t141.length : Int) - 1))).size)).bind fun t145 => (spec_gopkg.j0 k t137 t141 (rdOf ByteArray.empty t141 (wrap64 ((t141.length : Int) - 1))) (!t145))) else (none)) else (spec_gopkg.j0 k t137 t141 (rdOf ByteArray.empty t141 (wrap64 ((t141.length : Int) - 1))) true)) else (none)))) else (none)) else (none)))) else (none)) else (none))) = some (r1, r2) := h
  clear h
  replace H := Option.bind_eq_some_iff.mp H
  obtain ⟨t137, A20, H⟩ := H
  replace H : (if 0 ≤ (wrap64 ((t137.length : Int) - 1)) then (if (wrap64 ((t137.length : Int) - 1)) < (t137.length : Int) then ((spec_Cut.f k (rdOf ByteArray.empty t137 (wrap64 ((t137.length : Int) - 1))) 46).bind fun t141 => (if (t141.length : Int) < 2 then (some ((⟨#[]⟩ : ByteArray), 2)) else (if 0 ≤ (wrap64 ((t141.length : Int) - 1)) then (if (wrap64 ((t141.length : Int) - 1)) < (t141.length : Int) then (if (t141.length : Int) > 2 then (spec_gopkg.j0 k t137 t141 (rdOf ByteArray.empty t141 (wrap64 ((t141.length : Int) - 1))) true) else (if ((rdOf ByteArray.empty t141 (wrap64 ((t141.length : Int) - 1))).size : Int) < 2 then (spec_gopkg.j0 k t137 t141 (rdOf ByteArray.empty t141 (wrap64 ((t141.length : Int) - 1))) true) else (if 0 < ((rdOf ByteArray.empty t141 (wrap64 ((t141.length : Int) - 1))).size : Int) then (if (bt (rdOf ByteArray.empty t141 (wrap64 ((t141.length : Int) - 1))) 0) = 118 then (if 1 ≤ ((rdOf ByteArray.empty t141 (wrap64 ((t141.length : Int) - 1))).size : Int) then ((spec_digits.f k ((rdOf ByteArray.empty t141 (wrap64 ((t141.length : Int) - 1))).extract 1 (rdOf ByteArray.empty t141 (wrap64 ((t141.length : Int) - 1))).size)).bind fun t145 => (spec_gopkg.j0 k t137 t141 (rdOf ByteArray.empty t141 (wrap64 ((t141.length : Int) - 1))) (!t145))) else (none)) else (spec_gopkg.j0 k t137 t141 (rdOf ByteArray.empty t141 (wrap64 ((t141.length : Int) - 1))) true)) else (none)))) else (none)) else (none)))) else (none)) else (none)) = some (r1, r2) := H
  have A2 := Aside0.mk A20
  clear A20
  obtain ⟨ji3, hji3⟩ : ∃ j_ : Int, (wrap64 ((t137.length : Int) - 1)) = j_ := ⟨_, rfl⟩
  replace H : (if 0 ≤ (ji3) then (if (ji3) < (t137.length : Int) then ((spec_Cut.f k (rdOf ByteArray.empty t137 (ji3)) 46).bind fun t141 => (if (t141.length : Int) < 2 then (some ((⟨#[]⟩ : ByteArray), 2)) else (if 0 ≤ (wrap64 ((t141.length : Int) - 1)) then (if (wrap64 ((t141.length : Int) - 1)) < (t141.length : Int) then (if (t141.length : Int) > 2 then (spec_gopkg.j0 k t137 t141 (rdOf ByteArray.empty t141 (wrap64 ((t141.length : Int) - 1))) true) else (if ((rdOf ByteArray.empty t141 (wrap64 ((t141.length : Int) - 1))).size : Int) < 2 then (spec_gopkg.j0 k t137 t141 (rdOf ByteArray.empty t141 (wrap64 ((t141.length : Int) - 1))) true) else (if 0 < ((rdOf ByteArray.empty t141 (wrap64 ((t141.length : Int) - 1))).size : Int) then (if (bt (rdOf ByteArray.empty t141 (wrap64 ((t141.length : Int) - 1))) 0) = 118 then (if 1 ≤ ((rdOf ByteArray.empty t141 (wrap64 ((t141.length : Int) - 1))).size : Int) then ((spec_digits.f k ((rdOf ByteArray.empty t141 (wrap64 ((t141.length : Int) - 1))).extract 1 (rdOf ByteArray.empty t141 (wrap64 ((t141.length : Int) - 1))).size)).bind fun t145 => (spec_gopkg.j0 k t137 t141 (rdOf ByteArray.empty t141 (wrap64 ((t141.length : Int) - 1))) (!t145))) else (none)) else (spec_gopkg.j0 k t137 t141 (rdOf ByteArray.empty t141 (wrap64 ((t141.length : Int) - 1))) true)) else (none)))) else (none)) else (none)))) else (none)) else (none)) = some (r1, r2) := by first | (rw [hji3] at H; exact H) | (simp only [hji3] at H ⊢; exact H)
  (try rw [hji3] at A2)
  have hji3w : (IntKind.i64.wrap ((t137.length : Int) - 1)) = ji3 := (i64_w _).trans hji3
  by_cases c4 : 0 ≤ (ji3)
  · rw [if_pos c4] at H
    have c4b0 : decide (0 ≤ (ji3)) = true := decide_eq_true c4
    clear c4
    by_cases c5 : (ji3) < (t137.length : Int)
    · rw [if_pos c5] at H
      have c5b0 : decide ((ji3) < (t137.length : Int)) = true := decide_eq_true c5
      clear c5
      replace H := Option.bind_eq_some_iff.mp H
      obtain ⟨t141, A60, H⟩ := H
      replace H : (if (t141.length : Int) < 2 then (some ((⟨#[]⟩ : ByteArray), 2)) else (if 0 ≤ (wrap64 ((t141.length : Int) - 1)) then (if (wrap64 ((t141.length : Int) - 1)) < (t141.length : Int) then (if (t141.length : Int) > 2 then (spec_gopkg.j0 k t137 t141 (rdOf ByteArray.empty t141 (wrap64 ((t141.length : Int) - 1))) true) else (if ((rdOf ByteArray.empty t141 (wrap64 ((t141.length : Int) - 1))).size : Int) < 2 then (spec_gopkg.j0 k t137 t141 (rdOf ByteArray.empty t141 (wrap64 ((t141.length : Int) - 1))) true) else (if 0 < ((rdOf ByteArray.empty t141 (wrap64 ((t141.length : Int) - 1))).size : Int) then (if (bt (rdOf ByteArray.empty t141 (wrap64 ((t141.length : Int) - 1))) 0) = 118 then (if 1 ≤ ((rdOf ByteArray.empty t141 (wrap64 ((t141.length : Int) - 1))).size : Int) then ((spec_digits.f k ((rdOf ByteArray.empty t141 (wrap64 ((t141.length : Int) - 1))).extract 1 (rdOf ByteArray.empty t141 (wrap64 ((t141.length : Int) - 1))).size)).bind fun t145 => (spec_gopkg.j0 k t137 t141 (rdOf ByteArray.empty t141 (wrap64 ((t141.length : Int) - 1))) (!t145))) else (none)) else (spec_gopkg.j0 k t137 t141 (rdOf ByteArray.empty t141 (wrap64 ((t141.length : Int) - 1))) true)) else (none)))) else (none)) else (none))) = some (r1, r2) := H
      have A6 := Aside0.mk A60
      clear A60
      by_cases c7 : (t141.length : Int) < 2
      · rw [if_pos c7] at H
        have c7b0 : decide ((t141.length : Int) < 2) = true := decide_eq_true c7
        have c7b1 : decide (t141.length < 2) = true := decide_eq_true (by omega)
        clear c7
        simp only [Option.some.injEq, Prod.mk.injEq] at H
        obtain ⟨rfl, rfl⟩ := H
        go_enter Tryf.func66, Tryf.ntmps66
        go_wp2_with (first | ((with_reducible refine gate_callee (f := 44) rfl ?_); refine goesL_ (some 10) rfl rfl Tryf.func44 (by kernel_rfl) rfl #[.string a0, .int .u8 47] rfl (by (try simp only [List.map_toArray, List.map_cons, List.map_nil]); first | done | rfl | (simp only [List.length_drop, List.length_take]; rfl)) ?_; (with_reducible refine (spec_Cut.calls k a0 47 t137 _ A2.out).mono ?_); rintro e w8 ⟨v138, rfl, ho0, hb⟩; refine ⟨_, rfl, ?_⟩; have n0_ := Aside0.mk (Kd.R_lower ho0 (below_size (by repeat (first | (with_reducible first | exact HB.out | apply below_alloc | apply pw_below_drewN | apply below_drew1) | exact HB.out)))); have n1_ := Aside0.mk (below_step (by repeat (first | (with_reducible first | exact HB.out | apply below_alloc | apply pw_below_drewN | apply below_drew1) | exact HB.out)) hb); clear HB; have HO139 := n0_; have HB := n1_; clear n0_ n1_; (try clear hb); (try clear hb2); (try clear hk); (try clear hi); (try clear ho0); obtain ⟨Ao9, co9, eo9⟩ := Kd.R_slice HO139.out; subst eo9; have p140 : 0 ≤ ((ji3) : Int) := of_decide_eq_true (by first | (with_reducible assumption) | assumption); have q140 : (ji3) < (t137.length : Int) := of_decide_eq_true (by first | (with_reducible assumption) | assumption); obtain ⟨ad140, e140, hx140_0⟩ := Kd.at_string (Kd.R_reads' HO139.out).2.2 (ji3) p140 q140; cases e140; replace p140 := eq_true p140; replace q140 := eq_true q140) | ((with_reducible refine gate_callee (f := 44) rfl ?_); refine goesL_ (some 18) rfl rfl Tryf.func44 (by kernel_rfl) rfl #[.string (rdOf ByteArray.empty t137 (ji3)), .int .u8 46] rfl (by (try simp only [List.map_toArray, List.map_cons, List.map_nil]); first | done | (simp only [hji3]; rfl) | rfl | (simp only [List.length_drop, List.length_take]; rfl)) ?_; (with_reducible refine (spec_Cut.calls k (rdOf ByteArray.empty t137 (ji3)) 46 t141 _ A6.out).mono ?_); rintro e w10 ⟨v142, rfl, ho0, hb⟩; refine ⟨_, rfl, ?_⟩; have n0_ := Aside0.mk (Kd.R_elder' (by (with_reducible repeat (first | apply Kd.R_alloc | apply Kd.R_drewN | apply Kd.R_drew)); exact HO139.out) (Kd.R_base ho0) hb); have n1_ := Aside0.mk (Kd.R_lower (Kd.R_new' ho0 (Kd.R_lt (by (with_reducible repeat (first | apply Kd.R_alloc | apply Kd.R_drewN | apply Kd.R_drew)); exact HO139.out))) (below_size (by repeat (first | (with_reducible first | exact HB.out | apply below_alloc | apply pw_below_drewN | apply below_drew1) | exact HB.out)))); have n2_ := Aside0.mk (below_step (by repeat (first | (with_reducible first | exact HB.out | apply below_alloc | apply pw_below_drewN | apply below_drew1) | exact HB.out)) hb); clear HO139; clear HB; have HO139 := n0_; have HO143 := n1_; have HB := n2_; clear n0_ n1_ n2_; (try clear hb); (try clear hb2); (try clear hk); (try clear hi); (try clear ho0); obtain ⟨Ao11, co11, eo11⟩ := Kd.R_slice HO143.out; subst eo11))
        go_ret2
        exact ⟨by first | rfl | (simp [errW_none, errW_some] <;> rfl) | (simp only [← hji3]; first | rfl | (simp [errW_none, errW_some] <;> rfl)) | (simp [*, errW_none, errW_some] <;> rfl), by repeat (first | (with_reducible first | exact HB.out | apply below_alloc | apply pw_below_drewN | apply below_drew1) | exact HB.out)⟩
      · rw [if_neg c7] at H
        have c7b0 : decide ((t141.length : Int) < 2) = false := decide_eq_false c7
        have c7b1 : decide (t141.length < 2) = false := decide_eq_false (by omega)
        clear c7
        obtain ⟨ji12, hji12⟩ : ∃ j_ : Int, (wrap64 ((t141.length : Int) - 1)) = j_ := ⟨_, rfl⟩
        replace H : (if 0 ≤ (ji12) then (if (ji12) < (t141.length : Int) then (if (t141.length : Int) > 2 then (spec_gopkg.j0 k t137 t141 (rdOf ByteArray.empty t141 (ji12)) true) else (if ((rdOf ByteArray.empty t141 (ji12)).size : Int) < 2 then (spec_gopkg.j0 k t137 t141 (rdOf ByteArray.empty t141 (ji12)) true) else (if 0 < ((rdOf ByteArray.empty t141 (ji12)).size : Int) then (if (bt (rdOf ByteArray.empty t141 (ji12)) 0) = 118 then (if 1 ≤ ((rdOf ByteArray.empty t141 (ji12)).size : Int) then ((spec_digits.f k ((rdOf ByteArray.empty t141 (ji12)).extract 1 (rdOf ByteArray.empty t141 (ji12)).size)).bind fun t145 => (spec_gopkg.j0 k t137 t141 (rdOf ByteArray.empty t141 (ji12)) (!t145))) else (none)) else (spec_gopkg.j0 k t137 t141 (rdOf ByteArray.empty t141 (ji12)) true)) else (none)))) else (none)) else (none)) = some (r1, r2) := by first | (rw [hji12] at H; exact H) | (simp only [hji12] at H ⊢; exact H)
        (try rw [hji12] at A2)
        (try rw [hji12] at A6)
        have hji12w : (IntKind.i64.wrap ((t141.length : Int) - 1)) = ji12 := (i64_w _).trans hji12
        by_cases c13 : 0 ≤ (ji12)
        · rw [if_pos c13] at H
          have c13b0 : decide (0 ≤ (ji12)) = true := decide_eq_true c13
          clear c13
          by_cases c14 : (ji12) < (t141.length : Int)
          · rw [if_pos c14] at H
            have c14b0 : decide ((ji12) < (t141.length : Int)) = true := decide_eq_true c14
            clear c14
            have HC15 := Aside0.mk H
            clear H
            go_enter Tryf.func66, Tryf.ntmps66
            go_upto_region 8 with (first | ((with_reducible refine gate_callee (f := 44) rfl ?_); refine goesL_ (some 10) rfl rfl Tryf.func44 (by kernel_rfl) rfl #[.string a0, .int .u8 47] rfl (by (try simp only [List.map_toArray, List.map_cons, List.map_nil]); first | done | rfl | (simp only [List.length_drop, List.length_take]; rfl)) ?_; (with_reducible refine (spec_Cut.calls k a0 47 t137 _ A2.out).mono ?_); rintro e w16 ⟨v138, rfl, ho0, hb⟩; refine ⟨_, rfl, ?_⟩; have n0_ := Aside0.mk (Kd.R_lower ho0 (below_size (by repeat (first | (with_reducible first | exact HB.out | apply below_alloc | apply pw_below_drewN | apply below_drew1) | exact HB.out)))); have n1_ := Aside0.mk (below_step (by repeat (first | (with_reducible first | exact HB.out | apply below_alloc | apply pw_below_drewN | apply below_drew1) | exact HB.out)) hb); clear HB; have HO139 := n0_; have HB := n1_; clear n0_ n1_; (try clear hb); (try clear hb2); (try clear hk); (try clear hi); (try clear ho0); obtain ⟨Ao17, co17, eo17⟩ := Kd.R_slice HO139.out; subst eo17; have p140 : 0 ≤ ((ji3) : Int) := of_decide_eq_true (by first | (with_reducible assumption) | assumption); have q140 : (ji3) < (t137.length : Int) := of_decide_eq_true (by first | (with_reducible assumption) | assumption); obtain ⟨ad140, e140, hx140_0⟩ := Kd.at_string (Kd.R_reads' HO139.out).2.2 (ji3) p140 q140; cases e140; replace p140 := eq_true p140; replace q140 := eq_true q140) | ((with_reducible refine gate_callee (f := 44) rfl ?_); refine goesL_ (some 18) rfl rfl Tryf.func44 (by kernel_rfl) rfl #[.string (rdOf ByteArray.empty t137 (ji3)), .int .u8 46] rfl (by (try simp only [List.map_toArray, List.map_cons, List.map_nil]); first | done | (simp only [hji3]; rfl) | rfl | (simp only [List.length_drop, List.length_take]; rfl)) ?_; (with_reducible refine (spec_Cut.calls k (rdOf ByteArray.empty t137 (ji3)) 46 t141 _ A6.out).mono ?_); rintro e w18 ⟨v142, rfl, ho0, hb⟩; refine ⟨_, rfl, ?_⟩; have n0_ := Aside0.mk (Kd.R_elder' (by (with_reducible repeat (first | apply Kd.R_alloc | apply Kd.R_drewN | apply Kd.R_drew)); exact HO139.out) (Kd.R_base ho0) hb); have n1_ := Aside0.mk (Kd.R_lower (Kd.R_new' ho0 (Kd.R_lt (by (with_reducible repeat (first | apply Kd.R_alloc | apply Kd.R_drewN | apply Kd.R_drew)); exact HO139.out))) (below_size (by repeat (first | (with_reducible first | exact HB.out | apply below_alloc | apply pw_below_drewN | apply below_drew1) | exact HB.out)))); have n2_ := Aside0.mk (below_step (by repeat (first | (with_reducible first | exact HB.out | apply below_alloc | apply pw_below_drewN | apply below_drew1) | exact HB.out)) hb); clear HO139; clear HB; have HO139 := n0_; have HO143 := n1_; have HB := n2_; clear n0_ n1_ n2_; (try clear hb); (try clear hb2); (try clear hk); (try clear hi); (try clear ho0); obtain ⟨Ao19, co19, eo19⟩ := Kd.R_slice HO143.out; subst eo19; have p144 : 0 ≤ ((ji12) : Int) := of_decide_eq_true (by first | (with_reducible assumption) | assumption); have q144 : (ji12) < (t141.length : Int) := of_decide_eq_true (by first | (with_reducible assumption) | assumption); obtain ⟨ad144, e144, hx144_0⟩ := Kd.at_string (Kd.R_reads' HO143.out).2.2 (ji12) p144 q144; cases e144; replace p144 := eq_true p144; replace q144 := eq_true q144))
            (try simp only [Act.put, List.setIfInBounds_toArray, List.set_cons_zero, List.set_cons_succ])
            go_cut [45] (fun v45 wc => ∃ (kq : Nat) (x45_14 : Bool), v45 = .bool x45_14 ∧ Aside0 (spec_gopkg.j0 kq t137 t141 (rdOf ByteArray.empty t141 (ji12)) x45_14 = some (r1, r2)) ∧ Aside0 (kq ≤ k) ∧ Aside0 (Kd.R Kd.string 9 wc w.heap.size (fun k_ => some k_ ≠ ((.slice (some ad144) t141.length co19) : Value).ownBlock) (.slice (some ad140) t137.length co17) t137) ∧ Aside0 (Kd.R Kd.string 9 wc w.heap.size (fun k_ => some k_ ≠ ((.slice (some ad140) t137.length co17) : Value).ownBlock) (.slice (some ad144) t141.length co19) t141) ∧ Aside0 (Below w.heap.size w wc))
            case first =>
              have H := HC15.out
              clear HC15
              by_cases c20 : (t141.length : Int) > 2
              · rw [if_pos c20] at H
                have c20b0 : decide (2 < (t141.length : Int)) = true := decide_eq_true c20
                have c20b1 : decide (2 < t141.length) = true := decide_eq_true (by omega)
                clear c20
                (first | rw [c20b0] | (simp only [i64_w, i32_w]; rw [c20b0]) | skip)
                have H' := Aside0.mk H
                clear H
                go_wp2
                go_meet
                case rel => exact ⟨_, (true), (by first | rfl | (simp; done) | (simp [*]; done)), H', ⟨by first | omega | exact Nat.le_refl _⟩, ⟨by (with_reducible repeat (first | apply Kd.R_alloc | apply Kd.R_drewN | apply Kd.R_drew)); exact Kd.R_mono HO139.out (fun _ hk => hk.2)⟩, ⟨by (with_reducible repeat (first | apply Kd.R_alloc | apply Kd.R_drewN | apply Kd.R_drew)); exact Kd.R_mono HO143.out (fun _ hk => hk.2)⟩, ⟨by repeat (first | (with_reducible first | exact HB.out | apply below_alloc | apply pw_below_drewN | apply below_drew1) | exact HB.out)⟩⟩
              · rw [if_neg c20] at H
                have c20b0 : decide (2 < (t141.length : Int)) = false := decide_eq_false c20
                have c20b1 : decide (2 < t141.length) = false := decide_eq_false (by omega)
                clear c20
                (first | rw [c20b0] | (simp only [i64_w, i32_w]; rw [c20b0]) | skip)
                by_cases c21 : ((rdOf ByteArray.empty t141 (ji12)).size : Int) < 2
                · rw [if_pos c21] at H
                  have c21b0 : decide (((rdOf ByteArray.empty t141 (ji12)).size : Int) < 2) = true := decide_eq_true c21
                  have c21b1 : decide ((rdOf ByteArray.empty t141 (ji12)).size < 2) = true := decide_eq_true (by omega)
                  clear c21
                  have H' := Aside0.mk H
                  clear H
                  go_wp2
                  go_meet
                  case rel => exact ⟨_, (true), (by first | rfl | (simp; done) | (simp [*]; done)), H', ⟨by first | omega | exact Nat.le_refl _⟩, ⟨by (with_reducible repeat (first | apply Kd.R_alloc | apply Kd.R_drewN | apply Kd.R_drew)); exact Kd.R_mono HO139.out (fun _ hk => hk.2)⟩, ⟨by (with_reducible repeat (first | apply Kd.R_alloc | apply Kd.R_drewN | apply Kd.R_drew)); exact Kd.R_mono HO143.out (fun _ hk => hk.2)⟩, ⟨by repeat (first | (with_reducible first | exact HB.out | apply below_alloc | apply pw_below_drewN | apply below_drew1) | exact HB.out)⟩⟩
                · rw [if_neg c21] at H
                  have c21b0 : decide (((rdOf ByteArray.empty t141 (ji12)).size : Int) < 2) = false := decide_eq_false c21
                  have c21b1 : decide ((rdOf ByteArray.empty t141 (ji12)).size < 2) = false := decide_eq_false (by omega)
                  clear c21
                  by_cases c22 : 0 < ((rdOf ByteArray.empty t141 (ji12)).size : Int)
                  · rw [if_pos c22] at H
                    have c22b0 : decide (0 < ((rdOf ByteArray.empty t141 (ji12)).size : Int)) = true := decide_eq_true c22
                    have c22b1 : decide (0 < (rdOf ByteArray.empty t141 (ji12)).size) = true := decide_eq_true (by omega)
                    clear c22
                    by_cases c24 : (bt (rdOf ByteArray.empty t141 (ji12)) 0) = 118
                    · rw [if_pos c24] at H
                      have c24b0 : ((bt (rdOf ByteArray.empty t141 (ji12)) 0) == 118) = true := beq_iff_eq.mpr c24
                      have c24b1 : ((bt (rdOf ByteArray.empty t141 (ji12)) 0) != 118) = false := bne_eq_false_iff_eq.mpr c24
                      clear c24
                      by_cases c25 : 1 ≤ ((rdOf ByteArray.empty t141 (ji12)).size : Int)
                      · rw [if_pos c25] at H
                        have c25b0 := eq_true c25
                        have c25b1 : decide (1 ≤ ((rdOf ByteArray.empty t141 (ji12)).size : Int)) = true := decide_eq_true c25
                        clear c25
                        replace H := Option.bind_eq_some_iff.mp H
                        obtain ⟨t145, A260, H⟩ := H
                        replace H : (spec_gopkg.j0 k t137 t141 (rdOf ByteArray.empty t141 (ji12)) (!t145)) = some (r1, r2) := H
                        have A26 := Aside0.mk A260
                        clear A260
                        have H' := Aside0.mk H
                        clear H
                        have p23 : 0 ≤ (0 : Int) := (by omega)
                        have q23 : 0 < (rdOf ByteArray.empty t141 (ji12)).size := (by have : (0 : Int) < ((rdOf ByteArray.empty t141 (ji12)).size : Int) := of_decide_eq_true (by first | (with_reducible assumption) | assumption); omega)
                        have hx23 : ∀ h : 0 < (rdOf ByteArray.empty t141 (ji12)).size, (((rdOf ByteArray.empty t141 (ji12))[0]'h).toNat : Int) = bt (rdOf ByteArray.empty t141 (ji12)) 0 := bt_at (rdOf ByteArray.empty t141 (ji12)) 0
                        clear p23
                        have qi23 : (0 < ((rdOf ByteArray.empty t141 (ji12)).size : Int)) = True := eq_true (of_decide_eq_true (by first | (with_reducible assumption) | assumption))
                        replace q23 := eq_true q23
                        go_wp2_with (first | (go_at_call 70; (with_reducible refine (spec_digits.calls k ((rdOf ByteArray.empty t141 (ji12)).extract 1 (rdOf ByteArray.empty t141 (ji12)).size) t145 _ A26.out).mono ?_); rintro e w' ⟨rfl, ⟨nd, rfl⟩⟩))
                        go_meet
                        case rel => exact ⟨_, (!t145), (by first | rfl | (simp; done) | (simp [*]; done)), H', ⟨by first | omega | exact Nat.le_refl _⟩, ⟨by (with_reducible repeat (first | apply Kd.R_alloc | apply Kd.R_drewN | apply Kd.R_drew)); exact Kd.R_mono HO139.out (fun _ hk => hk.2)⟩, ⟨by (with_reducible repeat (first | apply Kd.R_alloc | apply Kd.R_drewN | apply Kd.R_drew)); exact Kd.R_mono HO143.out (fun _ hk => hk.2)⟩, ⟨by repeat (first | (with_reducible first | exact HB.out | apply below_alloc | apply pw_below_drewN | apply below_drew1) | exact HB.out)⟩⟩
                      · rw [if_neg c25] at H
                        exact absurd H (by simp)
                    · rw [if_neg c24] at H
                      have c24b0 : ((bt (rdOf ByteArray.empty t141 (ji12)) 0) == 118) = false := beq_eq_false_iff_ne.mpr c24
                      have c24b1 : ((bt (rdOf ByteArray.empty t141 (ji12)) 0) != 118) = true := bne_iff_ne.mpr c24
                      have H' := Aside0.mk H
                      clear H
                      have p23 : 0 ≤ (0 : Int) := (by omega)
                      have q23 : 0 < (rdOf ByteArray.empty t141 (ji12)).size := (by have : (0 : Int) < ((rdOf ByteArray.empty t141 (ji12)).size : Int) := of_decide_eq_true (by first | (with_reducible assumption) | assumption); omega)
                      have hx23 : ∀ h : 0 < (rdOf ByteArray.empty t141 (ji12)).size, (((rdOf ByteArray.empty t141 (ji12))[0]'h).toNat : Int) = bt (rdOf ByteArray.empty t141 (ji12)) 0 := bt_at (rdOf ByteArray.empty t141 (ji12)) 0
                      clear p23
                      have qi23 : (0 < ((rdOf ByteArray.empty t141 (ji12)).size : Int)) = True := eq_true (of_decide_eq_true (by first | (with_reducible assumption) | assumption))
                      replace q23 := eq_true q23
                      go_wp2
                      go_meet
                      case rel => exact ⟨_, (true), (by first | rfl | (simp; done) | (simp [*]; done)), H', ⟨by first | omega | exact Nat.le_refl _⟩, ⟨by (with_reducible repeat (first | apply Kd.R_alloc | apply Kd.R_drewN | apply Kd.R_drew)); exact Kd.R_mono HO139.out (fun _ hk => hk.2)⟩, ⟨by (with_reducible repeat (first | apply Kd.R_alloc | apply Kd.R_drewN | apply Kd.R_drew)); exact Kd.R_mono HO143.out (fun _ hk => hk.2)⟩, ⟨by repeat (first | (with_reducible first | exact HB.out | apply below_alloc | apply pw_below_drewN | apply below_drew1) | exact HB.out)⟩⟩
                  · rw [if_neg c22] at H
                    exact absurd H (by simp)
            case rest =>
              clear HC15
              try clear c1
              try clear p1
              try clear q1
              try clear hx1
              try clear c2
              try clear p2
              try clear q2
              try clear hx2
              try clear qi2
              try clear c4
              try clear c4b0
              try clear c5
              try clear c5b0
              try clear c6
              try clear p6
              try clear c7
              try clear c7b0
              try clear c7b1
              try clear c13
              try clear c13b0
              try clear c14
              try clear c14b0
              try clear p14
              try clear q14
              try clear hx14
              try clear c20
              try clear c20b0
              try clear c20b1
              try clear c21
              try clear c21b0
              try clear c21b1
              try clear c22
              try clear c22b0
              try clear c22b1
              try clear p23
              try clear q23
              try clear hx23
              try clear qi23
              try clear c24
              try clear c24b0
              try clear c24b1
              try clear c25
              try clear c25b0
              try clear c25b1
              try clear hx140_0
              try clear hx144_0
              try clear p140
              try clear p144
              try clear p23
              try clear q140
              try clear q144
              try clear q23
              obtain ⟨kq, x45_14, rfl, HA, HJ14, HO_4, HO_6, HB⟩ := hcut
              cases kq with
              | zero => exact absurd HA.out (by simp [spec_gopkg.j0])
              | succ kj14 =>
                have H := HA.out
                clear HA
                simp only [spec_gopkg.j0] at H
                by_cases c27 : x45_14 = true
                · subst c27
                  have H1 : (some ((⟨#[]⟩ : ByteArray), 0)) = some (r1, r2) := by rw [if_pos rfl] at H; exact H
                  clear H
                  have H := H1
                  clear H1
                  simp only [Option.some.injEq, Prod.mk.injEq] at H
                  obtain ⟨rfl, rfl⟩ := H
                  go_wp2
                  go_ret2
                  exact ⟨by first | rfl | (simp [errW_none, errW_some] <;> rfl) | (simp only [← hji3, ← hji12]; first | rfl | (simp [errW_none, errW_some] <;> rfl)) | (simp [*, errW_none, errW_some] <;> rfl), by repeat (first | (with_reducible first | exact HB.out | apply below_alloc | apply pw_below_drewN | apply below_drew1) | exact HB.out)⟩
                · replace c27 := Bool.eq_false_iff.mpr c27
                  subst c27
                  have H1 : (if ((rdOf ByteArray.empty t141 (ji12)).size : Int) > 2 then (if 1 < ((rdOf ByteArray.empty t141 (ji12)).size : Int) then (if (bt (rdOf ByteArray.empty t141 (ji12)) 1) = 48 then (some ((⟨#[]⟩ : ByteArray), 0)) else (if (t137.length : Int) > 3 then (some ((⟨#[]⟩ : ByteArray), 0)) else (if 0 < (t141.length : Int) then ((spec_letter.f kj14 (rdOf ByteArray.empty t141 0)).bind fun t147 => (if t147 = true then (if 1 + (rdOf ByteArray.empty t141 (ji12)).size ≤ 9223372036854775807 then (some ((⟨#[46]⟩ : ByteArray) ++ (rdOf ByteArray.empty t141 (ji12)), 1)) else (none)) else (some ((⟨#[]⟩ : ByteArray), 0)))) else (none)))) else (none)) else (if (t137.length : Int) > 3 then (some ((⟨#[]⟩ : ByteArray), 0)) else (if 0 < (t141.length : Int) then ((spec_letter.f kj14 (rdOf ByteArray.empty t141 0)).bind fun t149 => (if t149 = true then (if 1 + (rdOf ByteArray.empty t141 (ji12)).size ≤ 9223372036854775807 then (some ((⟨#[46]⟩ : ByteArray) ++ (rdOf ByteArray.empty t141 (ji12)), 1)) else (none)) else (some ((⟨#[]⟩ : ByteArray), 0)))) else (none)))) = some (r1, r2) := by rw [if_neg (show ¬ (false = true) by decide)] at H; exact H
                  clear H
                  have H := H1
                  clear H1
                  by_cases c28 : ((rdOf ByteArray.empty t141 (ji12)).size : Int) > 2
                  · rw [if_pos c28] at H
                    have c28b0 : decide (2 < ((rdOf ByteArray.empty t141 (ji12)).size : Int)) = true := decide_eq_true c28
                    have c28b1 : decide (2 < (rdOf ByteArray.empty t141 (ji12)).size) = true := decide_eq_true (by omega)
                    clear c28
                    by_cases c29 : 1 < ((rdOf ByteArray.empty t141 (ji12)).size : Int)
                    · rw [if_pos c29] at H
                      have c29b0 : decide (1 < ((rdOf ByteArray.empty t141 (ji12)).size : Int)) = true := decide_eq_true c29
                      have c29b1 : decide (1 < (rdOf ByteArray.empty t141 (ji12)).size) = true := decide_eq_true (by omega)
                      clear c29
                      by_cases c31 : (bt (rdOf ByteArray.empty t141 (ji12)) 1) = 48
                      · rw [if_pos c31] at H
                        have c31b0 : ((bt (rdOf ByteArray.empty t141 (ji12)) 1) == 48) = true := beq_iff_eq.mpr c31
                        have c31b1 : ((bt (rdOf ByteArray.empty t141 (ji12)) 1) != 48) = false := bne_eq_false_iff_eq.mpr c31
                        clear c31
                        simp only [Option.some.injEq, Prod.mk.injEq] at H
                        obtain ⟨rfl, rfl⟩ := H
                        have p30 : 0 ≤ (1 : Int) := (by omega)
                        have q30 : 1 < (rdOf ByteArray.empty t141 (ji12)).size := (by have : (1 : Int) < ((rdOf ByteArray.empty t141 (ji12)).size : Int) := of_decide_eq_true (by first | (with_reducible assumption) | assumption); omega)
                        have hx30 : ∀ h : 1 < (rdOf ByteArray.empty t141 (ji12)).size, (((rdOf ByteArray.empty t141 (ji12))[1]'h).toNat : Int) = bt (rdOf ByteArray.empty t141 (ji12)) 1 := bt_at (rdOf ByteArray.empty t141 (ji12)) 1
                        clear p30
                        have qi30 : (1 < ((rdOf ByteArray.empty t141 (ji12)).size : Int)) = True := eq_true (of_decide_eq_true (by first | (with_reducible assumption) | assumption))
                        replace q30 := eq_true q30
                        go_wp2
                        go_ret2
                        exact ⟨by first | rfl | (simp [errW_none, errW_some] <;> rfl) | (simp only [← hji3, ← hji12]; first | rfl | (simp [errW_none, errW_some] <;> rfl)) | (simp [*, errW_none, errW_some] <;> rfl), by repeat (first | (with_reducible first | exact HB.out | apply below_alloc | apply pw_below_drewN | apply below_drew1) | exact HB.out)⟩
                      · rw [if_neg c31] at H
                        have c31b0 : ((bt (rdOf ByteArray.empty t141 (ji12)) 1) == 48) = false := beq_eq_false_iff_ne.mpr c31
                        have c31b1 : ((bt (rdOf ByteArray.empty t141 (ji12)) 1) != 48) = true := bne_iff_ne.mpr c31
                        by_cases c32 : (t137.length : Int) > 3
                        · rw [if_pos c32] at H
                          have c32b0 : decide (3 < (t137.length : Int)) = true := decide_eq_true c32
                          have c32b1 : decide (3 < t137.length) = true := decide_eq_true (by omega)
                          clear c32
                          simp only [Option.some.injEq, Prod.mk.injEq] at H
                          obtain ⟨rfl, rfl⟩ := H
                          have p30 : 0 ≤ (1 : Int) := (by omega)
                          have q30 : 1 < (rdOf ByteArray.empty t141 (ji12)).size := (by have : (1 : Int) < ((rdOf ByteArray.empty t141 (ji12)).size : Int) := of_decide_eq_true (by first | (with_reducible assumption) | assumption); omega)
                          have hx30 : ∀ h : 1 < (rdOf ByteArray.empty t141 (ji12)).size, (((rdOf ByteArray.empty t141 (ji12))[1]'h).toNat : Int) = bt (rdOf ByteArray.empty t141 (ji12)) 1 := bt_at (rdOf ByteArray.empty t141 (ji12)) 1
                          clear p30
                          have qi30 : (1 < ((rdOf ByteArray.empty t141 (ji12)).size : Int)) = True := eq_true (of_decide_eq_true (by first | (with_reducible assumption) | assumption))
                          replace q30 := eq_true q30
                          go_wp2
                          go_ret2
                          exact ⟨by first | rfl | (simp [errW_none, errW_some] <;> rfl) | (simp only [← hji3, ← hji12]; first | rfl | (simp [errW_none, errW_some] <;> rfl)) | (simp [*, errW_none, errW_some] <;> rfl), by repeat (first | (with_reducible first | exact HB.out | apply below_alloc | apply pw_below_drewN | apply below_drew1) | exact HB.out)⟩
                        · rw [if_neg c32] at H
                          have c32b0 : decide (3 < (t137.length : Int)) = false := decide_eq_false c32
                          have c32b1 : decide (3 < t137.length) = false := decide_eq_false (by omega)
                          clear c32
                          by_cases c33 : 0 < (t141.length : Int)
                          · rw [if_pos c33] at H
                            have c33b0 : decide (0 < (t141.length : Int)) = true := decide_eq_true c33
                            have c33b1 : decide (0 < t141.length) = true := decide_eq_true (by omega)
                            clear c33
                            replace H := Option.bind_eq_some_iff.mp H
                            obtain ⟨t147, A340, H⟩ := H
                            replace H : (if t147 = true then (if 1 + (rdOf ByteArray.empty t141 (ji12)).size ≤ 9223372036854775807 then (some ((⟨#[46]⟩ : ByteArray) ++ (rdOf ByteArray.empty t141 (ji12)), 1)) else (none)) else (some ((⟨#[]⟩ : ByteArray), 0))) = some (r1, r2) := H
                            have A34 := Aside0.mk A340
                            clear A340
                            by_cases c35 : t147 = true
                            · subst c35
                              have H1 : (if 1 + (rdOf ByteArray.empty t141 (ji12)).size ≤ 9223372036854775807 then (some ((⟨#[46]⟩ : ByteArray) ++ (rdOf ByteArray.empty t141 (ji12)), 1)) else (none)) = some (r1, r2) := by rw [if_pos rfl] at H; exact H
                              clear H
                              have H := H1
                              clear H1
                              by_cases c36 : 1 + (rdOf ByteArray.empty t141 (ji12)).size ≤ 9223372036854775807
                              · rw [if_pos c36] at H
                                have c36b0 := eq_true c36
                                have c36b1 : decide (1 + (rdOf ByteArray.empty t141 (ji12)).size ≤ 9223372036854775807) = true := decide_eq_true c36
                                try have c36b2 : (9223372036854775807 < 1 + (rdOf ByteArray.empty t141 (ji12)).size) = False := eq_false (Nat.not_lt.2 c36)
                                simp only [Option.some.injEq, Prod.mk.injEq] at H
                                obtain ⟨rfl, rfl⟩ := H
                                have p30 : 0 ≤ (1 : Int) := (by omega)
                                have q30 : 1 < (rdOf ByteArray.empty t141 (ji12)).size := (by have : (1 : Int) < ((rdOf ByteArray.empty t141 (ji12)).size : Int) := of_decide_eq_true (by first | (with_reducible assumption) | assumption); omega)
                                have hx30 : ∀ h : 1 < (rdOf ByteArray.empty t141 (ji12)).size, (((rdOf ByteArray.empty t141 (ji12))[1]'h).toNat : Int) = bt (rdOf ByteArray.empty t141 (ji12)) 1 := bt_at (rdOf ByteArray.empty t141 (ji12)) 1
                                clear p30
                                have qi30 : (1 < ((rdOf ByteArray.empty t141 (ji12)).size : Int)) = True := eq_true (of_decide_eq_true (by first | (with_reducible assumption) | assumption))
                                replace q30 := eq_true q30
                                have p146 : 0 ≤ (0 : Int) := (by omega)
                                have q146 : 0 < (t141.length : Int) := of_decide_eq_true (by first | (with_reducible assumption) | assumption)
                                obtain ⟨ad146, e146, hx146_0⟩ := Kd.at_string (Kd.R_reads' HO_6.out).2.2 0 p146 q146
                                obtain rfl : ad144 = ad146 := (by injection e146)
                                have qi146 : (0 < t141.length) = True := eq_true (by omega)
                                (try rw [show ((0 : Int)).toNat = 0 from rfl] at hx146_0)
                                (try rw [Addr.add_zero'] at hx146_0)
                                replace p146 := eq_true p146
                                replace q146 := eq_true q146
                                go_wp2_with (first | (go_at_call 84; (with_reducible refine (spec_letter.calls kj14 (rdOf ByteArray.empty t141 0) true _ A34.out).mono ?_); rintro e w' ⟨rfl, ⟨nd, rfl⟩⟩))
                                go_ret2
                                exact ⟨by first | rfl | (simp [errW_none, errW_some] <;> rfl) | (simp only [← hji3, ← hji12]; first | rfl | (simp [errW_none, errW_some] <;> rfl)) | (simp [*, errW_none, errW_some] <;> rfl), by repeat (first | (with_reducible first | exact HB.out | apply below_alloc | apply pw_below_drewN | apply below_drew1) | exact HB.out)⟩
                              · rw [if_neg c36] at H
                                exact absurd H (by simp)
                            · replace c35 := Bool.eq_false_iff.mpr c35
                              subst c35
                              have H1 : (some ((⟨#[]⟩ : ByteArray), 0)) = some (r1, r2) := by rw [if_neg (show ¬ (false = true) by decide)] at H; exact H
                              clear H
                              have H := H1
                              clear H1
                              simp only [Option.some.injEq, Prod.mk.injEq] at H
                              obtain ⟨rfl, rfl⟩ := H
                              have p30 : 0 ≤ (1 : Int) := (by omega)
                              have q30 : 1 < (rdOf ByteArray.empty t141 (ji12)).size := (by have : (1 : Int) < ((rdOf ByteArray.empty t141 (ji12)).size : Int) := of_decide_eq_true (by first | (with_reducible assumption) | assumption); omega)
                              have hx30 : ∀ h : 1 < (rdOf ByteArray.empty t141 (ji12)).size, (((rdOf ByteArray.empty t141 (ji12))[1]'h).toNat : Int) = bt (rdOf ByteArray.empty t141 (ji12)) 1 := bt_at (rdOf ByteArray.empty t141 (ji12)) 1
                              clear p30
                              have qi30 : (1 < ((rdOf ByteArray.empty t141 (ji12)).size : Int)) = True := eq_true (of_decide_eq_true (by first | (with_reducible assumption) | assumption))
                              replace q30 := eq_true q30
                              have p146 : 0 ≤ (0 : Int) := (by omega)
                              have q146 : 0 < (t141.length : Int) := of_decide_eq_true (by first | (with_reducible assumption) | assumption)
                              obtain ⟨ad146, e146, hx146_0⟩ := Kd.at_string (Kd.R_reads' HO_6.out).2.2 0 p146 q146
                              obtain rfl : ad144 = ad146 := (by injection e146)
                              have qi146 : (0 < t141.length) = True := eq_true (by omega)
                              (try rw [show ((0 : Int)).toNat = 0 from rfl] at hx146_0)
                              (try rw [Addr.add_zero'] at hx146_0)
                              replace p146 := eq_true p146
                              replace q146 := eq_true q146
                              go_wp2_with (first | (go_at_call 84; (with_reducible refine (spec_letter.calls kj14 (rdOf ByteArray.empty t141 0) false _ A34.out).mono ?_); rintro e w' ⟨rfl, ⟨nd, rfl⟩⟩))
                              go_ret2
                              exact ⟨by first | rfl | (simp [errW_none, errW_some] <;> rfl) | (simp only [← hji3, ← hji12]; first | rfl | (simp [errW_none, errW_some] <;> rfl)) | (simp [*, errW_none, errW_some] <;> rfl), by repeat (first | (with_reducible first | exact HB.out | apply below_alloc | apply pw_below_drewN | apply below_drew1) | exact HB.out)⟩
                          · rw [if_neg c33] at H
                            exact absurd H (by simp)
                    · rw [if_neg c29] at H
                      exact absurd H (by simp)
                  · rw [if_neg c28] at H
                    have c28b0 : decide (2 < ((rdOf ByteArray.empty t141 (ji12)).size : Int)) = false := decide_eq_false c28
                    have c28b1 : decide (2 < (rdOf ByteArray.empty t141 (ji12)).size) = false := decide_eq_false (by omega)
                    clear c28
                    by_cases c37 : (t137.length : Int) > 3
                    · rw [if_pos c37] at H
                      have c37b0 : decide (3 < (t137.length : Int)) = true := decide_eq_true c37
                      have c37b1 : decide (3 < t137.length) = true := decide_eq_true (by omega)
                      clear c37
                      simp only [Option.some.injEq, Prod.mk.injEq] at H
                      obtain ⟨rfl, rfl⟩ := H
                      go_wp2
                      go_ret2
                      exact ⟨by first | rfl | (simp [errW_none, errW_some] <;> rfl) | (simp only [← hji3, ← hji12]; first | rfl | (simp [errW_none, errW_some] <;> rfl)) | (simp [*, errW_none, errW_some] <;> rfl), by repeat (first | (with_reducible first | exact HB.out | apply below_alloc | apply pw_below_drewN | apply below_drew1) | exact HB.out)⟩
                    · rw [if_neg c37] at H
                      have c37b0 : decide (3 < (t137.length : Int)) = false := decide_eq_false c37
                      have c37b1 : decide (3 < t137.length) = false := decide_eq_false (by omega)
                      clear c37
                      by_cases c38 : 0 < (t141.length : Int)
                      · rw [if_pos c38] at H
                        have c38b0 : decide (0 < (t141.length : Int)) = true := decide_eq_true c38
                        have c38b1 : decide (0 < t141.length) = true := decide_eq_true (by omega)
                        clear c38
                        replace H := Option.bind_eq_some_iff.mp H
                        obtain ⟨t149, A390, H⟩ := H
                        replace H : (if t149 = true then (if 1 + (rdOf ByteArray.empty t141 (ji12)).size ≤ 9223372036854775807 then (some ((⟨#[46]⟩ : ByteArray) ++ (rdOf ByteArray.empty t141 (ji12)), 1)) else (none)) else (some ((⟨#[]⟩ : ByteArray), 0))) = some (r1, r2) := H
                        have A39 := Aside0.mk A390
                        clear A390
                        by_cases c40 : t149 = true
                        · subst c40
                          have H1 : (if 1 + (rdOf ByteArray.empty t141 (ji12)).size ≤ 9223372036854775807 then (some ((⟨#[46]⟩ : ByteArray) ++ (rdOf ByteArray.empty t141 (ji12)), 1)) else (none)) = some (r1, r2) := by rw [if_pos rfl] at H; exact H
                          clear H
                          have H := H1
                          clear H1
                          by_cases c41 : 1 + (rdOf ByteArray.empty t141 (ji12)).size ≤ 9223372036854775807
                          · rw [if_pos c41] at H
                            have c41b0 := eq_true c41
                            have c41b1 : decide (1 + (rdOf ByteArray.empty t141 (ji12)).size ≤ 9223372036854775807) = true := decide_eq_true c41
                            try have c41b2 : (9223372036854775807 < 1 + (rdOf ByteArray.empty t141 (ji12)).size) = False := eq_false (Nat.not_lt.2 c41)
                            simp only [Option.some.injEq, Prod.mk.injEq] at H
                            obtain ⟨rfl, rfl⟩ := H
                            have p148 : 0 ≤ (0 : Int) := (by omega)
                            have q148 : 0 < (t141.length : Int) := of_decide_eq_true (by first | (with_reducible assumption) | assumption)
                            obtain ⟨ad148, e148, hx148_0⟩ := Kd.at_string (Kd.R_reads' HO_6.out).2.2 0 p148 q148
                            obtain rfl : ad144 = ad148 := (by injection e148)
                            have qi148 : (0 < t141.length) = True := eq_true (by omega)
                            (try rw [show ((0 : Int)).toNat = 0 from rfl] at hx148_0)
                            (try rw [Addr.add_zero'] at hx148_0)
                            replace p148 := eq_true p148
                            replace q148 := eq_true q148
                            go_wp2_with (first | (go_at_call 84; (with_reducible refine (spec_letter.calls kj14 (rdOf ByteArray.empty t141 0) true _ A39.out).mono ?_); rintro e w' ⟨rfl, ⟨nd, rfl⟩⟩))
                            go_ret2
                            exact ⟨by first | rfl | (simp [errW_none, errW_some] <;> rfl) | (simp only [← hji3, ← hji12]; first | rfl | (simp [errW_none, errW_some] <;> rfl)) | (simp [*, errW_none, errW_some] <;> rfl), by repeat (first | (with_reducible first | exact HB.out | apply below_alloc | apply pw_below_drewN | apply below_drew1) | exact HB.out)⟩
                          · rw [if_neg c41] at H
                            exact absurd H (by simp)
                        · replace c40 := Bool.eq_false_iff.mpr c40
                          subst c40
                          have H1 : (some ((⟨#[]⟩ : ByteArray), 0)) = some (r1, r2) := by rw [if_neg (show ¬ (false = true) by decide)] at H; exact H
                          clear H
                          have H := H1
                          clear H1
                          simp only [Option.some.injEq, Prod.mk.injEq] at H
                          obtain ⟨rfl, rfl⟩ := H
                          have p148 : 0 ≤ (0 : Int) := (by omega)
                          have q148 : 0 < (t141.length : Int) := of_decide_eq_true (by first | (with_reducible assumption) | assumption)
                          obtain ⟨ad148, e148, hx148_0⟩ := Kd.at_string (Kd.R_reads' HO_6.out).2.2 0 p148 q148
                          obtain rfl : ad144 = ad148 := (by injection e148)
                          have qi148 : (0 < t141.length) = True := eq_true (by omega)
                          (try rw [show ((0 : Int)).toNat = 0 from rfl] at hx148_0)
                          (try rw [Addr.add_zero'] at hx148_0)
                          replace p148 := eq_true p148
                          replace q148 := eq_true q148
                          go_wp2_with (first | (go_at_call 84; (with_reducible refine (spec_letter.calls kj14 (rdOf ByteArray.empty t141 0) false _ A39.out).mono ?_); rintro e w' ⟨rfl, ⟨nd, rfl⟩⟩))
                          go_ret2
                          exact ⟨by first | rfl | (simp [errW_none, errW_some] <;> rfl) | (simp only [← hji3, ← hji12]; first | rfl | (simp [errW_none, errW_some] <;> rfl)) | (simp [*, errW_none, errW_some] <;> rfl), by repeat (first | (with_reducible first | exact HB.out | apply below_alloc | apply pw_below_drewN | apply below_drew1) | exact HB.out)⟩
                      · rw [if_neg c38] at H
                        exact absurd H (by simp)
          · rw [if_neg c14] at H
            exact absurd H (by simp)
        · rw [if_neg c13] at H
          exact absurd H (by simp)
    · rw [if_neg c5] at H
      exact absurd H (by simp)
  · rw [if_neg c4] at H
    exact absurd H (by simp)

end Go.Proofs.YtpbebckhemnooaaFmt.PS
