-- Written by a program (myprint.sh: the kit's print, turned to take contracts of mine): one Lean function and its contract for each Go function.
import Derived.Test.YtpbebckhemnooaaFmtPSx0
namespace Go.Proofs.YtpbebckhemnooaaFmt.PS
open Go.RowKit Go.Proofs.YtpbebckhemnooaaFmtW.PrintWords Go.Proofs.YtpbebckhemnooaaFmtW.PrintLast Go.Proofs.YtpbebckhemnooaaFmtW.PrintMore
attribute [local go_sem] max2_int min2_int max_two min_two max_three min_three max_four min_four   -- for this text's walks alone
set_option linter.unusedVariables false
set_option linter.unusedSimpArgs false

/-! ### module_modPathOK: function 73 -/
def module_modPathOK.f (a0 : Int) : Option (Bool) := if a0 < 128 then (if a0 = 45 then (some true) else (if a0 = 46 then (some true) else (if a0 = 95 then (some true) else (if a0 = 126 then (some true) else (if 48 ≤ a0 then (if a0 ≤ 57 then (some true) else (if 65 ≤ a0 then (if a0 ≤ 90 then (some true) else (if 97 ≤ a0 then (some (decide (a0 ≤ 122))) else (some false))) else (if 97 ≤ a0 then (some (decide (a0 ≤ 122))) else (some false)))) else (if 65 ≤ a0 then (if a0 ≤ 90 then (some true) else (if 97 ≤ a0 then (some (decide (a0 ≤ 122))) else (some false))) else (if 97 ≤ a0 then (some (decide (a0 ≤ 122))) else (some false)))))))) else (some false)
set_option maxHeartbeats 8000000 in
set_option maxRecDepth 100000 in
theorem module_modPathOK.calls (a0 : Int) (r : Bool) (w : World) (h : module_modPathOK.f a0 = some r) :
    Calls Tryf.prog 73 #[.int .i32 a0] w fun e w' => e = .returned (.bool r) ∧ Drawn0 w w' := by
  have H : (if a0 < 128 then (if a0 = 45 then (some true) else (if a0 = 46 then (some true) else (if a0 = 95 then (some true) else (if a0 = 126 then (some true) else (if 48 ≤ a0 then (if a0 ≤ 57 then (some true) else (if 65 ≤ a0 then (if a0 ≤ 90 then (some true) else (if 97 ≤ a0 then (some (decide (a0 ≤ 122))) else (some false))) else (if 97 ≤ a0 then (some (decide (a0 ≤ 122))) else (some false)))) else (if 65 ≤ a0 then (if a0 ≤ 90 then (some true) else (if 97 ≤ a0 then (some (decide (a0 ≤ 122))) else (some false))) else (if 97 ≤ a0 then (some (decide (a0 ≤ 122))) else (some false)))))))) else (some false)) = some r := h
  clear h
  by_cases c2 : a0 < 128
  · rw [if_pos c2] at H
    have c2b0 : decide (a0 < 128) = true := decide_eq_true c2
    clear c2
    by_cases c3 : a0 = 45
    · rw [if_pos c3] at H
      have c3b0 : (a0 == 45) = true := beq_iff_eq.mpr c3
      have c3b1 : (a0 != 45) = false := bne_eq_false_iff_eq.mpr c3
      clear c3
      obtain rfl := Option.some.inj H
      go_enter Tryf.func73, Tryf.ntmps73
      go_wp2
      go_ret
      exact ⟨by first | rfl | (simp; done) | (simp [*]; done), by repeat (first | exact Drawn0.refl _ | apply Drawn0.step)⟩
    · rw [if_neg c3] at H
      have c3b0 : (a0 == 45) = false := beq_eq_false_iff_ne.mpr c3
      have c3b1 : (a0 != 45) = true := bne_iff_ne.mpr c3
      by_cases c4 : a0 = 46
      · rw [if_pos c4] at H
        have c4b0 : (a0 == 46) = true := beq_iff_eq.mpr c4
        have c4b1 : (a0 != 46) = false := bne_eq_false_iff_eq.mpr c4
        clear c4
        obtain rfl := Option.some.inj H
        go_enter Tryf.func73, Tryf.ntmps73
        go_wp2
        go_ret
        exact ⟨by first | rfl | (simp; done) | (simp [*]; done), by repeat (first | exact Drawn0.refl _ | apply Drawn0.step)⟩
      · rw [if_neg c4] at H
        have c4b0 : (a0 == 46) = false := beq_eq_false_iff_ne.mpr c4
        have c4b1 : (a0 != 46) = true := bne_iff_ne.mpr c4
        by_cases c5 : a0 = 95
        · rw [if_pos c5] at H
          have c5b0 : (a0 == 95) = true := beq_iff_eq.mpr c5
          have c5b1 : (a0 != 95) = false := bne_eq_false_iff_eq.mpr c5
          clear c5
          obtain rfl := Option.some.inj H
          go_enter Tryf.func73, Tryf.ntmps73
          go_wp2
          go_ret
          exact ⟨by first | rfl | (simp; done) | (simp [*]; done), by repeat (first | exact Drawn0.refl _ | apply Drawn0.step)⟩
        · rw [if_neg c5] at H
          have c5b0 : (a0 == 95) = false := beq_eq_false_iff_ne.mpr c5
          have c5b1 : (a0 != 95) = true := bne_iff_ne.mpr c5
          by_cases c6 : a0 = 126
          · rw [if_pos c6] at H
            have c6b0 : (a0 == 126) = true := beq_iff_eq.mpr c6
            have c6b1 : (a0 != 126) = false := bne_eq_false_iff_eq.mpr c6
            clear c6
            obtain rfl := Option.some.inj H
            go_enter Tryf.func73, Tryf.ntmps73
            go_wp2
            go_ret
            exact ⟨by first | rfl | (simp; done) | (simp [*]; done), by repeat (first | exact Drawn0.refl _ | apply Drawn0.step)⟩
          · rw [if_neg c6] at H
            have c6b0 : (a0 == 126) = false := beq_eq_false_iff_ne.mpr c6
            have c6b1 : (a0 != 126) = true := bne_iff_ne.mpr c6
            by_cases c7 : 48 ≤ a0
            · rw [if_pos c7] at H
              have c7b0 : decide (48 ≤ a0) = true := decide_eq_true c7
              clear c7
              by_cases c8 : a0 ≤ 57
              · rw [if_pos c8] at H
                have c8b0 : decide (a0 ≤ 57) = true := decide_eq_true c8
                clear c8
                obtain rfl := Option.some.inj H
                go_enter Tryf.func73, Tryf.ntmps73
                go_wp2
                go_ret
                exact ⟨by first | rfl | (simp; done) | (simp [*]; done), by repeat (first | exact Drawn0.refl _ | apply Drawn0.step)⟩
              · rw [if_neg c8] at H
                have c8b0 : decide (a0 ≤ 57) = false := decide_eq_false c8
                clear c8
                by_cases c9 : 65 ≤ a0
                · rw [if_pos c9] at H
                  have c9b0 : decide (65 ≤ a0) = true := decide_eq_true c9
                  clear c9
                  by_cases c10 : a0 ≤ 90
                  · rw [if_pos c10] at H
                    have c10b0 : decide (a0 ≤ 90) = true := decide_eq_true c10
                    clear c10
                    obtain rfl := Option.some.inj H
                    go_enter Tryf.func73, Tryf.ntmps73
                    go_wp2
                    go_ret
                    exact ⟨by first | rfl | (simp; done) | (simp [*]; done), by repeat (first | exact Drawn0.refl _ | apply Drawn0.step)⟩
                  · rw [if_neg c10] at H
                    have c10b0 : decide (a0 ≤ 90) = false := decide_eq_false c10
                    clear c10
                    by_cases c11 : 97 ≤ a0
                    · rw [if_pos c11] at H
                      have c11b0 : decide (97 ≤ a0) = true := decide_eq_true c11
                      clear c11
                      obtain rfl := Option.some.inj H
                      go_enter Tryf.func73, Tryf.ntmps73
                      go_wp2
                      go_ret
                      exact ⟨by first | rfl | (simp; done) | (simp [*]; done), by repeat (first | exact Drawn0.refl _ | apply Drawn0.step)⟩
                    · rw [if_neg c11] at H
                      have c11b0 : decide (97 ≤ a0) = false := decide_eq_false c11
                      clear c11
                      obtain rfl := Option.some.inj H
                      go_enter Tryf.func73, Tryf.ntmps73
                      go_wp2
                      go_ret
                      exact ⟨by first | rfl | (simp; done) | (simp [*]; done), by repeat (first | exact Drawn0.refl _ | apply Drawn0.step)⟩
                · rw [if_neg c9] at H
                  have c9b0 : decide (65 ≤ a0) = false := decide_eq_false c9
                  clear c9
                  by_cases c12 : 97 ≤ a0
                  · rw [if_pos c12] at H
                    have c12b0 : decide (97 ≤ a0) = true := decide_eq_true c12
                    clear c12
                    obtain rfl := Option.some.inj H
                    go_enter Tryf.func73, Tryf.ntmps73
                    go_wp2
                    go_ret
                    exact ⟨by first | rfl | (simp; done) | (simp [*]; done), by repeat (first | exact Drawn0.refl _ | apply Drawn0.step)⟩
                  · rw [if_neg c12] at H
                    have c12b0 : decide (97 ≤ a0) = false := decide_eq_false c12
                    clear c12
                    obtain rfl := Option.some.inj H
                    go_enter Tryf.func73, Tryf.ntmps73
                    go_wp2
                    go_ret
                    exact ⟨by first | rfl | (simp; done) | (simp [*]; done), by repeat (first | exact Drawn0.refl _ | apply Drawn0.step)⟩
            · rw [if_neg c7] at H
              have c7b0 : decide (48 ≤ a0) = false := decide_eq_false c7
              clear c7
              by_cases c13 : 65 ≤ a0
              · rw [if_pos c13] at H
                have c13b0 : decide (65 ≤ a0) = true := decide_eq_true c13
                clear c13
                by_cases c14 : a0 ≤ 90
                · rw [if_pos c14] at H
                  have c14b0 : decide (a0 ≤ 90) = true := decide_eq_true c14
                  clear c14
                  obtain rfl := Option.some.inj H
                  go_enter Tryf.func73, Tryf.ntmps73
                  go_wp2
                  go_ret
                  exact ⟨by first | rfl | (simp; done) | (simp [*]; done), by repeat (first | exact Drawn0.refl _ | apply Drawn0.step)⟩
                · rw [if_neg c14] at H
                  have c14b0 : decide (a0 ≤ 90) = false := decide_eq_false c14
                  clear c14
                  by_cases c15 : 97 ≤ a0
                  · rw [if_pos c15] at H
                    have c15b0 : decide (97 ≤ a0) = true := decide_eq_true c15
                    clear c15
                    obtain rfl := Option.some.inj H
                    go_enter Tryf.func73, Tryf.ntmps73
                    go_wp2
                    go_ret
                    exact ⟨by first | rfl | (simp; done) | (simp [*]; done), by repeat (first | exact Drawn0.refl _ | apply Drawn0.step)⟩
                  · rw [if_neg c15] at H
                    have c15b0 : decide (97 ≤ a0) = false := decide_eq_false c15
                    clear c15
                    obtain rfl := Option.some.inj H
                    go_enter Tryf.func73, Tryf.ntmps73
                    go_wp2
                    go_ret
                    exact ⟨by first | rfl | (simp; done) | (simp [*]; done), by repeat (first | exact Drawn0.refl _ | apply Drawn0.step)⟩
              · rw [if_neg c13] at H
                have c13b0 : decide (65 ≤ a0) = false := decide_eq_false c13
                clear c13
                by_cases c16 : 97 ≤ a0
                · rw [if_pos c16] at H
                  have c16b0 : decide (97 ≤ a0) = true := decide_eq_true c16
                  clear c16
                  obtain rfl := Option.some.inj H
                  go_enter Tryf.func73, Tryf.ntmps73
                  go_wp2
                  go_ret
                  exact ⟨by first | rfl | (simp; done) | (simp [*]; done), by repeat (first | exact Drawn0.refl _ | apply Drawn0.step)⟩
                · rw [if_neg c16] at H
                  have c16b0 : decide (97 ≤ a0) = false := decide_eq_false c16
                  clear c16
                  obtain rfl := Option.some.inj H
                  go_enter Tryf.func73, Tryf.ntmps73
                  go_wp2
                  go_ret
                  exact ⟨by first | rfl | (simp; done) | (simp [*]; done), by repeat (first | exact Drawn0.refl _ | apply Drawn0.step)⟩
  · rw [if_neg c2] at H
    have c2b0 : decide (a0 < 128) = false := decide_eq_false c2
    clear c2
    obtain rfl := Option.some.inj H
    go_enter Tryf.func73, Tryf.ntmps73
    go_wp2
    go_ret
    exact ⟨by first | rfl | (simp; done) | (simp [*]; done), by repeat (first | exact Drawn0.refl _ | apply Drawn0.step)⟩

/-! ### module_importPathOK: function 74 -/
def module_importPathOK.f (a0 : Int) : Option (Bool) := (module_modPathOK.f a0).bind fun t167 => (if t167 = true then (some true) else (some (a0 == 43)))
set_option maxHeartbeats 8000000 in
set_option maxRecDepth 100000 in
theorem module_importPathOK.calls (a0 : Int) (r : Bool) (w : World) (h : module_importPathOK.f a0 = some r) :
    Calls Tryf.prog 74 #[.int .i32 a0] w fun e w' => e = .returned (.bool r) ∧ Drawn0 w w' := by
  have H : ((module_modPathOK.f a0).bind fun t167 => (if t167 = true then (some true) else (some (a0 == 43)))) = some r := h
  clear h
  replace H := Option.bind_eq_some_iff.mp H
  obtain ⟨t167, A20, H⟩ := H
  replace H : (if t167 = true then (some true) else (some (a0 == 43))) = some r := H
  have A2 := Aside0.mk A20
  clear A20
  by_cases c3 : t167 = true
  · subst c3
    have H1 : (some true) = some r := by rw [if_pos rfl] at H; exact H
    clear H
    have H := H1
    clear H1
    obtain rfl := Option.some.inj H
    go_enter Tryf.func74, Tryf.ntmps74
    go_wp2_with (first | ((with_reducible refine gate_callee (f := 73) rfl ?_); refine goesL_ (some 4) rfl rfl Tryf.func73 (by kernel_rfl) rfl #[.int .i32 a0] rfl (by (try simp only [List.map_toArray, List.map_cons, List.map_nil]); first | done | rfl | (simp only [List.length_drop, List.length_take]; rfl)) ?_; (with_reducible refine (module_modPathOK.calls a0 true _ A2.out).mono ?_); rintro e w' ⟨rfl, ⟨nd, rfl⟩⟩; refine ⟨_, rfl, ?_⟩))
    go_ret
    exact ⟨by first | rfl | (simp; done) | (simp [*]; done), by repeat (first | exact Drawn0.refl _ | apply Drawn0.step)⟩
  · replace c3 := Bool.eq_false_iff.mpr c3
    subst c3
    have H1 : (some (a0 == 43)) = some r := by rw [if_neg (show ¬ (false = true) by decide)] at H; exact H
    clear H
    have H := H1
    clear H1
    obtain rfl := Option.some.inj H
    go_enter Tryf.func74, Tryf.ntmps74
    go_wp2_with (first | ((with_reducible refine gate_callee (f := 73) rfl ?_); refine goesL_ (some 4) rfl rfl Tryf.func73 (by kernel_rfl) rfl #[.int .i32 a0] rfl (by (try simp only [List.map_toArray, List.map_cons, List.map_nil]); first | done | rfl | (simp only [List.length_drop, List.length_take]; rfl)) ?_; (with_reducible refine (module_modPathOK.calls a0 false _ A2.out).mono ?_); rintro e w' ⟨rfl, ⟨nd, rfl⟩⟩; refine ⟨_, rfl, ?_⟩))
    go_ret
    exact ⟨by first | rfl | (simp; done) | (simp [*]; done), by repeat (first | exact Drawn0.refl _ | apply Drawn0.step)⟩

/-! ### module_firstPathOK: function 64 -/
def module_firstPathOK.f (a0 : Int) : Option (Bool) := if a0 = 45 then (some true) else (if a0 = 46 then (some true) else (if 48 ≤ a0 then (if a0 ≤ 57 then (some true) else (if 97 ≤ a0 then (some (decide (a0 ≤ 122))) else (some false))) else (if 97 ≤ a0 then (some (decide (a0 ≤ 122))) else (some false))))
set_option maxHeartbeats 8000000 in
set_option maxRecDepth 100000 in
theorem module_firstPathOK.calls (a0 : Int) (r : Bool) (w : World) (h : module_firstPathOK.f a0 = some r) :
    Calls Tryf.prog 64 #[.int .i32 a0] w fun e w' => e = .returned (.bool r) ∧ Drawn0 w w' := by
  have H : (if a0 = 45 then (some true) else (if a0 = 46 then (some true) else (if 48 ≤ a0 then (if a0 ≤ 57 then (some true) else (if 97 ≤ a0 then (some (decide (a0 ≤ 122))) else (some false))) else (if 97 ≤ a0 then (some (decide (a0 ≤ 122))) else (some false))))) = some r := h
  clear h
  by_cases c2 : a0 = 45
  · rw [if_pos c2] at H
    have c2b0 : (a0 == 45) = true := beq_iff_eq.mpr c2
    have c2b1 : (a0 != 45) = false := bne_eq_false_iff_eq.mpr c2
    clear c2
    obtain rfl := Option.some.inj H
    go_enter Tryf.func64, Tryf.ntmps64
    go_wp2
    go_ret
    exact ⟨by first | rfl | (simp; done) | (simp [*]; done), by repeat (first | exact Drawn0.refl _ | apply Drawn0.step)⟩
  · rw [if_neg c2] at H
    have c2b0 : (a0 == 45) = false := beq_eq_false_iff_ne.mpr c2
    have c2b1 : (a0 != 45) = true := bne_iff_ne.mpr c2
    by_cases c3 : a0 = 46
    · rw [if_pos c3] at H
      have c3b0 : (a0 == 46) = true := beq_iff_eq.mpr c3
      have c3b1 : (a0 != 46) = false := bne_eq_false_iff_eq.mpr c3
      clear c3
      obtain rfl := Option.some.inj H
      go_enter Tryf.func64, Tryf.ntmps64
      go_wp2
      go_ret
      exact ⟨by first | rfl | (simp; done) | (simp [*]; done), by repeat (first | exact Drawn0.refl _ | apply Drawn0.step)⟩
    · rw [if_neg c3] at H
      have c3b0 : (a0 == 46) = false := beq_eq_false_iff_ne.mpr c3
      have c3b1 : (a0 != 46) = true := bne_iff_ne.mpr c3
      by_cases c4 : 48 ≤ a0
      · rw [if_pos c4] at H
        have c4b0 : decide (48 ≤ a0) = true := decide_eq_true c4
        clear c4
        by_cases c5 : a0 ≤ 57
        · rw [if_pos c5] at H
          have c5b0 : decide (a0 ≤ 57) = true := decide_eq_true c5
          clear c5
          obtain rfl := Option.some.inj H
          go_enter Tryf.func64, Tryf.ntmps64
          go_wp2
          go_ret
          exact ⟨by first | rfl | (simp; done) | (simp [*]; done), by repeat (first | exact Drawn0.refl _ | apply Drawn0.step)⟩
        · rw [if_neg c5] at H
          have c5b0 : decide (a0 ≤ 57) = false := decide_eq_false c5
          clear c5
          by_cases c6 : 97 ≤ a0
          · rw [if_pos c6] at H
            have c6b0 : decide (97 ≤ a0) = true := decide_eq_true c6
            clear c6
            obtain rfl := Option.some.inj H
            go_enter Tryf.func64, Tryf.ntmps64
            go_wp2
            go_ret
            exact ⟨by first | rfl | (simp; done) | (simp [*]; done), by repeat (first | exact Drawn0.refl _ | apply Drawn0.step)⟩
          · rw [if_neg c6] at H
            have c6b0 : decide (97 ≤ a0) = false := decide_eq_false c6
            clear c6
            obtain rfl := Option.some.inj H
            go_enter Tryf.func64, Tryf.ntmps64
            go_wp2
            go_ret
            exact ⟨by first | rfl | (simp; done) | (simp [*]; done), by repeat (first | exact Drawn0.refl _ | apply Drawn0.step)⟩
      · rw [if_neg c4] at H
        have c4b0 : decide (48 ≤ a0) = false := decide_eq_false c4
        clear c4
        by_cases c7 : 97 ≤ a0
        · rw [if_pos c7] at H
          have c7b0 : decide (97 ≤ a0) = true := decide_eq_true c7
          clear c7
          obtain rfl := Option.some.inj H
          go_enter Tryf.func64, Tryf.ntmps64
          go_wp2
          go_ret
          exact ⟨by first | rfl | (simp; done) | (simp [*]; done), by repeat (first | exact Drawn0.refl _ | apply Drawn0.step)⟩
        · rw [if_neg c7] at H
          have c7b0 : decide (97 ≤ a0) = false := decide_eq_false c7
          clear c7
          obtain rfl := Option.some.inj H
          go_enter Tryf.func64, Tryf.ntmps64
          go_wp2
          go_ret
          exact ⟨by first | rfl | (simp; done) | (simp [*]; done), by repeat (first | exact Drawn0.refl _ | apply Drawn0.step)⟩

/-! ### bytealg_LastIndexByteString: function 94 -/
def bytealg_LastIndexByteString.l0 : Nat → ByteArray → Int → Int → Option (Int)
  | 0, _, _, _ => none
  | k + 1, x0, x1, x5 => if x5 ≥ 0 then (if 0 ≤ x5 then (if x5 < (x0.size : Int) then (if (bt x0 x5) = x1 then (some x5) else (bytealg_LastIndexByteString.l0 k x0 x1 (wrap64 (x5 - 1)))) else (none)) else (none)) else (some (-1))
def bytealg_LastIndexByteString.f (k : Nat) (a0 : ByteArray) (a1 : Int) : Option (Int) := bytealg_LastIndexByteString.l0 k a0 a1 (wrap64 ((a0.size : Int) - 1))
set_option maxHeartbeats 8000000 in
set_option maxRecDepth 100000 in
theorem bytealg_LastIndexByteString.calls (k : Nat) (a0 : ByteArray) (a1 : Int) (r : Int) (w : World) (h : bytealg_LastIndexByteString.f k a0 a1 = some r) :
    Calls Tryf.prog 94 #[.string a0, .int .u8 a1] w fun e w' => e = .returned (.int .i64 r) ∧ Drawn0 w w' := by
  have H : (bytealg_LastIndexByteString.l0 k a0 a1 (wrap64 ((a0.size : Int) - 1))) = some r := h
  clear h
  have H' := Aside0.mk H
  clear H
  go_enter Tryf.func94, Tryf.ntmps94
  go_wp2
  go_loopg [5] k (fun kq v5 w' => ∃ (x5_1 : Int), v5 = .int .i64 x5_1 ∧ Aside0 (bytealg_LastIndexByteString.l0 kq a0 a1 x5_1 = some r) ∧ Aside0 (kq ≤ k) ∧ Drawn0 w w')
  case atStart => exact ⟨(wrap64 ((a0.size : Int) - 1)), (by first | rfl | (simp; done) | (simp [*]; done)), H', ⟨Nat.le_refl _⟩, by repeat (first | exact Drawn0.refl _ | apply Drawn0.step)⟩
  case round =>
    clear H'
    try clear p2
    obtain ⟨x5_1, rfl, HA, HK1, ⟨m1, rfl⟩⟩ := hrel
    cases gk with
    | zero => exact absurd HA.out (by simp [bytealg_LastIndexByteString.l0])
    | succ k1 =>
      have H := HA.out
      clear HA
      simp only [bytealg_LastIndexByteString.l0] at H
      by_cases c3 : x5_1 ≥ 0
      · rw [if_pos c3] at H
        have c3b0 : decide (0 ≤ x5_1) = true := decide_eq_true c3
        clear c3
        by_cases c4 : 0 ≤ x5_1
        · rw [if_pos c4] at H
          have c4b0 : decide (0 ≤ x5_1) = true := decide_eq_true c4
          clear c4
          by_cases c5 : x5_1 < (a0.size : Int)
          · rw [if_pos c5] at H
            have c5b0 : decide (x5_1 < (a0.size : Int)) = true := decide_eq_true c5
            clear c5
            by_cases c7 : (bt a0 x5_1) = a1
            · rw [if_pos c7] at H
              have c7b0 : ((bt a0 x5_1) == a1) = true := beq_iff_eq.mpr c7
              have c7b1 : ((bt a0 x5_1) != a1) = false := bne_eq_false_iff_eq.mpr c7
              clear c7
              obtain rfl := Option.some.inj H
              have p6 : 0 ≤ (x5_1 : Int) := of_decide_eq_true (by first | (with_reducible assumption) | assumption)
              have q6 : x5_1 < (a0.size : Int) := of_decide_eq_true (by first | (with_reducible assumption) | assumption)
              have hx6 := bt_at a0 x5_1
              replace p6 := eq_true p6
              replace q6 := eq_true q6
              go_wp2
              go_ret
              exact ⟨by first | rfl | (simp; done) | (simp [*]; done), by repeat (first | exact Drawn0.refl _ | apply Drawn0.step)⟩
            · rw [if_neg c7] at H
              have c7b0 : ((bt a0 x5_1) == a1) = false := beq_eq_false_iff_ne.mpr c7
              have c7b1 : ((bt a0 x5_1) != a1) = true := bne_iff_ne.mpr c7
              have H' := Aside0.mk H
              clear H
              have p6 : 0 ≤ (x5_1 : Int) := of_decide_eq_true (by first | (with_reducible assumption) | assumption)
              have q6 : x5_1 < (a0.size : Int) := of_decide_eq_true (by first | (with_reducible assumption) | assumption)
              have hx6 := bt_at a0 x5_1
              replace p6 := eq_true p6
              replace q6 := eq_true q6
              go_wp2
              go_roundg k1
              case measure => have := HK1.out; omega
              case rel => exact ⟨(wrap64 (x5_1 - 1)), (by first | rfl | (simp; done) | (simp [*]; done)), H', ⟨by have := HK1.out; omega⟩, by repeat (first | exact Drawn0.refl _ | apply Drawn0.step)⟩
          · rw [if_neg c5] at H
            exact absurd H (by simp)
        · rw [if_neg c4] at H
          exact absurd H (by simp)
      · rw [if_neg c3] at H
        have c3b0 : decide (0 ≤ x5_1) = false := decide_eq_false c3
        clear c3
        obtain rfl := Option.some.inj H
        go_wp2
        go_ret
        exact ⟨by first | rfl | (simp; done) | (simp [*]; done), by repeat (first | exact Drawn0.refl _ | apply Drawn0.step)⟩

/-! ### strings_LastIndexByte: function 78 -/
def strings_LastIndexByte.f (k : Nat) (a0 : ByteArray) (a1 : Int) : Option (Int) := (bytealg_LastIndexByteString.f k a0 a1).bind fun t168 => (some t168)
set_option maxHeartbeats 8000000 in
set_option maxRecDepth 100000 in
theorem strings_LastIndexByte.calls (k : Nat) (a0 : ByteArray) (a1 : Int) (r : Int) (w : World) (h : strings_LastIndexByte.f k a0 a1 = some r) :
    Calls Tryf.prog 78 #[.string a0, .int .u8 a1] w fun e w' => e = .returned (.int .i64 r) ∧ Drawn0 w w' := by
  have H : ((bytealg_LastIndexByteString.f k a0 a1).bind fun t168 => (some t168)) = some r := h
  clear h
  replace H := Option.bind_eq_some_iff.mp H
  obtain ⟨t168, A30, H⟩ := H
  replace H : (some t168) = some r := H
  have A3 := Aside0.mk A30
  clear A30
  obtain rfl := Option.some.inj H
  go_enter Tryf.func78, Tryf.ntmps78
  go_wp2_with (first | ((with_reducible refine gate_callee (f := 94) rfl ?_); refine goesL_ (some 7) rfl rfl Tryf.func94 (by kernel_rfl) rfl #[.string a0, .int .u8 a1] rfl (by (try simp only [List.map_toArray, List.map_cons, List.map_nil]); first | done | rfl | (simp only [List.length_drop, List.length_take]; rfl)) ?_; (with_reducible refine (bytealg_LastIndexByteString.calls k a0 a1 t168 _ A3.out).mono ?_); rintro e w' ⟨rfl, ⟨nd, rfl⟩⟩; refine ⟨_, rfl, ?_⟩))
  go_ret
  exact ⟨by first | rfl | (simp; done) | (simp [*]; done), by repeat (first | exact Drawn0.refl _ | apply Drawn0.step)⟩

end Go.Proofs.YtpbebckhemnooaaFmt.PS
