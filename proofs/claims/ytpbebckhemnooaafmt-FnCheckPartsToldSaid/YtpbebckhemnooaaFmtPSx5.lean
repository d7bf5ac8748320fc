-- Written by a program (myprint.sh: the kit's print, turned to take contracts of mine): one Lean function and its contract for each Go function.
import Derived.Test.YtpbebckhemnooaaFmtPSx0
import Derived.Test.YtpbebckhemnooaaFmtPSx4
namespace Go.Proofs.YtpbebckhemnooaaFmt.PS
open Go.RowKit Go.Proofs.YtpbebckhemnooaaFmtW.PrintWords Go.Proofs.YtpbebckhemnooaaFmtW.PrintLast Go.Proofs.YtpbebckhemnooaaFmtW.PrintMore
attribute [local go_sem] max2_int min2_int max_two min_two max_three min_three max_four min_four   -- for this text's walks alone
set_option linter.unusedVariables false
set_option linter.unusedSimpArgs false

/-! ### module_splitGopkgIn: function 83 -/
mutual
def module_splitGopkgIn.j0 : Nat → ByteArray → Int → Option (ByteArray × ByteArray × Bool)
  | 0, _, _ => none
  | k + 1, x0, x5 => module_splitGopkgIn.l0 k x0 x5
def module_splitGopkgIn.j2 : Nat → ByteArray → Int → Option (ByteArray × ByteArray × Bool)
  | 0, _, _ => none
  | k + 1, x0, x5 => if x5 ≤ 1 then (module_splitGopkgIn.j3 k x0 x5 true) else (if 0 ≤ (wrap64 (x5 - 1)) then (if (wrap64 (x5 - 1)) < (x0.size : Int) then (if (bt x0 (wrap64 (x5 - 1))) = 118 then (if 0 ≤ (wrap64 (x5 - 2)) then (if (wrap64 (x5 - 2)) < (x0.size : Int) then (module_splitGopkgIn.j3 k x0 x5 ((bt x0 (wrap64 (x5 - 2))) != 46)) else (none)) else (none)) else (module_splitGopkgIn.j3 k x0 x5 true)) else (none)) else (none))
def module_splitGopkgIn.j3 : Nat → ByteArray → Int → Bool → Option (ByteArray × ByteArray × Bool)
  | 0, _, _, _ => none
  | k + 1, x0, x5, x49 => if x49 = true then (some (x0, (⟨#[]⟩ : ByteArray), false)) else (if 0 ≤ (wrap64 (x5 - 2)) then (if (wrap64 (x5 - 2)) ≤ (x0.size : Int) then (if ((x0.extract ((wrap64 (x5 - 2)) : Int).toNat x0.size).size : Int) ≤ 2 then (some (x0, (⟨#[]⟩ : ByteArray), false)) else (if 2 < ((x0.extract ((wrap64 (x5 - 2)) : Int).toNat x0.size).size : Int) then (if (bt (x0.extract ((wrap64 (x5 - 2)) : Int).toNat x0.size) 2) = 48 then (if (x0.extract ((wrap64 (x5 - 2)) : Int).toNat x0.size).toList = ([46, 118, 48] : List UInt8) then (some (x0.extract 0 ((wrap64 (x5 - 2)) : Int).toNat, x0.extract ((wrap64 (x5 - 2)) : Int).toNat x0.size, true)) else (some (x0, (⟨#[]⟩ : ByteArray), false))) else (some (x0.extract 0 ((wrap64 (x5 - 2)) : Int).toNat, x0.extract ((wrap64 (x5 - 2)) : Int).toNat x0.size, true))) else (none))) else (none)) else (none))
def module_splitGopkgIn.l0 : Nat → ByteArray → Int → Option (ByteArray × ByteArray × Bool)
  | 0, _, _ => none
  | k + 1, x0, x5 => if x5 > 0 then (if 0 ≤ (wrap64 (x5 - 1)) then (if (wrap64 (x5 - 1)) < (x0.size : Int) then (if 48 ≤ (bt x0 (wrap64 (x5 - 1))) then (if (bt x0 (wrap64 (x5 - 1))) ≤ 57 then (module_splitGopkgIn.l0 k x0 (wrap64 (x5 - 1))) else (module_splitGopkgIn.j2 k x0 x5)) else (module_splitGopkgIn.j2 k x0 x5)) else (none)) else (none)) else (module_splitGopkgIn.j2 k x0 x5)
end
def module_splitGopkgIn.f (k : Nat) (a0 : ByteArray) : Option (ByteArray × ByteArray × Bool) := (strings_HasPrefix.f a0 (⟨#[103, 111, 112, 107, 103, 46, 105, 110, 47]⟩ : ByteArray)).bind fun t160 => (if t160 = true then ((strings_HasSuffix.f a0 (⟨#[45, 117, 110, 115, 116, 97, 98, 108, 101]⟩ : ByteArray)).bind fun t161 => (if t161 = true then (module_splitGopkgIn.j0 k a0 (wrap64 ((a0.size : Int) - 9))) else (module_splitGopkgIn.j0 k a0 (a0.size : Int)))) else (some (a0, (⟨#[]⟩ : ByteArray), false)))
set_option maxHeartbeats 8000000 in
set_option maxRecDepth 100000 in
theorem module_splitGopkgIn.calls (k : Nat) (a0 : ByteArray) (r1 : ByteArray) (r2 : ByteArray) (r3 : Bool) (w : World) (h : module_splitGopkgIn.f k a0 = some (r1, r2, r3)) :
    Calls Tryf.prog 83 #[.string a0] w fun e w' => e = .returned (.tuple #[.string r1, .string r2, .bool r3]) ∧ Drawn0 w w' := by
  have H : ((strings_HasPrefix.f a0 (⟨#[103, 111, 112, 107, 103, 46, 105, 110, 47]⟩ : ByteArray)).bind fun t160 => (if t160 = true then ((strings_HasSuffix.f a0 (⟨#[45, 117, 110, 115, 116, 97, 98, 108, 101]⟩ : ByteArray)).bind fun t161 => (if t161 = true then (module_splitGopkgIn.j0 k a0 (wrap64 ((a0.size : Int) - 9))) else (module_splitGopkgIn.j0 k a0 (a0.size : Int)))) else (some (a0, (⟨#[]⟩ : ByteArray), false)))) = some (r1, r2, r3) := h
  clear h
  replace H := Option.bind_eq_some_iff.mp H
  obtain ⟨t160, A20, H⟩ := H
  replace H : (if t160 = true then ((strings_HasSuffix.f a0 (⟨#[45, 117, 110, 115, 116, 97, 98, 108, 101]⟩ : ByteArray)).bind fun t161 => (if t161 = true then (module_splitGopkgIn.j0 k a0 (wrap64 ((a0.size : Int) - 9))) else (module_splitGopkgIn.j0 k a0 (a0.size : Int)))) else (some (a0, (⟨#[]⟩ : ByteArray), false))) = some (r1, r2, r3) := H
  have A2 := Aside0.mk A20
  clear A20
  by_cases c3 : t160 = true
  · subst c3
    have H1 : ((strings_HasSuffix.f a0 (⟨#[45, 117, 110, 115, 116, 97, 98, 108, 101]⟩ : ByteArray)).bind fun t161 => (if t161 = true then (module_splitGopkgIn.j0 k a0 (wrap64 ((a0.size : Int) - 9))) else (module_splitGopkgIn.j0 k a0 (a0.size : Int)))) = some (r1, r2, r3) := by rw [if_pos rfl] at H; exact H
    clear H
    have H := H1
    clear H1
    replace H := Option.bind_eq_some_iff.mp H
    obtain ⟨t161, A40, H⟩ := H
    replace H : (if t161 = true then (module_splitGopkgIn.j0 k a0 (wrap64 ((a0.size : Int) - 9))) else (module_splitGopkgIn.j0 k a0 (a0.size : Int))) = some (r1, r2, r3) := H
    have A4 := Aside0.mk A40
    clear A40
    have HC5 := Aside0.mk H
    clear H
    go_enter Tryf.func83, Tryf.ntmps83
    go_upto_if 13 with (first | (go_at_call 82; (with_reducible refine (strings_HasPrefix.calls a0 (⟨#[103, 111, 112, 107, 103, 46, 105, 110, 47]⟩ : ByteArray) true _ A2.out).mono ?_); rintro e w' ⟨rfl, ⟨nd, rfl⟩⟩; (try first | exact ⟨rfl, _, World.drewN_drewN _ _ _⟩ | exact ⟨rfl, _, Eq.trans (World.drewN_drewN _ _ _) (congrArg (World.drewN _) (Nat.add_assoc _ _ _))⟩)) | (go_at_call 86; (with_reducible refine (strings_HasSuffix.calls a0 (⟨#[45, 117, 110, 115, 116, 97, 98, 108, 101]⟩ : ByteArray) t161 _ A4.out).mono ?_); rintro e w' ⟨rfl, ⟨nd, rfl⟩⟩; (try first | exact ⟨rfl, _, World.drewN_drewN _ _ _⟩ | exact ⟨rfl, _, Eq.trans (World.drewN_drewN _ _ _) (congrArg (World.drewN _) (Nat.add_assoc _ _ _))⟩)))
    repeat (go_quiet (first | (go_at_call 82; (with_reducible refine (strings_HasPrefix.calls a0 (⟨#[103, 111, 112, 107, 103, 46, 105, 110, 47]⟩ : ByteArray) true _ A2.out).mono ?_); rintro e w' ⟨rfl, ⟨nd, rfl⟩⟩; (try first | exact ⟨rfl, _, World.drewN_drewN _ _ _⟩ | exact ⟨rfl, _, Eq.trans (World.drewN_drewN _ _ _) (congrArg (World.drewN _) (Nat.add_assoc _ _ _))⟩)) | (go_at_call 86; (with_reducible refine (strings_HasSuffix.calls a0 (⟨#[45, 117, 110, 115, 116, 97, 98, 108, 101]⟩ : ByteArray) t161 _ A4.out).mono ?_); rintro e w' ⟨rfl, ⟨nd, rfl⟩⟩; (try first | exact ⟨rfl, _, World.drewN_drewN _ _ _⟩ | exact ⟨rfl, _, Eq.trans (World.drewN_drewN _ _ _) (congrArg (World.drewN _) (Nat.add_assoc _ _ _))⟩))); go_upto_if 13 with (first | (go_at_call 82; (with_reducible refine (strings_HasPrefix.calls a0 (⟨#[103, 111, 112, 107, 103, 46, 105, 110, 47]⟩ : ByteArray) true _ A2.out).mono ?_); rintro e w' ⟨rfl, ⟨nd, rfl⟩⟩; (try first | exact ⟨rfl, _, World.drewN_drewN _ _ _⟩ | exact ⟨rfl, _, Eq.trans (World.drewN_drewN _ _ _) (congrArg (World.drewN _) (Nat.add_assoc _ _ _))⟩)) | (go_at_call 86; (with_reducible refine (strings_HasSuffix.calls a0 (⟨#[45, 117, 110, 115, 116, 97, 98, 108, 101]⟩ : ByteArray) t161 _ A4.out).mono ?_); rintro e w' ⟨rfl, ⟨nd, rfl⟩⟩; (try first | exact ⟨rfl, _, World.drewN_drewN _ _ _⟩ | exact ⟨rfl, _, Eq.trans (World.drewN_drewN _ _ _) (congrArg (World.drewN _) (Nat.add_assoc _ _ _))⟩))))
    (try simp only [Act.put, List.setIfInBounds_toArray, List.set_cons_zero, List.set_cons_succ])
    go_cut [5] (fun v5 wc => ∃ (kq : Nat) (x5_4 : Int), v5 = .int .i64 x5_4 ∧ Aside0 (module_splitGopkgIn.j0 kq a0 x5_4 = some (r1, r2, r3)) ∧ Aside0 (kq ≤ k) ∧ Drawn0 w wc)
    case first =>
      have H := HC5.out
      clear HC5
      by_cases c6 : t161 = true
      · subst c6
        have H1 : (module_splitGopkgIn.j0 k a0 (wrap64 ((a0.size : Int) - 9))) = some (r1, r2, r3) := by rw [if_pos rfl] at H; exact H
        clear H
        have H := H1
        clear H1
        have H' := Aside0.mk H
        clear H
        go_wp2
        repeat (go_quiet (fail); try go_wp2)
        go_meet
        case rel => exact ⟨_, (wrap64 ((a0.size : Int) - 9)), (by first | rfl | (simp; done) | (simp [*]; done)), H', ⟨by first | omega | exact Nat.le_refl _⟩, by repeat (first | exact Drawn0.refl _ | apply Drawn0.step)⟩
      · replace c6 := Bool.eq_false_iff.mpr c6
        subst c6
        have H1 : (module_splitGopkgIn.j0 k a0 (a0.size : Int)) = some (r1, r2, r3) := by rw [if_neg (show ¬ (false = true) by decide)] at H; exact H
        clear H
        have H := H1
        clear H1
        have H' := Aside0.mk H
        clear H
        go_wp2
        repeat (go_quiet (fail); try go_wp2)
        go_meet
        case rel => exact ⟨_, ((a0.size : Int)), (by first | rfl | (simp; done) | (simp [*]; done)), H', ⟨by first | omega | exact Nat.le_refl _⟩, by repeat (first | exact Drawn0.refl _ | apply Drawn0.step)⟩
    case rest =>
      clear HC5
      try clear p2
      try clear c3
      try clear c6
      try clear p6
      obtain ⟨kq, x5_4, rfl, HA, HJ4, ⟨mc4, rfl⟩⟩ := hcut
      cases kq with
      | zero => exact absurd HA.out (by simp [module_splitGopkgIn.j0])
      | succ kj4 =>
        have H := HA.out
        clear HA
        simp only [module_splitGopkgIn.j0] at H
        have HC7 := Aside0.mk H
        clear H
        go_upto_block 0 with (fail)
        repeat (go_quiet (fail); go_upto_block 0 with (fail))
        go_cut [5] (fun v5 wc => ∃ (kq : Nat) (x5_6 : Int), v5 = .int .i64 x5_6 ∧ Aside0 (module_splitGopkgIn.j2 kq a0 x5_6 = some (r1, r2, r3)) ∧ Aside0 (kq ≤ kj4) ∧ Drawn0 w wc)
        case first =>
          have H := HC7.out
          clear HC7
          have H' := Aside0.mk H
          clear H
          go_wp2
          repeat (go_quiet (fail); try go_wp2)
          go_loopg [5] kj4 (fun kq v5 w' => ∃ (x5_2 : Int), v5 = .int .i64 x5_2 ∧ Aside0 (module_splitGopkgIn.l0 kq a0 x5_2 = some (r1, r2, r3)) ∧ Aside0 (kq ≤ kj4) ∧ Drawn0 w w')
          case atStart => exact ⟨(x5_4), (by first | rfl | (simp; done) | (simp [*]; done)), H', ⟨Nat.le_refl _⟩, by repeat (first | exact Drawn0.refl _ | apply Drawn0.step)⟩
          case round =>
            clear H'
            try clear p2
            try clear c3
            try clear c4
            try clear c6
            try clear p6
            try clear p2
            try clear p6
            obtain ⟨x5_2, rfl, HA, HK2, ⟨m2, rfl⟩⟩ := hrel
            cases gk with
            | zero => exact absurd HA.out (by simp [module_splitGopkgIn.l0])
            | succ k2 =>
              have H := HA.out
              clear HA
              simp only [module_splitGopkgIn.l0] at H
              by_cases c8 : x5_2 > 0
              · rw [if_pos c8] at H
                have c8b0 : decide (0 < x5_2) = true := decide_eq_true c8
                clear c8
                (first | rw [c8b0] | (simp only [i64_w, i32_w]; rw [c8b0]) | skip)
                obtain ⟨ji9, hji9⟩ : ∃ j_ : Int, (wrap64 (x5_2 - 1)) = j_ := ⟨_, rfl⟩
                replace H : (if 0 ≤ (ji9) then (if (ji9) < (a0.size : Int) then (if 48 ≤ (bt a0 (ji9)) then (if (bt a0 (ji9)) ≤ 57 then (module_splitGopkgIn.l0 k2 a0 ji9) else (module_splitGopkgIn.j2 k2 a0 x5_2)) else (module_splitGopkgIn.j2 k2 a0 x5_2)) else (none)) else (none)) = some (r1, r2, r3) := by first | (rw [hji9] at H; exact H) | (simp only [hji9] at H ⊢; exact H)
                have hji9w : (IntKind.i64.wrap (x5_2 - 1)) = ji9 := (i64_w _).trans hji9
                by_cases c10 : 0 ≤ (ji9)
                · rw [if_pos c10] at H
                  have c10b0 : decide (0 ≤ (ji9)) = true := decide_eq_true c10
                  clear c10
                  by_cases c11 : (ji9) < (a0.size : Int)
                  · rw [if_pos c11] at H
                    have c11b0 : decide ((ji9) < (a0.size : Int)) = true := decide_eq_true c11
                    clear c11
                    by_cases c13 : 48 ≤ (bt a0 (ji9))
                    · rw [if_pos c13] at H
                      have c13b0 : decide (48 ≤ (bt a0 (ji9))) = true := decide_eq_true c13
                      clear c13
                      by_cases c15 : (bt a0 (ji9)) ≤ 57
                      · rw [if_pos c15] at H
                        have c15b0 : decide ((bt a0 (ji9)) ≤ 57) = true := decide_eq_true c15
                        clear c15
                        have H' := Aside0.mk H
                        clear H
                        have p12 : 0 ≤ ((ji9) : Int) := of_decide_eq_true (by first | (with_reducible assumption) | assumption)
                        have q12 : (ji9) < (a0.size : Int) := of_decide_eq_true (by first | (with_reducible assumption) | assumption)
                        have hx12 := bt_at a0 (ji9)
                        replace p12 := eq_true p12
                        replace q12 := eq_true q12
                        have p14 : 0 ≤ ((ji9) : Int) := of_decide_eq_true (by first | (with_reducible assumption) | assumption)
                        have q14 : (ji9) < (a0.size : Int) := of_decide_eq_true (by first | (with_reducible assumption) | assumption)
                        have hx14 := bt_at a0 (ji9)
                        replace p14 := eq_true p14
                        replace q14 := eq_true q14
                        go_wp2
                        repeat (go_quiet (fail); try go_wp2)
                        go_roundg k2
                        case measure => have := HJ4.out; have := HK2.out; omega
                        case rel => exact ⟨(ji9), (by first | rfl | (simp; done) | (simp only [← hji9] <;> (first | rfl | simp)) | (simp [*]; done)), H', ⟨by have := HJ4.out; have := HK2.out; omega⟩, by repeat (first | exact Drawn0.refl _ | apply Drawn0.step)⟩
                      · rw [if_neg c15] at H
                        have c15b0 : decide ((bt a0 (ji9)) ≤ 57) = false := decide_eq_false c15
                        clear c15
                        have H' := Aside0.mk H
                        clear H
                        have p12 : 0 ≤ ((ji9) : Int) := of_decide_eq_true (by first | (with_reducible assumption) | assumption)
                        have q12 : (ji9) < (a0.size : Int) := of_decide_eq_true (by first | (with_reducible assumption) | assumption)
                        have hx12 := bt_at a0 (ji9)
                        replace p12 := eq_true p12
                        replace q12 := eq_true q12
                        have p14 : 0 ≤ ((ji9) : Int) := of_decide_eq_true (by first | (with_reducible assumption) | assumption)
                        have q14 : (ji9) < (a0.size : Int) := of_decide_eq_true (by first | (with_reducible assumption) | assumption)
                        have hx14 := bt_at a0 (ji9)
                        replace p14 := eq_true p14
                        replace q14 := eq_true q14
                        go_wp2
                        repeat (go_quiet (fail); try go_wp2)
                        go_meet
                        case rel => exact ⟨_, (x5_2), (by first | rfl | (simp; done) | (simp [*]; done)), H', ⟨by have := HJ4.out; have := HK2.out; first | omega | exact Nat.le_refl _⟩, by repeat (first | exact Drawn0.refl _ | apply Drawn0.step)⟩
                    · rw [if_neg c13] at H
                      have c13b0 : decide (48 ≤ (bt a0 (ji9))) = false := decide_eq_false c13
                      clear c13
                      have H' := Aside0.mk H
                      clear H
                      have p12 : 0 ≤ ((ji9) : Int) := of_decide_eq_true (by first | (with_reducible assumption) | assumption)
                      have q12 : (ji9) < (a0.size : Int) := of_decide_eq_true (by first | (with_reducible assumption) | assumption)
                      have hx12 := bt_at a0 (ji9)
                      replace p12 := eq_true p12
                      replace q12 := eq_true q12
                      go_wp2
                      repeat (go_quiet (fail); try go_wp2)
                      go_meet
                      case rel => exact ⟨_, (x5_2), (by first | rfl | (simp; done) | (simp [*]; done)), H', ⟨by have := HJ4.out; have := HK2.out; first | omega | exact Nat.le_refl _⟩, by repeat (first | exact Drawn0.refl _ | apply Drawn0.step)⟩
                  · rw [if_neg c11] at H
                    exact absurd H (by simp)
                · rw [if_neg c10] at H
                  exact absurd H (by simp)
              · rw [if_neg c8] at H
                have c8b0 : decide (0 < x5_2) = false := decide_eq_false c8
                clear c8
                (first | rw [c8b0] | (simp only [i64_w, i32_w]; rw [c8b0]) | skip)
                have H' := Aside0.mk H
                clear H
                go_wp2
                repeat (go_quiet (fail); try go_wp2)
                go_meet
                case rel => exact ⟨_, (x5_2), (by first | rfl | (simp; done) | (simp [*]; done)), H', ⟨by have := HJ4.out; have := HK2.out; first | omega | exact Nat.le_refl _⟩, by repeat (first | exact Drawn0.refl _ | apply Drawn0.step)⟩
        case rest =>
          clear HC7
          try clear c1
          try clear p1
          try clear q1
          try clear hx1
          try clear p2
          try clear c3
          try clear c4
          try clear c6
          try clear p6
          try clear c8
          try clear c8b0
          try clear c10
          try clear c10b0
          try clear c11
          try clear c11b0
          try clear p12
          try clear q12
          try clear hx12
          try clear c13
          try clear c13b0
          try clear p14
          try clear q14
          try clear hx14
          try clear c15
          try clear c15b0
          try clear p12
          try clear p14
          try clear p2
          try clear p6
          try clear q12
          try clear q14
          obtain ⟨kq, x5_6, rfl, HA, HJ6, ⟨mc6, rfl⟩⟩ := hcut
          cases kq with
          | zero => exact absurd HA.out (by simp [module_splitGopkgIn.j2])
          | succ kj6 =>
            have H := HA.out
            clear HA
            simp only [module_splitGopkgIn.j2] at H
            have HC16 := Aside0.mk H
            clear H
            go_upto_region 8 with (fail)
            repeat (go_quiet (fail); go_upto_region 8 with (fail))
            go_cut [49] (fun v49 wc => ∃ (kq : Nat) (x49_15 : Bool), v49 = .bool x49_15 ∧ Aside0 (module_splitGopkgIn.j3 kq a0 x5_6 x49_15 = some (r1, r2, r3)) ∧ Aside0 (kq ≤ kj6) ∧ Drawn0 w wc)
            case first =>
              have H := HC16.out
              clear HC16
              by_cases c17 : x5_6 ≤ 1
              · rw [if_pos c17] at H
                have c17b0 : decide (x5_6 ≤ 1) = true := decide_eq_true c17
                clear c17
                (first | rw [c17b0] | (simp only [i64_w, i32_w]; rw [c17b0]) | skip)
                have H' := Aside0.mk H
                clear H
                go_wp2
                repeat (go_quiet (fail); try go_wp2)
                go_meet
                case rel => exact ⟨_, (true), (by first | rfl | (simp; done) | (simp [*]; done)), H', ⟨by have := HJ4.out; have := HJ6.out; first | omega | exact Nat.le_refl _⟩, by repeat (first | exact Drawn0.refl _ | apply Drawn0.step)⟩
              · rw [if_neg c17] at H
                have c17b0 : decide (x5_6 ≤ 1) = false := decide_eq_false c17
                clear c17
                (first | rw [c17b0] | (simp only [i64_w, i32_w]; rw [c17b0]) | skip)
                obtain ⟨ji18, hji18⟩ : ∃ j_ : Int, (wrap64 (x5_6 - 1)) = j_ := ⟨_, rfl⟩
                replace H : (if 0 ≤ (ji18) then (if (ji18) < (a0.size : Int) then (if (bt a0 (ji18)) = 118 then (if 0 ≤ (wrap64 (x5_6 - 2)) then (if (wrap64 (x5_6 - 2)) < (a0.size : Int) then (module_splitGopkgIn.j3 kj6 a0 x5_6 ((bt a0 (wrap64 (x5_6 - 2))) != 46)) else (none)) else (none)) else (module_splitGopkgIn.j3 kj6 a0 x5_6 true)) else (none)) else (none)) = some (r1, r2, r3) := by first | (rw [hji18] at H; exact H) | (simp only [hji18] at H ⊢; exact H)
                have hji18w : (IntKind.i64.wrap (x5_6 - 1)) = ji18 := (i64_w _).trans hji18
                by_cases c19 : 0 ≤ (ji18)
                · rw [if_pos c19] at H
                  have c19b0 : decide (0 ≤ (ji18)) = true := decide_eq_true c19
                  clear c19
                  by_cases c20 : (ji18) < (a0.size : Int)
                  · rw [if_pos c20] at H
                    have c20b0 : decide ((ji18) < (a0.size : Int)) = true := decide_eq_true c20
                    clear c20
                    by_cases c22 : (bt a0 (ji18)) = 118
                    · rw [if_pos c22] at H
                      have c22b0 : ((bt a0 (ji18)) == 118) = true := beq_iff_eq.mpr c22
                      have c22b1 : ((bt a0 (ji18)) != 118) = false := bne_eq_false_iff_eq.mpr c22
                      clear c22
                      obtain ⟨ji23, hji23⟩ : ∃ j_ : Int, (wrap64 (x5_6 - 2)) = j_ := ⟨_, rfl⟩
                      replace H : (if 0 ≤ (ji23) then (if (ji23) < (a0.size : Int) then (module_splitGopkgIn.j3 kj6 a0 x5_6 ((bt a0 (ji23)) != 46)) else (none)) else (none)) = some (r1, r2, r3) := by first | (rw [hji23] at H; exact H) | (simp only [hji23] at H ⊢; exact H)
                      have hji23w : (IntKind.i64.wrap (x5_6 - 2)) = ji23 := (i64_w _).trans hji23
                      by_cases c24 : 0 ≤ (ji23)
                      · rw [if_pos c24] at H
                        have c24b0 : decide (0 ≤ (ji23)) = true := decide_eq_true c24
                        clear c24
                        by_cases c25 : (ji23) < (a0.size : Int)
                        · rw [if_pos c25] at H
                          have c25b0 : decide ((ji23) < (a0.size : Int)) = true := decide_eq_true c25
                          clear c25
                          have H' := Aside0.mk H
                          clear H
                          have p21 : 0 ≤ ((ji18) : Int) := of_decide_eq_true (by first | (with_reducible assumption) | assumption)
                          have q21 : (ji18) < (a0.size : Int) := of_decide_eq_true (by first | (with_reducible assumption) | assumption)
                          have hx21 := bt_at a0 (ji18)
                          replace p21 := eq_true p21
                          replace q21 := eq_true q21
                          have p26 : 0 ≤ ((ji23) : Int) := of_decide_eq_true (by first | (with_reducible assumption) | assumption)
                          have q26 : (ji23) < (a0.size : Int) := of_decide_eq_true (by first | (with_reducible assumption) | assumption)
                          have hx26 := bt_at a0 (ji23)
                          replace p26 := eq_true p26
                          replace q26 := eq_true q26
                          go_wp2
                          repeat (go_quiet (fail); try go_wp2)
                          go_meet
                          case rel => exact ⟨_, (((bt a0 (ji23)) != 46)), (by first | rfl | (simp; done) | (simp only [← hji23] <;> (first | rfl | simp)) | (simp [*]; done)), H', ⟨by have := HJ4.out; have := HJ6.out; first | omega | exact Nat.le_refl _⟩, by repeat (first | exact Drawn0.refl _ | apply Drawn0.step)⟩
                        · rw [if_neg c25] at H
                          exact absurd H (by simp)
                      · rw [if_neg c24] at H
                        exact absurd H (by simp)
                    · rw [if_neg c22] at H
                      have c22b0 : ((bt a0 (ji18)) == 118) = false := beq_eq_false_iff_ne.mpr c22
                      have c22b1 : ((bt a0 (ji18)) != 118) = true := bne_iff_ne.mpr c22
                      have H' := Aside0.mk H
                      clear H
                      have p21 : 0 ≤ ((ji18) : Int) := of_decide_eq_true (by first | (with_reducible assumption) | assumption)
                      have q21 : (ji18) < (a0.size : Int) := of_decide_eq_true (by first | (with_reducible assumption) | assumption)
                      have hx21 := bt_at a0 (ji18)
                      replace p21 := eq_true p21
                      replace q21 := eq_true q21
                      go_wp2
                      repeat (go_quiet (fail); try go_wp2)
                      go_meet
                      case rel => exact ⟨_, (true), (by first | rfl | (simp; done) | (simp [*]; done)), H', ⟨by have := HJ4.out; have := HJ6.out; first | omega | exact Nat.le_refl _⟩, by repeat (first | exact Drawn0.refl _ | apply Drawn0.step)⟩
                  · rw [if_neg c20] at H
                    exact absurd H (by simp)
                · rw [if_neg c19] at H
                  exact absurd H (by simp)
            case rest =>
              clear HC16
              try clear c1
              try clear p1
              try clear q1
              try clear hx1
              try clear c2
              try clear p2
              try clear q2
              try clear hx2
              try clear c3
              try clear c4
              try clear c6
              try clear p6
              try clear c8
              try clear c8b0
              try clear c10
              try clear c10b0
              try clear c11
              try clear c11b0
              try clear p12
              try clear q12
              try clear hx12
              try clear c13
              try clear c13b0
              try clear p14
              try clear q14
              try clear hx14
              try clear c15
              try clear c15b0
              try clear c17
              try clear c17b0
              try clear c19
              try clear c19b0
              try clear c20
              try clear c20b0
              try clear p21
              try clear q21
              try clear hx21
              try clear c22
              try clear c22b0
              try clear c22b1
              try clear c24
              try clear c24b0
              try clear c25
              try clear c25b0
              try clear p26
              try clear q26
              try clear hx26
              try clear p1
              try clear p12
              try clear p14
              try clear p2
              try clear p21
              try clear p26
              try clear p6
              try clear q1
              try clear q12
              try clear q14
              try clear q21
              try clear q26
              obtain ⟨kq, x49_15, rfl, HA, HJ15, ⟨mc15, rfl⟩⟩ := hcut
              cases kq with
              | zero => exact absurd HA.out (by simp [module_splitGopkgIn.j3])
              | succ kj15 =>
                have H := HA.out
                clear HA
                simp only [module_splitGopkgIn.j3] at H
                by_cases c27 : x49_15 = true
                · subst c27
                  have H1 : (some (a0, (⟨#[]⟩ : ByteArray), false)) = some (r1, r2, r3) := by rw [if_pos rfl] at H; exact H
                  clear H
                  have H := H1
                  clear H1
                  simp only [Option.some.injEq, Prod.mk.injEq] at H
                  obtain ⟨rfl, rfl, rfl⟩ := H
                  go_wp2
                  repeat (go_quiet (fail); try go_wp2)
                  go_ret3
                  exact ⟨by first | rfl | (simp; done) | (simp [*]; done), by repeat (first | exact Drawn0.refl _ | apply Drawn0.step)⟩
                · replace c27 := Bool.eq_false_iff.mpr c27
                  subst c27
                  have H1 : (if 0 ≤ (wrap64 (x5_6 - 2)) then (if (wrap64 (x5_6 - 2)) ≤ (a0.size : Int) then (if ((a0.extract ((wrap64 (x5_6 - 2)) : Int).toNat a0.size).size : Int) ≤ 2 then (some (a0, (⟨#[]⟩ : ByteArray), false)) else (if 2 < ((a0.extract ((wrap64 (x5_6 - 2)) : Int).toNat a0.size).size : Int) then (if (bt (a0.extract ((wrap64 (x5_6 - 2)) : Int).toNat a0.size) 2) = 48 then (if (a0.extract ((wrap64 (x5_6 - 2)) : Int).toNat a0.size).toList = ([46, 118, 48] : List UInt8) then (some (a0.extract 0 ((wrap64 (x5_6 - 2)) : Int).toNat, a0.extract ((wrap64 (x5_6 - 2)) : Int).toNat a0.size, true)) else (some (a0, (⟨#[]⟩ : ByteArray), false))) else (some (a0.extract 0 ((wrap64 (x5_6 - 2)) : Int).toNat, a0.extract ((wrap64 (x5_6 - 2)) : Int).toNat a0.size, true))) else (none))) else (none)) else (none)) = some (r1, r2, r3) := by rw [if_neg (show ¬ (false = true) by decide)] at H; exact H
                  clear H
                  have H := H1
                  clear H1
                  obtain ⟨ji28, hji28⟩ : ∃ j_ : Int, (wrap64 (x5_6 - 2)) = j_ := ⟨_, rfl⟩
                  replace H : (if 0 ≤ (ji28) then (if (ji28) ≤ (a0.size : Int) then (if ((a0.extract ((ji28) : Int).toNat a0.size).size : Int) ≤ 2 then (some (a0, (⟨#[]⟩ : ByteArray), false)) else (if 2 < ((a0.extract ((ji28) : Int).toNat a0.size).size : Int) then (if (bt (a0.extract ((ji28) : Int).toNat a0.size) 2) = 48 then (if (a0.extract ((ji28) : Int).toNat a0.size).toList = ([46, 118, 48] : List UInt8) then (some (a0.extract 0 ((ji28) : Int).toNat, a0.extract ((ji28) : Int).toNat a0.size, true)) else (some (a0, (⟨#[]⟩ : ByteArray), false))) else (some (a0.extract 0 ((ji28) : Int).toNat, a0.extract ((ji28) : Int).toNat a0.size, true))) else (none))) else (none)) else (none)) = some (r1, r2, r3) := by first | (rw [hji28] at H; exact H) | (simp only [hji28] at H ⊢; exact H)
                  have hji28w : (IntKind.i64.wrap (x5_6 - 2)) = ji28 := (i64_w _).trans hji28
                  by_cases c29 : 0 ≤ (ji28)
                  · rw [if_pos c29] at H
                    have c29b0 := eq_true c29
                    have c29b1 : decide (0 ≤ (ji28)) = true := decide_eq_true c29
                    clear c29
                    by_cases c30 : (ji28) ≤ (a0.size : Int)
                    · rw [if_pos c30] at H
                      have c30b0 := eq_true c30
                      have c30b1 : decide ((ji28) ≤ (a0.size : Int)) = true := decide_eq_true c30
                      clear c30
                      have c31b0 := eq_true (of_decide_eq_true (by first | (with_reducible assumption) | assumption) : 0 ≤ (ji28))
                      have c32b0 := eq_true (of_decide_eq_true (by first | (with_reducible assumption) | assumption) : (ji28) ≤ (a0.size : Int))
                      by_cases c33 : ((a0.extract ((ji28) : Int).toNat a0.size).size : Int) ≤ 2
                      · rw [if_pos c33] at H
                        have c33b0 : decide (((a0.extract ((ji28) : Int).toNat a0.size).size : Int) ≤ 2) = true := decide_eq_true c33
                        have c33b1 : decide ((a0.extract ((ji28) : Int).toNat a0.size).size ≤ 2) = true := decide_eq_true (by omega)
                        have c33b2 : decide (((a0.size - ((ji28) : Int).toNat : Nat) : Int) ≤ 2) = true := by have e_ : (a0.extract ((ji28) : Int).toNat a0.size).size = a0.size - ((ji28) : Int).toNat := (by simp [ByteArray.size_extract]); (have c_ := c33; rw [e_] at c_; exact decide_eq_true c_)
                        clear c33
                        simp only [Option.some.injEq, Prod.mk.injEq] at H
                        obtain ⟨rfl, rfl, rfl⟩ := H
                        go_wp2
                        repeat (go_quiet (fail); try go_wp2)
                        go_ret3
                        exact ⟨by first | rfl | (simp; done) | (simp only [← hji28] <;> (first | rfl | simp)) | (simp [*]; done), by repeat (first | exact Drawn0.refl _ | apply Drawn0.step)⟩
                      · rw [if_neg c33] at H
                        have c33b0 : decide (((a0.extract ((ji28) : Int).toNat a0.size).size : Int) ≤ 2) = false := decide_eq_false c33
                        have c33b1 : decide ((a0.extract ((ji28) : Int).toNat a0.size).size ≤ 2) = false := decide_eq_false (by omega)
                        have c33b2 : decide (((a0.size - ((ji28) : Int).toNat : Nat) : Int) ≤ 2) = false := by have e_ : (a0.extract ((ji28) : Int).toNat a0.size).size = a0.size - ((ji28) : Int).toNat := (by simp [ByteArray.size_extract]); (have c_ := c33; rw [e_] at c_; exact decide_eq_false c_)
                        have c33b3 : 2 < ((a0.size - ((ji28) : Int).toNat : Nat) : Int) := by have e_ : (a0.extract ((ji28) : Int).toNat a0.size).size = a0.size - ((ji28) : Int).toNat := (by simp [ByteArray.size_extract]); (have c_ := c33; rw [e_] at c_; exact Int.not_le.1 c_)
                        clear c33
                        by_cases c34 : 2 < ((a0.extract ((ji28) : Int).toNat a0.size).size : Int)
                        · rw [if_pos c34] at H
                          have c34b0 : decide (2 < ((a0.extract ((ji28) : Int).toNat a0.size).size : Int)) = true := decide_eq_true c34
                          have c34b1 : decide (2 < (a0.extract ((ji28) : Int).toNat a0.size).size) = true := decide_eq_true (by omega)
                          have c34b2 : decide (2 < ((a0.size - ((ji28) : Int).toNat : Nat) : Int)) = true := by have e_ : (a0.extract ((ji28) : Int).toNat a0.size).size = a0.size - ((ji28) : Int).toNat := (by simp [ByteArray.size_extract]); (have c_ := c34; rw [e_] at c_; exact decide_eq_true c_)
                          clear c34
                          by_cases c36 : (bt (a0.extract ((ji28) : Int).toNat a0.size) 2) = 48
                          · rw [if_pos c36] at H
                            have c36b0 : ((bt (a0.extract ((ji28) : Int).toNat a0.size) 2) == 48) = true := beq_iff_eq.mpr c36
                            have c36b1 : ((bt (a0.extract ((ji28) : Int).toNat a0.size) 2) != 48) = false := bne_eq_false_iff_eq.mpr c36
                            clear c36
                            by_cases c37 : (a0.extract ((ji28) : Int).toNat a0.size).toList = ([46, 118, 48] : List UInt8)
                            · rw [if_pos c37] at H
                              have c37b0 : ((a0.extract ((ji28) : Int).toNat a0.size).toList == ([46, 118, 48] : List UInt8)) = true := beq_iff_eq.mpr c37
                              have c37b1 : ((a0.extract ((ji28) : Int).toNat a0.size).toList != ([46, 118, 48] : List UInt8)) = false := bne_eq_false_iff_eq.mpr c37
                              clear c37
                              simp only [Option.some.injEq, Prod.mk.injEq] at H
                              obtain ⟨rfl, rfl, rfl⟩ := H
                              have p35 : 0 ≤ (2 : Int) := (by omega)
                              have q35 : 2 < (a0.extract ((ji28) : Int).toNat a0.size).size := (by have : (2 : Int) < ((a0.extract ((ji28) : Int).toNat a0.size).size : Int) := of_decide_eq_true (by first | (with_reducible assumption) | assumption); omega)
                              have hx35 : ∀ h : 2 < (a0.extract ((ji28) : Int).toNat a0.size).size, (((a0.extract ((ji28) : Int).toNat a0.size)[2]'h).toNat : Int) = bt (a0.extract ((ji28) : Int).toNat a0.size) 2 := bt_at (a0.extract ((ji28) : Int).toNat a0.size) 2
                              clear p35
                              have qi35 : (2 < ((a0.extract ((ji28) : Int).toNat a0.size).size : Int)) = True := eq_true (of_decide_eq_true (by first | (with_reducible assumption) | assumption))
                              replace q35 := eq_true q35
                              go_wp2
                              repeat (go_quiet (fail); try go_wp2)
                              go_ret3
                              exact ⟨by first | rfl | (simp; done) | (simp only [← hji28] <;> (first | rfl | simp)) | (simp [*]; done), by repeat (first | exact Drawn0.refl _ | apply Drawn0.step)⟩
                            · rw [if_neg c37] at H
                              have c37b0 : ((a0.extract ((ji28) : Int).toNat a0.size).toList == ([46, 118, 48] : List UInt8)) = false := beq_eq_false_iff_ne.mpr c37
                              have c37b1 : ((a0.extract ((ji28) : Int).toNat a0.size).toList != ([46, 118, 48] : List UInt8)) = true := bne_iff_ne.mpr c37
                              simp only [Option.some.injEq, Prod.mk.injEq] at H
                              obtain ⟨rfl, rfl, rfl⟩ := H
                              have p35 : 0 ≤ (2 : Int) := (by omega)
                              have q35 : 2 < (a0.extract ((ji28) : Int).toNat a0.size).size := (by have : (2 : Int) < ((a0.extract ((ji28) : Int).toNat a0.size).size : Int) := of_decide_eq_true (by first | (with_reducible assumption) | assumption); omega)
                              have hx35 : ∀ h : 2 < (a0.extract ((ji28) : Int).toNat a0.size).size, (((a0.extract ((ji28) : Int).toNat a0.size)[2]'h).toNat : Int) = bt (a0.extract ((ji28) : Int).toNat a0.size) 2 := bt_at (a0.extract ((ji28) : Int).toNat a0.size) 2
                              clear p35
                              have qi35 : (2 < ((a0.extract ((ji28) : Int).toNat a0.size).size : Int)) = True := eq_true (of_decide_eq_true (by first | (with_reducible assumption) | assumption))
                              replace q35 := eq_true q35
                              go_wp2
                              repeat (go_quiet (fail); try go_wp2)
                              go_ret3
                              exact ⟨by first | rfl | (simp; done) | (simp only [← hji28] <;> (first | rfl | simp)) | (simp [*]; done), by repeat (first | exact Drawn0.refl _ | apply Drawn0.step)⟩
                          · rw [if_neg c36] at H
                            have c36b0 : ((bt (a0.extract ((ji28) : Int).toNat a0.size) 2) == 48) = false := beq_eq_false_iff_ne.mpr c36
                            have c36b1 : ((bt (a0.extract ((ji28) : Int).toNat a0.size) 2) != 48) = true := bne_iff_ne.mpr c36
                            simp only [Option.some.injEq, Prod.mk.injEq] at H
                            obtain ⟨rfl, rfl, rfl⟩ := H
                            have p35 : 0 ≤ (2 : Int) := (by omega)
                            have q35 : 2 < (a0.extract ((ji28) : Int).toNat a0.size).size := (by have : (2 : Int) < ((a0.extract ((ji28) : Int).toNat a0.size).size : Int) := of_decide_eq_true (by first | (with_reducible assumption) | assumption); omega)
                            have hx35 : ∀ h : 2 < (a0.extract ((ji28) : Int).toNat a0.size).size, (((a0.extract ((ji28) : Int).toNat a0.size)[2]'h).toNat : Int) = bt (a0.extract ((ji28) : Int).toNat a0.size) 2 := bt_at (a0.extract ((ji28) : Int).toNat a0.size) 2
                            clear p35
                            have qi35 : (2 < ((a0.extract ((ji28) : Int).toNat a0.size).size : Int)) = True := eq_true (of_decide_eq_true (by first | (with_reducible assumption) | assumption))
                            replace q35 := eq_true q35
                            go_wp2
                            repeat (go_quiet (fail); try go_wp2)
                            go_ret3
                            exact ⟨by first | rfl | (simp; done) | (simp only [← hji28] <;> (first | rfl | simp)) | (simp [*]; done), by repeat (first | exact Drawn0.refl _ | apply Drawn0.step)⟩
                        · rw [if_neg c34] at H
                          exact absurd H (by simp)
                    · rw [if_neg c30] at H
                      exact absurd H (by simp)
                  · rw [if_neg c29] at H
                    exact absurd H (by simp)
  · replace c3 := Bool.eq_false_iff.mpr c3
    subst c3
    have H1 : (some (a0, (⟨#[]⟩ : ByteArray), false)) = some (r1, r2, r3) := by rw [if_neg (show ¬ (false = true) by decide)] at H; exact H
    clear H
    have H := H1
    clear H1
    simp only [Option.some.injEq, Prod.mk.injEq] at H
    obtain ⟨rfl, rfl, rfl⟩ := H
    go_enter Tryf.func83, Tryf.ntmps83
    go_wp2_with (first | (go_at_call 82; (with_reducible refine (strings_HasPrefix.calls a0 (⟨#[103, 111, 112, 107, 103, 46, 105, 110, 47]⟩ : ByteArray) false _ A2.out).mono ?_); rintro e w' ⟨rfl, ⟨nd, rfl⟩⟩; (try first | exact ⟨rfl, _, World.drewN_drewN _ _ _⟩ | exact ⟨rfl, _, Eq.trans (World.drewN_drewN _ _ _) (congrArg (World.drewN _) (Nat.add_assoc _ _ _))⟩)))
    repeat (go_quiet (first | (go_at_call 82; (with_reducible refine (strings_HasPrefix.calls a0 (⟨#[103, 111, 112, 107, 103, 46, 105, 110, 47]⟩ : ByteArray) false _ A2.out).mono ?_); rintro e w' ⟨rfl, ⟨nd, rfl⟩⟩; (try first | exact ⟨rfl, _, World.drewN_drewN _ _ _⟩ | exact ⟨rfl, _, Eq.trans (World.drewN_drewN _ _ _) (congrArg (World.drewN _) (Nat.add_assoc _ _ _))⟩))); try go_wp2_with (first | (go_at_call 82; (with_reducible refine (strings_HasPrefix.calls a0 (⟨#[103, 111, 112, 107, 103, 46, 105, 110, 47]⟩ : ByteArray) false _ A2.out).mono ?_); rintro e w' ⟨rfl, ⟨nd, rfl⟩⟩; (try first | exact ⟨rfl, _, World.drewN_drewN _ _ _⟩ | exact ⟨rfl, _, Eq.trans (World.drewN_drewN _ _ _) (congrArg (World.drewN _) (Nat.add_assoc _ _ _))⟩))))
    go_ret3
    exact ⟨by first | rfl | (simp; done) | (simp [*]; done), by repeat (first | exact Drawn0.refl _ | apply Drawn0.step)⟩

end Go.Proofs.YtpbebckhemnooaaFmt.PS
