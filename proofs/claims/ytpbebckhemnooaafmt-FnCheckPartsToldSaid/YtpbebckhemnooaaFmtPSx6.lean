-- Written by a program (myprint.sh: the kit's print, turned to take contracts of mine): one Lean function and its contract for each Go function.
import Derived.Test.YtpbebckhemnooaaFmtPSx0
import Derived.Test.YtpbebckhemnooaaFmtPSx4
import Derived.Test.YtpbebckhemnooaaFmtPSx5
namespace Go.Proofs.YtpbebckhemnooaaFmt.PS
open Go.RowKit Go.Proofs.YtpbebckhemnooaaFmtW.PrintWords Go.Proofs.YtpbebckhemnooaaFmtW.PrintLast Go.Proofs.YtpbebckhemnooaaFmtW.PrintMore
attribute [local go_sem] max2_int min2_int max_two min_two max_three min_three max_four min_four   -- for this text's walks alone
set_option linter.unusedVariables false
set_option linter.unusedSimpArgs false

/-! ### module_SplitPathVersion: function 65 -/
mutual
def module_SplitPathVersion.l0 : Nat → ByteArray → Int → Bool → Option (ByteArray × ByteArray × Bool)
  | 0, _, _, _ => none
  | k + 1, x0, x5, x6 => if x5 > 0 then (if 0 ≤ (wrap64 (x5 - 1)) then (if (wrap64 (x5 - 1)) < (x0.size : Int) then (if 48 ≤ (bt x0 (wrap64 (x5 - 1))) then (if (bt x0 (wrap64 (x5 - 1))) ≤ 57 then (module_SplitPathVersion.j1 k x0 x5 x6 true) else (module_SplitPathVersion.j1 k x0 x5 x6 ((bt x0 (wrap64 (x5 - 1))) == 46))) else (module_SplitPathVersion.j1 k x0 x5 x6 ((bt x0 (wrap64 (x5 - 1))) == 46))) else (none)) else (none)) else (module_SplitPathVersion.j1 k x0 x5 x6 false)
def module_SplitPathVersion.j1 : Nat → ByteArray → Int → Bool → Bool → Option (ByteArray × ByteArray × Bool)
  | 0, _, _, _, _ => none
  | k + 1, x0, x5, x6, x38 => if x38 = true then (if 0 ≤ (wrap64 (x5 - 1)) then (if (wrap64 (x5 - 1)) < (x0.size : Int) then (if (bt x0 (wrap64 (x5 - 1))) = 46 then (module_SplitPathVersion.l0 k x0 (wrap64 (x5 - 1)) true) else (module_SplitPathVersion.l0 k x0 (wrap64 (x5 - 1)) x6)) else (none)) else (none)) else (if x5 ≤ 1 then (module_SplitPathVersion.j2 k x0 x5 x6 true) else (if x5 = (x0.size : Int) then (module_SplitPathVersion.j2 k x0 x5 x6 true) else (if 0 ≤ (wrap64 (x5 - 1)) then (if (wrap64 (x5 - 1)) < (x0.size : Int) then (if (bt x0 (wrap64 (x5 - 1))) = 118 then (if 0 ≤ (wrap64 (x5 - 2)) then (if (wrap64 (x5 - 2)) < (x0.size : Int) then (module_SplitPathVersion.j2 k x0 x5 x6 ((bt x0 (wrap64 (x5 - 2))) != 47)) else (none)) else (none)) else (module_SplitPathVersion.j2 k x0 x5 x6 true)) else (none)) else (none))))
def module_SplitPathVersion.j2 : Nat → ByteArray → Int → Bool → Bool → Option (ByteArray × ByteArray × Bool)
  | 0, _, _, _, _ => none
  | k + 1, x0, x5, x6, x67 => if x67 = true then (some (x0, (⟨#[]⟩ : ByteArray), true)) else (if 0 ≤ (wrap64 (x5 - 2)) then (if (wrap64 (x5 - 2)) ≤ (x0.size : Int) then (if x6 = true then (some (x0, (⟨#[]⟩ : ByteArray), false)) else (if ((x0.extract ((wrap64 (x5 - 2)) : Int).toNat x0.size).size : Int) ≤ 2 then (some (x0, (⟨#[]⟩ : ByteArray), false)) else (if 2 < ((x0.extract ((wrap64 (x5 - 2)) : Int).toNat x0.size).size : Int) then (if (bt (x0.extract ((wrap64 (x5 - 2)) : Int).toNat x0.size) 2) = 48 then (some (x0, (⟨#[]⟩ : ByteArray), false)) else (if (x0.extract ((wrap64 (x5 - 2)) : Int).toNat x0.size).toList = ([47, 118, 49] : List UInt8) then (some (x0, (⟨#[]⟩ : ByteArray), false)) else (some (x0.extract 0 ((wrap64 (x5 - 2)) : Int).toNat, x0.extract ((wrap64 (x5 - 2)) : Int).toNat x0.size, true)))) else (none)))) else (none)) else (none))
end
def module_SplitPathVersion.f (k : Nat) (a0 : ByteArray) : Option (ByteArray × ByteArray × Bool) := (strings_HasPrefix.f a0 (⟨#[103, 111, 112, 107, 103, 46, 105, 110, 47]⟩ : ByteArray)).bind fun t162 => (if t162 = true then ((module_splitGopkgIn.f k a0).bind fun bt163 => (some (bt163.1, bt163.2.1, bt163.2.2))) else (module_SplitPathVersion.l0 k a0 (a0.size : Int) false))
set_option maxHeartbeats 8000000 in
set_option maxRecDepth 100000 in
theorem module_SplitPathVersion.calls (k : Nat) (a0 : ByteArray) (r1 : ByteArray) (r2 : ByteArray) (r3 : Bool) (w : World) (h : module_SplitPathVersion.f k a0 = some (r1, r2, r3)) :
    Calls Tryf.prog 65 #[.string a0] w fun e w' => e = .returned (.tuple #[.string r1, .string r2, .bool r3]) ∧ Drawn0 w w' := by
  have H : ((strings_HasPrefix.f a0 (⟨#[103, 111, 112, 107, 103, 46, 105, 110, 47]⟩ : ByteArray)).bind fun t162 => (if t162 = true then ((module_splitGopkgIn.f k a0).bind fun bt163 => (some (bt163.1, bt163.2.1, bt163.2.2))) else (module_SplitPathVersion.l0 k a0 (a0.size : Int) false))) = some (r1, r2, r3) := h
  clear h
  replace H := Option.bind_eq_some_iff.mp H
  obtain ⟨t162, A20, H⟩ := H
  replace H : (if t162 = true then ((module_splitGopkgIn.f k a0).bind fun bt163 => (some (bt163.1, bt163.2.1, bt163.2.2))) else (module_SplitPathVersion.l0 k a0 (a0.size : Int) false)) = some (r1, r2, r3) := H
  have A2 := Aside0.mk A20
  clear A20
  by_cases c3 : t162 = true
  · subst c3
    have H1 : ((module_splitGopkgIn.f k a0).bind fun bt163 => (some (bt163.1, bt163.2.1, bt163.2.2))) = some (r1, r2, r3) := by rw [if_pos rfl] at H; exact H
    clear H
    have H := H1
    clear H1
    replace H := Option.bind_eq_some_iff.mp H
    obtain ⟨⟨t163, t164, t165⟩, A40, H⟩ := H
    replace H : (some (t163, t164, t165)) = some (r1, r2, r3) := H
    have A4 := Aside0.mk A40
    clear A40
    simp only [Option.some.injEq, Prod.mk.injEq] at H
    obtain ⟨rfl, rfl, rfl⟩ := H
    go_enter Tryf.func65, Tryf.ntmps65
    go_wp2_with (first | (go_at_call 82; (with_reducible refine (strings_HasPrefix.calls a0 (⟨#[103, 111, 112, 107, 103, 46, 105, 110, 47]⟩ : ByteArray) true _ A2.out).mono ?_); rintro e w' ⟨rfl, ⟨nd, rfl⟩⟩; (try first | exact ⟨rfl, _, World.drewN_drewN _ _ _⟩ | exact ⟨rfl, _, Eq.trans (World.drewN_drewN _ _ _) (congrArg (World.drewN _) (Nat.add_assoc _ _ _))⟩)) | (go_at_call 83; (with_reducible refine (module_splitGopkgIn.calls k a0 t163 t164 t165 _ A4.out).mono ?_); rintro e w' ⟨rfl, ⟨nd, rfl⟩⟩; (try first | exact ⟨rfl, _, World.drewN_drewN _ _ _⟩ | exact ⟨rfl, _, Eq.trans (World.drewN_drewN _ _ _) (congrArg (World.drewN _) (Nat.add_assoc _ _ _))⟩)))
    repeat (go_quiet (first | (go_at_call 82; (with_reducible refine (strings_HasPrefix.calls a0 (⟨#[103, 111, 112, 107, 103, 46, 105, 110, 47]⟩ : ByteArray) true _ A2.out).mono ?_); rintro e w' ⟨rfl, ⟨nd, rfl⟩⟩; (try first | exact ⟨rfl, _, World.drewN_drewN _ _ _⟩ | exact ⟨rfl, _, Eq.trans (World.drewN_drewN _ _ _) (congrArg (World.drewN _) (Nat.add_assoc _ _ _))⟩)) | (go_at_call 83; (with_reducible refine (module_splitGopkgIn.calls k a0 t163 t164 t165 _ A4.out).mono ?_); rintro e w' ⟨rfl, ⟨nd, rfl⟩⟩; (try first | exact ⟨rfl, _, World.drewN_drewN _ _ _⟩ | exact ⟨rfl, _, Eq.trans (World.drewN_drewN _ _ _) (congrArg (World.drewN _) (Nat.add_assoc _ _ _))⟩))); try go_wp2_with (first | (go_at_call 82; (with_reducible refine (strings_HasPrefix.calls a0 (⟨#[103, 111, 112, 107, 103, 46, 105, 110, 47]⟩ : ByteArray) true _ A2.out).mono ?_); rintro e w' ⟨rfl, ⟨nd, rfl⟩⟩; (try first | exact ⟨rfl, _, World.drewN_drewN _ _ _⟩ | exact ⟨rfl, _, Eq.trans (World.drewN_drewN _ _ _) (congrArg (World.drewN _) (Nat.add_assoc _ _ _))⟩)) | (go_at_call 83; (with_reducible refine (module_splitGopkgIn.calls k a0 t163 t164 t165 _ A4.out).mono ?_); rintro e w' ⟨rfl, ⟨nd, rfl⟩⟩; (try first | exact ⟨rfl, _, World.drewN_drewN _ _ _⟩ | exact ⟨rfl, _, Eq.trans (World.drewN_drewN _ _ _) (congrArg (World.drewN _) (Nat.add_assoc _ _ _))⟩))))
    go_ret3
    exact ⟨by first | rfl | (simp; done) | (simp [*]; done), by repeat (first | exact Drawn0.refl _ | apply Drawn0.step)⟩
  · replace c3 := Bool.eq_false_iff.mpr c3
    subst c3
    have H1 : (module_SplitPathVersion.l0 k a0 (a0.size : Int) false) = some (r1, r2, r3) := by rw [if_neg (show ¬ (false = true) by decide)] at H; exact H
    clear H
    have H := H1
    clear H1
    have H' := Aside0.mk H
    clear H
    go_enter Tryf.func65, Tryf.ntmps65
    go_wp2_with (first | (go_at_call 82; (with_reducible refine (strings_HasPrefix.calls a0 (⟨#[103, 111, 112, 107, 103, 46, 105, 110, 47]⟩ : ByteArray) false _ A2.out).mono ?_); rintro e w' ⟨rfl, ⟨nd, rfl⟩⟩; (try first | exact ⟨rfl, _, World.drewN_drewN _ _ _⟩ | exact ⟨rfl, _, Eq.trans (World.drewN_drewN _ _ _) (congrArg (World.drewN _) (Nat.add_assoc _ _ _))⟩)))
    repeat (go_quiet (first | (go_at_call 82; (with_reducible refine (strings_HasPrefix.calls a0 (⟨#[103, 111, 112, 107, 103, 46, 105, 110, 47]⟩ : ByteArray) false _ A2.out).mono ?_); rintro e w' ⟨rfl, ⟨nd, rfl⟩⟩; (try first | exact ⟨rfl, _, World.drewN_drewN _ _ _⟩ | exact ⟨rfl, _, Eq.trans (World.drewN_drewN _ _ _) (congrArg (World.drewN _) (Nat.add_assoc _ _ _))⟩))); try go_wp2_with (first | (go_at_call 82; (with_reducible refine (strings_HasPrefix.calls a0 (⟨#[103, 111, 112, 107, 103, 46, 105, 110, 47]⟩ : ByteArray) false _ A2.out).mono ?_); rintro e w' ⟨rfl, ⟨nd, rfl⟩⟩; (try first | exact ⟨rfl, _, World.drewN_drewN _ _ _⟩ | exact ⟨rfl, _, Eq.trans (World.drewN_drewN _ _ _) (congrArg (World.drewN _) (Nat.add_assoc _ _ _))⟩))))
    go_loopg [5, 6] k (fun kq v5 v6 w' => ∃ (x5_1 : Int) (x6_1 : Bool), v5 = .int .i64 x5_1 ∧ v6 = .bool x6_1 ∧ Aside0 (module_SplitPathVersion.l0 kq a0 x5_1 x6_1 = some (r1, r2, r3)) ∧ Aside0 (kq ≤ k) ∧ Drawn0 w w')
    case atStart => exact ⟨((a0.size : Int)), (false), (by first | rfl | (simp; done) | (simp [*]; done)), (by first | rfl | (simp; done) | (simp [*]; done)), H', ⟨Nat.le_refl _⟩, by repeat (first | exact Drawn0.refl _ | apply Drawn0.step)⟩
    case round =>
      clear H'
      try clear p2
      try clear c3
      obtain ⟨x5_1, x6_1, rfl, rfl, HA, HK1, ⟨m1, rfl⟩⟩ := hrel
      cases gk with
      | zero => exact absurd HA.out (by simp [module_SplitPathVersion.l0])
      | succ k1 =>
        have H := HA.out
        clear HA
        simp only [module_SplitPathVersion.l0] at H
        have HC5 := Aside0.mk H
        clear H
        go_upto_region 5 with (fail)
        repeat (go_quiet (fail); go_upto_region 5 with (fail))
        go_cut [38] (fun v38 wc => ∃ (kq : Nat) (x38_4 : Bool), v38 = .bool x38_4 ∧ Aside0 (module_SplitPathVersion.j1 kq a0 x5_1 x6_1 x38_4 = some (r1, r2, r3)) ∧ Aside0 (kq ≤ k1) ∧ Drawn0 w wc)
        case first =>
          have H := HC5.out
          clear HC5
          by_cases c6 : x5_1 > 0
          · rw [if_pos c6] at H
            have c6b0 : decide (0 < x5_1) = true := decide_eq_true c6
            clear c6
            (first | rw [c6b0] | (simp only [i64_w, i32_w]; rw [c6b0]) | skip)
            obtain ⟨ji7, hji7⟩ : ∃ j_ : Int, (wrap64 (x5_1 - 1)) = j_ := ⟨_, rfl⟩
            replace H : (if 0 ≤ (ji7) then (if (ji7) < (a0.size : Int) then (if 48 ≤ (bt a0 (ji7)) then (if (bt a0 (ji7)) ≤ 57 then (module_SplitPathVersion.j1 k1 a0 x5_1 x6_1 true) else (module_SplitPathVersion.j1 k1 a0 x5_1 x6_1 ((bt a0 (ji7)) == 46))) else (module_SplitPathVersion.j1 k1 a0 x5_1 x6_1 ((bt a0 (ji7)) == 46))) else (none)) else (none)) = some (r1, r2, r3) := by first | (rw [hji7] at H; exact H) | (simp only [hji7] at H ⊢; exact H)
            have hji7w : (IntKind.i64.wrap (x5_1 - 1)) = ji7 := (i64_w _).trans hji7
            by_cases c8 : 0 ≤ (ji7)
            · rw [if_pos c8] at H
              have c8b0 : decide (0 ≤ (ji7)) = true := decide_eq_true c8
              clear c8
              by_cases c9 : (ji7) < (a0.size : Int)
              · rw [if_pos c9] at H
                have c9b0 : decide ((ji7) < (a0.size : Int)) = true := decide_eq_true c9
                clear c9
                by_cases c11 : 48 ≤ (bt a0 (ji7))
                · rw [if_pos c11] at H
                  have c11b0 : decide (48 ≤ (bt a0 (ji7))) = true := decide_eq_true c11
                  clear c11
                  by_cases c13 : (bt a0 (ji7)) ≤ 57
                  · rw [if_pos c13] at H
                    have c13b0 : decide ((bt a0 (ji7)) ≤ 57) = true := decide_eq_true c13
                    clear c13
                    have H' := Aside0.mk H
                    clear H
                    have p10 : 0 ≤ ((ji7) : Int) := of_decide_eq_true (by first | (with_reducible assumption) | assumption)
                    have q10 : (ji7) < (a0.size : Int) := of_decide_eq_true (by first | (with_reducible assumption) | assumption)
                    have hx10 := bt_at a0 (ji7)
                    replace p10 := eq_true p10
                    replace q10 := eq_true q10
                    have p12 : 0 ≤ ((ji7) : Int) := of_decide_eq_true (by first | (with_reducible assumption) | assumption)
                    have q12 : (ji7) < (a0.size : Int) := of_decide_eq_true (by first | (with_reducible assumption) | assumption)
                    have hx12 := bt_at a0 (ji7)
                    replace p12 := eq_true p12
                    replace q12 := eq_true q12
                    go_wp2
                    repeat (go_quiet (fail); try go_wp2)
                    go_meet
                    case rel => exact ⟨_, (true), (by first | rfl | (simp; done) | (simp [*]; done)), H', ⟨by have := HK1.out; first | omega | exact Nat.le_refl _⟩, by repeat (first | exact Drawn0.refl _ | apply Drawn0.step)⟩
                  · rw [if_neg c13] at H
                    have c13b0 : decide ((bt a0 (ji7)) ≤ 57) = false := decide_eq_false c13
                    clear c13
                    have H' := Aside0.mk H
                    clear H
                    have p10 : 0 ≤ ((ji7) : Int) := of_decide_eq_true (by first | (with_reducible assumption) | assumption)
                    have q10 : (ji7) < (a0.size : Int) := of_decide_eq_true (by first | (with_reducible assumption) | assumption)
                    have hx10 := bt_at a0 (ji7)
                    replace p10 := eq_true p10
                    replace q10 := eq_true q10
                    have p12 : 0 ≤ ((ji7) : Int) := of_decide_eq_true (by first | (with_reducible assumption) | assumption)
                    have q12 : (ji7) < (a0.size : Int) := of_decide_eq_true (by first | (with_reducible assumption) | assumption)
                    have hx12 := bt_at a0 (ji7)
                    replace p12 := eq_true p12
                    replace q12 := eq_true q12
                    have p14 : 0 ≤ ((ji7) : Int) := of_decide_eq_true (by first | (with_reducible assumption) | assumption)
                    have q14 : (ji7) < (a0.size : Int) := of_decide_eq_true (by first | (with_reducible assumption) | assumption)
                    have hx14 := bt_at a0 (ji7)
                    replace p14 := eq_true p14
                    replace q14 := eq_true q14
                    go_wp2
                    repeat (go_quiet (fail); try go_wp2)
                    go_meet
                    case rel => exact ⟨_, (((bt a0 (ji7)) == 46)), (by first | rfl | (simp; done) | (simp only [← hji7] <;> (first | rfl | simp)) | (simp [*]; done)), H', ⟨by have := HK1.out; first | omega | exact Nat.le_refl _⟩, by repeat (first | exact Drawn0.refl _ | apply Drawn0.step)⟩
                · rw [if_neg c11] at H
                  have c11b0 : decide (48 ≤ (bt a0 (ji7))) = false := decide_eq_false c11
                  clear c11
                  have H' := Aside0.mk H
                  clear H
                  have p10 : 0 ≤ ((ji7) : Int) := of_decide_eq_true (by first | (with_reducible assumption) | assumption)
                  have q10 : (ji7) < (a0.size : Int) := of_decide_eq_true (by first | (with_reducible assumption) | assumption)
                  have hx10 := bt_at a0 (ji7)
                  replace p10 := eq_true p10
                  replace q10 := eq_true q10
                  have p15 : 0 ≤ ((ji7) : Int) := of_decide_eq_true (by first | (with_reducible assumption) | assumption)
                  have q15 : (ji7) < (a0.size : Int) := of_decide_eq_true (by first | (with_reducible assumption) | assumption)
                  have hx15 := bt_at a0 (ji7)
                  replace p15 := eq_true p15
                  replace q15 := eq_true q15
                  go_wp2
                  repeat (go_quiet (fail); try go_wp2)
                  go_meet
                  case rel => exact ⟨_, (((bt a0 (ji7)) == 46)), (by first | rfl | (simp; done) | (simp only [← hji7] <;> (first | rfl | simp)) | (simp [*]; done)), H', ⟨by have := HK1.out; first | omega | exact Nat.le_refl _⟩, by repeat (first | exact Drawn0.refl _ | apply Drawn0.step)⟩
              · rw [if_neg c9] at H
                exact absurd H (by simp)
            · rw [if_neg c8] at H
              exact absurd H (by simp)
          · rw [if_neg c6] at H
            have c6b0 : decide (0 < x5_1) = false := decide_eq_false c6
            clear c6
            (first | rw [c6b0] | (simp only [i64_w, i32_w]; rw [c6b0]) | skip)
            have H' := Aside0.mk H
            clear H
            go_wp2
            repeat (go_quiet (fail); try go_wp2)
            go_meet
            case rel => exact ⟨_, (false), (by first | rfl | (simp; done) | (simp [*]; done)), H', ⟨by have := HK1.out; first | omega | exact Nat.le_refl _⟩, by repeat (first | exact Drawn0.refl _ | apply Drawn0.step)⟩
        case rest =>
          clear HC5
          try clear c1
          try clear p1
          try clear q1
          try clear hx1
          try clear p2
          try clear c3
          try clear c6
          try clear c6b0
          try clear p6
          try clear c8
          try clear c8b0
          try clear c9
          try clear c9b0
          try clear p10
          try clear q10
          try clear hx10
          try clear c11
          try clear c11b0
          try clear p12
          try clear q12
          try clear hx12
          try clear c13
          try clear c13b0
          try clear p14
          try clear q14
          try clear hx14
          try clear p15
          try clear q15
          try clear hx15
          try clear p10
          try clear p12
          try clear p14
          try clear p15
          try clear p2
          try clear q10
          try clear q12
          try clear q14
          try clear q15
          obtain ⟨kq, x38_4, rfl, HA, HJ4, ⟨mc4, rfl⟩⟩ := hcut
          cases kq with
          | zero => exact absurd HA.out (by simp [module_SplitPathVersion.j1])
          | succ kj4 =>
            have H := HA.out
            clear HA
            simp only [module_SplitPathVersion.j1] at H
            by_cases c16 : x38_4 = true
            · subst c16
              have H1 : (if 0 ≤ (wrap64 (x5_1 - 1)) then (if (wrap64 (x5_1 - 1)) < (a0.size : Int) then (if (bt a0 (wrap64 (x5_1 - 1))) = 46 then (module_SplitPathVersion.l0 kj4 a0 (wrap64 (x5_1 - 1)) true) else (module_SplitPathVersion.l0 kj4 a0 (wrap64 (x5_1 - 1)) x6_1)) else (none)) else (none)) = some (r1, r2, r3) := by rw [if_pos rfl] at H; exact H
              clear H
              have H := H1
              clear H1
              obtain ⟨ji17, hji17⟩ : ∃ j_ : Int, (wrap64 (x5_1 - 1)) = j_ := ⟨_, rfl⟩
              replace H : (if 0 ≤ (ji17) then (if (ji17) < (a0.size : Int) then (if (bt a0 (ji17)) = 46 then (module_SplitPathVersion.l0 kj4 a0 ji17 true) else (module_SplitPathVersion.l0 kj4 a0 ji17 x6_1)) else (none)) else (none)) = some (r1, r2, r3) := by first | (rw [hji17] at H; exact H) | (simp only [hji17] at H ⊢; exact H)
              have hji17w : (IntKind.i64.wrap (x5_1 - 1)) = ji17 := (i64_w _).trans hji17
              by_cases c18 : 0 ≤ (ji17)
              · rw [if_pos c18] at H
                have c18b0 : decide (0 ≤ (ji17)) = true := decide_eq_true c18
                clear c18
                by_cases c19 : (ji17) < (a0.size : Int)
                · rw [if_pos c19] at H
                  have c19b0 : decide ((ji17) < (a0.size : Int)) = true := decide_eq_true c19
                  clear c19
                  by_cases c21 : (bt a0 (ji17)) = 46
                  · rw [if_pos c21] at H
                    have c21b0 : ((bt a0 (ji17)) == 46) = true := beq_iff_eq.mpr c21
                    have c21b1 : ((bt a0 (ji17)) != 46) = false := bne_eq_false_iff_eq.mpr c21
                    clear c21
                    have H' := Aside0.mk H
                    clear H
                    have p20 : 0 ≤ ((ji17) : Int) := of_decide_eq_true (by first | (with_reducible assumption) | assumption)
                    have q20 : (ji17) < (a0.size : Int) := of_decide_eq_true (by first | (with_reducible assumption) | assumption)
                    have hx20 := bt_at a0 (ji17)
                    replace p20 := eq_true p20
                    replace q20 := eq_true q20
                    go_wp2
                    repeat (go_quiet (fail); try go_wp2)
                    go_roundg kj4
                    case measure => have := HK1.out; have := HJ4.out; omega
                    case rel => exact ⟨(ji17), (true), (by first | rfl | (simp; done) | (simp only [← hji17] <;> (first | rfl | simp)) | (simp [*]; done)), (by first | rfl | (simp; done) | (simp [*]; done)), H', ⟨by have := HK1.out; have := HJ4.out; omega⟩, by repeat (first | exact Drawn0.refl _ | apply Drawn0.step)⟩
                  · rw [if_neg c21] at H
                    have c21b0 : ((bt a0 (ji17)) == 46) = false := beq_eq_false_iff_ne.mpr c21
                    have c21b1 : ((bt a0 (ji17)) != 46) = true := bne_iff_ne.mpr c21
                    have H' := Aside0.mk H
                    clear H
                    have p20 : 0 ≤ ((ji17) : Int) := of_decide_eq_true (by first | (with_reducible assumption) | assumption)
                    have q20 : (ji17) < (a0.size : Int) := of_decide_eq_true (by first | (with_reducible assumption) | assumption)
                    have hx20 := bt_at a0 (ji17)
                    replace p20 := eq_true p20
                    replace q20 := eq_true q20
                    go_wp2
                    repeat (go_quiet (fail); try go_wp2)
                    go_roundg kj4
                    case measure => have := HK1.out; have := HJ4.out; omega
                    case rel => exact ⟨(ji17), (x6_1), (by first | rfl | (simp; done) | (simp only [← hji17] <;> (first | rfl | simp)) | (simp [*]; done)), (by first | rfl | (simp; done) | (simp [*]; done)), H', ⟨by have := HK1.out; have := HJ4.out; omega⟩, by repeat (first | exact Drawn0.refl _ | apply Drawn0.step)⟩
                · rw [if_neg c19] at H
                  exact absurd H (by simp)
              · rw [if_neg c18] at H
                exact absurd H (by simp)
            · replace c16 := Bool.eq_false_iff.mpr c16
              subst c16
              have H1 : (if x5_1 ≤ 1 then (module_SplitPathVersion.j2 kj4 a0 x5_1 x6_1 true) else (if x5_1 = (a0.size : Int) then (module_SplitPathVersion.j2 kj4 a0 x5_1 x6_1 true) else (if 0 ≤ (wrap64 (x5_1 - 1)) then (if (wrap64 (x5_1 - 1)) < (a0.size : Int) then (if (bt a0 (wrap64 (x5_1 - 1))) = 118 then (if 0 ≤ (wrap64 (x5_1 - 2)) then (if (wrap64 (x5_1 - 2)) < (a0.size : Int) then (module_SplitPathVersion.j2 kj4 a0 x5_1 x6_1 ((bt a0 (wrap64 (x5_1 - 2))) != 47)) else (none)) else (none)) else (module_SplitPathVersion.j2 kj4 a0 x5_1 x6_1 true)) else (none)) else (none)))) = some (r1, r2, r3) := by rw [if_neg (show ¬ (false = true) by decide)] at H; exact H
              clear H
              have H := H1
              clear H1
              have HC22 := Aside0.mk H
              clear H
              go_upto_region 9 with (fail)
              repeat (go_quiet (fail); go_upto_region 9 with (fail))
              go_cut [67] (fun v67 wc => ∃ (kq : Nat) (x67_21 : Bool), v67 = .bool x67_21 ∧ Aside0 (module_SplitPathVersion.j2 kq a0 x5_1 x6_1 x67_21 = some (r1, r2, r3)) ∧ Aside0 (kq ≤ kj4) ∧ Drawn0 w wc)
              case first =>
                have H := HC22.out
                clear HC22
                by_cases c23 : x5_1 ≤ 1
                · rw [if_pos c23] at H
                  have c23b0 : decide (x5_1 ≤ 1) = true := decide_eq_true c23
                  clear c23
                  (first | rw [c23b0] | (simp only [i64_w, i32_w]; rw [c23b0]) | skip)
                  have H' := Aside0.mk H
                  clear H
                  go_wp2
                  repeat (go_quiet (fail); try go_wp2)
                  go_meet
                  case rel => exact ⟨_, (true), (by first | rfl | (simp; done) | (simp [*]; done)), H', ⟨by have := HK1.out; have := HJ4.out; first | omega | exact Nat.le_refl _⟩, by repeat (first | exact Drawn0.refl _ | apply Drawn0.step)⟩
                · rw [if_neg c23] at H
                  have c23b0 : decide (x5_1 ≤ 1) = false := decide_eq_false c23
                  clear c23
                  (first | rw [c23b0] | (simp only [i64_w, i32_w]; rw [c23b0]) | skip)
                  by_cases c24 : x5_1 = (a0.size : Int)
                  · rw [if_pos c24] at H
                    have c24b0 : (x5_1 == (a0.size : Int)) = true := beq_iff_eq.mpr c24
                    have c24b1 : (x5_1 != (a0.size : Int)) = false := bne_eq_false_iff_eq.mpr c24
                    clear c24
                    have H' := Aside0.mk H
                    clear H
                    go_wp2
                    repeat (go_quiet (fail); try go_wp2)
                    go_meet
                    case rel => exact ⟨_, (true), (by first | rfl | (simp; done) | (simp [*]; done)), H', ⟨by have := HK1.out; have := HJ4.out; first | omega | exact Nat.le_refl _⟩, by repeat (first | exact Drawn0.refl _ | apply Drawn0.step)⟩
                  · rw [if_neg c24] at H
                    have c24b0 : (x5_1 == (a0.size : Int)) = false := beq_eq_false_iff_ne.mpr c24
                    have c24b1 : (x5_1 != (a0.size : Int)) = true := bne_iff_ne.mpr c24
                    obtain ⟨ji25, hji25⟩ : ∃ j_ : Int, (wrap64 (x5_1 - 1)) = j_ := ⟨_, rfl⟩
                    replace H : (if 0 ≤ (ji25) then (if (ji25) < (a0.size : Int) then (if (bt a0 (ji25)) = 118 then (if 0 ≤ (wrap64 (x5_1 - 2)) then (if (wrap64 (x5_1 - 2)) < (a0.size : Int) then (module_SplitPathVersion.j2 kj4 a0 x5_1 x6_1 ((bt a0 (wrap64 (x5_1 - 2))) != 47)) else (none)) else (none)) else (module_SplitPathVersion.j2 kj4 a0 x5_1 x6_1 true)) else (none)) else (none)) = some (r1, r2, r3) := by first | (rw [hji25] at H; exact H) | (simp only [hji25] at H ⊢; exact H)
                    have hji25w : (IntKind.i64.wrap (x5_1 - 1)) = ji25 := (i64_w _).trans hji25
                    by_cases c26 : 0 ≤ (ji25)
                    · rw [if_pos c26] at H
                      have c26b0 : decide (0 ≤ (ji25)) = true := decide_eq_true c26
                      clear c26
                      by_cases c27 : (ji25) < (a0.size : Int)
                      · rw [if_pos c27] at H
                        have c27b0 : decide ((ji25) < (a0.size : Int)) = true := decide_eq_true c27
                        clear c27
                        by_cases c29 : (bt a0 (ji25)) = 118
                        · rw [if_pos c29] at H
                          have c29b0 : ((bt a0 (ji25)) == 118) = true := beq_iff_eq.mpr c29
                          have c29b1 : ((bt a0 (ji25)) != 118) = false := bne_eq_false_iff_eq.mpr c29
                          clear c29
                          obtain ⟨ji30, hji30⟩ : ∃ j_ : Int, (wrap64 (x5_1 - 2)) = j_ := ⟨_, rfl⟩
                          replace H : (if 0 ≤ (ji30) then (if (ji30) < (a0.size : Int) then (module_SplitPathVersion.j2 kj4 a0 x5_1 x6_1 ((bt a0 (ji30)) != 47)) else (none)) else (none)) = some (r1, r2, r3) := by first | (rw [hji30] at H; exact H) | (simp only [hji30] at H ⊢; exact H)
                          have hji30w : (IntKind.i64.wrap (x5_1 - 2)) = ji30 := (i64_w _).trans hji30
                          by_cases c31 : 0 ≤ (ji30)
                          · rw [if_pos c31] at H
                            have c31b0 : decide (0 ≤ (ji30)) = true := decide_eq_true c31
                            clear c31
                            by_cases c32 : (ji30) < (a0.size : Int)
                            · rw [if_pos c32] at H
                              have c32b0 : decide ((ji30) < (a0.size : Int)) = true := decide_eq_true c32
                              clear c32
                              have H' := Aside0.mk H
                              clear H
                              have p28 : 0 ≤ ((ji25) : Int) := of_decide_eq_true (by first | (with_reducible assumption) | assumption)
                              have q28 : (ji25) < (a0.size : Int) := of_decide_eq_true (by first | (with_reducible assumption) | assumption)
                              have hx28 := bt_at a0 (ji25)
                              replace p28 := eq_true p28
                              replace q28 := eq_true q28
                              have p33 : 0 ≤ ((ji30) : Int) := of_decide_eq_true (by first | (with_reducible assumption) | assumption)
                              have q33 : (ji30) < (a0.size : Int) := of_decide_eq_true (by first | (with_reducible assumption) | assumption)
                              have hx33 := bt_at a0 (ji30)
                              replace p33 := eq_true p33
                              replace q33 := eq_true q33
                              go_wp2
                              repeat (go_quiet (fail); try go_wp2)
                              go_meet
                              case rel => exact ⟨_, (((bt a0 (ji30)) != 47)), (by first | rfl | (simp; done) | (simp only [← hji30] <;> (first | rfl | simp)) | (simp [*]; done)), H', ⟨by have := HK1.out; have := HJ4.out; first | omega | exact Nat.le_refl _⟩, by repeat (first | exact Drawn0.refl _ | apply Drawn0.step)⟩
                            · rw [if_neg c32] at H
                              exact absurd H (by simp)
                          · rw [if_neg c31] at H
                            exact absurd H (by simp)
                        · rw [if_neg c29] at H
                          have c29b0 : ((bt a0 (ji25)) == 118) = false := beq_eq_false_iff_ne.mpr c29
                          have c29b1 : ((bt a0 (ji25)) != 118) = true := bne_iff_ne.mpr c29
                          have H' := Aside0.mk H
                          clear H
                          have p28 : 0 ≤ ((ji25) : Int) := of_decide_eq_true (by first | (with_reducible assumption) | assumption)
                          have q28 : (ji25) < (a0.size : Int) := of_decide_eq_true (by first | (with_reducible assumption) | assumption)
                          have hx28 := bt_at a0 (ji25)
                          replace p28 := eq_true p28
                          replace q28 := eq_true q28
                          go_wp2
                          repeat (go_quiet (fail); try go_wp2)
                          go_meet
                          case rel => exact ⟨_, (true), (by first | rfl | (simp; done) | (simp [*]; done)), H', ⟨by have := HK1.out; have := HJ4.out; first | omega | exact Nat.le_refl _⟩, by repeat (first | exact Drawn0.refl _ | apply Drawn0.step)⟩
                      · rw [if_neg c27] at H
                        exact absurd H (by simp)
                    · rw [if_neg c26] at H
                      exact absurd H (by simp)
              case rest =>
                clear HC22
                try clear c1
                try clear p1
                try clear q1
                try clear hx1
                try clear c2
                try clear p2
                try clear q2
                try clear hx2
                try clear c3
                try clear p3
                try clear q3
                try clear hx3
                try clear c4
                try clear c6
                try clear c6b0
                try clear p6
                try clear c8
                try clear c8b0
                try clear c9
                try clear c9b0
                try clear p10
                try clear q10
                try clear hx10
                try clear c11
                try clear c11b0
                try clear p12
                try clear q12
                try clear hx12
                try clear c13
                try clear c13b0
                try clear p14
                try clear q14
                try clear hx14
                try clear p15
                try clear q15
                try clear hx15
                try clear c16
                try clear c18
                try clear c18b0
                try clear c19
                try clear c19b0
                try clear p20
                try clear q20
                try clear hx20
                try clear c21
                try clear c21b0
                try clear c21b1
                try clear c23
                try clear c23b0
                try clear c24
                try clear c24b0
                try clear c24b1
                try clear c26
                try clear c26b0
                try clear c27
                try clear c27b0
                try clear p28
                try clear q28
                try clear hx28
                try clear c29
                try clear c29b0
                try clear c29b1
                try clear c31
                try clear c31b0
                try clear c32
                try clear c32b0
                try clear p33
                try clear q33
                try clear hx33
                try clear p1
                try clear p10
                try clear p12
                try clear p14
                try clear p15
                try clear p2
                try clear p20
                try clear p28
                try clear p33
                try clear p6
                try clear q1
                try clear q10
                try clear q12
                try clear q14
                try clear q15
                try clear q20
                try clear q28
                try clear q33
                obtain ⟨kq, x67_21, rfl, HA, HJ21, ⟨mc21, rfl⟩⟩ := hcut
                cases kq with
                | zero => exact absurd HA.out (by simp [module_SplitPathVersion.j2])
                | succ kj21 =>
                  have H := HA.out
                  clear HA
                  simp only [module_SplitPathVersion.j2] at H
                  by_cases c34 : x67_21 = true
                  · subst c34
                    have H1 : (some (a0, (⟨#[]⟩ : ByteArray), true)) = some (r1, r2, r3) := by rw [if_pos rfl] at H; exact H
                    clear H
                    have H := H1
                    clear H1
                    simp only [Option.some.injEq, Prod.mk.injEq] at H
                    obtain ⟨rfl, rfl, rfl⟩ := H
                    go_wp2
                    repeat (go_quiet (fail); try go_wp2)
                    go_ret3
                    exact ⟨by first | rfl | (simp; done) | (simp [*]; done), by repeat (first | exact Drawn0.refl _ | apply Drawn0.step)⟩
                  · replace c34 := Bool.eq_false_iff.mpr c34
                    subst c34
                    have H1 : (if 0 ≤ (wrap64 (x5_1 - 2)) then (if (wrap64 (x5_1 - 2)) ≤ (a0.size : Int) then (if x6_1 = true then (some (a0, (⟨#[]⟩ : ByteArray), false)) else (if ((a0.extract ((wrap64 (x5_1 - 2)) : Int).toNat a0.size).size : Int) ≤ 2 then (some (a0, (⟨#[]⟩ : ByteArray), false)) else (if 2 < ((a0.extract ((wrap64 (x5_1 - 2)) : Int).toNat a0.size).size : Int) then (if (bt (a0.extract ((wrap64 (x5_1 - 2)) : Int).toNat a0.size) 2) = 48 then (some (a0, (⟨#[]⟩ : ByteArray), false)) else (if (a0.extract ((wrap64 (x5_1 - 2)) : Int).toNat a0.size).toList = ([47, 118, 49] : List UInt8) then (some (a0, (⟨#[]⟩ : ByteArray), false)) else (some (a0.extract 0 ((wrap64 (x5_1 - 2)) : Int).toNat, a0.extract ((wrap64 (x5_1 - 2)) : Int).toNat a0.size, true)))) else (none)))) else (none)) else (none)) = some (r1, r2, r3) := by rw [if_neg (show ¬ (false = true) by decide)] at H; exact H
                    clear H
                    have H := H1
                    clear H1
                    obtain ⟨ji35, hji35⟩ : ∃ j_ : Int, (wrap64 (x5_1 - 2)) = j_ := ⟨_, rfl⟩
                    replace H : (if 0 ≤ (ji35) then (if (ji35) ≤ (a0.size : Int) then (if x6_1 = true then (some (a0, (⟨#[]⟩ : ByteArray), false)) else (if ((a0.extract ((ji35) : Int).toNat a0.size).size : Int) ≤ 2 then (some (a0, (⟨#[]⟩ : ByteArray), false)) else (if 2 < ((a0.extract ((ji35) : Int).toNat a0.size).size : Int) then (if (bt (a0.extract ((ji35) : Int).toNat a0.size) 2) = 48 then (some (a0, (⟨#[]⟩ : ByteArray), false)) else (if (a0.extract ((ji35) : Int).toNat a0.size).toList = ([47, 118, 49] : List UInt8) then (some (a0, (⟨#[]⟩ : ByteArray), false)) else (some (a0.extract 0 ((ji35) : Int).toNat, a0.extract ((ji35) : Int).toNat a0.size, true)))) else (none)))) else (none)) else (none)) = some (r1, r2, r3) := by first | (rw [hji35] at H; exact H) | (simp only [hji35] at H ⊢; exact H)
                    have hji35w : (IntKind.i64.wrap (x5_1 - 2)) = ji35 := (i64_w _).trans hji35
                    by_cases c36 : 0 ≤ (ji35)
                    · rw [if_pos c36] at H
                      have c36b0 := eq_true c36
                      have c36b1 : decide (0 ≤ (ji35)) = true := decide_eq_true c36
                      clear c36
                      by_cases c37 : (ji35) ≤ (a0.size : Int)
                      · rw [if_pos c37] at H
                        have c37b0 := eq_true c37
                        have c37b1 : decide ((ji35) ≤ (a0.size : Int)) = true := decide_eq_true c37
                        clear c37
                        have c38b0 := eq_true (of_decide_eq_true (by first | (with_reducible assumption) | assumption) : 0 ≤ (ji35))
                        have c39b0 := eq_true (of_decide_eq_true (by first | (with_reducible assumption) | assumption) : (ji35) ≤ (a0.size : Int))
                        by_cases c40 : x6_1 = true
                        · subst c40
                          have H1 : (some (a0, (⟨#[]⟩ : ByteArray), false)) = some (r1, r2, r3) := by rw [if_pos rfl] at H; exact H
                          clear H
                          have H := H1
                          clear H1
                          simp only [Option.some.injEq, Prod.mk.injEq] at H
                          obtain ⟨rfl, rfl, rfl⟩ := H
                          go_wp2
                          repeat (go_quiet (fail); try go_wp2)
                          go_ret3
                          exact ⟨by first | rfl | (simp; done) | (simp only [← hji35] <;> (first | rfl | simp)) | (simp [*]; done), by repeat (first | exact Drawn0.refl _ | apply Drawn0.step)⟩
                        · replace c40 := Bool.eq_false_iff.mpr c40
                          subst c40
                          have H1 : (if ((a0.extract ((ji35) : Int).toNat a0.size).size : Int) ≤ 2 then (some (a0, (⟨#[]⟩ : ByteArray), false)) else (if 2 < ((a0.extract ((ji35) : Int).toNat a0.size).size : Int) then (if (bt (a0.extract ((ji35) : Int).toNat a0.size) 2) = 48 then (some (a0, (⟨#[]⟩ : ByteArray), false)) else (if (a0.extract ((ji35) : Int).toNat a0.size).toList = ([47, 118, 49] : List UInt8) then (some (a0, (⟨#[]⟩ : ByteArray), false)) else (some (a0.extract 0 ((ji35) : Int).toNat, a0.extract ((ji35) : Int).toNat a0.size, true)))) else (none))) = some (r1, r2, r3) := by rw [if_neg (show ¬ (false = true) by decide)] at H; exact H
                          clear H
                          have H := H1
                          clear H1
                          by_cases c41 : ((a0.extract ((ji35) : Int).toNat a0.size).size : Int) ≤ 2
                          · rw [if_pos c41] at H
                            have c41b0 : decide (((a0.extract ((ji35) : Int).toNat a0.size).size : Int) ≤ 2) = true := decide_eq_true c41
                            have c41b1 : decide ((a0.extract ((ji35) : Int).toNat a0.size).size ≤ 2) = true := decide_eq_true (by omega)
                            have c41b2 : decide (((a0.size - ((ji35) : Int).toNat : Nat) : Int) ≤ 2) = true := by have e_ : (a0.extract ((ji35) : Int).toNat a0.size).size = a0.size - ((ji35) : Int).toNat := (by simp [ByteArray.size_extract]); (have c_ := c41; rw [e_] at c_; exact decide_eq_true c_)
                            clear c41
                            simp only [Option.some.injEq, Prod.mk.injEq] at H
                            obtain ⟨rfl, rfl, rfl⟩ := H
                            go_wp2
                            repeat (go_quiet (fail); try go_wp2)
                            go_ret3
                            exact ⟨by first | rfl | (simp; done) | (simp only [← hji35] <;> (first | rfl | simp)) | (simp [*]; done), by repeat (first | exact Drawn0.refl _ | apply Drawn0.step)⟩
                          · rw [if_neg c41] at H
                            have c41b0 : decide (((a0.extract ((ji35) : Int).toNat a0.size).size : Int) ≤ 2) = false := decide_eq_false c41
                            have c41b1 : decide ((a0.extract ((ji35) : Int).toNat a0.size).size ≤ 2) = false := decide_eq_false (by omega)
                            have c41b2 : decide (((a0.size - ((ji35) : Int).toNat : Nat) : Int) ≤ 2) = false := by have e_ : (a0.extract ((ji35) : Int).toNat a0.size).size = a0.size - ((ji35) : Int).toNat := (by simp [ByteArray.size_extract]); (have c_ := c41; rw [e_] at c_; exact decide_eq_false c_)
                            have c41b3 : 2 < ((a0.size - ((ji35) : Int).toNat : Nat) : Int) := by have e_ : (a0.extract ((ji35) : Int).toNat a0.size).size = a0.size - ((ji35) : Int).toNat := (by simp [ByteArray.size_extract]); (have c_ := c41; rw [e_] at c_; exact Int.not_le.1 c_)
                            clear c41
                            by_cases c42 : 2 < ((a0.extract ((ji35) : Int).toNat a0.size).size : Int)
                            · rw [if_pos c42] at H
                              have c42b0 : decide (2 < ((a0.extract ((ji35) : Int).toNat a0.size).size : Int)) = true := decide_eq_true c42
                              have c42b1 : decide (2 < (a0.extract ((ji35) : Int).toNat a0.size).size) = true := decide_eq_true (by omega)
                              have c42b2 : decide (2 < ((a0.size - ((ji35) : Int).toNat : Nat) : Int)) = true := by have e_ : (a0.extract ((ji35) : Int).toNat a0.size).size = a0.size - ((ji35) : Int).toNat := (by simp [ByteArray.size_extract]); (have c_ := c42; rw [e_] at c_; exact decide_eq_true c_)
                              clear c42
                              by_cases c44 : (bt (a0.extract ((ji35) : Int).toNat a0.size) 2) = 48
                              · rw [if_pos c44] at H
                                have c44b0 : ((bt (a0.extract ((ji35) : Int).toNat a0.size) 2) == 48) = true := beq_iff_eq.mpr c44
                                have c44b1 : ((bt (a0.extract ((ji35) : Int).toNat a0.size) 2) != 48) = false := bne_eq_false_iff_eq.mpr c44
                                clear c44
                                simp only [Option.some.injEq, Prod.mk.injEq] at H
                                obtain ⟨rfl, rfl, rfl⟩ := H
                                have p43 : 0 ≤ (2 : Int) := (by omega)
                                have q43 : 2 < (a0.extract ((ji35) : Int).toNat a0.size).size := (by have : (2 : Int) < ((a0.extract ((ji35) : Int).toNat a0.size).size : Int) := of_decide_eq_true (by first | (with_reducible assumption) | assumption); omega)
                                have hx43 : ∀ h : 2 < (a0.extract ((ji35) : Int).toNat a0.size).size, (((a0.extract ((ji35) : Int).toNat a0.size)[2]'h).toNat : Int) = bt (a0.extract ((ji35) : Int).toNat a0.size) 2 := bt_at (a0.extract ((ji35) : Int).toNat a0.size) 2
                                clear p43
                                have qi43 : (2 < ((a0.extract ((ji35) : Int).toNat a0.size).size : Int)) = True := eq_true (of_decide_eq_true (by first | (with_reducible assumption) | assumption))
                                replace q43 := eq_true q43
                                go_wp2
                                repeat (go_quiet (fail); try go_wp2)
                                go_ret3
                                exact ⟨by first | rfl | (simp; done) | (simp only [← hji35] <;> (first | rfl | simp)) | (simp [*]; done), by repeat (first | exact Drawn0.refl _ | apply Drawn0.step)⟩
                              · rw [if_neg c44] at H
                                have c44b0 : ((bt (a0.extract ((ji35) : Int).toNat a0.size) 2) == 48) = false := beq_eq_false_iff_ne.mpr c44
                                have c44b1 : ((bt (a0.extract ((ji35) : Int).toNat a0.size) 2) != 48) = true := bne_iff_ne.mpr c44
                                by_cases c45 : (a0.extract ((ji35) : Int).toNat a0.size).toList = ([47, 118, 49] : List UInt8)
                                · rw [if_pos c45] at H
                                  have c45b0 : ((a0.extract ((ji35) : Int).toNat a0.size).toList == ([47, 118, 49] : List UInt8)) = true := beq_iff_eq.mpr c45
                                  have c45b1 : ((a0.extract ((ji35) : Int).toNat a0.size).toList != ([47, 118, 49] : List UInt8)) = false := bne_eq_false_iff_eq.mpr c45
                                  clear c45
                                  simp only [Option.some.injEq, Prod.mk.injEq] at H
                                  obtain ⟨rfl, rfl, rfl⟩ := H
                                  have p43 : 0 ≤ (2 : Int) := (by omega)
                                  have q43 : 2 < (a0.extract ((ji35) : Int).toNat a0.size).size := (by have : (2 : Int) < ((a0.extract ((ji35) : Int).toNat a0.size).size : Int) := of_decide_eq_true (by first | (with_reducible assumption) | assumption); omega)
                                  have hx43 : ∀ h : 2 < (a0.extract ((ji35) : Int).toNat a0.size).size, (((a0.extract ((ji35) : Int).toNat a0.size)[2]'h).toNat : Int) = bt (a0.extract ((ji35) : Int).toNat a0.size) 2 := bt_at (a0.extract ((ji35) : Int).toNat a0.size) 2
                                  clear p43
                                  have qi43 : (2 < ((a0.extract ((ji35) : Int).toNat a0.size).size : Int)) = True := eq_true (of_decide_eq_true (by first | (with_reducible assumption) | assumption))
                                  replace q43 := eq_true q43
                                  go_wp2
                                  repeat (go_quiet (fail); try go_wp2)
                                  go_ret3
                                  exact ⟨by first | rfl | (simp; done) | (simp only [← hji35] <;> (first | rfl | simp)) | (simp [*]; done), by repeat (first | exact Drawn0.refl _ | apply Drawn0.step)⟩
                                · rw [if_neg c45] at H
                                  have c45b0 : ((a0.extract ((ji35) : Int).toNat a0.size).toList == ([47, 118, 49] : List UInt8)) = false := beq_eq_false_iff_ne.mpr c45
                                  have c45b1 : ((a0.extract ((ji35) : Int).toNat a0.size).toList != ([47, 118, 49] : List UInt8)) = true := bne_iff_ne.mpr c45
                                  simp only [Option.some.injEq, Prod.mk.injEq] at H
                                  obtain ⟨rfl, rfl, rfl⟩ := H
                                  have p43 : 0 ≤ (2 : Int) := (by omega)
                                  have q43 : 2 < (a0.extract ((ji35) : Int).toNat a0.size).size := (by have : (2 : Int) < ((a0.extract ((ji35) : Int).toNat a0.size).size : Int) := of_decide_eq_true (by first | (with_reducible assumption) | assumption); omega)
                                  have hx43 : ∀ h : 2 < (a0.extract ((ji35) : Int).toNat a0.size).size, (((a0.extract ((ji35) : Int).toNat a0.size)[2]'h).toNat : Int) = bt (a0.extract ((ji35) : Int).toNat a0.size) 2 := bt_at (a0.extract ((ji35) : Int).toNat a0.size) 2
                                  clear p43
                                  have qi43 : (2 < ((a0.extract ((ji35) : Int).toNat a0.size).size : Int)) = True := eq_true (of_decide_eq_true (by first | (with_reducible assumption) | assumption))
                                  replace q43 := eq_true q43
                                  go_wp2
                                  repeat (go_quiet (fail); try go_wp2)
                                  go_ret3
                                  exact ⟨by first | rfl | (simp; done) | (simp only [← hji35] <;> (first | rfl | simp)) | (simp [*]; done), by repeat (first | exact Drawn0.refl _ | apply Drawn0.step)⟩
                            · rw [if_neg c42] at H
                              exact absurd H (by simp)
                      · rw [if_neg c37] at H
                        exact absurd H (by simp)
                    · rw [if_neg c36] at H
                      exact absurd H (by simp)

/-! ### module_zzIndex: function 63 -/
def module_zzIndex.l0 : Nat → ByteArray → ByteArray → Int → Option (Int)
  | 0, _, _, _ => none
  | k + 1, x0, x1, x5 => if (wrap64 (x5 + (x1.size : Int))) ≤ (x0.size : Int) then (if 0 ≤ x5 then (if x5 ≤ (wrap64 (x5 + (x1.size : Int))) then (if (x0.extract (x5 : Int).toNat ((wrap64 (x5 + (x1.size : Int))) : Int).toNat).toList = x1.toList then (some x5) else (module_zzIndex.l0 k x0 x1 (wrap64 (x5 + 1)))) else (none)) else (none)) else (some (-1))
def module_zzIndex.f (k : Nat) (a0 : ByteArray) (a1 : ByteArray) : Option (Int) := module_zzIndex.l0 k a0 a1 0
set_option maxHeartbeats 8000000 in
set_option maxRecDepth 100000 in
theorem module_zzIndex.calls (k : Nat) (a0 : ByteArray) (a1 : ByteArray) (r : Int) (w : World) (h : module_zzIndex.f k a0 a1 = some r) :
    Calls Tryf.prog 63 #[.string a0, .string a1] w fun e w' => e = .returned (.int .i64 r) ∧ Drawn0 w w' := by
  have H : (module_zzIndex.l0 k a0 a1 0) = some r := h
  clear h
  have H' := Aside0.mk H
  clear H
  go_enter Tryf.func63, Tryf.ntmps63
  go_wp2
  go_loopg [5] k (fun kq v5 w' => ∃ (x5_1 : Int), v5 = .int .i64 x5_1 ∧ Aside0 (module_zzIndex.l0 kq a0 a1 x5_1 = some r) ∧ Aside0 (kq ≤ k) ∧ Drawn0 w w')
  case atStart => exact ⟨(0), (by first | rfl | (simp; done) | (simp [*]; done)), H', ⟨Nat.le_refl _⟩, by repeat (first | exact Drawn0.refl _ | apply Drawn0.step)⟩
  case round =>
    clear H'
    try clear p2
    obtain ⟨x5_1, rfl, HA, HK1, ⟨m1, rfl⟩⟩ := hrel
    cases gk with
    | zero => exact absurd HA.out (by simp [module_zzIndex.l0])
    | succ k1 =>
      have H := HA.out
      clear HA
      simp only [module_zzIndex.l0] at H
      by_cases c3 : (wrap64 (x5_1 + (a1.size : Int))) ≤ (a0.size : Int)
      · rw [if_pos c3] at H
        have c3b0 : decide ((wrap64 (x5_1 + (a1.size : Int))) ≤ (a0.size : Int)) = true := decide_eq_true c3
        clear c3
        by_cases c4 : 0 ≤ x5_1
        · rw [if_pos c4] at H
          have c4b0 := eq_true c4
          have c4b1 : decide (0 ≤ x5_1) = true := decide_eq_true c4
          clear c4
          by_cases c5 : x5_1 ≤ (wrap64 (x5_1 + (a1.size : Int)))
          · rw [if_pos c5] at H
            have c5b0 := eq_true c5
            have c5b1 : decide (x5_1 ≤ (wrap64 (x5_1 + (a1.size : Int)))) = true := decide_eq_true c5
            have c6b0 := eq_true (of_decide_eq_true (by first | (with_reducible assumption) | assumption) : (wrap64 (x5_1 + (a1.size : Int))) ≤ (a0.size : Int))
            by_cases c7 : (a0.extract (x5_1 : Int).toNat ((wrap64 (x5_1 + (a1.size : Int))) : Int).toNat).toList = a1.toList
            · rw [if_pos c7] at H
              have c7b0 : ((a0.extract (x5_1 : Int).toNat ((wrap64 (x5_1 + (a1.size : Int))) : Int).toNat).toList == a1.toList) = true := beq_iff_eq.mpr c7
              have c7b1 : ((a0.extract (x5_1 : Int).toNat ((wrap64 (x5_1 + (a1.size : Int))) : Int).toNat).toList != a1.toList) = false := bne_eq_false_iff_eq.mpr c7
              clear c7
              obtain rfl := Option.some.inj H
              go_wp2
              go_ret
              exact ⟨by first | rfl | (simp; done) | (simp [*]; done), by repeat (first | exact Drawn0.refl _ | apply Drawn0.step)⟩
            · rw [if_neg c7] at H
              have c7b0 : ((a0.extract (x5_1 : Int).toNat ((wrap64 (x5_1 + (a1.size : Int))) : Int).toNat).toList == a1.toList) = false := beq_eq_false_iff_ne.mpr c7
              have c7b1 : ((a0.extract (x5_1 : Int).toNat ((wrap64 (x5_1 + (a1.size : Int))) : Int).toNat).toList != a1.toList) = true := bne_iff_ne.mpr c7
              have H' := Aside0.mk H
              clear H
              go_wp2
              go_roundg k1
              case measure => have := HK1.out; omega
              case rel => exact ⟨(wrap64 (x5_1 + 1)), (by first | rfl | (simp; done) | (simp [*]; done)), H', ⟨by have := HK1.out; omega⟩, by repeat (first | exact Drawn0.refl _ | apply Drawn0.step)⟩
          · rw [if_neg c5] at H
            exact absurd H (by simp)
        · rw [if_neg c4] at H
          exact absurd H (by simp)
      · rw [if_neg c3] at H
        have c3b0 : decide ((wrap64 (x5_1 + (a1.size : Int))) ≤ (a0.size : Int)) = false := decide_eq_false c3
        clear c3
        obtain rfl := Option.some.inj H
        go_wp2
        go_ret
        exact ⟨by first | rfl | (simp; done) | (simp [*]; done), by repeat (first | exact Drawn0.refl _ | apply Drawn0.step)⟩

/-! ### module_zzContains: function 54 -/
def module_zzContains.f (k : Nat) (a0 : ByteArray) (a1 : ByteArray) : Option (Bool) := (module_zzIndex.f k a0 a1).bind fun t166 => (some (decide (t166 ≥ 0)))
set_option maxHeartbeats 8000000 in
set_option maxRecDepth 100000 in
theorem module_zzContains.calls (k : Nat) (a0 : ByteArray) (a1 : ByteArray) (r : Bool) (w : World) (h : module_zzContains.f k a0 a1 = some r) :
    Calls Tryf.prog 54 #[.string a0, .string a1] w fun e w' => e = .returned (.bool r) ∧ Drawn0 w w' := by
  have H : ((module_zzIndex.f k a0 a1).bind fun t166 => (some (decide (t166 ≥ 0)))) = some r := h
  clear h
  replace H := Option.bind_eq_some_iff.mp H
  obtain ⟨t166, A30, H⟩ := H
  replace H : (some (decide (t166 ≥ 0))) = some r := H
  have A3 := Aside0.mk A30
  clear A30
  obtain rfl := Option.some.inj H
  go_enter Tryf.func54, Tryf.ntmps54
  go_wp2_with (first | ((with_reducible refine gate_callee (f := 63) rfl ?_); refine goesL_ (some 7) rfl rfl Tryf.func63 (by kernel_rfl) rfl #[.string a0, .string a1] rfl (by (try simp only [List.map_toArray, List.map_cons, List.map_nil]); first | done | rfl | (simp only [List.length_drop, List.length_take]; rfl)) ?_; (with_reducible refine (module_zzIndex.calls k a0 a1 t166 _ A3.out).mono ?_); rintro e w' ⟨rfl, ⟨nd, rfl⟩⟩; refine ⟨_, rfl, ?_⟩))
  go_ret
  exact ⟨by first | rfl | (simp; done) | (simp [*]; done), by repeat (first | exact Drawn0.refl _ | apply Drawn0.step)⟩

end Go.Proofs.YtpbebckhemnooaaFmt.PS
