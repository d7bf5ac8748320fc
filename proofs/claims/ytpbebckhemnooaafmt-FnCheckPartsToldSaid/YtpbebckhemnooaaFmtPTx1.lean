-- Written by a program (myprint.sh: the kit's print, turned to take contracts of mine): one Lean function and its contract for each Go function.
import Derived.Test.YtpbebckhemnooaaFmtPTx0
namespace Go.Proofs.YtpbebckhemnooaaFmt.PT
open Go.Proofs.YtpbebckhemnooaaFmt.PS
open Go.RowKit Go.Proofs.YtpbebckhemnooaaFmtW.PrintWords Go.Proofs.YtpbebckhemnooaaFmtW.PrintLast Go.Proofs.YtpbebckhemnooaaFmtW.PrintMore
attribute [local go_sem] max2_int min2_int max_two min_two max_three min_three max_four min_four   -- for this text's walks alone
set_option linter.unusedVariables false
set_option linter.unusedSimpArgs false

/-! ### spec_element: function 38 -/
mutual
def spec_element.j0 : Nat → ByteArray → Bool → ByteArray → Option (Int)
  | 0, _, _, _ => none
  | k + 1, x0, x1, x5 => if x0.toList = ([] : List UInt8) then (spec_element.j1 k x0 x1 true) else (if 0 ≤ (wrap64 ((x0.size : Int) - 1)) then (if (wrap64 ((x0.size : Int) - 1)) < (x0.size : Int) then (if (bt x0 (wrap64 ((x0.size : Int) - 1))) = 46 then (spec_element.j1 k x0 x1 true) else ((spec_All.f k x0 true true x5).bind fun t101 => (if t101 = true then (spec_element.j1 k x0 x1 false) else ((spec_Ascii.f k x0).bind fun t102 => (spec_element.j1 k x0 x1 t102))))) else (none)) else (none))
def spec_element.j1 : Nat → ByteArray → Bool → Bool → Option (Int)
  | 0, _, _, _ => none
  | k + 1, x0, x1, x28 => if x28 = true then (some 2) else ((spec_reserved.f k x0).bind fun t103 => (if x1 = true then (spec_element.j2 k x0 x1 t103 false) else ((spec_In.f k x0 46).bind fun t104 => (if t104 = true then ((spec_numbered.f k x0).bind fun t105 => (spec_element.j2 k x0 x1 t103 t105)) else (spec_element.j2 k x0 x1 t103 false)))))
def spec_element.j2 : Nat → ByteArray → Bool → Int → Bool → Option (Int)
  | 0, _, _, _, _ => none
  | k + 1, x0, x1, x6, x40 => if x40 = true then ((spec_join.f k x6 0).bind fun t106 => (some t106)) else ((spec_short.f k x0).bind fun t107 => (if t107 = true then (if x1 = true then ((spec_join.f k x6 0).bind fun t108 => (some t108)) else (some 2)) else ((spec_Ascii.f k x0).bind fun t109 => (if t109 = true then (spec_element.j3 k x0 x6 false) else (spec_element.j3 k x0 x6 (!x1))))))
def spec_element.j3 : Nat → ByteArray → Int → Bool → Option (Int)
  | 0, _, _, _ => none
  | k + 1, x0, x6, x54 => if x54 = true then (some 2) else (spec_element.l0 k x0 x6 1)
def spec_element.l0 : Nat → ByteArray → Int → Int → Option (Int)
  | 0, _, _, _ => none
  | k + 1, x0, x6, x7 => if x7 < (x0.size : Int) then (if 0 ≤ x7 then (if (bt x0 x7) = 46 then (if 0 ≤ (wrap64 (x7 - 1)) then (if (wrap64 (x7 - 1)) < (x0.size : Int) then (if (bt x0 (wrap64 (x7 - 1))) = 46 then ((spec_join.f k x6 0).bind fun t110 => (some t110)) else (spec_element.l0 k x0 x6 (wrap64 (x7 + 1)))) else (none)) else (none)) else (spec_element.l0 k x0 x6 (wrap64 (x7 + 1)))) else (none)) else ((spec_Ascii.f k x0).bind fun t111 => (if t111 = true then (if 0 ≤ (wrap64 ((x0.size : Int) - 1)) then (if (wrap64 ((x0.size : Int) - 1)) < (x0.size : Int) then (if (bt x0 (wrap64 ((x0.size : Int) - 1))) = 32 then ((spec_join.f k x6 0).bind fun t112 => (some t112)) else (if 0 < (x0.size : Int) then (if (bt x0 0) = 32 then ((spec_join.f k x6 0).bind fun t113 => (some t113)) else (some x6)) else (none))) else (none)) else (none)) else ((spec_join.f k x6 0).bind fun t114 => (some t114))))
end
def spec_element.f (k : Nat) (a0 : ByteArray) (a1 : Bool) : Option (Int) := if a1 = true then (spec_element.j0 k a0 a1 (⟨#[32, 33, 35, 36, 37, 38, 40, 41, 43, 44, 45, 46, 61, 64, 91, 93, 94, 95, 123, 125, 126]⟩ : ByteArray)) else (spec_element.j0 k a0 a1 (⟨#[45, 46, 95, 126]⟩ : ByteArray))
set_option maxHeartbeats 8000000 in
set_option maxRecDepth 100000 in
theorem spec_element.calls (k : Nat) (a0 : ByteArray) (a1 : Bool) (r : Int) (w : World) (h : spec_element.f k a0 a1 = some r) :
    Calls Tryf.prog 38 #[.string a0, .bool a1] w fun e w' => e = .returned (.int .i64 r) ∧ Below w.heap.size w w' := by
  have HB := Aside0.mk (Below.refl w.heap.size w)
  have H : (if a1 = true then (spec_element.j0 k a0 a1 (⟨#[32, 33, 35, 36, 37, 38, 40, 41, 43, 44, 45, 46, 61, 64, 91, 93, 94, 95, 123, 125, 126]⟩ : ByteArray)) else (spec_element.j0 k a0 a1 (⟨#[45, 46, 95, 126]⟩ : ByteArray))) = some r := h
  clear h
  have HC3 := Aside0.mk H
  clear H
  go_enter Tryf.func38, Tryf.ntmps38
  go_upto_if 8 with (fail)
  go_cut [5] (fun v5 wc => ∃ (kq : Nat) (x5_2 : ByteArray), v5 = .string x5_2 ∧ Aside0 (spec_element.j0 kq a0 a1 x5_2 = some r) ∧ Aside0 (kq ≤ k) ∧ Aside0 (Below w.heap.size w wc))
  case first =>
    have H := HC3.out
    clear HC3
    by_cases c4 : a1 = true
    · subst c4
      have H1 : (spec_element.j0 k a0 true (⟨#[32, 33, 35, 36, 37, 38, 40, 41, 43, 44, 45, 46, 61, 64, 91, 93, 94, 95, 123, 125, 126]⟩ : ByteArray)) = some r := by rw [if_pos rfl] at H; exact H
      clear H
      have H := H1
      clear H1
      have H' := Aside0.mk H
      clear H
      go_wp2
      go_meet
      case rel => exact ⟨_, ((⟨#[32, 33, 35, 36, 37, 38, 40, 41, 43, 44, 45, 46, 61, 64, 91, 93, 94, 95, 123, 125, 126]⟩ : ByteArray)), (by first | rfl | (simp; done) | (simp [*]; done)), H', ⟨by first | omega | exact Nat.le_refl _⟩, ⟨by repeat (first | (with_reducible first | exact HB.out | apply below_alloc | apply pw_below_drewN | apply below_drew1) | exact HB.out)⟩⟩
    · replace c4 := Bool.eq_false_iff.mpr c4
      subst c4
      have H1 : (spec_element.j0 k a0 false (⟨#[45, 46, 95, 126]⟩ : ByteArray)) = some r := by rw [if_neg (show ¬ (false = true) by decide)] at H; exact H
      clear H
      have H := H1
      clear H1
      have H' := Aside0.mk H
      clear H
      go_wp2
      go_meet
      case rel => exact ⟨_, ((⟨#[45, 46, 95, 126]⟩ : ByteArray)), (by first | rfl | (simp; done) | (simp [*]; done)), H', ⟨by first | omega | exact Nat.le_refl _⟩, ⟨by repeat (first | (with_reducible first | exact HB.out | apply below_alloc | apply pw_below_drewN | apply below_drew1) | exact HB.out)⟩⟩
  case rest =>
    clear HC3
    try clear p2
    try clear c3
    try clear c4
    obtain ⟨kq, x5_2, rfl, HA, HJ2, HB⟩ := hcut
    cases kq with
    | zero => exact absurd HA.out (by simp [spec_element.j0])
    | succ kj2 =>
      have H := HA.out
      clear HA
      simp only [spec_element.j0] at H
      have HC5 := Aside0.mk H
      clear H
      go_upto_region 4 with (fail)
      go_cut [28] (fun v28 wc => ∃ (kq : Nat) (x28_4 : Bool), v28 = .bool x28_4 ∧ Aside0 (spec_element.j1 kq a0 a1 x28_4 = some r) ∧ Aside0 (kq ≤ kj2) ∧ Aside0 (Below w.heap.size w wc))
      case first =>
        have H := HC5.out
        clear HC5
        by_cases c6 : a0.toList = ([] : List UInt8)
        · rw [if_pos c6] at H
          have c6b0 : (a0.toList == ([] : List UInt8)) = true := beq_iff_eq.mpr c6
          have c6b1 : (a0.toList != ([] : List UInt8)) = false := bne_eq_false_iff_eq.mpr c6
          clear c6
          (first | rw [c6b0] | (simp only [i64_w, i32_w]; rw [c6b0]) | skip)
          have H' := Aside0.mk H
          clear H
          go_wp2
          go_meet
          case rel => exact ⟨_, (true), (by first | rfl | (simp; done) | (simp [*]; done)), H', ⟨by have := HJ2.out; first | omega | exact Nat.le_refl _⟩, ⟨by repeat (first | (with_reducible first | exact HB.out | apply below_alloc | apply pw_below_drewN | apply below_drew1) | exact HB.out)⟩⟩
        · rw [if_neg c6] at H
          have c6b0 : (a0.toList == ([] : List UInt8)) = false := beq_eq_false_iff_ne.mpr c6
          have c6b1 : (a0.toList != ([] : List UInt8)) = true := bne_iff_ne.mpr c6
          (first | rw [c6b0] | (simp only [i64_w, i32_w]; rw [c6b0]) | skip)
          obtain ⟨ji7, hji7⟩ : ∃ j_ : Int, (wrap64 ((a0.size : Int) - 1)) = j_ := ⟨_, rfl⟩
          replace H : (if 0 ≤ (ji7) then (if (ji7) < (a0.size : Int) then (if (bt a0 (ji7)) = 46 then (spec_element.j1 kj2 a0 a1 true) else ((spec_All.f kj2 a0 true true x5_2).bind fun t101 => (if t101 = true then (spec_element.j1 kj2 a0 a1 false) else ((spec_Ascii.f kj2 a0).bind fun t102 => (spec_element.j1 kj2 a0 a1 t102))))) else (none)) else (none)) = some r := by first | (rw [hji7] at H; exact H) | (simp only [hji7] at H ⊢; exact H)
          have hji7w : (IntKind.i64.wrap ((a0.size : Int) - 1)) = ji7 := (i64_w _).trans hji7
          by_cases c8 : 0 ≤ (ji7)
          · rw [if_pos c8] at H
            have c8b0 : decide (0 ≤ (ji7)) = true := decide_eq_true c8
            clear c8
            by_cases c9 : (ji7) < (a0.size : Int)
            · rw [if_pos c9] at H
              have c9b0 : decide ((ji7) < (a0.size : Int)) = true := decide_eq_true c9
              clear c9
              by_cases c11 : (bt a0 (ji7)) = 46
              · rw [if_pos c11] at H
                have c11b0 : ((bt a0 (ji7)) == 46) = true := beq_iff_eq.mpr c11
                have c11b1 : ((bt a0 (ji7)) != 46) = false := bne_eq_false_iff_eq.mpr c11
                clear c11
                have H' := Aside0.mk H
                clear H
                have p10 : 0 ≤ ((ji7) : Int) := of_decide_eq_true (by first | (with_reducible assumption) | assumption)
                have q10 : (ji7) < (a0.size : Int) := of_decide_eq_true (by first | (with_reducible assumption) | assumption)
                have hx10 := bt_at a0 (ji7)
                replace p10 := eq_true p10
                replace q10 := eq_true q10
                go_wp2
                go_meet
                case rel => exact ⟨_, (true), (by first | rfl | (simp; done) | (simp [*]; done)), H', ⟨by have := HJ2.out; first | omega | exact Nat.le_refl _⟩, ⟨by repeat (first | (with_reducible first | exact HB.out | apply below_alloc | apply pw_below_drewN | apply below_drew1) | exact HB.out)⟩⟩
              · rw [if_neg c11] at H
                have c11b0 : ((bt a0 (ji7)) == 46) = false := beq_eq_false_iff_ne.mpr c11
                have c11b1 : ((bt a0 (ji7)) != 46) = true := bne_iff_ne.mpr c11
                replace H := Option.bind_eq_some_iff.mp H
                obtain ⟨t101, A120, H⟩ := H
                replace H : (if t101 = true then (spec_element.j1 kj2 a0 a1 false) else ((spec_Ascii.f kj2 a0).bind fun t102 => (spec_element.j1 kj2 a0 a1 t102))) = some r := H
                have A12 := Aside0.mk A120
                clear A120
                by_cases c13 : t101 = true
                · subst c13
                  have H1 : (spec_element.j1 kj2 a0 a1 false) = some r := by rw [if_pos rfl] at H; exact H
                  clear H
                  have H := H1
                  clear H1
                  have H' := Aside0.mk H
                  clear H
                  have p10 : 0 ≤ ((ji7) : Int) := of_decide_eq_true (by first | (with_reducible assumption) | assumption)
                  have q10 : (ji7) < (a0.size : Int) := of_decide_eq_true (by first | (with_reducible assumption) | assumption)
                  have hx10 := bt_at a0 (ji7)
                  replace p10 := eq_true p10
                  replace q10 := eq_true q10
                  go_wp2_with (first | (go_at_call 28; (with_reducible refine (spec_All.calls kj2 a0 true true x5_2 true _ A12.out).mono ?_); rintro e w' ⟨rfl, ⟨nd, rfl⟩⟩))
                  go_meet
                  case rel => exact ⟨_, (false), (by first | rfl | (simp; done) | (simp [*]; done)), H', ⟨by have := HJ2.out; first | omega | exact Nat.le_refl _⟩, ⟨by repeat (first | (with_reducible first | exact HB.out | apply below_alloc | apply pw_below_drewN | apply below_drew1) | exact HB.out)⟩⟩
                · replace c13 := Bool.eq_false_iff.mpr c13
                  subst c13
                  have H1 : ((spec_Ascii.f kj2 a0).bind fun t102 => (spec_element.j1 kj2 a0 a1 t102)) = some r := by rw [if_neg (show ¬ (false = true) by decide)] at H; exact H
                  clear H
                  have H := H1
                  clear H1
                  replace H := Option.bind_eq_some_iff.mp H
                  obtain ⟨t102, A140, H⟩ := H
                  replace H : (spec_element.j1 kj2 a0 a1 t102) = some r := H
                  have A14 := Aside0.mk A140
                  clear A140
                  have H' := Aside0.mk H
                  clear H
                  have p10 : 0 ≤ ((ji7) : Int) := of_decide_eq_true (by first | (with_reducible assumption) | assumption)
                  have q10 : (ji7) < (a0.size : Int) := of_decide_eq_true (by first | (with_reducible assumption) | assumption)
                  have hx10 := bt_at a0 (ji7)
                  replace p10 := eq_true p10
                  replace q10 := eq_true q10
                  go_wp2_with (first | (go_at_call 28; (with_reducible refine (spec_All.calls kj2 a0 true true x5_2 false _ A12.out).mono ?_); rintro e w' ⟨rfl, ⟨nd, rfl⟩⟩) | (go_at_call 19; (with_reducible refine (spec_Ascii.calls kj2 a0 t102 _ A14.out).mono ?_); rintro e w' ⟨rfl, ⟨nd, rfl⟩⟩))
                  go_meet
                  case rel => exact ⟨_, (t102), (by first | rfl | (simp; done) | (simp [*]; done)), H', ⟨by have := HJ2.out; first | omega | exact Nat.le_refl _⟩, ⟨by repeat (first | (with_reducible first | exact HB.out | apply below_alloc | apply pw_below_drewN | apply below_drew1) | exact HB.out)⟩⟩
            · rw [if_neg c9] at H
              exact absurd H (by simp)
          · rw [if_neg c8] at H
            exact absurd H (by simp)
      case rest =>
        clear HC5
        try clear c1
        try clear p1
        try clear q1
        try clear hx1
        try clear p2
        try clear c3
        try clear c4
        try clear c6
        try clear c6b0
        try clear c6b1
        try clear p6
        try clear c8
        try clear c8b0
        try clear c9
        try clear c9b0
        try clear p10
        try clear q10
        try clear hx10
        try clear c11
        try clear c11b0
        try clear c11b1
        try clear c13
        try clear p10
        try clear p2
        try clear q10
        obtain ⟨kq, x28_4, rfl, HA, HJ4, HB⟩ := hcut
        cases kq with
        | zero => exact absurd HA.out (by simp [spec_element.j1])
        | succ kj4 =>
          have H := HA.out
          clear HA
          simp only [spec_element.j1] at H
          by_cases c15 : x28_4 = true
          · subst c15
            have H1 : (some 2) = some r := by rw [if_pos rfl] at H; exact H
            clear H
            have H := H1
            clear H1
            obtain rfl := Option.some.inj H
            go_wp2
            go_ret
            exact ⟨by first | rfl | (simp [errW_none, errW_some] <;> rfl) | (simp [*, errW_none, errW_some] <;> rfl), by repeat (first | (with_reducible first | exact HB.out | apply below_alloc | apply pw_below_drewN | apply below_drew1) | exact HB.out)⟩
          · replace c15 := Bool.eq_false_iff.mpr c15
            subst c15
            have H1 : ((spec_reserved.f kj4 a0).bind fun t103 => (if a1 = true then (spec_element.j2 kj4 a0 a1 t103 false) else ((spec_In.f kj4 a0 46).bind fun t104 => (if t104 = true then ((spec_numbered.f kj4 a0).bind fun t105 => (spec_element.j2 kj4 a0 a1 t103 t105)) else (spec_element.j2 kj4 a0 a1 t103 false))))) = some r := by rw [if_neg (show ¬ (false = true) by decide)] at H; exact H
            clear H
            have H := H1
            clear H1
            replace H := Option.bind_eq_some_iff.mp H
            obtain ⟨t103, A160, H⟩ := H
            replace H : (if a1 = true then (spec_element.j2 kj4 a0 a1 t103 false) else ((spec_In.f kj4 a0 46).bind fun t104 => (if t104 = true then ((spec_numbered.f kj4 a0).bind fun t105 => (spec_element.j2 kj4 a0 a1 t103 t105)) else (spec_element.j2 kj4 a0 a1 t103 false)))) = some r := H
            have A16 := Aside0.mk A160
            clear A160
            have HC17 := Aside0.mk H
            clear H
            go_upto_region 7 with (first | ((with_reducible refine gate_callee (f := 57) rfl ?_); refine goesL_ (some 30) rfl rfl Tryf.func57 (by kernel_rfl) rfl #[.string a0] rfl (by (try simp only [List.map_toArray, List.map_cons, List.map_nil]); first | done | rfl | (simp only [List.length_drop, List.length_take]; rfl)) ?_; (with_reducible refine (spec_reserved.calls kj4 a0 t103 _ A16.out).mono ?_); rintro e w18 ⟨rfl, hb⟩; refine ⟨_, rfl, ?_⟩; have n0_ := Aside0.mk (below_step (by repeat (first | (with_reducible first | exact HB.out | apply below_alloc | apply pw_below_drewN | apply below_drew1) | exact HB.out)) hb); clear HB; have HB := n0_; clear n0_; (try clear hb); (try clear hb2); (try clear hk); (try clear hi)))
            (try simp only [Act.put, List.setIfInBounds_toArray, List.set_cons_zero, List.set_cons_succ])
            go_cut [40] (fun v40 wc => ∃ (kq : Nat) (x40_16 : Bool), v40 = .bool x40_16 ∧ Aside0 (spec_element.j2 kq a0 a1 t103 x40_16 = some r) ∧ Aside0 (kq ≤ kj4) ∧ Aside0 (Below w.heap.size w wc))
            case first =>
              have H := HC17.out
              clear HC17
              by_cases c19 : a1 = true
              · subst c19
                have H1 : (spec_element.j2 kj4 a0 true t103 false) = some r := by rw [if_pos rfl] at H; exact H
                clear H
                have H := H1
                clear H1
                have H' := Aside0.mk H
                clear H
                go_wp2
                go_meet
                case rel => exact ⟨_, (false), (by first | rfl | (simp; done) | (simp [*]; done)), H', ⟨by have := HJ2.out; have := HJ4.out; first | omega | exact Nat.le_refl _⟩, ⟨by repeat (first | (with_reducible first | exact HB.out | apply below_alloc | apply pw_below_drewN | apply below_drew1) | exact HB.out)⟩⟩
              · replace c19 := Bool.eq_false_iff.mpr c19
                subst c19
                have H1 : ((spec_In.f kj4 a0 46).bind fun t104 => (if t104 = true then ((spec_numbered.f kj4 a0).bind fun t105 => (spec_element.j2 kj4 a0 false t103 t105)) else (spec_element.j2 kj4 a0 false t103 false))) = some r := by rw [if_neg (show ¬ (false = true) by decide)] at H; exact H
                clear H
                have H := H1
                clear H1
                replace H := Option.bind_eq_some_iff.mp H
                obtain ⟨t104, A200, H⟩ := H
                replace H : (if t104 = true then ((spec_numbered.f kj4 a0).bind fun t105 => (spec_element.j2 kj4 a0 false t103 t105)) else (spec_element.j2 kj4 a0 false t103 false)) = some r := H
                have A20 := Aside0.mk A200
                clear A200
                by_cases c21 : t104 = true
                · subst c21
                  have H1 : ((spec_numbered.f kj4 a0).bind fun t105 => (spec_element.j2 kj4 a0 false t103 t105)) = some r := by rw [if_pos rfl] at H; exact H
                  clear H
                  have H := H1
                  clear H1
                  replace H := Option.bind_eq_some_iff.mp H
                  obtain ⟨t105, A220, H⟩ := H
                  replace H : (spec_element.j2 kj4 a0 false t103 t105) = some r := H
                  have A22 := Aside0.mk A220
                  clear A220
                  have H' := Aside0.mk H
                  clear H
                  go_wp2_with (first | (go_at_call 27; (with_reducible refine (spec_In.calls kj4 a0 46 true _ A20.out).mono ?_); rintro e w' ⟨rfl, ⟨nd, rfl⟩⟩) | (go_at_call 58; (with_reducible refine (spec_numbered.calls kj4 a0 t105 _ A22.out).mono ?_); rintro e w' ⟨rfl, ⟨nd, rfl⟩⟩))
                  go_meet
                  case rel => exact ⟨_, (t105), (by first | rfl | (simp; done) | (simp [*]; done)), H', ⟨by have := HJ2.out; have := HJ4.out; first | omega | exact Nat.le_refl _⟩, ⟨by repeat (first | (with_reducible first | exact HB.out | apply below_alloc | apply pw_below_drewN | apply below_drew1) | exact HB.out)⟩⟩
                · replace c21 := Bool.eq_false_iff.mpr c21
                  subst c21
                  have H1 : (spec_element.j2 kj4 a0 false t103 false) = some r := by rw [if_neg (show ¬ (false = true) by decide)] at H; exact H
                  clear H
                  have H := H1
                  clear H1
                  have H' := Aside0.mk H
                  clear H
                  go_wp2_with (first | (go_at_call 27; (with_reducible refine (spec_In.calls kj4 a0 46 false _ A20.out).mono ?_); rintro e w' ⟨rfl, ⟨nd, rfl⟩⟩))
                  go_meet
                  case rel => exact ⟨_, (false), (by first | rfl | (simp; done) | (simp [*]; done)), H', ⟨by have := HJ2.out; have := HJ4.out; first | omega | exact Nat.le_refl _⟩, ⟨by repeat (first | (with_reducible first | exact HB.out | apply below_alloc | apply pw_below_drewN | apply below_drew1) | exact HB.out)⟩⟩
            case rest =>
              clear HC17
              try clear c1
              try clear p1
              try clear q1
              try clear hx1
              try clear c2
              try clear p2
              try clear c3
              try clear c4
              try clear c5
              try clear c6
              try clear c6b0
              try clear c6b1
              try clear p6
              try clear c8
              try clear c8b0
              try clear c9
              try clear c9b0
              try clear p10
              try clear q10
              try clear hx10
              try clear c11
              try clear c11b0
              try clear c11b1
              try clear c13
              try clear c15
              try clear c19
              try clear c21
              try clear p1
              try clear p10
              try clear p2
              try clear p6
              try clear q1
              try clear q10
              obtain ⟨kq, x40_16, rfl, HA, HJ16, HB⟩ := hcut
              cases kq with
              | zero => exact absurd HA.out (by simp [spec_element.j2])
              | succ kj16 =>
                have H := HA.out
                clear HA
                simp only [spec_element.j2] at H
                by_cases c23 : x40_16 = true
                · subst c23
                  have H1 : ((spec_join.f kj16 t103 0).bind fun t106 => (some t106)) = some r := by rw [if_pos rfl] at H; exact H
                  clear H
                  have H := H1
                  clear H1
                  replace H := Option.bind_eq_some_iff.mp H
                  obtain ⟨t106, A240, H⟩ := H
                  replace H : (some t106) = some r := H
                  have A24 := Aside0.mk A240
                  clear A240
                  obtain rfl := Option.some.inj H
                  go_wp2_with (first | ((with_reducible refine gate_callee (f := 46) rfl ?_); refine goesL_ (some 42) rfl rfl Tryf.func46 (by kernel_rfl) rfl #[.int .i64 t103, .int .i64 0] rfl (by (try simp only [List.map_toArray, List.map_cons, List.map_nil]); first | done | rfl | (simp only [List.length_drop, List.length_take]; rfl)) ?_; (with_reducible refine (spec_join.calls kj16 t103 0 t106 _ A24.out).mono ?_); rintro e w' ⟨rfl, ⟨nd, rfl⟩⟩; refine ⟨_, rfl, ?_⟩))
                  go_ret
                  exact ⟨by first | rfl | (simp [errW_none, errW_some] <;> rfl) | (simp [*, errW_none, errW_some] <;> rfl), by repeat (first | (with_reducible first | exact HB.out | apply below_alloc | apply pw_below_drewN | apply below_drew1) | exact HB.out)⟩
                · replace c23 := Bool.eq_false_iff.mpr c23
                  subst c23
                  have H1 : ((spec_short.f kj16 a0).bind fun t107 => (if t107 = true then (if a1 = true then ((spec_join.f kj16 t103 0).bind fun t108 => (some t108)) else (some 2)) else ((spec_Ascii.f kj16 a0).bind fun t109 => (if t109 = true then (spec_element.j3 kj16 a0 t103 false) else (spec_element.j3 kj16 a0 t103 (!a1)))))) = some r := by rw [if_neg (show ¬ (false = true) by decide)] at H; exact H
                  clear H
                  have H := H1
                  clear H1
                  replace H := Option.bind_eq_some_iff.mp H
                  obtain ⟨t107, A250, H⟩ := H
                  replace H : (if t107 = true then (if a1 = true then ((spec_join.f kj16 t103 0).bind fun t108 => (some t108)) else (some 2)) else ((spec_Ascii.f kj16 a0).bind fun t109 => (if t109 = true then (spec_element.j3 kj16 a0 t103 false) else (spec_element.j3 kj16 a0 t103 (!a1))))) = some r := H
                  have A25 := Aside0.mk A250
                  clear A250
                  by_cases c26 : t107 = true
                  · subst c26
                    have H1 : (if a1 = true then ((spec_join.f kj16 t103 0).bind fun t108 => (some t108)) else (some 2)) = some r := by rw [if_pos rfl] at H; exact H
                    clear H
                    have H := H1
                    clear H1
                    by_cases c27 : a1 = true
                    · subst c27
                      have H1 : ((spec_join.f kj16 t103 0).bind fun t108 => (some t108)) = some r := by rw [if_pos rfl] at H; exact H
                      clear H
                      have H := H1
                      clear H1
                      replace H := Option.bind_eq_some_iff.mp H
                      obtain ⟨t108, A280, H⟩ := H
                      replace H : (some t108) = some r := H
                      have A28 := Aside0.mk A280
                      clear A280
                      obtain rfl := Option.some.inj H
                      go_wp2_with (first | ((with_reducible refine gate_callee (f := 59) rfl ?_); refine goesL_ (some 44) rfl rfl Tryf.func59 (by kernel_rfl) rfl #[.string a0] rfl (by (try simp only [List.map_toArray, List.map_cons, List.map_nil]); first | done | rfl | (simp only [List.length_drop, List.length_take]; rfl)) ?_; (with_reducible refine (spec_short.calls kj16 a0 true _ A25.out).mono ?_); rintro e w29 ⟨rfl, hb⟩; refine ⟨_, rfl, ?_⟩; have n0_ := Aside0.mk (below_step (by repeat (first | (with_reducible first | exact HB.out | apply below_alloc | apply pw_below_drewN | apply below_drew1) | exact HB.out)) hb); clear HB; have HB := n0_; clear n0_; (try clear hb); (try clear hb2); (try clear hk); (try clear hi)) | ((with_reducible refine gate_callee (f := 46) rfl ?_); refine goesL_ (some 47) rfl rfl Tryf.func46 (by kernel_rfl) rfl #[.int .i64 t103, .int .i64 0] rfl (by (try simp only [List.map_toArray, List.map_cons, List.map_nil]); first | done | rfl | (simp only [List.length_drop, List.length_take]; rfl)) ?_; (with_reducible refine (spec_join.calls kj16 t103 0 t108 _ A28.out).mono ?_); rintro e w' ⟨rfl, ⟨nd, rfl⟩⟩; refine ⟨_, rfl, ?_⟩))
                      go_ret
                      exact ⟨by first | rfl | (simp [errW_none, errW_some] <;> rfl) | (simp [*, errW_none, errW_some] <;> rfl), by repeat (first | (with_reducible first | exact HB.out | apply below_alloc | apply pw_below_drewN | apply below_drew1) | exact HB.out)⟩
                    · replace c27 := Bool.eq_false_iff.mpr c27
                      subst c27
                      have H1 : (some 2) = some r := by rw [if_neg (show ¬ (false = true) by decide)] at H; exact H
                      clear H
                      have H := H1
                      clear H1
                      obtain rfl := Option.some.inj H
                      go_wp2_with (first | ((with_reducible refine gate_callee (f := 59) rfl ?_); refine goesL_ (some 44) rfl rfl Tryf.func59 (by kernel_rfl) rfl #[.string a0] rfl (by (try simp only [List.map_toArray, List.map_cons, List.map_nil]); first | done | rfl | (simp only [List.length_drop, List.length_take]; rfl)) ?_; (with_reducible refine (spec_short.calls kj16 a0 true _ A25.out).mono ?_); rintro e w30 ⟨rfl, hb⟩; refine ⟨_, rfl, ?_⟩; have n0_ := Aside0.mk (below_step (by repeat (first | (with_reducible first | exact HB.out | apply below_alloc | apply pw_below_drewN | apply below_drew1) | exact HB.out)) hb); clear HB; have HB := n0_; clear n0_; (try clear hb); (try clear hb2); (try clear hk); (try clear hi)))
                      go_ret
                      exact ⟨by first | rfl | (simp [errW_none, errW_some] <;> rfl) | (simp [*, errW_none, errW_some] <;> rfl), by repeat (first | (with_reducible first | exact HB.out | apply below_alloc | apply pw_below_drewN | apply below_drew1) | exact HB.out)⟩
                  · replace c26 := Bool.eq_false_iff.mpr c26
                    subst c26
                    have H1 : ((spec_Ascii.f kj16 a0).bind fun t109 => (if t109 = true then (spec_element.j3 kj16 a0 t103 false) else (spec_element.j3 kj16 a0 t103 (!a1)))) = some r := by rw [if_neg (show ¬ (false = true) by decide)] at H; exact H
                    clear H
                    have H := H1
                    clear H1
                    have HC31 := Aside0.mk H
                    clear H
                    go_upto_region 13 with (first | ((with_reducible refine gate_callee (f := 59) rfl ?_); refine goesL_ (some 44) rfl rfl Tryf.func59 (by kernel_rfl) rfl #[.string a0] rfl (by (try simp only [List.map_toArray, List.map_cons, List.map_nil]); first | done | rfl | (simp only [List.length_drop, List.length_take]; rfl)) ?_; (with_reducible refine (spec_short.calls kj16 a0 false _ A25.out).mono ?_); rintro e w32 ⟨rfl, hb⟩; refine ⟨_, rfl, ?_⟩; have n0_ := Aside0.mk (below_step (by repeat (first | (with_reducible first | exact HB.out | apply below_alloc | apply pw_below_drewN | apply below_drew1) | exact HB.out)) hb); clear HB; have HB := n0_; clear n0_; (try clear hb); (try clear hb2); (try clear hk); (try clear hi)))
                    (try simp only [Act.put, List.setIfInBounds_toArray, List.set_cons_zero, List.set_cons_succ])
                    go_cut [54] (fun v54 wc => ∃ (kq : Nat) (x54_30 : Bool), v54 = .bool x54_30 ∧ Aside0 (spec_element.j3 kq a0 t103 x54_30 = some r) ∧ Aside0 (kq ≤ kj16) ∧ Aside0 (Below w.heap.size w wc))
                    case first =>
                      have H := HC31.out
                      clear HC31
                      replace H := Option.bind_eq_some_iff.mp H
                      obtain ⟨t109, A330, H⟩ := H
                      replace H : (if t109 = true then (spec_element.j3 kj16 a0 t103 false) else (spec_element.j3 kj16 a0 t103 (!a1))) = some r := H
                      have A33 := Aside0.mk A330
                      clear A330
                      by_cases c34 : t109 = true
                      · subst c34
                        have H1 : (spec_element.j3 kj16 a0 t103 false) = some r := by rw [if_pos rfl] at H; exact H
                        clear H
                        have H := H1
                        clear H1
                        have H' := Aside0.mk H
                        clear H
                        go_wp2_with (first | ((with_reducible refine gate_callee (f := 19) rfl ?_); refine goesL_ (some 49) rfl rfl Tryf.func19 (by kernel_rfl) rfl #[.string a0] rfl (by (try simp only [List.map_toArray, List.map_cons, List.map_nil]); first | done | rfl | (simp only [List.length_drop, List.length_take]; rfl)) ?_; (with_reducible refine (spec_Ascii.calls kj16 a0 true _ A33.out).mono ?_); rintro e w' ⟨rfl, ⟨nd, rfl⟩⟩; refine ⟨_, rfl, ?_⟩))
                        go_meet
                        case rel => exact ⟨_, (false), (by first | rfl | (simp; done) | (simp [*]; done)), H', ⟨by have := HJ2.out; have := HJ4.out; have := HJ16.out; first | omega | exact Nat.le_refl _⟩, ⟨by repeat (first | (with_reducible first | exact HB.out | apply below_alloc | apply pw_below_drewN | apply below_drew1) | exact HB.out)⟩⟩
                      · replace c34 := Bool.eq_false_iff.mpr c34
                        subst c34
                        have H1 : (spec_element.j3 kj16 a0 t103 (!a1)) = some r := by rw [if_neg (show ¬ (false = true) by decide)] at H; exact H
                        clear H
                        have H := H1
                        clear H1
                        have H' := Aside0.mk H
                        clear H
                        go_wp2_with (first | ((with_reducible refine gate_callee (f := 19) rfl ?_); refine goesL_ (some 49) rfl rfl Tryf.func19 (by kernel_rfl) rfl #[.string a0] rfl (by (try simp only [List.map_toArray, List.map_cons, List.map_nil]); first | done | rfl | (simp only [List.length_drop, List.length_take]; rfl)) ?_; (with_reducible refine (spec_Ascii.calls kj16 a0 false _ A33.out).mono ?_); rintro e w' ⟨rfl, ⟨nd, rfl⟩⟩; refine ⟨_, rfl, ?_⟩))
                        go_meet
                        case rel => exact ⟨_, (!a1), (by first | rfl | (simp; done) | (simp [*]; done)), H', ⟨by have := HJ2.out; have := HJ4.out; have := HJ16.out; first | omega | exact Nat.le_refl _⟩, ⟨by repeat (first | (with_reducible first | exact HB.out | apply below_alloc | apply pw_below_drewN | apply below_drew1) | exact HB.out)⟩⟩
                    case rest =>
                      clear HC31
                      try clear c1
                      try clear p1
                      try clear q1
                      try clear hx1
                      try clear c2
                      try clear p2
                      try clear c3
                      try clear c4
                      try clear c5
                      try clear c6
                      try clear c6b0
                      try clear c6b1
                      try clear p6
                      try clear c8
                      try clear c8b0
                      try clear c9
                      try clear c9b0
                      try clear p10
                      try clear q10
                      try clear hx10
                      try clear c11
                      try clear c11b0
                      try clear c11b1
                      try clear c13
                      try clear c15
                      try clear c19
                      try clear c21
                      try clear c23
                      try clear c26
                      try clear c27
                      try clear c34
                      try clear p1
                      try clear p10
                      try clear p2
                      try clear p6
                      try clear q1
                      try clear q10
                      obtain ⟨kq, x54_30, rfl, HA, HJ30, HB⟩ := hcut
                      cases kq with
                      | zero => exact absurd HA.out (by simp [spec_element.j3])
                      | succ kj30 =>
                        have H := HA.out
                        clear HA
                        simp only [spec_element.j3] at H
                        by_cases c35 : x54_30 = true
                        · subst c35
                          have H1 : (some 2) = some r := by rw [if_pos rfl] at H; exact H
                          clear H
                          have H := H1
                          clear H1
                          obtain rfl := Option.some.inj H
                          go_wp2
                          go_ret
                          exact ⟨by first | rfl | (simp [errW_none, errW_some] <;> rfl) | (simp [*, errW_none, errW_some] <;> rfl), by repeat (first | (with_reducible first | exact HB.out | apply below_alloc | apply pw_below_drewN | apply below_drew1) | exact HB.out)⟩
                        · replace c35 := Bool.eq_false_iff.mpr c35
                          subst c35
                          have H1 : (spec_element.l0 kj30 a0 t103 1) = some r := by rw [if_neg (show ¬ (false = true) by decide)] at H; exact H
                          clear H
                          have H := H1
                          clear H1
                          have H' := Aside0.mk H
                          clear H
                          go_wp2
                          go_loopg [7] kj30 (fun kq v7 w' => ∃ (x7_5 : Int), v7 = .int .i64 x7_5 ∧ Aside0 (spec_element.l0 kq a0 t103 x7_5 = some r) ∧ Aside0 (kq ≤ kj30) ∧ Aside0 (Below w.heap.size w w'))
                          case atStart => exact ⟨(1), (by first | rfl | (simp; done) | (simp [*]; done)), H', ⟨Nat.le_refl _⟩, ⟨by repeat (first | (with_reducible first | exact HB.out | apply below_alloc | apply pw_below_drewN | apply below_drew1) | exact HB.out)⟩⟩
                          case round =>
                            clear H'
                            try clear c1
                            try clear p1
                            try clear q1
                            try clear hx1
                            try clear c2
                            try clear p2
                            try clear c3
                            try clear c4
                            try clear c5
                            try clear c6
                            try clear c6b0
                            try clear c6b1
                            try clear p6
                            try clear c8
                            try clear c8b0
                            try clear c9
                            try clear c9b0
                            try clear p10
                            try clear q10
                            try clear hx10
                            try clear c11
                            try clear c11b0
                            try clear c11b1
                            try clear c13
                            try clear c15
                            try clear c19
                            try clear c21
                            try clear c23
                            try clear c26
                            try clear c27
                            try clear c34
                            try clear c35
                            try clear p1
                            try clear p10
                            try clear p2
                            try clear p6
                            try clear q1
                            try clear q10
                            obtain ⟨x7_5, rfl, HA, HK5, HB⟩ := hrel
                            cases gk with
                            | zero => exact absurd HA.out (by simp [spec_element.l0])
                            | succ k5 =>
                              have H := HA.out
                              clear HA
                              simp only [spec_element.l0] at H
                              by_cases c36 : x7_5 < (a0.size : Int)
                              · rw [if_pos c36] at H
                                have c36b0 : decide (x7_5 < (a0.size : Int)) = true := decide_eq_true c36
                                clear c36
                                by_cases c37 : 0 ≤ x7_5
                                · rw [if_pos c37] at H
                                  have c37b0 : decide (0 ≤ x7_5) = true := decide_eq_true c37
                                  clear c37
                                  by_cases c39 : (bt a0 x7_5) = 46
                                  · rw [if_pos c39] at H
                                    have c39b0 : ((bt a0 x7_5) == 46) = true := beq_iff_eq.mpr c39
                                    have c39b1 : ((bt a0 x7_5) != 46) = false := bne_eq_false_iff_eq.mpr c39
                                    clear c39
                                    obtain ⟨ji40, hji40⟩ : ∃ j_ : Int, (wrap64 (x7_5 - 1)) = j_ := ⟨_, rfl⟩
                                    replace H : (if 0 ≤ (ji40) then (if (ji40) < (a0.size : Int) then (if (bt a0 (ji40)) = 46 then ((spec_join.f k5 t103 0).bind fun t110 => (some t110)) else (spec_element.l0 k5 a0 t103 (wrap64 (x7_5 + 1)))) else (none)) else (none)) = some r := by first | (rw [hji40] at H; exact H) | (simp only [hji40] at H ⊢; exact H)
                                    have hji40w : (IntKind.i64.wrap (x7_5 - 1)) = ji40 := (i64_w _).trans hji40
                                    by_cases c41 : 0 ≤ (ji40)
                                    · rw [if_pos c41] at H
                                      have c41b0 : decide (0 ≤ (ji40)) = true := decide_eq_true c41
                                      clear c41
                                      by_cases c42 : (ji40) < (a0.size : Int)
                                      · rw [if_pos c42] at H
                                        have c42b0 : decide ((ji40) < (a0.size : Int)) = true := decide_eq_true c42
                                        clear c42
                                        by_cases c44 : (bt a0 (ji40)) = 46
                                        · rw [if_pos c44] at H
                                          have c44b0 : ((bt a0 (ji40)) == 46) = true := beq_iff_eq.mpr c44
                                          have c44b1 : ((bt a0 (ji40)) != 46) = false := bne_eq_false_iff_eq.mpr c44
                                          clear c44
                                          replace H := Option.bind_eq_some_iff.mp H
                                          obtain ⟨t110, A450, H⟩ := H
                                          replace H : (some t110) = some r := H
                                          have A45 := Aside0.mk A450
                                          clear A450
                                          obtain rfl := Option.some.inj H
                                          have p38 : 0 ≤ (x7_5 : Int) := of_decide_eq_true (by first | (with_reducible assumption) | assumption)
                                          have q38 : x7_5 < (a0.size : Int) := of_decide_eq_true (by first | (with_reducible assumption) | assumption)
                                          have hx38 := bt_at a0 x7_5
                                          replace p38 := eq_true p38
                                          replace q38 := eq_true q38
                                          have p43 : 0 ≤ ((ji40) : Int) := of_decide_eq_true (by first | (with_reducible assumption) | assumption)
                                          have q43 : (ji40) < (a0.size : Int) := of_decide_eq_true (by first | (with_reducible assumption) | assumption)
                                          have hx43 := bt_at a0 (ji40)
                                          replace p43 := eq_true p43
                                          replace q43 := eq_true q43
                                          go_wp2_with (first | ((with_reducible refine gate_callee (f := 46) rfl ?_); refine goesL_ (some 73) rfl rfl Tryf.func46 (by kernel_rfl) rfl #[.int .i64 t103, .int .i64 0] rfl (by (try simp only [List.map_toArray, List.map_cons, List.map_nil]); first | done | rfl | (simp only [List.length_drop, List.length_take]; rfl)) ?_; (with_reducible refine (spec_join.calls k5 t103 0 t110 _ A45.out).mono ?_); rintro e w' ⟨rfl, ⟨nd, rfl⟩⟩; refine ⟨_, rfl, ?_⟩))
                                          go_ret
                                          exact ⟨by first | rfl | (simp [errW_none, errW_some] <;> rfl) | (simp only [← hji40]; first | rfl | (simp [errW_none, errW_some] <;> rfl)) | (simp [*, errW_none, errW_some] <;> rfl), by repeat (first | (with_reducible first | exact HB.out | apply below_alloc | apply pw_below_drewN | apply below_drew1) | exact HB.out)⟩
                                        · rw [if_neg c44] at H
                                          have c44b0 : ((bt a0 (ji40)) == 46) = false := beq_eq_false_iff_ne.mpr c44
                                          have c44b1 : ((bt a0 (ji40)) != 46) = true := bne_iff_ne.mpr c44
                                          have H' := Aside0.mk H
                                          clear H
                                          have p38 : 0 ≤ (x7_5 : Int) := of_decide_eq_true (by first | (with_reducible assumption) | assumption)
                                          have q38 : x7_5 < (a0.size : Int) := of_decide_eq_true (by first | (with_reducible assumption) | assumption)
                                          have hx38 := bt_at a0 x7_5
                                          replace p38 := eq_true p38
                                          replace q38 := eq_true q38
                                          have p43 : 0 ≤ ((ji40) : Int) := of_decide_eq_true (by first | (with_reducible assumption) | assumption)
                                          have q43 : (ji40) < (a0.size : Int) := of_decide_eq_true (by first | (with_reducible assumption) | assumption)
                                          have hx43 := bt_at a0 (ji40)
                                          replace p43 := eq_true p43
                                          replace q43 := eq_true q43
                                          go_wp2
                                          go_roundg k5
                                          case measure => have := HJ2.out; have := HJ4.out; have := HJ16.out; have := HJ30.out; have := HK5.out; omega
                                          case rel => exact ⟨(wrap64 (x7_5 + 1)), (by first | rfl | (simp; done) | (simp [*]; done)), H', ⟨by have := HJ2.out; have := HJ4.out; have := HJ16.out; have := HJ30.out; have := HK5.out; omega⟩, ⟨by repeat (first | (with_reducible first | exact HB.out | apply below_alloc | apply pw_below_drewN | apply below_drew1) | exact HB.out)⟩⟩
                                      · rw [if_neg c42] at H
                                        exact absurd H (by simp)
                                    · rw [if_neg c41] at H
                                      exact absurd H (by simp)
                                  · rw [if_neg c39] at H
                                    have c39b0 : ((bt a0 x7_5) == 46) = false := beq_eq_false_iff_ne.mpr c39
                                    have c39b1 : ((bt a0 x7_5) != 46) = true := bne_iff_ne.mpr c39
                                    have H' := Aside0.mk H
                                    clear H
                                    have p38 : 0 ≤ (x7_5 : Int) := of_decide_eq_true (by first | (with_reducible assumption) | assumption)
                                    have q38 : x7_5 < (a0.size : Int) := of_decide_eq_true (by first | (with_reducible assumption) | assumption)
                                    have hx38 := bt_at a0 x7_5
                                    replace p38 := eq_true p38
                                    replace q38 := eq_true q38
                                    go_wp2
                                    go_roundg k5
                                    case measure => have := HJ2.out; have := HJ4.out; have := HJ16.out; have := HJ30.out; have := HK5.out; omega
                                    case rel => exact ⟨(wrap64 (x7_5 + 1)), (by first | rfl | (simp; done) | (simp [*]; done)), H', ⟨by have := HJ2.out; have := HJ4.out; have := HJ16.out; have := HJ30.out; have := HK5.out; omega⟩, ⟨by repeat (first | (with_reducible first | exact HB.out | apply below_alloc | apply pw_below_drewN | apply below_drew1) | exact HB.out)⟩⟩
                                · rw [if_neg c37] at H
                                  exact absurd H (by simp)
                              · rw [if_neg c36] at H
                                have c36b0 : decide (x7_5 < (a0.size : Int)) = false := decide_eq_false c36
                                clear c36
                                replace H := Option.bind_eq_some_iff.mp H
                                obtain ⟨t111, A460, H⟩ := H
                                replace H : (if t111 = true then (if 0 ≤ (wrap64 ((a0.size : Int) - 1)) then (if (wrap64 ((a0.size : Int) - 1)) < (a0.size : Int) then (if (bt a0 (wrap64 ((a0.size : Int) - 1))) = 32 then ((spec_join.f k5 t103 0).bind fun t112 => (some t112)) else (if 0 < (a0.size : Int) then (if (bt a0 0) = 32 then ((spec_join.f k5 t103 0).bind fun t113 => (some t113)) else (some t103)) else (none))) else (none)) else (none)) else ((spec_join.f k5 t103 0).bind fun t114 => (some t114))) = some r := H
                                have A46 := Aside0.mk A460
                                clear A460
                                by_cases c47 : t111 = true
                                · subst c47
                                  have H1 : (if 0 ≤ (wrap64 ((a0.size : Int) - 1)) then (if (wrap64 ((a0.size : Int) - 1)) < (a0.size : Int) then (if (bt a0 (wrap64 ((a0.size : Int) - 1))) = 32 then ((spec_join.f k5 t103 0).bind fun t112 => (some t112)) else (if 0 < (a0.size : Int) then (if (bt a0 0) = 32 then ((spec_join.f k5 t103 0).bind fun t113 => (some t113)) else (some t103)) else (none))) else (none)) else (none)) = some r := by rw [if_pos rfl] at H; exact H
                                  clear H
                                  have H := H1
                                  clear H1
                                  obtain ⟨ji48, hji48⟩ : ∃ j_ : Int, (wrap64 ((a0.size : Int) - 1)) = j_ := ⟨_, rfl⟩
                                  replace H : (if 0 ≤ (ji48) then (if (ji48) < (a0.size : Int) then (if (bt a0 (ji48)) = 32 then ((spec_join.f k5 t103 0).bind fun t112 => (some t112)) else (if 0 < (a0.size : Int) then (if (bt a0 0) = 32 then ((spec_join.f k5 t103 0).bind fun t113 => (some t113)) else (some t103)) else (none))) else (none)) else (none)) = some r := by first | (rw [hji48] at H; exact H) | (simp only [hji48] at H ⊢; exact H)
                                  (try rw [hji48] at A46)
                                  have hji48w : (IntKind.i64.wrap ((a0.size : Int) - 1)) = ji48 := (i64_w _).trans hji48
                                  by_cases c49 : 0 ≤ (ji48)
                                  · rw [if_pos c49] at H
                                    have c49b0 : decide (0 ≤ (ji48)) = true := decide_eq_true c49
                                    clear c49
                                    by_cases c50 : (ji48) < (a0.size : Int)
                                    · rw [if_pos c50] at H
                                      have c50b0 : decide ((ji48) < (a0.size : Int)) = true := decide_eq_true c50
                                      clear c50
                                      by_cases c52 : (bt a0 (ji48)) = 32
                                      · rw [if_pos c52] at H
                                        have c52b0 : ((bt a0 (ji48)) == 32) = true := beq_iff_eq.mpr c52
                                        have c52b1 : ((bt a0 (ji48)) != 32) = false := bne_eq_false_iff_eq.mpr c52
                                        clear c52
                                        replace H := Option.bind_eq_some_iff.mp H
                                        obtain ⟨t112, A530, H⟩ := H
                                        replace H : (some t112) = some r := H
                                        have A53 := Aside0.mk A530
                                        clear A530
                                        obtain rfl := Option.some.inj H
                                        go_wp2_with (first | ((with_reducible refine gate_callee (f := 19) rfl ?_); refine goesL_ (some 75) rfl rfl Tryf.func19 (by kernel_rfl) rfl #[.string a0] rfl (by (try simp only [List.map_toArray, List.map_cons, List.map_nil]); first | done | rfl | (simp only [List.length_drop, List.length_take]; rfl)) ?_; (with_reducible refine (spec_Ascii.calls k5 a0 true _ A46.out).mono ?_); rintro e w' ⟨rfl, ⟨nd, rfl⟩⟩; refine ⟨_, rfl, ?_⟩; have p51 : 0 ≤ ((ji48) : Int) := of_decide_eq_true (by first | (with_reducible assumption) | assumption); have q51 : (ji48) < (a0.size : Int) := of_decide_eq_true (by first | (with_reducible assumption) | assumption); have hx51 := bt_at a0 (ji48); replace p51 := eq_true p51; replace q51 := eq_true q51) | ((with_reducible refine gate_callee (f := 46) rfl ?_); refine goesL_ (some 91) rfl rfl Tryf.func46 (by kernel_rfl) rfl #[.int .i64 t103, .int .i64 0] rfl (by (try simp only [List.map_toArray, List.map_cons, List.map_nil]); first | done | rfl | (simp only [List.length_drop, List.length_take]; rfl)) ?_; (with_reducible refine (spec_join.calls k5 t103 0 t112 _ A53.out).mono ?_); rintro e w' ⟨rfl, ⟨nd, rfl⟩⟩; refine ⟨_, rfl, ?_⟩))
                                        go_ret
                                        exact ⟨by first | rfl | (simp [errW_none, errW_some] <;> rfl) | (simp only [← hji48]; first | rfl | (simp [errW_none, errW_some] <;> rfl)) | (simp [*, errW_none, errW_some] <;> rfl), by repeat (first | (with_reducible first | exact HB.out | apply below_alloc | apply pw_below_drewN | apply below_drew1) | exact HB.out)⟩
                                      · rw [if_neg c52] at H
                                        have c52b0 : ((bt a0 (ji48)) == 32) = false := beq_eq_false_iff_ne.mpr c52
                                        have c52b1 : ((bt a0 (ji48)) != 32) = true := bne_iff_ne.mpr c52
                                        by_cases c54 : 0 < (a0.size : Int)
                                        · rw [if_pos c54] at H
                                          have c54b0 : decide (0 < (a0.size : Int)) = true := decide_eq_true c54
                                          have c54b1 : decide (0 < a0.size) = true := decide_eq_true (by omega)
                                          clear c54
                                          by_cases c56 : (bt a0 0) = 32
                                          · rw [if_pos c56] at H
                                            have c56b0 : ((bt a0 0) == 32) = true := beq_iff_eq.mpr c56
                                            have c56b1 : ((bt a0 0) != 32) = false := bne_eq_false_iff_eq.mpr c56
                                            clear c56
                                            replace H := Option.bind_eq_some_iff.mp H
                                            obtain ⟨t113, A570, H⟩ := H
                                            replace H : (some t113) = some r := H
                                            have A57 := Aside0.mk A570
                                            clear A570
                                            obtain rfl := Option.some.inj H
                                            go_wp2_with (first | ((with_reducible refine gate_callee (f := 19) rfl ?_); refine goesL_ (some 75) rfl rfl Tryf.func19 (by kernel_rfl) rfl #[.string a0] rfl (by (try simp only [List.map_toArray, List.map_cons, List.map_nil]); first | done | rfl | (simp only [List.length_drop, List.length_take]; rfl)) ?_; (with_reducible refine (spec_Ascii.calls k5 a0 true _ A46.out).mono ?_); rintro e w' ⟨rfl, ⟨nd, rfl⟩⟩; refine ⟨_, rfl, ?_⟩; have p51 : 0 ≤ ((ji48) : Int) := of_decide_eq_true (by first | (with_reducible assumption) | assumption); have q51 : (ji48) < (a0.size : Int) := of_decide_eq_true (by first | (with_reducible assumption) | assumption); have hx51 := bt_at a0 (ji48); replace p51 := eq_true p51; replace q51 := eq_true q51; have p55 : 0 ≤ (0 : Int) := (by omega); have q55 : 0 < a0.size := (by have : (0 : Int) < (a0.size : Int) := of_decide_eq_true (by first | (with_reducible assumption) | assumption); omega); have hx55 : ∀ h : 0 < a0.size, ((a0[0]'h).toNat : Int) = bt a0 0 := bt_at a0 0; clear p55; have qi55 : (0 < (a0.size : Int)) = True := eq_true (of_decide_eq_true (by first | (with_reducible assumption) | assumption)); replace q55 := eq_true q55) | ((with_reducible refine gate_callee (f := 46) rfl ?_); refine goesL_ (some 91) rfl rfl Tryf.func46 (by kernel_rfl) rfl #[.int .i64 t103, .int .i64 0] rfl (by (try simp only [List.map_toArray, List.map_cons, List.map_nil]); first | done | rfl | (simp only [List.length_drop, List.length_take]; rfl)) ?_; (with_reducible refine (spec_join.calls k5 t103 0 t113 _ A57.out).mono ?_); rintro e w' ⟨rfl, ⟨nd, rfl⟩⟩; refine ⟨_, rfl, ?_⟩))
                                            go_ret
                                            exact ⟨by first | rfl | (simp [errW_none, errW_some] <;> rfl) | (simp only [← hji48]; first | rfl | (simp [errW_none, errW_some] <;> rfl)) | (simp [*, errW_none, errW_some] <;> rfl), by repeat (first | (with_reducible first | exact HB.out | apply below_alloc | apply pw_below_drewN | apply below_drew1) | exact HB.out)⟩
                                          · rw [if_neg c56] at H
                                            have c56b0 : ((bt a0 0) == 32) = false := beq_eq_false_iff_ne.mpr c56
                                            have c56b1 : ((bt a0 0) != 32) = true := bne_iff_ne.mpr c56
                                            obtain rfl := Option.some.inj H
                                            go_wp2_with (first | ((with_reducible refine gate_callee (f := 19) rfl ?_); refine goesL_ (some 75) rfl rfl Tryf.func19 (by kernel_rfl) rfl #[.string a0] rfl (by (try simp only [List.map_toArray, List.map_cons, List.map_nil]); first | done | rfl | (simp only [List.length_drop, List.length_take]; rfl)) ?_; (with_reducible refine (spec_Ascii.calls k5 a0 true _ A46.out).mono ?_); rintro e w' ⟨rfl, ⟨nd, rfl⟩⟩; refine ⟨_, rfl, ?_⟩; have p51 : 0 ≤ ((ji48) : Int) := of_decide_eq_true (by first | (with_reducible assumption) | assumption); have q51 : (ji48) < (a0.size : Int) := of_decide_eq_true (by first | (with_reducible assumption) | assumption); have hx51 := bt_at a0 (ji48); replace p51 := eq_true p51; replace q51 := eq_true q51; have p55 : 0 ≤ (0 : Int) := (by omega); have q55 : 0 < a0.size := (by have : (0 : Int) < (a0.size : Int) := of_decide_eq_true (by first | (with_reducible assumption) | assumption); omega); have hx55 : ∀ h : 0 < a0.size, ((a0[0]'h).toNat : Int) = bt a0 0 := bt_at a0 0; clear p55; have qi55 : (0 < (a0.size : Int)) = True := eq_true (of_decide_eq_true (by first | (with_reducible assumption) | assumption)); replace q55 := eq_true q55))
                                            go_ret
                                            exact ⟨by first | rfl | (simp [errW_none, errW_some] <;> rfl) | (simp only [← hji48]; first | rfl | (simp [errW_none, errW_some] <;> rfl)) | (simp [*, errW_none, errW_some] <;> rfl), by repeat (first | (with_reducible first | exact HB.out | apply below_alloc | apply pw_below_drewN | apply below_drew1) | exact HB.out)⟩
                                        · rw [if_neg c54] at H
                                          exact absurd H (by simp)
                                    · rw [if_neg c50] at H
                                      exact absurd H (by simp)
                                  · rw [if_neg c49] at H
                                    exact absurd H (by simp)
                                · replace c47 := Bool.eq_false_iff.mpr c47
                                  subst c47
                                  have H1 : ((spec_join.f k5 t103 0).bind fun t114 => (some t114)) = some r := by rw [if_neg (show ¬ (false = true) by decide)] at H; exact H
                                  clear H
                                  have H := H1
                                  clear H1
                                  replace H := Option.bind_eq_some_iff.mp H
                                  obtain ⟨t114, A580, H⟩ := H
                                  replace H : (some t114) = some r := H
                                  have A58 := Aside0.mk A580
                                  clear A580
                                  obtain rfl := Option.some.inj H
                                  go_wp2_with (first | ((with_reducible refine gate_callee (f := 19) rfl ?_); refine goesL_ (some 75) rfl rfl Tryf.func19 (by kernel_rfl) rfl #[.string a0] rfl (by (try simp only [List.map_toArray, List.map_cons, List.map_nil]); first | done | rfl | (simp only [List.length_drop, List.length_take]; rfl)) ?_; (with_reducible refine (spec_Ascii.calls k5 a0 false _ A46.out).mono ?_); rintro e w' ⟨rfl, ⟨nd, rfl⟩⟩; refine ⟨_, rfl, ?_⟩) | ((with_reducible refine gate_callee (f := 46) rfl ?_); refine goesL_ (some 91) rfl rfl Tryf.func46 (by kernel_rfl) rfl #[.int .i64 t103, .int .i64 0] rfl (by (try simp only [List.map_toArray, List.map_cons, List.map_nil]); first | done | rfl | (simp only [List.length_drop, List.length_take]; rfl)) ?_; (with_reducible refine (spec_join.calls k5 t103 0 t114 _ A58.out).mono ?_); rintro e w' ⟨rfl, ⟨nd, rfl⟩⟩; refine ⟨_, rfl, ?_⟩))
                                  go_ret
                                  exact ⟨by first | rfl | (simp [errW_none, errW_some] <;> rfl) | (simp [*, errW_none, errW_some] <;> rfl), by repeat (first | (with_reducible first | exact HB.out | apply below_alloc | apply pw_below_drewN | apply below_drew1) | exact HB.out)⟩

end Go.Proofs.YtpbebckhemnooaaFmt.PT
