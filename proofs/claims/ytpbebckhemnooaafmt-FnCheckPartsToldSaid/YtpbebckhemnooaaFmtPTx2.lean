-- Written by a program (myprint.sh: the kit's print, turned to take contracts of mine): one Lean function and its contract for each Go function.
import Derived.Test.YtpbebckhemnooaaFmtPTx0
import Derived.Test.YtpbebckhemnooaaFmtPTx1
namespace Go.Proofs.YtpbebckhemnooaaFmt.PT
open Go.Proofs.YtpbebckhemnooaaFmt.PS
open Go.RowKit Go.Proofs.YtpbebckhemnooaaFmtW.PrintWords Go.Proofs.YtpbebckhemnooaaFmtW.PrintLast Go.Proofs.YtpbebckhemnooaaFmtW.PrintMore
attribute [local go_sem] max2_int min2_int max_two min_two max_three min_three max_four min_four   -- for this text's walks alone
set_option linter.unusedVariables false
set_option linter.unusedSimpArgs false

/-! ### spec_path: function 41 -/
def spec_path.l0 : Nat → ByteArray → Bool → Int → List ByteArray → Int → Int → Option (Int)
  | 0, _, _, _, _, _, _ => none
  | k + 1, x0, x1, x5, x9, x10, x11 => if x11 < x10 then (if 0 ≤ x11 then (if x11 < (x9.length : Int) then ((spec_element.f k (rdOf ByteArray.empty x9 x11) x1).bind fun t119 => ((spec_join.f k x5 t119).bind fun t120 => (spec_path.l0 k x0 x1 t120 x9 x10 (wrap64 (x11 + 1))))) else (none)) else (none)) else (if (x0.size : Int) > 0 then (if 0 < (x0.size : Int) then (if (bt x0 0) = 45 then ((spec_join.f k x5 0).bind fun t121 => (some t121)) else (some x5)) else (none)) else (some x5))
def spec_path.f (k : Nat) (a0 : ByteArray) (a1 : Bool) : Option (Int) := (spec_Cut.f k a0 47).bind fun t115 => (spec_path.l0 k a0 a1 1 t115 (t115.length : Int) 0)
set_option maxHeartbeats 8000000 in
set_option maxRecDepth 100000 in
theorem spec_path.calls (k : Nat) (a0 : ByteArray) (a1 : Bool) (r : Int) (w : World) (h : spec_path.f k a0 a1 = some r) :
    Calls Tryf.prog 41 #[.string a0, .bool a1] w fun e w' => e = .returned (.int .i64 r) ∧ Below w.heap.size w w' := by
  have HB := Aside0.mk (Below.refl w.heap.size w)
  have H : ((spec_Cut.f k a0 47).bind fun t115 => (spec_path.l0 k a0 a1 1 t115 (t115.length : Int) 0)) = some r := h
  clear h
  replace H := Option.bind_eq_some_iff.mp H
  obtain ⟨t115, A30, H⟩ := H
  replace H : (spec_path.l0 k a0 a1 1 t115 (t115.length : Int) 0) = some r := H
  have A3 := Aside0.mk A30
  clear A30
  have H' := Aside0.mk H
  clear H
  go_enter Tryf.func41, Tryf.ntmps41
  go_wp2_with (first | ((with_reducible refine gate_callee (f := 44) rfl ?_); refine goesL_ (some 9) rfl rfl Tryf.func44 (by kernel_rfl) rfl #[.string a0, .int .u8 47] rfl (by (try simp only [List.map_toArray, List.map_cons, List.map_nil]); first | done | rfl | (simp only [List.length_drop, List.length_take]; rfl)) ?_; (with_reducible refine (spec_Cut.calls k a0 47 t115 _ A3.out).mono ?_); rintro e w4 ⟨v116, rfl, ho0, hb⟩; refine ⟨_, rfl, ?_⟩; have n0_ := Aside0.mk (Kd.R_lower ho0 (below_size (by repeat (first | (with_reducible first | exact HB.out | apply below_alloc | apply pw_below_drewN | apply below_drew1) | exact HB.out)))); have n1_ := Aside0.mk (below_step (by repeat (first | (with_reducible first | exact HB.out | apply below_alloc | apply pw_below_drewN | apply below_drew1) | exact HB.out)) hb); clear HB; have HO117 := n0_; have HB := n1_; clear n0_ n1_; (try clear hb); (try clear hb2); (try clear hk); (try clear hi); (try clear ho0); obtain ⟨Ao5, co5, eo5⟩ := Kd.R_slice HO117.out; subst eo5))
  go_loopg [5, 11] k (fun kq v5 v11 w' => ∃ (x5_1 : Int) (x11_1 : Int), v5 = .int .i64 x5_1 ∧ v11 = .int .i64 x11_1 ∧ Aside0 (spec_path.l0 kq a0 a1 x5_1 t115 (t115.length : Int) x11_1 = some r) ∧ Aside0 (kq ≤ k) ∧ Aside0 (Kd.R Kd.string 9 w' w.heap.size (fun _ => True) (.slice Ao5 t115.length co5) t115) ∧ Aside0 (Below w.heap.size w w'))
  case atStart => exact ⟨(1), (0), (by first | rfl | (simp; done) | (simp [*]; done)), (by first | rfl | (simp; done) | (simp [*]; done)), H', ⟨Nat.le_refl _⟩, ⟨by (with_reducible repeat (first | apply Kd.R_alloc | apply Kd.R_drewN | apply Kd.R_drew)); exact HO117.out⟩, ⟨by repeat (first | (with_reducible first | exact HB.out | apply below_alloc | apply pw_below_drewN | apply below_drew1) | exact HB.out)⟩⟩
  case round =>
    clear H'
    try clear p2
    try clear c4
    obtain ⟨x5_1, x11_1, rfl, rfl, HA, HK1, HO_9, HB⟩ := hrel
    cases gk with
    | zero => exact absurd HA.out (by simp [spec_path.l0])
    | succ k1 =>
      have H := HA.out
      clear HA
      simp only [spec_path.l0] at H
      by_cases c6 : x11_1 < (t115.length : Int)
      · rw [if_pos c6] at H
        have c6b0 : decide (x11_1 < (t115.length : Int)) = true := decide_eq_true c6
        clear c6
        by_cases c7 : 0 ≤ x11_1
        · rw [if_pos c7] at H
          have c7b0 : decide (0 ≤ x11_1) = true := decide_eq_true c7
          clear c7
          by_cases c8 : x11_1 < (t115.length : Int)
          · rw [if_pos c8] at H
            have c8b0 : decide (x11_1 < (t115.length : Int)) = true := decide_eq_true c8
            clear c8
            replace H := Option.bind_eq_some_iff.mp H
            obtain ⟨t119, A90, H⟩ := H
            replace H : ((spec_join.f k1 x5_1 t119).bind fun t120 => (spec_path.l0 k1 a0 a1 t120 t115 (t115.length : Int) (wrap64 (x11_1 + 1)))) = some r := H
            have A9 := Aside0.mk A90
            clear A90
            replace H := Option.bind_eq_some_iff.mp H
            obtain ⟨t120, A100, H⟩ := H
            replace H : (spec_path.l0 k1 a0 a1 t120 t115 (t115.length : Int) (wrap64 (x11_1 + 1))) = some r := H
            have A10 := Aside0.mk A100
            clear A100
            have H' := Aside0.mk H
            clear H
            have p118 : 0 ≤ (x11_1 : Int) := of_decide_eq_true (by first | (with_reducible assumption) | assumption)
            have q118 : x11_1 < (t115.length : Int) := of_decide_eq_true (by first | (with_reducible assumption) | assumption)
            obtain ⟨ad118, e118, hx118_0⟩ := Kd.at_string (Kd.R_reads' HO_9.out).2.2 x11_1 p118 q118
            cases e118
            replace p118 := eq_true p118
            replace q118 := eq_true q118
            go_wp2_with (first | ((with_reducible refine gate_callee (f := 38) rfl ?_); refine goesL_ (some 18) rfl rfl Tryf.func38 (by kernel_rfl) rfl #[.string (rdOf ByteArray.empty t115 x11_1), .bool a1] rfl (by (try simp only [List.map_toArray, List.map_cons, List.map_nil]); first | done | rfl | (simp only [List.length_drop, List.length_take]; rfl)) ?_; (with_reducible refine (spec_element.calls k1 (rdOf ByteArray.empty t115 x11_1) a1 t119 _ A9.out).mono ?_); rintro e w11 ⟨rfl, hb⟩; refine ⟨_, rfl, ?_⟩; have n0_ := Aside0.mk (Kd.R_below (by (with_reducible repeat (first | apply Kd.R_alloc | apply Kd.R_drewN | apply Kd.R_drew)); exact HO_9.out) hb); have n1_ := Aside0.mk (below_step (by repeat (first | (with_reducible first | exact HB.out | apply below_alloc | apply pw_below_drewN | apply below_drew1) | exact HB.out)) hb); clear HO_9; clear HB; have HO_9 := n0_; have HB := n1_; clear n0_ n1_; (try clear hb); (try clear hb2); (try clear hk); (try clear hi)) | ((with_reducible refine gate_callee (f := 46) rfl ?_); refine goesL_ (some 19) rfl rfl Tryf.func46 (by kernel_rfl) rfl #[.int .i64 x5_1, .int .i64 t119] rfl (by (try simp only [List.map_toArray, List.map_cons, List.map_nil]); first | done | rfl | (simp only [List.length_drop, List.length_take]; rfl)) ?_; (with_reducible refine (spec_join.calls k1 x5_1 t119 t120 _ A10.out).mono ?_); rintro e w' ⟨rfl, ⟨nd, rfl⟩⟩; refine ⟨_, rfl, ?_⟩))
            go_roundg k1
            case measure => have := HK1.out; omega
            case rel => exact ⟨(t120), (wrap64 (x11_1 + 1)), (by first | rfl | (simp; done) | (simp [*]; done)), (by first | rfl | (simp; done) | (simp [*]; done)), H', ⟨by have := HK1.out; omega⟩, ⟨by (with_reducible repeat (first | apply Kd.R_alloc | apply Kd.R_drewN | apply Kd.R_drew)); exact HO_9.out⟩, ⟨by repeat (first | (with_reducible first | exact HB.out | apply below_alloc | apply pw_below_drewN | apply below_drew1) | exact HB.out)⟩⟩
          · rw [if_neg c8] at H
            exact absurd H (by simp)
        · rw [if_neg c7] at H
          exact absurd H (by simp)
      · rw [if_neg c6] at H
        have c6b0 : decide (x11_1 < (t115.length : Int)) = false := decide_eq_false c6
        clear c6
        by_cases c12 : (a0.size : Int) > 0
        · rw [if_pos c12] at H
          have c12b0 : decide (0 < (a0.size : Int)) = true := decide_eq_true c12
          have c12b1 : decide (0 < a0.size) = true := decide_eq_true (by omega)
          clear c12
          by_cases c13 : 0 < (a0.size : Int)
          · rw [if_pos c13] at H
            have c13b0 : decide (0 < (a0.size : Int)) = true := decide_eq_true c13
            have c13b1 : decide (0 < a0.size) = true := decide_eq_true (by omega)
            clear c13
            by_cases c15 : (bt a0 0) = 45
            · rw [if_pos c15] at H
              have c15b0 : ((bt a0 0) == 45) = true := beq_iff_eq.mpr c15
              have c15b1 : ((bt a0 0) != 45) = false := bne_eq_false_iff_eq.mpr c15
              clear c15
              replace H := Option.bind_eq_some_iff.mp H
              obtain ⟨t121, A160, H⟩ := H
              replace H : (some t121) = some r := H
              have A16 := Aside0.mk A160
              clear A160
              obtain rfl := Option.some.inj H
              have p14 : 0 ≤ (0 : Int) := (by omega)
              have q14 : 0 < a0.size := (by have : (0 : Int) < (a0.size : Int) := of_decide_eq_true (by first | (with_reducible assumption) | assumption); omega)
              have hx14 : ∀ h : 0 < a0.size, ((a0[0]'h).toNat : Int) = bt a0 0 := bt_at a0 0
              clear p14
              have qi14 : (0 < (a0.size : Int)) = True := eq_true (of_decide_eq_true (by first | (with_reducible assumption) | assumption))
              replace q14 := eq_true q14
              go_wp2_with (first | ((with_reducible refine gate_callee (f := 46) rfl ?_); refine goesL_ (some 30) rfl rfl Tryf.func46 (by kernel_rfl) rfl #[.int .i64 x5_1, .int .i64 0] rfl (by (try simp only [List.map_toArray, List.map_cons, List.map_nil]); first | done | rfl | (simp only [List.length_drop, List.length_take]; rfl)) ?_; (with_reducible refine (spec_join.calls k1 x5_1 0 t121 _ A16.out).mono ?_); rintro e w' ⟨rfl, ⟨nd, rfl⟩⟩; refine ⟨_, rfl, ?_⟩))
              go_ret
              exact ⟨by first | rfl | (simp [errW_none, errW_some] <;> rfl) | (simp [*, errW_none, errW_some] <;> rfl), by repeat (first | (with_reducible first | exact HB.out | apply below_alloc | apply pw_below_drewN | apply below_drew1) | exact HB.out)⟩
            · rw [if_neg c15] at H
              have c15b0 : ((bt a0 0) == 45) = false := beq_eq_false_iff_ne.mpr c15
              have c15b1 : ((bt a0 0) != 45) = true := bne_iff_ne.mpr c15
              obtain rfl := Option.some.inj H
              have p14 : 0 ≤ (0 : Int) := (by omega)
              have q14 : 0 < a0.size := (by have : (0 : Int) < (a0.size : Int) := of_decide_eq_true (by first | (with_reducible assumption) | assumption); omega)
              have hx14 : ∀ h : 0 < a0.size, ((a0[0]'h).toNat : Int) = bt a0 0 := bt_at a0 0
              clear p14
              have qi14 : (0 < (a0.size : Int)) = True := eq_true (of_decide_eq_true (by first | (with_reducible assumption) | assumption))
              replace q14 := eq_true q14
              go_wp2
              go_ret
              exact ⟨by first | rfl | (simp [errW_none, errW_some] <;> rfl) | (simp [*, errW_none, errW_some] <;> rfl), by repeat (first | (with_reducible first | exact HB.out | apply below_alloc | apply pw_below_drewN | apply below_drew1) | exact HB.out)⟩
          · rw [if_neg c13] at H
            exact absurd H (by simp)
        · rw [if_neg c12] at H
          have c12b0 : decide (0 < (a0.size : Int)) = false := decide_eq_false c12
          have c12b1 : decide (0 < a0.size) = false := decide_eq_false (by omega)
          clear c12
          obtain rfl := Option.some.inj H
          go_wp2
          go_ret
          exact ⟨by first | rfl | (simp [errW_none, errW_some] <;> rfl) | (simp [*, errW_none, errW_some] <;> rfl), by repeat (first | (with_reducible first | exact HB.out | apply below_alloc | apply pw_below_drewN | apply below_drew1) | exact HB.out)⟩

/-! ### spec_Path: function 30 -/
mutual
def spec_Path.l0 : Nat → ByteArray → Int → List ByteArray → List ByteArray → Int → Int → Option (Int)
  | 0, _, _, _, _, _, _ => none
  | k + 1, x0, x3, x4, x13, x14, x15 => if x15 < x14 then (if 0 ≤ x15 then (if x15 < (x13.length : Int) then (if ((rdOf ByteArray.empty x13 x15).size : Int) > 0 then (if 0 < ((rdOf ByteArray.empty x13 x15).size : Int) then (if (bt (rdOf ByteArray.empty x13 x15) 0) = 46 then (some 2) else (spec_Path.l0 k x0 x3 x4 x13 x14 (wrap64 (x15 + 1)))) else (none)) else (spec_Path.l0 k x0 x3 x4 x13 x14 (wrap64 (x15 + 1)))) else (none)) else (none)) else (if 0 < (x4.length : Int) then ((spec_All.f k (rdOf ByteArray.empty x4 0) true false (⟨#[46, 45]⟩ : ByteArray)).bind fun t128 => (if t128 = true then ((spec_In.f k (rdOf ByteArray.empty x4 0) 46).bind fun t130 => (if t130 = true then (if 0 < ((rdOf ByteArray.empty x4 0).size : Int) then (spec_Path.j1 k x0 x3 ((bt (rdOf ByteArray.empty x4 0) 0) == 45)) else (none)) else (spec_Path.j1 k x0 x3 true))) else (spec_Path.j1 k x0 x3 true))) else (none))
def spec_Path.j1 : Nat → ByteArray → Int → Bool → Option (Int)
  | 0, _, _, _ => none
  | k + 1, x0, x3, x46 => if x46 = true then (some 2) else ((spec_Split.f k x0).bind fun bt132 => ((spec_join.f k x3 bt132.2).bind fun t134 => (some t134)))
end
def spec_Path.f (k : Nat) (a0 : ByteArray) : Option (Int) := (spec_path.f k a0 false).bind fun t122 => ((spec_Cut.f k a0 47).bind fun t123 => (spec_Path.l0 k a0 t122 t123 t123 (t123.length : Int) 0))
set_option maxHeartbeats 8000000 in
set_option maxRecDepth 100000 in
theorem spec_Path.calls (k : Nat) (a0 : ByteArray) (r : Int) (w : World) (h : spec_Path.f k a0 = some r) :
    Calls Tryf.prog 30 #[.string a0] w fun e w' => e = .returned (.int .i64 r) ∧ Below w.heap.size w w' := by
  have HB := Aside0.mk (Below.refl w.heap.size w)
  have H : ((spec_path.f k a0 false).bind fun t122 => ((spec_Cut.f k a0 47).bind fun t123 => (spec_Path.l0 k a0 t122 t123 t123 (t123.length : Int) 0))) = some r := h
  clear h
  replace H := Option.bind_eq_some_iff.mp H
  obtain ⟨t122, A20, H⟩ := H
  replace H : ((spec_Cut.f k a0 47).bind fun t123 => (spec_Path.l0 k a0 t122 t123 t123 (t123.length : Int) 0)) = some r := H
  have A2 := Aside0.mk A20
  clear A20
  replace H := Option.bind_eq_some_iff.mp H
  obtain ⟨t123, A30, H⟩ := H
  replace H : (spec_Path.l0 k a0 t122 t123 t123 (t123.length : Int) 0) = some r := H
  have A3 := Aside0.mk A30
  clear A30
  have H' := Aside0.mk H
  clear H
  go_enter Tryf.func30, Tryf.ntmps30
  go_wp2_with (first | ((with_reducible refine gate_callee (f := 41) rfl ?_); refine goesL_ (some 10) rfl rfl Tryf.func41 (by kernel_rfl) rfl #[.string a0, .bool false] rfl (by (try simp only [List.map_toArray, List.map_cons, List.map_nil]); first | done | rfl | (simp only [List.length_drop, List.length_take]; rfl)) ?_; (with_reducible refine (spec_path.calls k a0 false t122 _ A2.out).mono ?_); rintro e w4 ⟨rfl, hb⟩; refine ⟨_, rfl, ?_⟩; have n0_ := Aside0.mk (below_step (by repeat (first | (with_reducible first | exact HB.out | apply below_alloc | apply pw_below_drewN | apply below_drew1) | exact HB.out)) hb); clear HB; have HB := n0_; clear n0_; (try clear hb); (try clear hb2); (try clear hk); (try clear hi)) | ((with_reducible refine gate_callee (f := 44) rfl ?_); refine goesL_ (some 12) rfl rfl Tryf.func44 (by kernel_rfl) rfl #[.string a0, .int .u8 47] rfl (by (try simp only [List.map_toArray, List.map_cons, List.map_nil]); first | done | rfl | (simp only [List.length_drop, List.length_take]; rfl)) ?_; (with_reducible refine (spec_Cut.calls k a0 47 t123 _ A3.out).mono ?_); rintro e w5 ⟨v124, rfl, ho0, hb⟩; refine ⟨_, rfl, ?_⟩; have n0_ := Aside0.mk (Kd.R_lower ho0 (below_size (by repeat (first | (with_reducible first | exact HB.out | apply below_alloc | apply pw_below_drewN | apply below_drew1) | exact HB.out)))); have n1_ := Aside0.mk (below_step (by repeat (first | (with_reducible first | exact HB.out | apply below_alloc | apply pw_below_drewN | apply below_drew1) | exact HB.out)) hb); clear HB; have HO125 := n0_; have HB := n1_; clear n0_ n1_; (try clear hb); (try clear hb2); (try clear hk); (try clear hi); (try clear ho0); obtain ⟨Ao6, co6, eo6⟩ := Kd.R_slice HO125.out; subst eo6))
  go_loopg [15] k (fun kq v15 w' => ∃ (x15_1 : Int), v15 = .int .i64 x15_1 ∧ Aside0 (spec_Path.l0 kq a0 t122 t123 t123 (t123.length : Int) x15_1 = some r) ∧ Aside0 (kq ≤ k) ∧ Aside0 (Kd.R Kd.string 9 w' w.heap.size (fun _ => True) (.slice Ao6 t123.length co6) t123) ∧ Aside0 (Kd.R Kd.string 9 w' w.heap.size (fun _ => True) (.slice Ao6 t123.length co6) t123) ∧ Aside0 (Below w.heap.size w w'))
  case atStart => exact ⟨(0), (by first | rfl | (simp; done) | (simp [*]; done)), H', ⟨Nat.le_refl _⟩, ⟨by (with_reducible repeat (first | apply Kd.R_alloc | apply Kd.R_drewN | apply Kd.R_drew)); exact HO125.out⟩, ⟨by (with_reducible repeat (first | apply Kd.R_alloc | apply Kd.R_drewN | apply Kd.R_drew)); exact HO125.out⟩, ⟨by repeat (first | (with_reducible first | exact HB.out | apply below_alloc | apply pw_below_drewN | apply below_drew1) | exact HB.out)⟩⟩
  case round =>
    clear H'
    try clear p2
    try clear c3
    try clear c4
    obtain ⟨x15_1, rfl, HA, HK1, HO_4, HO_13, HB⟩ := hrel
    cases gk with
    | zero => exact absurd HA.out (by simp [spec_Path.l0])
    | succ k1 =>
      have H := HA.out
      clear HA
      simp only [spec_Path.l0] at H
      by_cases c7 : x15_1 < (t123.length : Int)
      · rw [if_pos c7] at H
        have c7b0 : decide (x15_1 < (t123.length : Int)) = true := decide_eq_true c7
        clear c7
        by_cases c8 : 0 ≤ x15_1
        · rw [if_pos c8] at H
          have c8b0 : decide (0 ≤ x15_1) = true := decide_eq_true c8
          clear c8
          by_cases c9 : x15_1 < (t123.length : Int)
          · rw [if_pos c9] at H
            have c9b0 : decide (x15_1 < (t123.length : Int)) = true := decide_eq_true c9
            clear c9
            by_cases c10 : ((rdOf ByteArray.empty t123 x15_1).size : Int) > 0
            · rw [if_pos c10] at H
              have c10b0 : decide (0 < ((rdOf ByteArray.empty t123 x15_1).size : Int)) = true := decide_eq_true c10
              have c10b1 : decide (0 < (rdOf ByteArray.empty t123 x15_1).size) = true := decide_eq_true (by omega)
              clear c10
              by_cases c11 : 0 < ((rdOf ByteArray.empty t123 x15_1).size : Int)
              · rw [if_pos c11] at H
                have c11b0 : decide (0 < ((rdOf ByteArray.empty t123 x15_1).size : Int)) = true := decide_eq_true c11
                have c11b1 : decide (0 < (rdOf ByteArray.empty t123 x15_1).size) = true := decide_eq_true (by omega)
                clear c11
                by_cases c13 : (bt (rdOf ByteArray.empty t123 x15_1) 0) = 46
                · rw [if_pos c13] at H
                  have c13b0 : ((bt (rdOf ByteArray.empty t123 x15_1) 0) == 46) = true := beq_iff_eq.mpr c13
                  have c13b1 : ((bt (rdOf ByteArray.empty t123 x15_1) 0) != 46) = false := bne_eq_false_iff_eq.mpr c13
                  clear c13
                  obtain rfl := Option.some.inj H
                  have p126 : 0 ≤ (x15_1 : Int) := of_decide_eq_true (by first | (with_reducible assumption) | assumption)
                  have q126 : x15_1 < (t123.length : Int) := of_decide_eq_true (by first | (with_reducible assumption) | assumption)
                  obtain ⟨ad126, e126, hx126_0⟩ := Kd.at_string (Kd.R_reads' HO_13.out).2.2 x15_1 p126 q126
                  cases e126
                  replace p126 := eq_true p126
                  replace q126 := eq_true q126
                  have p12 : 0 ≤ (0 : Int) := (by omega)
                  have q12 : 0 < (rdOf ByteArray.empty t123 x15_1).size := (by have : (0 : Int) < ((rdOf ByteArray.empty t123 x15_1).size : Int) := of_decide_eq_true (by first | (with_reducible assumption) | assumption); omega)
                  have hx12 : ∀ h : 0 < (rdOf ByteArray.empty t123 x15_1).size, (((rdOf ByteArray.empty t123 x15_1)[0]'h).toNat : Int) = bt (rdOf ByteArray.empty t123 x15_1) 0 := bt_at (rdOf ByteArray.empty t123 x15_1) 0
                  clear p12
                  have qi12 : (0 < ((rdOf ByteArray.empty t123 x15_1).size : Int)) = True := eq_true (of_decide_eq_true (by first | (with_reducible assumption) | assumption))
                  replace q12 := eq_true q12
                  go_wp2
                  go_ret
                  exact ⟨by first | rfl | (simp [errW_none, errW_some] <;> rfl) | (simp [*, errW_none, errW_some] <;> rfl), by repeat (first | (with_reducible first | exact HB.out | apply below_alloc | apply pw_below_drewN | apply below_drew1) | exact HB.out)⟩
                · rw [if_neg c13] at H
                  have c13b0 : ((bt (rdOf ByteArray.empty t123 x15_1) 0) == 46) = false := beq_eq_false_iff_ne.mpr c13
                  have c13b1 : ((bt (rdOf ByteArray.empty t123 x15_1) 0) != 46) = true := bne_iff_ne.mpr c13
                  have H' := Aside0.mk H
                  clear H
                  have p126 : 0 ≤ (x15_1 : Int) := of_decide_eq_true (by first | (with_reducible assumption) | assumption)
                  have q126 : x15_1 < (t123.length : Int) := of_decide_eq_true (by first | (with_reducible assumption) | assumption)
                  obtain ⟨ad126, e126, hx126_0⟩ := Kd.at_string (Kd.R_reads' HO_13.out).2.2 x15_1 p126 q126
                  cases e126
                  replace p126 := eq_true p126
                  replace q126 := eq_true q126
                  have p12 : 0 ≤ (0 : Int) := (by omega)
                  have q12 : 0 < (rdOf ByteArray.empty t123 x15_1).size := (by have : (0 : Int) < ((rdOf ByteArray.empty t123 x15_1).size : Int) := of_decide_eq_true (by first | (with_reducible assumption) | assumption); omega)
                  have hx12 : ∀ h : 0 < (rdOf ByteArray.empty t123 x15_1).size, (((rdOf ByteArray.empty t123 x15_1)[0]'h).toNat : Int) = bt (rdOf ByteArray.empty t123 x15_1) 0 := bt_at (rdOf ByteArray.empty t123 x15_1) 0
                  clear p12
                  have qi12 : (0 < ((rdOf ByteArray.empty t123 x15_1).size : Int)) = True := eq_true (of_decide_eq_true (by first | (with_reducible assumption) | assumption))
                  replace q12 := eq_true q12
                  go_wp2
                  go_roundg k1
                  case measure => have := HK1.out; omega
                  case rel => exact ⟨(wrap64 (x15_1 + 1)), (by first | rfl | (simp; done) | (simp [*]; done)), H', ⟨by have := HK1.out; omega⟩, ⟨by (with_reducible repeat (first | apply Kd.R_alloc | apply Kd.R_drewN | apply Kd.R_drew)); exact HO_4.out⟩, ⟨by (with_reducible repeat (first | apply Kd.R_alloc | apply Kd.R_drewN | apply Kd.R_drew)); exact HO_13.out⟩, ⟨by repeat (first | (with_reducible first | exact HB.out | apply below_alloc | apply pw_below_drewN | apply below_drew1) | exact HB.out)⟩⟩
              · rw [if_neg c11] at H
                exact absurd H (by simp)
            · rw [if_neg c10] at H
              have c10b0 : decide (0 < ((rdOf ByteArray.empty t123 x15_1).size : Int)) = false := decide_eq_false c10
              have c10b1 : decide (0 < (rdOf ByteArray.empty t123 x15_1).size) = false := decide_eq_false (by omega)
              clear c10
              have H' := Aside0.mk H
              clear H
              have p126 : 0 ≤ (x15_1 : Int) := of_decide_eq_true (by first | (with_reducible assumption) | assumption)
              have q126 : x15_1 < (t123.length : Int) := of_decide_eq_true (by first | (with_reducible assumption) | assumption)
              obtain ⟨ad126, e126, hx126_0⟩ := Kd.at_string (Kd.R_reads' HO_13.out).2.2 x15_1 p126 q126
              cases e126
              replace p126 := eq_true p126
              replace q126 := eq_true q126
              go_wp2
              go_roundg k1
              case measure => have := HK1.out; omega
              case rel => exact ⟨(wrap64 (x15_1 + 1)), (by first | rfl | (simp; done) | (simp [*]; done)), H', ⟨by have := HK1.out; omega⟩, ⟨by (with_reducible repeat (first | apply Kd.R_alloc | apply Kd.R_drewN | apply Kd.R_drew)); exact HO_4.out⟩, ⟨by (with_reducible repeat (first | apply Kd.R_alloc | apply Kd.R_drewN | apply Kd.R_drew)); exact HO_13.out⟩, ⟨by repeat (first | (with_reducible first | exact HB.out | apply below_alloc | apply pw_below_drewN | apply below_drew1) | exact HB.out)⟩⟩
          · rw [if_neg c9] at H
            exact absurd H (by simp)
        · rw [if_neg c8] at H
          exact absurd H (by simp)
      · rw [if_neg c7] at H
        have c7b0 : decide (x15_1 < (t123.length : Int)) = false := decide_eq_false c7
        clear c7
        have HC14 := Aside0.mk H
        clear H
        go_upto_region 9 with (fail)
        go_cut [46] (fun v46 wc => ∃ (kq : Nat) (x46_13 : Bool), v46 = .bool x46_13 ∧ Aside0 (spec_Path.j1 kq a0 t122 x46_13 = some r) ∧ Aside0 (kq ≤ k1) ∧ Aside0 (Below w.heap.size w wc))
        case first =>
          have H := HC14.out
          clear HC14
          by_cases c15 : 0 < (t123.length : Int)
          · rw [if_pos c15] at H
            have c15b0 : decide (0 < (t123.length : Int)) = true := decide_eq_true c15
            have c15b1 : decide (0 < t123.length) = true := decide_eq_true (by omega)
            clear c15
            (first | rw [c15b0] | (simp only [i64_w, i32_w]; rw [c15b0]) | skip)
            replace H := Option.bind_eq_some_iff.mp H
            obtain ⟨t128, A160, H⟩ := H
            replace H : (if t128 = true then ((spec_In.f k1 (rdOf ByteArray.empty t123 0) 46).bind fun t130 => (if t130 = true then (if 0 < ((rdOf ByteArray.empty t123 0).size : Int) then (spec_Path.j1 k1 a0 t122 ((bt (rdOf ByteArray.empty t123 0) 0) == 45)) else (none)) else (spec_Path.j1 k1 a0 t122 true))) else (spec_Path.j1 k1 a0 t122 true)) = some r := H
            have A16 := Aside0.mk A160
            clear A160
            by_cases c17 : t128 = true
            · subst c17
              have H1 : ((spec_In.f k1 (rdOf ByteArray.empty t123 0) 46).bind fun t130 => (if t130 = true then (if 0 < ((rdOf ByteArray.empty t123 0).size : Int) then (spec_Path.j1 k1 a0 t122 ((bt (rdOf ByteArray.empty t123 0) 0) == 45)) else (none)) else (spec_Path.j1 k1 a0 t122 true))) = some r := by rw [if_pos rfl] at H; exact H
              clear H
              have H := H1
              clear H1
              replace H := Option.bind_eq_some_iff.mp H
              obtain ⟨t130, A180, H⟩ := H
              replace H : (if t130 = true then (if 0 < ((rdOf ByteArray.empty t123 0).size : Int) then (spec_Path.j1 k1 a0 t122 ((bt (rdOf ByteArray.empty t123 0) 0) == 45)) else (none)) else (spec_Path.j1 k1 a0 t122 true)) = some r := H
              have A18 := Aside0.mk A180
              clear A180
              by_cases c19 : t130 = true
              · subst c19
                have H1 : (if 0 < ((rdOf ByteArray.empty t123 0).size : Int) then (spec_Path.j1 k1 a0 t122 ((bt (rdOf ByteArray.empty t123 0) 0) == 45)) else (none)) = some r := by rw [if_pos rfl] at H; exact H
                clear H
                have H := H1
                clear H1
                by_cases c20 : 0 < ((rdOf ByteArray.empty t123 0).size : Int)
                · rw [if_pos c20] at H
                  have c20b0 : decide (0 < ((rdOf ByteArray.empty t123 0).size : Int)) = true := decide_eq_true c20
                  have c20b1 : decide (0 < (rdOf ByteArray.empty t123 0).size) = true := decide_eq_true (by omega)
                  clear c20
                  have H' := Aside0.mk H
                  clear H
                  have p127 : 0 ≤ (0 : Int) := (by omega)
                  have q127 : 0 < (t123.length : Int) := of_decide_eq_true (by first | (with_reducible assumption) | assumption)
                  obtain ⟨ad127, e127, hx127_0⟩ := Kd.at_string (Kd.R_reads' HO_4.out).2.2 0 p127 q127
                  cases e127
                  have qi127 : (0 < t123.length) = True := eq_true (by omega)
                  (try rw [show ((0 : Int)).toNat = 0 from rfl] at hx127_0)
                  (try rw [Addr.add_zero'] at hx127_0)
                  replace p127 := eq_true p127
                  replace q127 := eq_true q127
                  go_wp2_with (first | ((with_reducible refine gate_callee (f := 28) rfl ?_); refine goesL_ (some 31) rfl rfl Tryf.func28 (by kernel_rfl) rfl #[.string (rdOf ByteArray.empty t123 0), .bool true, .bool false, .string (⟨#[46, 45]⟩ : ByteArray)] rfl (by (try simp only [List.map_toArray, List.map_cons, List.map_nil]); first | done | rfl | (simp only [List.length_drop, List.length_take]; rfl)) ?_; (with_reducible refine (spec_All.calls k1 (rdOf ByteArray.empty t123 0) true false (⟨#[46, 45]⟩ : ByteArray) true _ A16.out).mono ?_); rintro e w' ⟨rfl, ⟨nd, rfl⟩⟩; refine ⟨_, rfl, ?_⟩; have p129 : 0 ≤ (0 : Int) := (by omega); have q129 : 0 < (t123.length : Int) := of_decide_eq_true (by first | (with_reducible assumption) | assumption); obtain ⟨ad129, e129, hx129_0⟩ := Kd.at_string (Kd.R_reads' HO_4.out).2.2 0 p129 q129; obtain rfl : ad127 = ad129 := (by injection e129); have qi129 : (0 < t123.length) = True := eq_true (by omega); (try rw [show ((0 : Int)).toNat = 0 from rfl] at hx129_0); (try rw [Addr.add_zero'] at hx129_0); replace p129 := eq_true p129; replace q129 := eq_true q129) | (go_at_call 27; (with_reducible refine (spec_In.calls k1 (rdOf ByteArray.empty t123 0) 46 true _ A18.out).mono ?_); rintro e w' ⟨rfl, ⟨nd, rfl⟩⟩; have p131 : 0 ≤ (0 : Int) := (by omega); have q131 : 0 < (t123.length : Int) := of_decide_eq_true (by first | (with_reducible assumption) | assumption); obtain ⟨ad131, e131, hx131_0⟩ := Kd.at_string (Kd.R_reads' HO_4.out).2.2 0 p131 q131; obtain rfl : ad127 = ad131 := (by injection e131); have qi131 : (0 < t123.length) = True := eq_true (by omega); (try rw [show ((0 : Int)).toNat = 0 from rfl] at hx131_0); (try rw [Addr.add_zero'] at hx131_0); replace p131 := eq_true p131; replace q131 := eq_true q131; have p21 : 0 ≤ (0 : Int) := (by omega); have q21 : 0 < (rdOf ByteArray.empty t123 0).size := (by have : (0 : Int) < ((rdOf ByteArray.empty t123 0).size : Int) := of_decide_eq_true (by first | (with_reducible assumption) | assumption); omega); have hx21 : ∀ h : 0 < (rdOf ByteArray.empty t123 0).size, (((rdOf ByteArray.empty t123 0)[0]'h).toNat : Int) = bt (rdOf ByteArray.empty t123 0) 0 := bt_at (rdOf ByteArray.empty t123 0) 0; clear p21; have qi21 : (0 < ((rdOf ByteArray.empty t123 0).size : Int)) = True := eq_true (of_decide_eq_true (by first | (with_reducible assumption) | assumption)); replace q21 := eq_true q21))
                  go_meet
                  case rel => exact ⟨_, (((bt (rdOf ByteArray.empty t123 0) 0) == 45)), (by first | rfl | (simp; done) | (simp [*]; done)), H', ⟨by have := HK1.out; first | omega | exact Nat.le_refl _⟩, ⟨by repeat (first | (with_reducible first | exact HB.out | apply below_alloc | apply pw_below_drewN | apply below_drew1) | exact HB.out)⟩⟩
                · rw [if_neg c20] at H
                  exact absurd H (by simp)
              · replace c19 := Bool.eq_false_iff.mpr c19
                subst c19
                have H1 : (spec_Path.j1 k1 a0 t122 true) = some r := by rw [if_neg (show ¬ (false = true) by decide)] at H; exact H
                clear H
                have H := H1
                clear H1
                have H' := Aside0.mk H
                clear H
                have p127 : 0 ≤ (0 : Int) := (by omega)
                have q127 : 0 < (t123.length : Int) := of_decide_eq_true (by first | (with_reducible assumption) | assumption)
                obtain ⟨ad127, e127, hx127_0⟩ := Kd.at_string (Kd.R_reads' HO_4.out).2.2 0 p127 q127
                cases e127
                have qi127 : (0 < t123.length) = True := eq_true (by omega)
                (try rw [show ((0 : Int)).toNat = 0 from rfl] at hx127_0)
                (try rw [Addr.add_zero'] at hx127_0)
                replace p127 := eq_true p127
                replace q127 := eq_true q127
                go_wp2_with (first | ((with_reducible refine gate_callee (f := 28) rfl ?_); refine goesL_ (some 31) rfl rfl Tryf.func28 (by kernel_rfl) rfl #[.string (rdOf ByteArray.empty t123 0), .bool true, .bool false, .string (⟨#[46, 45]⟩ : ByteArray)] rfl (by (try simp only [List.map_toArray, List.map_cons, List.map_nil]); first | done | rfl | (simp only [List.length_drop, List.length_take]; rfl)) ?_; (with_reducible refine (spec_All.calls k1 (rdOf ByteArray.empty t123 0) true false (⟨#[46, 45]⟩ : ByteArray) true _ A16.out).mono ?_); rintro e w' ⟨rfl, ⟨nd, rfl⟩⟩; refine ⟨_, rfl, ?_⟩; have p129 : 0 ≤ (0 : Int) := (by omega); have q129 : 0 < (t123.length : Int) := of_decide_eq_true (by first | (with_reducible assumption) | assumption); obtain ⟨ad129, e129, hx129_0⟩ := Kd.at_string (Kd.R_reads' HO_4.out).2.2 0 p129 q129; obtain rfl : ad127 = ad129 := (by injection e129); have qi129 : (0 < t123.length) = True := eq_true (by omega); (try rw [show ((0 : Int)).toNat = 0 from rfl] at hx129_0); (try rw [Addr.add_zero'] at hx129_0); replace p129 := eq_true p129; replace q129 := eq_true q129) | (go_at_call 27; (with_reducible refine (spec_In.calls k1 (rdOf ByteArray.empty t123 0) 46 false _ A18.out).mono ?_); rintro e w' ⟨rfl, ⟨nd, rfl⟩⟩))
                go_meet
                case rel => exact ⟨_, (true), (by first | rfl | (simp; done) | (simp [*]; done)), H', ⟨by have := HK1.out; first | omega | exact Nat.le_refl _⟩, ⟨by repeat (first | (with_reducible first | exact HB.out | apply below_alloc | apply pw_below_drewN | apply below_drew1) | exact HB.out)⟩⟩
            · replace c17 := Bool.eq_false_iff.mpr c17
              subst c17
              have H1 : (spec_Path.j1 k1 a0 t122 true) = some r := by rw [if_neg (show ¬ (false = true) by decide)] at H; exact H
              clear H
              have H := H1
              clear H1
              have H' := Aside0.mk H
              clear H
              have p127 : 0 ≤ (0 : Int) := (by omega)
              have q127 : 0 < (t123.length : Int) := of_decide_eq_true (by first | (with_reducible assumption) | assumption)
              obtain ⟨ad127, e127, hx127_0⟩ := Kd.at_string (Kd.R_reads' HO_4.out).2.2 0 p127 q127
              cases e127
              have qi127 : (0 < t123.length) = True := eq_true (by omega)
              (try rw [show ((0 : Int)).toNat = 0 from rfl] at hx127_0)
              (try rw [Addr.add_zero'] at hx127_0)
              replace p127 := eq_true p127
              replace q127 := eq_true q127
              go_wp2_with (first | ((with_reducible refine gate_callee (f := 28) rfl ?_); refine goesL_ (some 31) rfl rfl Tryf.func28 (by kernel_rfl) rfl #[.string (rdOf ByteArray.empty t123 0), .bool true, .bool false, .string (⟨#[46, 45]⟩ : ByteArray)] rfl (by (try simp only [List.map_toArray, List.map_cons, List.map_nil]); first | done | rfl | (simp only [List.length_drop, List.length_take]; rfl)) ?_; (with_reducible refine (spec_All.calls k1 (rdOf ByteArray.empty t123 0) true false (⟨#[46, 45]⟩ : ByteArray) false _ A16.out).mono ?_); rintro e w' ⟨rfl, ⟨nd, rfl⟩⟩; refine ⟨_, rfl, ?_⟩))
              go_meet
              case rel => exact ⟨_, (true), (by first | rfl | (simp; done) | (simp [*]; done)), H', ⟨by have := HK1.out; first | omega | exact Nat.le_refl _⟩, ⟨by repeat (first | (with_reducible first | exact HB.out | apply below_alloc | apply pw_below_drewN | apply below_drew1) | exact HB.out)⟩⟩
          · rw [if_neg c15] at H
            exact absurd H (by simp)
        case rest =>
          clear HC14
          try clear c1
          try clear p1
          try clear q1
          try clear hx1
          try clear qi1
          try clear c2
          try clear p2
          try clear q2
          try clear hx2
          try clear qi2
          try clear c3
          try clear c4
          try clear p6
          try clear c7
          try clear c7b0
          try clear c8
          try clear c8b0
          try clear c9
          try clear c9b0
          try clear c10
          try clear c10b0
          try clear c10b1
          try clear c11
          try clear c11b0
          try clear c11b1
          try clear p12
          try clear q12
          try clear hx12
          try clear qi12
          try clear c13
          try clear c13b0
          try clear c13b1
          try clear p13
          try clear q13
          try clear hx13
          try clear qi13
          try clear c15
          try clear c15b0
          try clear c15b1
          try clear c17
          try clear c19
          try clear c20
          try clear c20b0
          try clear c20b1
          try clear p21
          try clear q21
          try clear hx21
          try clear qi21
          try clear hx126_0
          try clear hx127_0
          try clear hx129_0
          try clear hx131_0
          try clear p12
          try clear p126
          try clear p127
          try clear p129
          try clear p131
          try clear p2
          try clear p21
          try clear q12
          try clear q126
          try clear q127
          try clear q129
          try clear q131
          try clear q21
          obtain ⟨kq, x46_13, rfl, HA, HJ13, HB⟩ := hcut
          cases kq with
          | zero => exact absurd HA.out (by simp [spec_Path.j1])
          | succ kj13 =>
            have H := HA.out
            clear HA
            simp only [spec_Path.j1] at H
            by_cases c22 : x46_13 = true
            · subst c22
              have H1 : (some 2) = some r := by rw [if_pos rfl] at H; exact H
              clear H
              have H := H1
              clear H1
              obtain rfl := Option.some.inj H
              go_wp2
              go_ret
              exact ⟨by first | rfl | (simp [errW_none, errW_some] <;> rfl) | (simp [*, errW_none, errW_some] <;> rfl), by repeat (first | (with_reducible first | exact HB.out | apply below_alloc | apply pw_below_drewN | apply below_drew1) | exact HB.out)⟩
            · replace c22 := Bool.eq_false_iff.mpr c22
              subst c22
              have H1 : ((spec_Split.f kj13 a0).bind fun bt132 => ((spec_join.f kj13 t122 bt132.2).bind fun t134 => (some t134))) = some r := by rw [if_neg (show ¬ (false = true) by decide)] at H; exact H
              clear H
              have H := H1
              clear H1
              replace H := Option.bind_eq_some_iff.mp H
              obtain ⟨⟨t132, t133⟩, A230, H⟩ := H
              replace H : ((spec_join.f kj13 t122 t133).bind fun t134 => (some t134)) = some r := H
              have A23 := Aside0.mk A230
              clear A230
              replace H := Option.bind_eq_some_iff.mp H
              obtain ⟨t134, A240, H⟩ := H
              replace H : (some t134) = some r := H
              have A24 := Aside0.mk A240
              clear A240
              obtain rfl := Option.some.inj H
              go_wp2_with (first | ((with_reducible refine gate_callee (f := 45) rfl ?_); refine goesL_ (some 49) rfl rfl Tryf.func45 (by kernel_rfl) rfl #[.string a0] rfl (by (try simp only [List.map_toArray, List.map_cons, List.map_nil]); first | done | rfl | (simp only [List.length_drop, List.length_take]; rfl)) ?_; (with_reducible refine (spec_Split.calls kj13 a0 t132 t133 _ A23.out).mono ?_); rintro e w25 ⟨rfl, hb⟩; refine ⟨_, rfl, ?_⟩; have n0_ := Aside0.mk (below_step (by repeat (first | (with_reducible first | exact HB.out | apply below_alloc | apply pw_below_drewN | apply below_drew1) | exact HB.out)) hb); clear HB; have HB := n0_; clear n0_; (try clear hb); (try clear hb2); (try clear hk); (try clear hi)) | ((with_reducible refine gate_callee (f := 46) rfl ?_); refine goesL_ (some 54) rfl rfl Tryf.func46 (by kernel_rfl) rfl #[.int .i64 t122, .int .i64 t133] rfl (by (try simp only [List.map_toArray, List.map_cons, List.map_nil]); first | done | rfl | (simp only [List.length_drop, List.length_take]; rfl)) ?_; (with_reducible refine (spec_join.calls kj13 t122 t133 t134 _ A24.out).mono ?_); rintro e w' ⟨rfl, ⟨nd, rfl⟩⟩; refine ⟨_, rfl, ?_⟩))
              go_ret
              exact ⟨by first | rfl | (simp [errW_none, errW_some] <;> rfl) | (simp [*, errW_none, errW_some] <;> rfl), by repeat (first | (with_reducible first | exact HB.out | apply below_alloc | apply pw_below_drewN | apply below_drew1) | exact HB.out)⟩

/-! ### spec_FilePath: function 24 -/
/-! ### spec_ImportPath: function 26 -/
/-! ### spec_Name: function 18 -/
end Go.Proofs.YtpbebckhemnooaaFmt.PT
