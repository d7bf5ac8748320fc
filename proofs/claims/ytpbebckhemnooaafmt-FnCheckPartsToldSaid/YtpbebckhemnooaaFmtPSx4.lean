-- Written by a program (myprint.sh: the kit's print, turned to take contracts of mine): one Lean function and its contract for each Go function.
import Derived.Test.YtpbebckhemnooaaFmtPSx0
import Derived.Test.YtpbebckhemnooaaFmtPSx1
import Derived.Test.YtpbebckhemnooaaFmtPSx2
import Derived.Test.YtpbebckhemnooaaFmtPSx3
namespace Go.Proofs.YtpbebckhemnooaaFmt.PS
open Go.RowKit Go.Proofs.YtpbebckhemnooaaFmtW.PrintWords Go.Proofs.YtpbebckhemnooaaFmtW.PrintLast Go.Proofs.YtpbebckhemnooaaFmtW.PrintMore
attribute [local go_sem] max2_int min2_int max_two min_two max_three min_three max_four min_four   -- for this text's walks alone
set_option linter.unusedVariables false
set_option linter.unusedSimpArgs false

/-! ### spec_Split: function 45 -/
mutual
def spec_Split.j0 : Nat → ByteArray → Bool → Option (ByteArray × Int)
  | 0, _, _ => none
  | k + 1, x0, x13 => if x13 = true then ((spec_gopkg.f k x0).bind fun bt150 => (some (bt150.1, bt150.2))) else ((spec_Cut.f k x0 47).bind fun t152 => (if 0 ≤ (wrap64 ((t152.length : Int) - 1)) then (if (wrap64 ((t152.length : Int) - 1)) < (t152.length : Int) then (if (t152.length : Int) < 2 then (spec_Split.j1 k (rdOf ByteArray.empty t152 (wrap64 ((t152.length : Int) - 1))) true) else (if ((rdOf ByteArray.empty t152 (wrap64 ((t152.length : Int) - 1))).size : Int) < 2 then (spec_Split.j1 k (rdOf ByteArray.empty t152 (wrap64 ((t152.length : Int) - 1))) true) else (if 0 < ((rdOf ByteArray.empty t152 (wrap64 ((t152.length : Int) - 1))).size : Int) then (if (bt (rdOf ByteArray.empty t152 (wrap64 ((t152.length : Int) - 1))) 0) = 118 then (if 1 ≤ ((rdOf ByteArray.empty t152 (wrap64 ((t152.length : Int) - 1))).size : Int) then ((spec_All.f k ((rdOf ByteArray.empty t152 (wrap64 ((t152.length : Int) - 1))).extract 1 (rdOf ByteArray.empty t152 (wrap64 ((t152.length : Int) - 1))).size) false false (⟨#[46]⟩ : ByteArray)).bind fun t156 => (spec_Split.j1 k (rdOf ByteArray.empty t152 (wrap64 ((t152.length : Int) - 1))) (!t156))) else (none)) else (spec_Split.j1 k (rdOf ByteArray.empty t152 (wrap64 ((t152.length : Int) - 1))) true)) else (none)))) else (none)) else (none)))
def spec_Split.j1 : Nat → ByteArray → Bool → Option (ByteArray × Int)
  | 0, _, _ => none
  | k + 1, x5, x44 => if x44 = true then (some ((⟨#[]⟩ : ByteArray), 1)) else (if 1 < (x5.size : Int) then (if (bt x5 1) = 48 then (some ((⟨#[]⟩ : ByteArray), 2)) else (if (bt x5 1) = 46 then (some ((⟨#[]⟩ : ByteArray), 2)) else (if x5.toList = ([118, 49] : List UInt8) then (some ((⟨#[]⟩ : ByteArray), 2)) else ((spec_In.f k x5 46).bind fun t157 => (if t157 = true then (some ((⟨#[]⟩ : ByteArray), 2)) else (if 1 + x5.size ≤ 9223372036854775807 then (some ((⟨#[47]⟩ : ByteArray) ++ x5, 1)) else (none))))))) else (none))
end
def spec_Split.f (k : Nat) (a0 : ByteArray) : Option (ByteArray × Int) := if (a0.size : Int) ≥ 9 then (if 0 ≤ 9 then (if 9 ≤ (a0.size : Int) then (spec_Split.j0 k a0 ((a0.extract 0 9).toList == ([103, 111, 112, 107, 103, 46, 105, 110, 47] : List UInt8))) else (none)) else (none)) else (spec_Split.j0 k a0 false)
set_option maxHeartbeats 8000000 in
set_option maxRecDepth 100000 in
theorem spec_Split.calls (k : Nat) (a0 : ByteArray) (r1 : ByteArray) (r2 : Int) (w : World) (h : spec_Split.f k a0 = some (r1, r2)) :
    Calls Tryf.prog 45 #[.string a0] w fun e w' => e = .returned (.tuple #[.string r1, .int .i64 r2]) ∧ Below w.heap.size w w' := by
  have HB := Aside0.mk (Below.refl w.heap.size w)
  have H : (if (a0.size : Int) ≥ 9 then (if 0 ≤ 9 then (if 9 ≤ (a0.size : Int) then (spec_Split.j0 k a0 ((a0.extract 0 9).toList == ([103, 111, 112, 107, 103, 46, 105, 110, 47] : List UInt8))) else (none)) else (none)) else (spec_Split.j0 k a0 false)) = some (r1, r2) := h
  clear h
  have HC2 := Aside0.mk H
  clear H
  go_enter Tryf.func45, Tryf.ntmps45
  go_upto_region 1 with (fail)
  go_cut [13] (fun v13 wc => ∃ (kq : Nat) (x13_1 : Bool), v13 = .bool x13_1 ∧ Aside0 (spec_Split.j0 kq a0 x13_1 = some (r1, r2)) ∧ Aside0 (kq ≤ k) ∧ Aside0 (Below w.heap.size w wc))
  case first =>
    have H := HC2.out
    clear HC2
    by_cases c3 : (a0.size : Int) ≥ 9
    · rw [if_pos c3] at H
      have c3b0 : decide (9 ≤ (a0.size : Int)) = true := decide_eq_true c3
      have c3b1 : decide (9 ≤ a0.size) = true := decide_eq_true (by omega)
      clear c3
      (first | rw [c3b0] | (simp only [i64_w, i32_w]; rw [c3b0]) | skip)
      by_cases c4 : 0 ≤ 9
      · rw [if_pos c4] at H
        have c4b0 := eq_true c4
        have c4b1 : decide (0 ≤ 9) = true := decide_eq_true c4
        clear c4
        by_cases c5 : 9 ≤ (a0.size : Int)
        · rw [if_pos c5] at H
          have c5b0 := eq_true c5
          have c5b1 : decide (9 ≤ (a0.size : Int)) = true := decide_eq_true c5
          clear c5
          have H' := Aside0.mk H
          clear H
          go_wp2
          go_meet
          case rel => exact ⟨_, (((a0.extract 0 9).toList == ([103, 111, 112, 107, 103, 46, 105, 110, 47] : List UInt8))), (by first | rfl | (simp; done) | (simp [*]; done)), H', ⟨by first | omega | exact Nat.le_refl _⟩, ⟨by repeat (first | (with_reducible first | exact HB.out | apply below_alloc | apply pw_below_drewN | apply below_drew1) | exact HB.out)⟩⟩
        · rw [if_neg c5] at H
          exact absurd H (by simp)
      · rw [if_neg c4] at H
        exact absurd H (by simp)
    · rw [if_neg c3] at H
      have c3b0 : decide (9 ≤ (a0.size : Int)) = false := decide_eq_false c3
      have c3b1 : decide (9 ≤ a0.size) = false := decide_eq_false (by omega)
      clear c3
      (first | rw [c3b0] | (simp only [i64_w, i32_w]; rw [c3b0]) | skip)
      have H' := Aside0.mk H
      clear H
      go_wp2
      go_meet
      case rel => exact ⟨_, (false), (by first | rfl | (simp; done) | (simp [*]; done)), H', ⟨by first | omega | exact Nat.le_refl _⟩, ⟨by repeat (first | (with_reducible first | exact HB.out | apply below_alloc | apply pw_below_drewN | apply below_drew1) | exact HB.out)⟩⟩
  case rest =>
    clear HC2
    try clear p2
    try clear c3
    try clear c3b0
    try clear c3b1
    try clear c4
    try clear c4b0
    try clear c4b1
    try clear c5
    try clear c5b0
    try clear c5b1
    obtain ⟨kq, x13_1, rfl, HA, HJ1, HB⟩ := hcut
    cases kq with
    | zero => exact absurd HA.out (by simp [spec_Split.j0])
    | succ kj1 =>
      have H := HA.out
      clear HA
      simp only [spec_Split.j0] at H
      by_cases c6 : x13_1 = true
      · subst c6
        have H1 : ((spec_gopkg.f kj1 a0).bind fun bt150 => (some (bt150.1, bt150.2))) = some (r1, r2) := by rw [if_pos rfl] at H; exact H
        clear H
        have H := H1
        clear H1
        replace H := Option.bind_eq_some_iff.mp H
        obtain ⟨⟨t150, t151⟩, A70, H⟩ := H
        replace H : (some (t150, t151)) = some (r1, r2) := H
        have A7 := Aside0.mk A70
        clear A70
        simp only [Option.some.injEq, Prod.mk.injEq] at H
        obtain ⟨rfl, rfl⟩ := H
        go_wp2_with (first | ((with_reducible refine gate_callee (f := 66) rfl ?_); refine goesL_ (some 15) rfl rfl Tryf.func66 (by kernel_rfl) rfl #[.string a0] rfl (by (try simp only [List.map_toArray, List.map_cons, List.map_nil]); first | done | rfl | (simp only [List.length_drop, List.length_take]; rfl)) ?_; (with_reducible refine (spec_gopkg.calls kj1 a0 t150 t151 _ A7.out).mono ?_); rintro e w8 ⟨rfl, hb⟩; refine ⟨_, rfl, ?_⟩; have n0_ := Aside0.mk (below_step (by repeat (first | (with_reducible first | exact HB.out | apply below_alloc | apply pw_below_drewN | apply below_drew1) | exact HB.out)) hb); clear HB; have HB := n0_; clear n0_; (try clear hb); (try clear hb2); (try clear hk); (try clear hi)))
        go_ret2
        exact ⟨by first | rfl | (simp [errW_none, errW_some] <;> rfl) | (simp [*, errW_none, errW_some] <;> rfl), by repeat (first | (with_reducible first | exact HB.out | apply below_alloc | apply pw_below_drewN | apply below_drew1) | exact HB.out)⟩
      · replace c6 := Bool.eq_false_iff.mpr c6
        subst c6
        have H1 : ((spec_Cut.f kj1 a0 47).bind fun t152 => (if 0 ≤ (wrap64 ((t152.length : Int) - 1)) then (if (wrap64 ((t152.length : Int) - 1)) < (t152.length : Int) then (if (t152.length : Int) < 2 then (spec_Split.j1 kj1 (rdOf ByteArray.empty t152 (wrap64 ((t152.length : Int) - 1))) true) else (if ((rdOf ByteArray.empty t152 (wrap64 ((t152.length : Int) - 1))).size : Int) < 2 then (spec_Split.j1 kj1 (rdOf ByteArray.empty t152 (wrap64 ((t152.length : Int) - 1))) true) else (if 0 < ((rdOf ByteArray.empty t152 (wrap64 ((t152.length : Int) - 1))).size : Int) then (if (bt (rdOf ByteArray.empty t152 (wrap64 ((t152.length : Int) - 1))) 0) = 118 then (if 1 ≤ ((rdOf ByteArray.empty t152 (wrap64 ((t152.length : Int) - 1))).size : Int) then ((spec_All.f kj1 ((rdOf ByteArray.empty t152 (wrap64 ((t152.length : Int) - 1))).extract 1 (rdOf ByteArray.empty t152 (wrap64 ((t152.length : Int) - 1))).size) false false (⟨#[46]⟩ : ByteArray)).bind fun t156 => (spec_Split.j1 kj1 (rdOf ByteArray.empty t152 (wrap64 ((t152.length : Int) - 1))) (!t156))) else (none)) else (spec_Split.j1 kj1 (rdOf ByteArray.empty t152 (wrap64 ((t152.length : Int) - 1))) true)) else (none)))) else (none)) else (none))) = some (r1, r2) := by rw [if_neg (show ¬ (false = true) by decide)] at H; exact H
        clear H
        have H := H1
        clear H1
        replace H := Option.bind_eq_some_iff.mp H
        obtain ⟨t152, A90, H⟩ := H
        replace H : (if 0 ≤ (wrap64 ((t152.length : Int) - 1)) then (if (wrap64 ((t152.length : Int) - 1)) < (t152.length : Int) then (if (t152.length : Int) < 2 then (spec_Split.j1 kj1 (rdOf ByteArray.empty t152 (wrap64 ((t152.length : Int) - 1))) true) else (if ((rdOf ByteArray.empty t152 (wrap64 ((t152.length : Int) - 1))).size : Int) < 2 then (spec_Split.j1 kj1 (rdOf ByteArray.empty t152 (wrap64 ((t152.length : Int) - 1))) true) else (if 0 < ((rdOf ByteArray.empty t152 (wrap64 ((t152.length : Int) - 1))).size : Int) then (if (bt (rdOf ByteArray.empty t152 (wrap64 ((t152.length : Int) - 1))) 0) = 118 then (if 1 ≤ ((rdOf ByteArray.empty t152 (wrap64 ((t152.length : Int) - 1))).size : Int) then ((spec_All.f kj1 ((rdOf ByteArray.empty t152 (wrap64 ((t152.length : Int) - 1))).extract 1 (rdOf ByteArray.empty t152 (wrap64 ((t152.length : Int) - 1))).size) false false (⟨#[46]⟩ : ByteArray)).bind fun t156 => (spec_Split.j1 kj1 (rdOf ByteArray.empty t152 (wrap64 ((t152.length : Int) - 1))) (!t156))) else (none)) else (spec_Split.j1 kj1 (rdOf ByteArray.empty t152 (wrap64 ((t152.length : Int) - 1))) true)) else (none)))) else (none)) else (none)) = some (r1, r2) := H
        have A9 := Aside0.mk A90
        clear A90
        obtain ⟨ji10, hji10⟩ : ∃ j_ : Int, (wrap64 ((t152.length : Int) - 1)) = j_ := ⟨_, rfl⟩
        replace H : (if 0 ≤ (ji10) then (if (ji10) < (t152.length : Int) then (if (t152.length : Int) < 2 then (spec_Split.j1 kj1 (rdOf ByteArray.empty t152 (ji10)) true) else (if ((rdOf ByteArray.empty t152 (ji10)).size : Int) < 2 then (spec_Split.j1 kj1 (rdOf ByteArray.empty t152 (ji10)) true) else (if 0 < ((rdOf ByteArray.empty t152 (ji10)).size : Int) then (if (bt (rdOf ByteArray.empty t152 (ji10)) 0) = 118 then (if 1 ≤ ((rdOf ByteArray.empty t152 (ji10)).size : Int) then ((spec_All.f kj1 ((rdOf ByteArray.empty t152 (ji10)).extract 1 (rdOf ByteArray.empty t152 (ji10)).size) false false (⟨#[46]⟩ : ByteArray)).bind fun t156 => (spec_Split.j1 kj1 (rdOf ByteArray.empty t152 (ji10)) (!t156))) else (none)) else (spec_Split.j1 kj1 (rdOf ByteArray.empty t152 (ji10)) true)) else (none)))) else (none)) else (none)) = some (r1, r2) := by first | (rw [hji10] at H; exact H) | (simp only [hji10] at H ⊢; exact H)
        (try rw [hji10] at A9)
        have hji10w : (IntKind.i64.wrap ((t152.length : Int) - 1)) = ji10 := (i64_w _).trans hji10
        by_cases c11 : 0 ≤ (ji10)
        · rw [if_pos c11] at H
          have c11b0 : decide (0 ≤ (ji10)) = true := decide_eq_true c11
          clear c11
          by_cases c12 : (ji10) < (t152.length : Int)
          · rw [if_pos c12] at H
            have c12b0 : decide ((ji10) < (t152.length : Int)) = true := decide_eq_true c12
            clear c12
            have HC13 := Aside0.mk H
            clear H
            go_upto_region 5 with (first | ((with_reducible refine gate_callee (f := 44) rfl ?_); refine goesL_ (some 19) rfl rfl Tryf.func44 (by kernel_rfl) rfl #[.string a0, .int .u8 47] rfl (by (try simp only [List.map_toArray, List.map_cons, List.map_nil]); first | done | rfl | (simp only [List.length_drop, List.length_take]; rfl)) ?_; (with_reducible refine (spec_Cut.calls kj1 a0 47 t152 _ A9.out).mono ?_); rintro e w14 ⟨v153, rfl, ho0, hb⟩; refine ⟨_, rfl, ?_⟩; have n0_ := Aside0.mk (Kd.R_lower ho0 (below_size (by repeat (first | (with_reducible first | exact HB.out | apply below_alloc | apply pw_below_drewN | apply below_drew1) | exact HB.out)))); have n1_ := Aside0.mk (below_step (by repeat (first | (with_reducible first | exact HB.out | apply below_alloc | apply pw_below_drewN | apply below_drew1) | exact HB.out)) hb); clear HB; have HO154 := n0_; have HB := n1_; clear n0_ n1_; (try clear hb); (try clear hb2); (try clear hk); (try clear hi); (try clear ho0); obtain ⟨Ao15, co15, eo15⟩ := Kd.R_slice HO154.out; subst eo15; have p155 : 0 ≤ ((ji10) : Int) := of_decide_eq_true (by first | (with_reducible assumption) | assumption); have q155 : (ji10) < (t152.length : Int) := of_decide_eq_true (by first | (with_reducible assumption) | assumption); obtain ⟨ad155, e155, hx155_0⟩ := Kd.at_string (Kd.R_reads' HO154.out).2.2 (ji10) p155 q155; cases e155; replace p155 := eq_true p155; replace q155 := eq_true q155))
            (try simp only [Act.put, List.setIfInBounds_toArray, List.set_cons_zero, List.set_cons_succ])
            go_cut [44] (fun v44 wc => ∃ (kq : Nat) (x44_12 : Bool), v44 = .bool x44_12 ∧ Aside0 (spec_Split.j1 kq (rdOf ByteArray.empty t152 (ji10)) x44_12 = some (r1, r2)) ∧ Aside0 (kq ≤ kj1) ∧ Aside0 (Below w.heap.size w wc))
            case first =>
              have H := HC13.out
              clear HC13
              by_cases c16 : (t152.length : Int) < 2
              · rw [if_pos c16] at H
                have c16b0 : decide ((t152.length : Int) < 2) = true := decide_eq_true c16
                have c16b1 : decide (t152.length < 2) = true := decide_eq_true (by omega)
                clear c16
                (first | rw [c16b0] | (simp only [i64_w, i32_w]; rw [c16b0]) | skip)
                have H' := Aside0.mk H
                clear H
                go_wp2
                go_meet
                case rel => exact ⟨_, (true), (by first | rfl | (simp; done) | (simp [*]; done)), H', ⟨by have := HJ1.out; first | omega | exact Nat.le_refl _⟩, ⟨by repeat (first | (with_reducible first | exact HB.out | apply below_alloc | apply pw_below_drewN | apply below_drew1) | exact HB.out)⟩⟩
              · rw [if_neg c16] at H
                have c16b0 : decide ((t152.length : Int) < 2) = false := decide_eq_false c16
                have c16b1 : decide (t152.length < 2) = false := decide_eq_false (by omega)
                clear c16
                (first | rw [c16b0] | (simp only [i64_w, i32_w]; rw [c16b0]) | skip)
                by_cases c17 : ((rdOf ByteArray.empty t152 (ji10)).size : Int) < 2
                · rw [if_pos c17] at H
                  have c17b0 : decide (((rdOf ByteArray.empty t152 (ji10)).size : Int) < 2) = true := decide_eq_true c17
                  have c17b1 : decide ((rdOf ByteArray.empty t152 (ji10)).size < 2) = true := decide_eq_true (by omega)
                  clear c17
                  have H' := Aside0.mk H
                  clear H
                  go_wp2
                  go_meet
                  case rel => exact ⟨_, (true), (by first | rfl | (simp; done) | (simp [*]; done)), H', ⟨by have := HJ1.out; first | omega | exact Nat.le_refl _⟩, ⟨by repeat (first | (with_reducible first | exact HB.out | apply below_alloc | apply pw_below_drewN | apply below_drew1) | exact HB.out)⟩⟩
                · rw [if_neg c17] at H
                  have c17b0 : decide (((rdOf ByteArray.empty t152 (ji10)).size : Int) < 2) = false := decide_eq_false c17
                  have c17b1 : decide ((rdOf ByteArray.empty t152 (ji10)).size < 2) = false := decide_eq_false (by omega)
                  clear c17
                  by_cases c18 : 0 < ((rdOf ByteArray.empty t152 (ji10)).size : Int)
                  · rw [if_pos c18] at H
                    have c18b0 : decide (0 < ((rdOf ByteArray.empty t152 (ji10)).size : Int)) = true := decide_eq_true c18
                    have c18b1 : decide (0 < (rdOf ByteArray.empty t152 (ji10)).size) = true := decide_eq_true (by omega)
                    clear c18
                    by_cases c20 : (bt (rdOf ByteArray.empty t152 (ji10)) 0) = 118
                    · rw [if_pos c20] at H
                      have c20b0 : ((bt (rdOf ByteArray.empty t152 (ji10)) 0) == 118) = true := beq_iff_eq.mpr c20
                      have c20b1 : ((bt (rdOf ByteArray.empty t152 (ji10)) 0) != 118) = false := bne_eq_false_iff_eq.mpr c20
                      clear c20
                      by_cases c21 : 1 ≤ ((rdOf ByteArray.empty t152 (ji10)).size : Int)
                      · rw [if_pos c21] at H
                        have c21b0 := eq_true c21
                        have c21b1 : decide (1 ≤ ((rdOf ByteArray.empty t152 (ji10)).size : Int)) = true := decide_eq_true c21
                        clear c21
                        replace H := Option.bind_eq_some_iff.mp H
                        obtain ⟨t156, A220, H⟩ := H
                        replace H : (spec_Split.j1 kj1 (rdOf ByteArray.empty t152 (ji10)) (!t156)) = some (r1, r2) := H
                        have A22 := Aside0.mk A220
                        clear A220
                        have H' := Aside0.mk H
                        clear H
                        have p19 : 0 ≤ (0 : Int) := (by omega)
                        have q19 : 0 < (rdOf ByteArray.empty t152 (ji10)).size := (by have : (0 : Int) < ((rdOf ByteArray.empty t152 (ji10)).size : Int) := of_decide_eq_true (by first | (with_reducible assumption) | assumption); omega)
                        have hx19 : ∀ h : 0 < (rdOf ByteArray.empty t152 (ji10)).size, (((rdOf ByteArray.empty t152 (ji10))[0]'h).toNat : Int) = bt (rdOf ByteArray.empty t152 (ji10)) 0 := bt_at (rdOf ByteArray.empty t152 (ji10)) 0
                        clear p19
                        have qi19 : (0 < ((rdOf ByteArray.empty t152 (ji10)).size : Int)) = True := eq_true (of_decide_eq_true (by first | (with_reducible assumption) | assumption))
                        replace q19 := eq_true q19
                        go_wp2_with (first | (go_at_call 28; (with_reducible refine (spec_All.calls kj1 ((rdOf ByteArray.empty t152 (ji10)).extract 1 (rdOf ByteArray.empty t152 (ji10)).size) false false (⟨#[46]⟩ : ByteArray) t156 _ A22.out).mono ?_); rintro e w' ⟨rfl, ⟨nd, rfl⟩⟩))
                        go_meet
                        case rel => exact ⟨_, (!t156), (by first | rfl | (simp; done) | (simp [*]; done)), H', ⟨by have := HJ1.out; first | omega | exact Nat.le_refl _⟩, ⟨by repeat (first | (with_reducible first | exact HB.out | apply below_alloc | apply pw_below_drewN | apply below_drew1) | exact HB.out)⟩⟩
                      · rw [if_neg c21] at H
                        exact absurd H (by simp)
                    · rw [if_neg c20] at H
                      have c20b0 : ((bt (rdOf ByteArray.empty t152 (ji10)) 0) == 118) = false := beq_eq_false_iff_ne.mpr c20
                      have c20b1 : ((bt (rdOf ByteArray.empty t152 (ji10)) 0) != 118) = true := bne_iff_ne.mpr c20
                      have H' := Aside0.mk H
                      clear H
                      have p19 : 0 ≤ (0 : Int) := (by omega)
                      have q19 : 0 < (rdOf ByteArray.empty t152 (ji10)).size := (by have : (0 : Int) < ((rdOf ByteArray.empty t152 (ji10)).size : Int) := of_decide_eq_true (by first | (with_reducible assumption) | assumption); omega)
                      have hx19 : ∀ h : 0 < (rdOf ByteArray.empty t152 (ji10)).size, (((rdOf ByteArray.empty t152 (ji10))[0]'h).toNat : Int) = bt (rdOf ByteArray.empty t152 (ji10)) 0 := bt_at (rdOf ByteArray.empty t152 (ji10)) 0
                      clear p19
                      have qi19 : (0 < ((rdOf ByteArray.empty t152 (ji10)).size : Int)) = True := eq_true (of_decide_eq_true (by first | (with_reducible assumption) | assumption))
                      replace q19 := eq_true q19
                      go_wp2
                      go_meet
                      case rel => exact ⟨_, (true), (by first | rfl | (simp; done) | (simp [*]; done)), H', ⟨by have := HJ1.out; first | omega | exact Nat.le_refl _⟩, ⟨by repeat (first | (with_reducible first | exact HB.out | apply below_alloc | apply pw_below_drewN | apply below_drew1) | exact HB.out)⟩⟩
                  · rw [if_neg c18] at H
                    exact absurd H (by simp)
            case rest =>
              clear HC13
              try clear c1
              try clear p1
              try clear q1
              try clear hx1
              try clear qi1
              try clear c2
              try clear p2
              try clear c3
              try clear c3b0
              try clear c3b1
              try clear c4
              try clear c4b0
              try clear c4b1
              try clear c5
              try clear c5b0
              try clear c5b1
              try clear c6
              try clear p6
              try clear c11
              try clear c11b0
              try clear c12
              try clear c12b0
              try clear p15
              try clear q15
              try clear hx15
              try clear c16
              try clear c16b0
              try clear c16b1
              try clear c17
              try clear c17b0
              try clear c17b1
              try clear c18
              try clear c18b0
              try clear c18b1
              try clear p19
              try clear q19
              try clear hx19
              try clear qi19
              try clear c20
              try clear c20b0
              try clear c20b1
              try clear c21
              try clear c21b0
              try clear c21b1
              try clear hx155_0
              try clear p155
              try clear p19
              try clear p2
              try clear q155
              try clear q19
              obtain ⟨kq, x44_12, rfl, HA, HJ12, HB⟩ := hcut
              cases kq with
              | zero => exact absurd HA.out (by simp [spec_Split.j1])
              | succ kj12 =>
                have H := HA.out
                clear HA
                simp only [spec_Split.j1] at H
                by_cases c23 : x44_12 = true
                · subst c23
                  have H1 : (some ((⟨#[]⟩ : ByteArray), 1)) = some (r1, r2) := by rw [if_pos rfl] at H; exact H
                  clear H
                  have H := H1
                  clear H1
                  simp only [Option.some.injEq, Prod.mk.injEq] at H
                  obtain ⟨rfl, rfl⟩ := H
                  go_wp2
                  go_ret2
                  exact ⟨by first | rfl | (simp [errW_none, errW_some] <;> rfl) | (simp only [← hji10]; first | rfl | (simp [errW_none, errW_some] <;> rfl)) | (simp [*, errW_none, errW_some] <;> rfl), by repeat (first | (with_reducible first | exact HB.out | apply below_alloc | apply pw_below_drewN | apply below_drew1) | exact HB.out)⟩
                · replace c23 := Bool.eq_false_iff.mpr c23
                  subst c23
                  have H1 : (if 1 < ((rdOf ByteArray.empty t152 (ji10)).size : Int) then (if (bt (rdOf ByteArray.empty t152 (ji10)) 1) = 48 then (some ((⟨#[]⟩ : ByteArray), 2)) else (if (bt (rdOf ByteArray.empty t152 (ji10)) 1) = 46 then (some ((⟨#[]⟩ : ByteArray), 2)) else (if (rdOf ByteArray.empty t152 (ji10)).toList = ([118, 49] : List UInt8) then (some ((⟨#[]⟩ : ByteArray), 2)) else ((spec_In.f kj12 (rdOf ByteArray.empty t152 (ji10)) 46).bind fun t157 => (if t157 = true then (some ((⟨#[]⟩ : ByteArray), 2)) else (if 1 + (rdOf ByteArray.empty t152 (ji10)).size ≤ 9223372036854775807 then (some ((⟨#[47]⟩ : ByteArray) ++ (rdOf ByteArray.empty t152 (ji10)), 1)) else (none))))))) else (none)) = some (r1, r2) := by rw [if_neg (show ¬ (false = true) by decide)] at H; exact H
                  clear H
                  have H := H1
                  clear H1
                  by_cases c24 : 1 < ((rdOf ByteArray.empty t152 (ji10)).size : Int)
                  · rw [if_pos c24] at H
                    have c24b0 : decide (1 < ((rdOf ByteArray.empty t152 (ji10)).size : Int)) = true := decide_eq_true c24
                    have c24b1 : decide (1 < (rdOf ByteArray.empty t152 (ji10)).size) = true := decide_eq_true (by omega)
                    clear c24
                    by_cases c26 : (bt (rdOf ByteArray.empty t152 (ji10)) 1) = 48
                    · rw [if_pos c26] at H
                      have c26b0 : ((bt (rdOf ByteArray.empty t152 (ji10)) 1) == 48) = true := beq_iff_eq.mpr c26
                      have c26b1 : ((bt (rdOf ByteArray.empty t152 (ji10)) 1) != 48) = false := bne_eq_false_iff_eq.mpr c26
                      clear c26
                      simp only [Option.some.injEq, Prod.mk.injEq] at H
                      obtain ⟨rfl, rfl⟩ := H
                      have p25 : 0 ≤ (1 : Int) := (by omega)
                      have q25 : 1 < (rdOf ByteArray.empty t152 (ji10)).size := (by have : (1 : Int) < ((rdOf ByteArray.empty t152 (ji10)).size : Int) := of_decide_eq_true (by first | (with_reducible assumption) | assumption); omega)
                      have hx25 : ∀ h : 1 < (rdOf ByteArray.empty t152 (ji10)).size, (((rdOf ByteArray.empty t152 (ji10))[1]'h).toNat : Int) = bt (rdOf ByteArray.empty t152 (ji10)) 1 := bt_at (rdOf ByteArray.empty t152 (ji10)) 1
                      clear p25
                      have qi25 : (1 < ((rdOf ByteArray.empty t152 (ji10)).size : Int)) = True := eq_true (of_decide_eq_true (by first | (with_reducible assumption) | assumption))
                      replace q25 := eq_true q25
                      go_wp2
                      go_ret2
                      exact ⟨by first | rfl | (simp [errW_none, errW_some] <;> rfl) | (simp only [← hji10]; first | rfl | (simp [errW_none, errW_some] <;> rfl)) | (simp [*, errW_none, errW_some] <;> rfl), by repeat (first | (with_reducible first | exact HB.out | apply below_alloc | apply pw_below_drewN | apply below_drew1) | exact HB.out)⟩
                    · rw [if_neg c26] at H
                      have c26b0 : ((bt (rdOf ByteArray.empty t152 (ji10)) 1) == 48) = false := beq_eq_false_iff_ne.mpr c26
                      have c26b1 : ((bt (rdOf ByteArray.empty t152 (ji10)) 1) != 48) = true := bne_iff_ne.mpr c26
                      by_cases c28 : (bt (rdOf ByteArray.empty t152 (ji10)) 1) = 46
                      · rw [if_pos c28] at H
                        have c28b0 : ((bt (rdOf ByteArray.empty t152 (ji10)) 1) == 46) = true := beq_iff_eq.mpr c28
                        have c28b1 : ((bt (rdOf ByteArray.empty t152 (ji10)) 1) != 46) = false := bne_eq_false_iff_eq.mpr c28
                        clear c28
                        simp only [Option.some.injEq, Prod.mk.injEq] at H
                        obtain ⟨rfl, rfl⟩ := H
                        have p25 : 0 ≤ (1 : Int) := (by omega)
                        have q25 : 1 < (rdOf ByteArray.empty t152 (ji10)).size := (by have : (1 : Int) < ((rdOf ByteArray.empty t152 (ji10)).size : Int) := of_decide_eq_true (by first | (with_reducible assumption) | assumption); omega)
                        have hx25 : ∀ h : 1 < (rdOf ByteArray.empty t152 (ji10)).size, (((rdOf ByteArray.empty t152 (ji10))[1]'h).toNat : Int) = bt (rdOf ByteArray.empty t152 (ji10)) 1 := bt_at (rdOf ByteArray.empty t152 (ji10)) 1
                        clear p25
                        have qi25 : (1 < ((rdOf ByteArray.empty t152 (ji10)).size : Int)) = True := eq_true (of_decide_eq_true (by first | (with_reducible assumption) | assumption))
                        replace q25 := eq_true q25
                        have p27 : 0 ≤ (1 : Int) := (by omega)
                        have q27 : 1 < (rdOf ByteArray.empty t152 (ji10)).size := (by have : (1 : Int) < ((rdOf ByteArray.empty t152 (ji10)).size : Int) := of_decide_eq_true (by first | (with_reducible assumption) | assumption); omega)
                        have hx27 : ∀ h : 1 < (rdOf ByteArray.empty t152 (ji10)).size, (((rdOf ByteArray.empty t152 (ji10))[1]'h).toNat : Int) = bt (rdOf ByteArray.empty t152 (ji10)) 1 := bt_at (rdOf ByteArray.empty t152 (ji10)) 1
                        clear p27
                        have qi27 : (1 < ((rdOf ByteArray.empty t152 (ji10)).size : Int)) = True := eq_true (of_decide_eq_true (by first | (with_reducible assumption) | assumption))
                        replace q27 := eq_true q27
                        go_wp2
                        go_ret2
                        exact ⟨by first | rfl | (simp [errW_none, errW_some] <;> rfl) | (simp only [← hji10]; first | rfl | (simp [errW_none, errW_some] <;> rfl)) | (simp [*, errW_none, errW_some] <;> rfl), by repeat (first | (with_reducible first | exact HB.out | apply below_alloc | apply pw_below_drewN | apply below_drew1) | exact HB.out)⟩
                      · rw [if_neg c28] at H
                        have c28b0 : ((bt (rdOf ByteArray.empty t152 (ji10)) 1) == 46) = false := beq_eq_false_iff_ne.mpr c28
                        have c28b1 : ((bt (rdOf ByteArray.empty t152 (ji10)) 1) != 46) = true := bne_iff_ne.mpr c28
                        by_cases c29 : (rdOf ByteArray.empty t152 (ji10)).toList = ([118, 49] : List UInt8)
                        · rw [if_pos c29] at H
                          have c29b0 : ((rdOf ByteArray.empty t152 (ji10)).toList == ([118, 49] : List UInt8)) = true := beq_iff_eq.mpr c29
                          have c29b1 : ((rdOf ByteArray.empty t152 (ji10)).toList != ([118, 49] : List UInt8)) = false := bne_eq_false_iff_eq.mpr c29
                          clear c29
                          simp only [Option.some.injEq, Prod.mk.injEq] at H
                          obtain ⟨rfl, rfl⟩ := H
                          have p25 : 0 ≤ (1 : Int) := (by omega)
                          have q25 : 1 < (rdOf ByteArray.empty t152 (ji10)).size := (by have : (1 : Int) < ((rdOf ByteArray.empty t152 (ji10)).size : Int) := of_decide_eq_true (by first | (with_reducible assumption) | assumption); omega)
                          have hx25 : ∀ h : 1 < (rdOf ByteArray.empty t152 (ji10)).size, (((rdOf ByteArray.empty t152 (ji10))[1]'h).toNat : Int) = bt (rdOf ByteArray.empty t152 (ji10)) 1 := bt_at (rdOf ByteArray.empty t152 (ji10)) 1
                          clear p25
                          have qi25 : (1 < ((rdOf ByteArray.empty t152 (ji10)).size : Int)) = True := eq_true (of_decide_eq_true (by first | (with_reducible assumption) | assumption))
                          replace q25 := eq_true q25
                          have p27 : 0 ≤ (1 : Int) := (by omega)
                          have q27 : 1 < (rdOf ByteArray.empty t152 (ji10)).size := (by have : (1 : Int) < ((rdOf ByteArray.empty t152 (ji10)).size : Int) := of_decide_eq_true (by first | (with_reducible assumption) | assumption); omega)
                          have hx27 : ∀ h : 1 < (rdOf ByteArray.empty t152 (ji10)).size, (((rdOf ByteArray.empty t152 (ji10))[1]'h).toNat : Int) = bt (rdOf ByteArray.empty t152 (ji10)) 1 := bt_at (rdOf ByteArray.empty t152 (ji10)) 1
                          clear p27
                          have qi27 : (1 < ((rdOf ByteArray.empty t152 (ji10)).size : Int)) = True := eq_true (of_decide_eq_true (by first | (with_reducible assumption) | assumption))
                          replace q27 := eq_true q27
                          go_wp2
                          go_ret2
                          exact ⟨by first | rfl | (simp [errW_none, errW_some] <;> rfl) | (simp only [← hji10]; first | rfl | (simp [errW_none, errW_some] <;> rfl)) | (simp [*, errW_none, errW_some] <;> rfl), by repeat (first | (with_reducible first | exact HB.out | apply below_alloc | apply pw_below_drewN | apply below_drew1) | exact HB.out)⟩
                        · rw [if_neg c29] at H
                          have c29b0 : ((rdOf ByteArray.empty t152 (ji10)).toList == ([118, 49] : List UInt8)) = false := beq_eq_false_iff_ne.mpr c29
                          have c29b1 : ((rdOf ByteArray.empty t152 (ji10)).toList != ([118, 49] : List UInt8)) = true := bne_iff_ne.mpr c29
                          replace H := Option.bind_eq_some_iff.mp H
                          obtain ⟨t157, A300, H⟩ := H
                          replace H : (if t157 = true then (some ((⟨#[]⟩ : ByteArray), 2)) else (if 1 + (rdOf ByteArray.empty t152 (ji10)).size ≤ 9223372036854775807 then (some ((⟨#[47]⟩ : ByteArray) ++ (rdOf ByteArray.empty t152 (ji10)), 1)) else (none))) = some (r1, r2) := H
                          have A30 := Aside0.mk A300
                          clear A300
                          by_cases c31 : t157 = true
                          · subst c31
                            have H1 : (some ((⟨#[]⟩ : ByteArray), 2)) = some (r1, r2) := by rw [if_pos rfl] at H; exact H
                            clear H
                            have H := H1
                            clear H1
                            simp only [Option.some.injEq, Prod.mk.injEq] at H
                            obtain ⟨rfl, rfl⟩ := H
                            have p25 : 0 ≤ (1 : Int) := (by omega)
                            have q25 : 1 < (rdOf ByteArray.empty t152 (ji10)).size := (by have : (1 : Int) < ((rdOf ByteArray.empty t152 (ji10)).size : Int) := of_decide_eq_true (by first | (with_reducible assumption) | assumption); omega)
                            have hx25 : ∀ h : 1 < (rdOf ByteArray.empty t152 (ji10)).size, (((rdOf ByteArray.empty t152 (ji10))[1]'h).toNat : Int) = bt (rdOf ByteArray.empty t152 (ji10)) 1 := bt_at (rdOf ByteArray.empty t152 (ji10)) 1
                            clear p25
                            have qi25 : (1 < ((rdOf ByteArray.empty t152 (ji10)).size : Int)) = True := eq_true (of_decide_eq_true (by first | (with_reducible assumption) | assumption))
                            replace q25 := eq_true q25
                            have p27 : 0 ≤ (1 : Int) := (by omega)
                            have q27 : 1 < (rdOf ByteArray.empty t152 (ji10)).size := (by have : (1 : Int) < ((rdOf ByteArray.empty t152 (ji10)).size : Int) := of_decide_eq_true (by first | (with_reducible assumption) | assumption); omega)
                            have hx27 : ∀ h : 1 < (rdOf ByteArray.empty t152 (ji10)).size, (((rdOf ByteArray.empty t152 (ji10))[1]'h).toNat : Int) = bt (rdOf ByteArray.empty t152 (ji10)) 1 := bt_at (rdOf ByteArray.empty t152 (ji10)) 1
                            clear p27
                            have qi27 : (1 < ((rdOf ByteArray.empty t152 (ji10)).size : Int)) = True := eq_true (of_decide_eq_true (by first | (with_reducible assumption) | assumption))
                            replace q27 := eq_true q27
                            go_wp2_with (first | (go_at_call 27; (with_reducible refine (spec_In.calls kj12 (rdOf ByteArray.empty t152 (ji10)) 46 true _ A30.out).mono ?_); rintro e w' ⟨rfl, ⟨nd, rfl⟩⟩))
                            go_ret2
                            exact ⟨by first | rfl | (simp [errW_none, errW_some] <;> rfl) | (simp only [← hji10]; first | rfl | (simp [errW_none, errW_some] <;> rfl)) | (simp [*, errW_none, errW_some] <;> rfl), by repeat (first | (with_reducible first | exact HB.out | apply below_alloc | apply pw_below_drewN | apply below_drew1) | exact HB.out)⟩
                          · replace c31 := Bool.eq_false_iff.mpr c31
                            subst c31
                            have H1 : (if 1 + (rdOf ByteArray.empty t152 (ji10)).size ≤ 9223372036854775807 then (some ((⟨#[47]⟩ : ByteArray) ++ (rdOf ByteArray.empty t152 (ji10)), 1)) else (none)) = some (r1, r2) := by rw [if_neg (show ¬ (false = true) by decide)] at H; exact H
                            clear H
                            have H := H1
                            clear H1
                            by_cases c32 : 1 + (rdOf ByteArray.empty t152 (ji10)).size ≤ 9223372036854775807
                            · rw [if_pos c32] at H
                              have c32b0 := eq_true c32
                              have c32b1 : decide (1 + (rdOf ByteArray.empty t152 (ji10)).size ≤ 9223372036854775807) = true := decide_eq_true c32
                              try have c32b2 : (9223372036854775807 < 1 + (rdOf ByteArray.empty t152 (ji10)).size) = False := eq_false (Nat.not_lt.2 c32)
                              simp only [Option.some.injEq, Prod.mk.injEq] at H
                              obtain ⟨rfl, rfl⟩ := H
                              have p25 : 0 ≤ (1 : Int) := (by omega)
                              have q25 : 1 < (rdOf ByteArray.empty t152 (ji10)).size := (by have : (1 : Int) < ((rdOf ByteArray.empty t152 (ji10)).size : Int) := of_decide_eq_true (by first | (with_reducible assumption) | assumption); omega)
                              have hx25 : ∀ h : 1 < (rdOf ByteArray.empty t152 (ji10)).size, (((rdOf ByteArray.empty t152 (ji10))[1]'h).toNat : Int) = bt (rdOf ByteArray.empty t152 (ji10)) 1 := bt_at (rdOf ByteArray.empty t152 (ji10)) 1
                              clear p25
                              have qi25 : (1 < ((rdOf ByteArray.empty t152 (ji10)).size : Int)) = True := eq_true (of_decide_eq_true (by first | (with_reducible assumption) | assumption))
                              replace q25 := eq_true q25
                              have p27 : 0 ≤ (1 : Int) := (by omega)
                              have q27 : 1 < (rdOf ByteArray.empty t152 (ji10)).size := (by have : (1 : Int) < ((rdOf ByteArray.empty t152 (ji10)).size : Int) := of_decide_eq_true (by first | (with_reducible assumption) | assumption); omega)
                              have hx27 : ∀ h : 1 < (rdOf ByteArray.empty t152 (ji10)).size, (((rdOf ByteArray.empty t152 (ji10))[1]'h).toNat : Int) = bt (rdOf ByteArray.empty t152 (ji10)) 1 := bt_at (rdOf ByteArray.empty t152 (ji10)) 1
                              clear p27
                              have qi27 : (1 < ((rdOf ByteArray.empty t152 (ji10)).size : Int)) = True := eq_true (of_decide_eq_true (by first | (with_reducible assumption) | assumption))
                              replace q27 := eq_true q27
                              go_wp2_with (first | (go_at_call 27; (with_reducible refine (spec_In.calls kj12 (rdOf ByteArray.empty t152 (ji10)) 46 false _ A30.out).mono ?_); rintro e w' ⟨rfl, ⟨nd, rfl⟩⟩))
                              go_ret2
                              exact ⟨by first | rfl | (simp [errW_none, errW_some] <;> rfl) | (simp only [← hji10]; first | rfl | (simp [errW_none, errW_some] <;> rfl)) | (simp [*, errW_none, errW_some] <;> rfl), by repeat (first | (with_reducible first | exact HB.out | apply below_alloc | apply pw_below_drewN | apply below_drew1) | exact HB.out)⟩
                            · rw [if_neg c32] at H
                              exact absurd H (by simp)
                  · rw [if_neg c24] at H
                    exact absurd H (by simp)
          · rw [if_neg c12] at H
            exact absurd H (by simp)
        · rw [if_neg c11] at H
          exact absurd H (by simp)

/-! ### laws_long: function 15 -/
def laws_long.f (a0 : ByteArray) : Option (Bool) := some (decide ((a0.size : Int) > 500))
set_option maxHeartbeats 8000000 in
set_option maxRecDepth 100000 in
theorem laws_long.calls (a0 : ByteArray) (r : Bool) (w : World) (h : laws_long.f a0 = some r) :
    Calls Tryf.prog 15 #[.string a0] w fun e w' => e = .returned (.bool r) ∧ Drawn0 w w' := by
  have H : (some (decide ((a0.size : Int) > 500))) = some r := h
  clear h
  obtain rfl := Option.some.inj H
  go_enter Tryf.func15, Tryf.ntmps15
  go_wp2
  go_ret
  exact ⟨by first | rfl | (simp; done) | (simp [*]; done), by repeat (first | exact Drawn0.refl _ | apply Drawn0.step)⟩

/-! ### laws_told: function 17 -/
def laws_told.f (a0 : Bool) (a1 : Int) : Option (Bool) := if a1 = 0 then (some true) else (some (a0 == (a1 == 1)))
set_option maxHeartbeats 8000000 in
set_option maxRecDepth 100000 in
theorem laws_told.calls (a0 : Bool) (a1 : Int) (r : Bool) (w : World) (h : laws_told.f a0 a1 = some r) :
    Calls Tryf.prog 17 #[.bool a0, .int .i64 a1] w fun e w' => e = .returned (.bool r) ∧ Drawn0 w w' := by
  have H : (if a1 = 0 then (some true) else (some (a0 == (a1 == 1)))) = some r := h
  clear h
  by_cases c3 : a1 = 0
  · rw [if_pos c3] at H
    have c3b0 : (a1 == 0) = true := beq_iff_eq.mpr c3
    have c3b1 : (a1 != 0) = false := bne_eq_false_iff_eq.mpr c3
    clear c3
    obtain rfl := Option.some.inj H
    go_enter Tryf.func17, Tryf.ntmps17
    go_wp2
    go_ret
    exact ⟨by first | rfl | (simp; done) | (simp [*]; done), by repeat (first | exact Drawn0.refl _ | apply Drawn0.step)⟩
  · rw [if_neg c3] at H
    have c3b0 : (a1 == 0) = false := beq_eq_false_iff_ne.mpr c3
    have c3b1 : (a1 != 0) = true := bne_iff_ne.mpr c3
    obtain rfl := Option.some.inj H
    go_enter Tryf.func17, Tryf.ntmps17
    go_wp2
    go_ret
    exact ⟨by first | rfl | (simp; done) | (simp [*]; done), by repeat (first | exact Drawn0.refl _ | apply Drawn0.step)⟩

/-! ### stringslite_HasPrefix: function 96 -/
def stringslite_HasPrefix.f (a0 : ByteArray) (a1 : ByteArray) : Option (Bool) := if (a0.size : Int) ≥ (a1.size : Int) then (if 0 ≤ (a1.size : Int) then (if (a1.size : Int) ≤ (a0.size : Int) then (some ((a0.extract 0 ((a1.size : Int) : Int).toNat).toList == a1.toList)) else (none)) else (none)) else (some false)
set_option maxHeartbeats 8000000 in
set_option maxRecDepth 100000 in
theorem stringslite_HasPrefix.calls (a0 : ByteArray) (a1 : ByteArray) (r : Bool) (w : World) (h : stringslite_HasPrefix.f a0 a1 = some r) :
    Calls Tryf.prog 96 #[.string a0, .string a1] w fun e w' => e = .returned (.bool r) ∧ Drawn0 w w' := by
  have H : (if (a0.size : Int) ≥ (a1.size : Int) then (if 0 ≤ (a1.size : Int) then (if (a1.size : Int) ≤ (a0.size : Int) then (some ((a0.extract 0 ((a1.size : Int) : Int).toNat).toList == a1.toList)) else (none)) else (none)) else (some false)) = some r := h
  clear h
  by_cases c3 : (a0.size : Int) ≥ (a1.size : Int)
  · rw [if_pos c3] at H
    have c3b0 : decide ((a1.size : Int) ≤ (a0.size : Int)) = true := decide_eq_true c3
    have c3b1 : decide (a1.size ≤ a0.size) = true := decide_eq_true (Int.ofNat_le.mp c3)
    clear c3
    by_cases c4 : 0 ≤ (a1.size : Int)
    · rw [if_pos c4] at H
      have c4b0 := eq_true c4
      have c4b1 : decide (0 ≤ (a1.size : Int)) = true := decide_eq_true c4
      clear c4
      by_cases c5 : (a1.size : Int) ≤ (a0.size : Int)
      · rw [if_pos c5] at H
        have c5b0 := eq_true c5
        have c5b1 : decide ((a1.size : Int) ≤ (a0.size : Int)) = true := decide_eq_true c5
        clear c5
        obtain rfl := Option.some.inj H
        go_enter Tryf.func96, Tryf.ntmps96
        go_wp2
        go_ret
        exact ⟨by first | rfl | (simp; done) | (simp [*]; done), by repeat (first | exact Drawn0.refl _ | apply Drawn0.step)⟩
      · rw [if_neg c5] at H
        exact absurd H (by simp)
    · rw [if_neg c4] at H
      exact absurd H (by simp)
  · rw [if_neg c3] at H
    have c3b0 : decide ((a1.size : Int) ≤ (a0.size : Int)) = false := decide_eq_false c3
    have c3b1 : decide (a1.size ≤ a0.size) = false := decide_eq_false (fun h => c3 (Int.ofNat_le.mpr h))
    clear c3
    obtain rfl := Option.some.inj H
    go_enter Tryf.func96, Tryf.ntmps96
    go_wp2
    go_ret
    exact ⟨by first | rfl | (simp; done) | (simp [*]; done), by repeat (first | exact Drawn0.refl _ | apply Drawn0.step)⟩

/-! ### strings_HasPrefix: function 82 -/
def strings_HasPrefix.f (a0 : ByteArray) (a1 : ByteArray) : Option (Bool) := (stringslite_HasPrefix.f a0 a1).bind fun t158 => (some t158)
set_option maxHeartbeats 8000000 in
set_option maxRecDepth 100000 in
theorem strings_HasPrefix.calls (a0 : ByteArray) (a1 : ByteArray) (r : Bool) (w : World) (h : strings_HasPrefix.f a0 a1 = some r) :
    Calls Tryf.prog 82 #[.string a0, .string a1] w fun e w' => e = .returned (.bool r) ∧ Drawn0 w w' := by
  have H : ((stringslite_HasPrefix.f a0 a1).bind fun t158 => (some t158)) = some r := h
  clear h
  replace H := Option.bind_eq_some_iff.mp H
  obtain ⟨t158, A30, H⟩ := H
  replace H : (some t158) = some r := H
  have A3 := Aside0.mk A30
  clear A30
  obtain rfl := Option.some.inj H
  go_enter Tryf.func82, Tryf.ntmps82
  go_wp2_with (first | ((with_reducible refine gate_callee (f := 96) rfl ?_); refine goesL_ (some 7) rfl rfl Tryf.func96 (by kernel_rfl) rfl #[.string a0, .string a1] rfl (by (try simp only [List.map_toArray, List.map_cons, List.map_nil]); first | done | rfl | (simp only [List.length_drop, List.length_take]; rfl)) ?_; (with_reducible refine (stringslite_HasPrefix.calls a0 a1 t158 _ A3.out).mono ?_); rintro e w' ⟨rfl, ⟨nd, rfl⟩⟩; refine ⟨_, rfl, ?_⟩))
  go_ret
  exact ⟨by first | rfl | (simp; done) | (simp [*]; done), by repeat (first | exact Drawn0.refl _ | apply Drawn0.step)⟩

/-! ### stringslite_HasSuffix: function 100 -/
def stringslite_HasSuffix.f (a0 : ByteArray) (a1 : ByteArray) : Option (Bool) := if (a0.size : Int) ≥ (a1.size : Int) then (if 0 ≤ (wrap64 ((a0.size : Int) - (a1.size : Int))) then (if (wrap64 ((a0.size : Int) - (a1.size : Int))) ≤ (a0.size : Int) then (some ((a0.extract ((wrap64 ((a0.size : Int) - (a1.size : Int))) : Int).toNat a0.size).toList == a1.toList)) else (none)) else (none)) else (some false)
set_option maxHeartbeats 8000000 in
set_option maxRecDepth 100000 in
theorem stringslite_HasSuffix.calls (a0 : ByteArray) (a1 : ByteArray) (r : Bool) (w : World) (h : stringslite_HasSuffix.f a0 a1 = some r) :
    Calls Tryf.prog 100 #[.string a0, .string a1] w fun e w' => e = .returned (.bool r) ∧ Drawn0 w w' := by
  have H : (if (a0.size : Int) ≥ (a1.size : Int) then (if 0 ≤ (wrap64 ((a0.size : Int) - (a1.size : Int))) then (if (wrap64 ((a0.size : Int) - (a1.size : Int))) ≤ (a0.size : Int) then (some ((a0.extract ((wrap64 ((a0.size : Int) - (a1.size : Int))) : Int).toNat a0.size).toList == a1.toList)) else (none)) else (none)) else (some false)) = some r := h
  clear h
  by_cases c3 : (a0.size : Int) ≥ (a1.size : Int)
  · rw [if_pos c3] at H
    have c3b0 : decide ((a1.size : Int) ≤ (a0.size : Int)) = true := decide_eq_true c3
    have c3b1 : decide (a1.size ≤ a0.size) = true := decide_eq_true (Int.ofNat_le.mp c3)
    clear c3
    obtain ⟨ji4, hji4⟩ : ∃ j_ : Int, (wrap64 ((a0.size : Int) - (a1.size : Int))) = j_ := ⟨_, rfl⟩
    replace H : (if 0 ≤ (ji4) then (if (ji4) ≤ (a0.size : Int) then (some ((a0.extract ((ji4) : Int).toNat a0.size).toList == a1.toList)) else (none)) else (none)) = some r := by first | (rw [hji4] at H; exact H) | (simp only [hji4] at H ⊢; exact H)
    have hji4w : (IntKind.i64.wrap ((a0.size : Int) - (a1.size : Int))) = ji4 := (i64_w _).trans hji4
    by_cases c5 : 0 ≤ (ji4)
    · rw [if_pos c5] at H
      have c5b0 := eq_true c5
      have c5b1 : decide (0 ≤ (ji4)) = true := decide_eq_true c5
      clear c5
      by_cases c6 : (ji4) ≤ (a0.size : Int)
      · rw [if_pos c6] at H
        have c6b0 := eq_true c6
        have c6b1 : decide ((ji4) ≤ (a0.size : Int)) = true := decide_eq_true c6
        clear c6
        obtain rfl := Option.some.inj H
        go_enter Tryf.func100, Tryf.ntmps100
        go_wp2
        go_ret
        exact ⟨by first | rfl | (simp; done) | (simp only [← hji4] <;> (first | rfl | simp)) | (simp [*]; done), by repeat (first | exact Drawn0.refl _ | apply Drawn0.step)⟩
      · rw [if_neg c6] at H
        exact absurd H (by simp)
    · rw [if_neg c5] at H
      exact absurd H (by simp)
  · rw [if_neg c3] at H
    have c3b0 : decide ((a1.size : Int) ≤ (a0.size : Int)) = false := decide_eq_false c3
    have c3b1 : decide (a1.size ≤ a0.size) = false := decide_eq_false (fun h => c3 (Int.ofNat_le.mpr h))
    clear c3
    obtain rfl := Option.some.inj H
    go_enter Tryf.func100, Tryf.ntmps100
    go_wp2
    go_ret
    exact ⟨by first | rfl | (simp; done) | (simp [*]; done), by repeat (first | exact Drawn0.refl _ | apply Drawn0.step)⟩

/-! ### strings_HasSuffix: function 86 -/
def strings_HasSuffix.f (a0 : ByteArray) (a1 : ByteArray) : Option (Bool) := (stringslite_HasSuffix.f a0 a1).bind fun t159 => (some t159)
set_option maxHeartbeats 8000000 in
set_option maxRecDepth 100000 in
theorem strings_HasSuffix.calls (a0 : ByteArray) (a1 : ByteArray) (r : Bool) (w : World) (h : strings_HasSuffix.f a0 a1 = some r) :
    Calls Tryf.prog 86 #[.string a0, .string a1] w fun e w' => e = .returned (.bool r) ∧ Drawn0 w w' := by
  have H : ((stringslite_HasSuffix.f a0 a1).bind fun t159 => (some t159)) = some r := h
  clear h
  replace H := Option.bind_eq_some_iff.mp H
  obtain ⟨t159, A30, H⟩ := H
  replace H : (some t159) = some r := H
  have A3 := Aside0.mk A30
  clear A30
  obtain rfl := Option.some.inj H
  go_enter Tryf.func86, Tryf.ntmps86
  go_wp2_with (first | ((with_reducible refine gate_callee (f := 100) rfl ?_); refine goesL_ (some 7) rfl rfl Tryf.func100 (by kernel_rfl) rfl #[.string a0, .string a1] rfl (by (try simp only [List.map_toArray, List.map_cons, List.map_nil]); first | done | rfl | (simp only [List.length_drop, List.length_take]; rfl)) ?_; (with_reducible refine (stringslite_HasSuffix.calls a0 a1 t159 _ A3.out).mono ?_); rintro e w' ⟨rfl, ⟨nd, rfl⟩⟩; refine ⟨_, rfl, ?_⟩))
  go_ret
  exact ⟨by first | rfl | (simp; done) | (simp [*]; done), by repeat (first | exact Drawn0.refl _ | apply Drawn0.step)⟩

end Go.Proofs.YtpbebckhemnooaaFmt.PS
