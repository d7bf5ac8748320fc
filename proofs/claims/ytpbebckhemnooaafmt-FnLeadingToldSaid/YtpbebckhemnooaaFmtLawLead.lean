/- laws.FnLeading returns true; the conditions: the tape answers fmt's stop, where the names of Windows lie. -/
import Derived.Test.YtpbebckhemnooaaFmtLawBase
import Derived.Test.YtpbebckhemnooaaFmtJoin
import Derived.Test.YtpbebckhemnooaaFmtValidA
namespace Go.Proofs.YtpbebckhemnooaaFmt.PS
open Go.RowKit Go.Proofs.YtpbebckhemnooaaFmtW.PrintWords Go.Proofs.YtpbebckhemnooaaFmtW.PrintLast Go.Proofs.YtpbebckhemnooaaFmtW.PrintMore Go.Proofs.YtpbebckhemnooaaFmt.PT
set_option linter.unusedVariables false
set_option linter.unusedSimpArgs false

theorem in_at (s : ByteArray) (b : Int) (hs : s.size ≤ 1099511627776) (w : World) : Calls Tryf.prog 27 #[.string s, .int .u8 b] w fun e w' => e = .returned (.bool (hasB s.data.toList b)) ∧ Below w.heap.size w w' := by
  obtain ⟨k, hk⟩ := (In_ev s b hs).fin
  exact (spec_In.calls k s b _ w hk).mono fun _ _ ⟨he, hd⟩ => ⟨he, by first | exact hd | exact drawn_below hd⟩
set_option maxHeartbeats 12800000 in
set_option maxRecDepth 100000 in
theorem law_lead (F : Stop.Interp) (a b : ByteArray) (w : World) (hF : F.answers w.tape) (hN : NamesIn w) :
    Calls Tryf.prog 7 #[.string a, .string b] w (Yes w) := by
  by_cases c1 : (a.size : Int) > 2147483647
  · have h1 : (a.size : Int) > 2147483647 := c1
    go_enter Tryf.func7, Tryf.ntmps7
    go_wp2_with fail
    all_goals (go_ret; exact ⟨rfl, Below.refl _ _⟩)
  have h1 : ¬ (a.size : Int) > 2147483647 := c1
  by_cases d1 : (b.size : Int) > 2147483647
  · have h2 : (b.size : Int) > 2147483647 := d1
    go_enter Tryf.func7, Tryf.ntmps7
    go_wp2_with fail
    all_goals (go_ret; exact ⟨rfl, Below.refl _ _⟩)
  have h2 : ¬ (b.size : Int) > 2147483647 := d1
  have hs1 : a.size ≤ 1099511627776 := by omega
  have hs2 : b.size ≤ 1099511627776 := by omega
  by_cases c2 : (a.size : Int) > 500
  · have HL := Lib.hid fun W => long_at a true (decide_eq_true c2) W
    clear c2
    go_enter Tryf.func7, Tryf.ntmps7
    go_wp2_with (go_at_call 15; refine (HL.out _).mono ?_; rintro e w3 ⟨rfl, hb3⟩)
    all_goals (go_ret; exact ⟨rfl, hb3⟩)
  by_cases d2 : (b.size : Int) > 500
  · have HL := Lib.hid fun W => long_at a false (decide_eq_false c2) W
    have HM := Lib.hid fun W => long_at b true (decide_eq_true d2) W
    clear c2 d2
    go_enter Tryf.func7, Tryf.ntmps7
    go_wp2_with (go_at_call 15; first | (have := hb3; refine (HM.out _).mono ?_; rintro e w4 ⟨rfl, hb4⟩) | (refine (HL.out _).mono ?_; rintro e w3 ⟨rfl, hb3⟩))
    all_goals (go_ret; exact ⟨rfl, hb3.trans (hb4.mono hb3.size)⟩)
  have HL := Lib.hid fun W => long_at a false (decide_eq_false c2) W
  have HM := Lib.hid fun W => long_at b false (decide_eq_false d2) W
  have hz1 : a.size ≤ 500 := by omega
  have hz2 : b.size ≤ 500 := by omega
  clear c1 d1 c2 d2
  have hga := get_gb a
  have hgb := get_gb b
  obtain ⟨g1, hg1⟩ : ∃ g, hasB a.data.toList 47 = g := ⟨_, rfl⟩
  have HI1 := Lib.hid fun W => in_at a 47 hs1 W
  rw [hg1] at HI1
  cases g1 with
  | true =>
    clear hN hg1
    go_enter Tryf.func7, Tryf.ntmps7
    go_wp2_with (first
      | (go_at_call 15; first | (have := hk3; refine (HM.out _).mono ?_; rintro e w4 ⟨rfl, hb4⟩; have hk4 := hk3.trans (hb4.mono hk3.size)) | (refine (HL.out _).mono ?_; rintro e w3 ⟨rfl, hk3⟩))
      | (go_at_call 27; refine (HI1.out _).mono ?_; rintro e w5 ⟨rfl, hb5⟩; have hk5 := hk4.trans (hb5.mono hk4.size)))
    all_goals (go_ret; exact ⟨rfl, hk5⟩)
  | false =>
  obtain ⟨n, hn⟩ : ∃ n, importI b.data.toList = n := ⟨_, rfl⟩
  have HSB := Lib.hid fun W => import_at b hs2 W
  rw [hn] at HSB
  by_cases hn1 : n = 1
  case neg =>
    have hn2 : (n == 1) = false := by simpa using hn1
    have hn3 : (n != 1) = true := by simpa using hn1
    clear hN hg1 hn hn1
    go_enter Tryf.func7, Tryf.ntmps7
    go_wp2_with (first
      | (go_at_call 15; first | (have := hk3; refine (HM.out _).mono ?_; rintro e w4 ⟨rfl, hb4⟩; have hk4 := hk3.trans (hb4.mono hk3.size)) | (refine (HL.out _).mono ?_; rintro e w3 ⟨rfl, hk3⟩))
      | (go_at_call 27; refine (HI1.out _).mono ?_; rintro e w5 ⟨rfl, hb5⟩; have hk5 := hk4.trans (hb5.mono hk4.size))
      | (go_at_call 26; refine (HSB.out _).mono ?_; rintro e w6 ⟨rfl, hb6⟩; have hk6 := hk5.trans (hb6.mono hk5.size)))
    all_goals (go_ret; exact ⟨rfl, hk6⟩)
  case pos =>
  subst hn1
  obtain ⟨m, hm⟩ : ∃ n, importI a.data.toList = n := ⟨_, rfl⟩
  have HSA := Lib.hid fun W => import_at a hs1 W
  rw [hm] at HSA
  by_cases hm1 : m = 1
  case neg =>
    have hn2 : (m == 1) = false := by simpa using hm1
    have hn3 : (m != 1) = true := by simpa using hm1
    clear hN hg1 hm hn hm1
    go_enter Tryf.func7, Tryf.ntmps7
    go_wp2_with (first
      | (go_at_call 15; first | (have := hk3; refine (HM.out _).mono ?_; rintro e w4 ⟨rfl, hb4⟩; have hk4 := hk3.trans (hb4.mono hk3.size)) | (refine (HL.out _).mono ?_; rintro e w3 ⟨rfl, hk3⟩))
      | (go_at_call 27; refine (HI1.out _).mono ?_; rintro e w5 ⟨rfl, hb5⟩; have hk5 := hk4.trans (hb5.mono hk4.size))
      | (go_at_call 26; first
        | (have := hk6; refine (HSA.out _).mono ?_; rintro e w7 ⟨rfl, hb7⟩; have hk7 := hk6.trans (hb7.mono hk6.size))
        | (refine (HSB.out _).mono ?_; rintro e w6 ⟨rfl, hb6⟩; have hk6 := hk5.trans (hb6.mono hk5.size))))
    all_goals (go_ret; exact ⟨rfl, hk7⟩)
  case pos =>
  subst hm1
  obtain ⟨g2, hg2⟩ : ∃ g, hasB b.data.toList 47 = g := ⟨_, rfl⟩
  have HI2 := Lib.hid fun W => in_at b 47 hs2 W
  rw [hg2] at HI2
  cases g2 with
  | true =>
    clear hN hg1 hg2 hm hn
    go_enter Tryf.func7, Tryf.ntmps7
    go_wp2_with (first
      | (go_at_call 15; first | (have := hk3; refine (HM.out _).mono ?_; rintro e w4 ⟨rfl, hb4⟩; have hk4 := hk3.trans (hb4.mono hk3.size)) | (refine (HL.out _).mono ?_; rintro e w3 ⟨rfl, hk3⟩))
      | (go_at_call 27; first
        | (have := hk7; refine (HI2.out _).mono ?_; rintro e w8 ⟨rfl, hb8⟩; have hk8 := hk7.trans (hb8.mono hk7.size))
        | (refine (HI1.out _).mono ?_; rintro e w5 ⟨rfl, hb5⟩; have hk5 := hk4.trans (hb5.mono hk4.size)))
      | (go_at_call 26; first
        | (have := hk6; refine (HSA.out _).mono ?_; rintro e w7 ⟨rfl, hb7⟩; have hk7 := hk6.trans (hb7.mono hk6.size))
        | (refine (HSB.out _).mono ?_; rintro e w6 ⟨rfl, hb6⟩; have hk6 := hk5.trans (hb6.mono hk5.size))))
    all_goals (go_ret; exact ⟨rfl, hk8⟩)
  | false =>
  obtain ⟨da, da0⟩ := import_dash hm
  obtain ⟨db, db0⟩ := import_dash hn
  have hpa : 0 < a.size := by rw [← len_size]; exact List.length_pos_iff.2 da
  have hpb : 0 < b.size := by rw [← len_size]; exact List.length_pos_iff.2 db
  have hza : (a.size : Int) > 0 := by omega
  have hzb : (b.size : Int) > 0 := by omega
  have HDA := Lib.hid da0
  by_cases hv0 : gb b 0 = 118
  · have q1 : (gb b 0 == 118) = true := by simpa using hv0
    clear hN hg1 hg2 hm hn da db da0 db0 hv0
    go_enter Tryf.func7, Tryf.ntmps7
    go_wp2_with (first
      | (go_at_call 15; first | (have := hk3; refine (HM.out _).mono ?_; rintro e w4 ⟨rfl, hb4⟩; have hk4 := hk3.trans (hb4.mono hk3.size)) | (refine (HL.out _).mono ?_; rintro e w3 ⟨rfl, hk3⟩))
      | (go_at_call 27; first
        | (have := hk7; refine (HI2.out _).mono ?_; rintro e w8 ⟨rfl, hb8⟩; have hk8 := hk7.trans (hb8.mono hk7.size))
        | (refine (HI1.out _).mono ?_; rintro e w5 ⟨rfl, hb5⟩; have hk5 := hk4.trans (hb5.mono hk4.size)))
      | (go_at_call 26; first
        | (have := hk6; refine (HSA.out _).mono ?_; rintro e w7 ⟨rfl, hb7⟩; have hk7 := hk6.trans (hb7.mono hk6.size))
        | (refine (HSB.out _).mono ?_; rintro e w6 ⟨rfl, hb6⟩; have hk6 := hk5.trans (hb6.mono hk5.size))))
    all_goals (go_ret; exact ⟨rfl, hk8⟩)
  by_cases hv1 : gb b 0 = 46
  · have q1 : (gb b 0 == 118) = false := by simpa using hv0
    have q2 : (gb b 0 == 46) = true := by simpa using hv1
    clear hN hg1 hg2 hm hn da db da0 db0 hv0 hv1
    go_enter Tryf.func7, Tryf.ntmps7
    go_wp2_with (first
      | (go_at_call 15; first | (have := hk3; refine (HM.out _).mono ?_; rintro e w4 ⟨rfl, hb4⟩; have hk4 := hk3.trans (hb4.mono hk3.size)) | (refine (HL.out _).mono ?_; rintro e w3 ⟨rfl, hk3⟩))
      | (go_at_call 27; first
        | (have := hk7; refine (HI2.out _).mono ?_; rintro e w8 ⟨rfl, hb8⟩; have hk8 := hk7.trans (hb8.mono hk7.size))
        | (refine (HI1.out _).mono ?_; rintro e w5 ⟨rfl, hb5⟩; have hk5 := hk4.trans (hb5.mono hk4.size)))
      | (go_at_call 26; first
        | (have := hk6; refine (HSA.out _).mono ?_; rintro e w7 ⟨rfl, hb7⟩; have hk7 := hk6.trans (hb7.mono hk6.size))
        | (refine (HSB.out _).mono ?_; rintro e w6 ⟨rfl, hb6⟩; have hk6 := hk5.trans (hb6.mono hk5.size))))
    all_goals (go_ret; exact ⟨rfl, hk8⟩)
  have q1 : (gb b 0 == 118) = false := by simpa using hv0
  have q2 : (gb b 0 == 46) = false := by simpa using hv1
  by_cases h8 : a.data.toList = [103, 111, 112, 107, 103, 46, 105, 110]
  · have q3 : (a.toList == [103, 111, 112, 107, 103, 46, 105, 110]) = true := by rw [Lib.toList_data, h8]; rfl
    have q4 : a.toList = [103, 111, 112, 107, 103, 46, 105, 110] := by rw [Lib.toList_data, h8]
    clear hN hg1 hg2 hm hn da db da0 db0 hv0 hv1 h8
    go_enter Tryf.func7, Tryf.ntmps7
    go_wp2_with (first
      | (go_at_call 15; first | (have := hk3; refine (HM.out _).mono ?_; rintro e w4 ⟨rfl, hb4⟩; have hk4 := hk3.trans (hb4.mono hk3.size)) | (refine (HL.out _).mono ?_; rintro e w3 ⟨rfl, hk3⟩))
      | (go_at_call 27; first
        | (have := hk7; refine (HI2.out _).mono ?_; rintro e w8 ⟨rfl, hb8⟩; have hk8 := hk7.trans (hb8.mono hk7.size))
        | (refine (HI1.out _).mono ?_; rintro e w5 ⟨rfl, hb5⟩; have hk5 := hk4.trans (hb5.mono hk4.size)))
      | (go_at_call 26; first
        | (have := hk6; refine (HSA.out _).mono ?_; rintro e w7 ⟨rfl, hb7⟩; have hk7 := hk6.trans (hb7.mono hk6.size))
        | (refine (HSB.out _).mono ?_; rintro e w6 ⟨rfl, hb6⟩; have hk6 := hk5.trans (hb6.mono hk5.size))))
    all_goals (go_ret; exact ⟨rfl, hk8⟩)
  have q3 : (a.toList == [103, 111, 112, 107, 103, 46, 105, 110]) = false := by rw [Lib.toList_data]; simpa using h8
  have q4 : ¬ a.toList = [103, 111, 112, 107, 103, 46, 105, 110] := by rw [Lib.toList_data]; exact h8
  obtain ⟨x1, e1, l1, z1⟩ := cat_at (a := a) (b := ⟨#[47]⟩) (by rw [show (⟨#[47]⟩ : ByteArray).size = 1 from rfl]; omega)
  rw [show (⟨#[47]⟩ : ByteArray).size = 1 from rfl] at z1
  obtain ⟨x2, e2, l2, z2⟩ := cat_at (a := x1) (b := b) (by omega)
  have L2 : x2.data.toList = a.data.toList ++ 47 :: b.data.toList := by rw [l2, l1]; simp
  have hasc : asc x2.data.toList := by rw [L2]; exact asc_app (import_fine hm).1 (asc_cons (by decide) (import_fine hn).1)
  have HP := Lib.hid fun (W : World) (hb : Below w.heap.size w W) => implPath_any F x2 (by omega) W (below_tape hF hb) (hN.below hb) (fun W2 _ => valid_asc x2 (by omega) hasc W2)
  obtain ⟨g3, hg3⟩ : ∃ g, allB true false [46, 45] a.data.toList = g := ⟨_, rfl⟩
  have HA := Lib.hid fun W => all_at a ⟨#[46, 45]⟩ true false hs1 (by decide) W
  rw [show (⟨#[46, 45]⟩ : ByteArray).data.toList = [46, 45] from rfl, hg3] at HA
  obtain ⟨g4, hg4⟩ : ∃ g, hasB a.data.toList 46 = g := ⟨_, rfl⟩
  have HI3 := Lib.hid fun W => in_at a 46 hs1 W
  rw [hg4] at HI3
  have hlaw : ∀ c, MB x2.data.toList c → c = (g3 && g4 && decide (lb a.data.toList 0 ≠ 46) && decide (lb a.data.toList 0 ≠ 45)) := fun c hc => by
    rw [L2] at hc
    rw [← hg3, ← hg4]
    exact leading_law hm hn hg1 hg2 hv0 hv1 h8 hc
  have hd : decide (lb a.data.toList 0 ≠ 45) = true := decide_eq_true da0
  rw [hd, Bool.and_true] at hlaw
  have da1 : gb a 0 ≠ 45 := da0
  have q5 : (gb a 0 == 45) = false := by simpa using da1
  have q5' : (gb a 0 != 45) = true := by simpa using da1
  clear hN hg1 hg2 hg3 hg4 hm hn da db da0 da1 db0 hv0 hv1 h8 L2 hasc l1 l2 z1 z2 hd HDA
  by_cases h46 : lb a.data.toList 0 = 46
  · have h47 : gb a 0 = 46 := h46
    have q6 : (gb a 0 == 46) = true := by simpa using h47
    have q6' : (gb a 0 != 46) = false := by simpa using h47
    rw [decide_eq_false (fun h => h h46), Bool.and_false] at hlaw
    have HLAW := Lib.hid hlaw
    clear hlaw h46 h47
    cases g3 <;> cases g4
    all_goals
      go_enter Tryf.func7, Tryf.ntmps7
      go_wp2_with (first
        | (go_at_call 15; first | (have := hk3; refine (HM.out _).mono ?_; rintro e w4 ⟨rfl, hb4⟩; have hk4 := hk3.trans (hb4.mono hk3.size)) | (refine (HL.out _).mono ?_; rintro e w3 ⟨rfl, hk3⟩))
        | (go_at_call 27; first
          | (have := hk9; refine (HI3.out _).mono ?_; rintro e w10 ⟨rfl, hb10⟩; have hk10 := hk9.trans (hb10.mono hk9.size))
          | (have := hk7; refine (HI2.out _).mono ?_; rintro e w8 ⟨rfl, hb8⟩; have hk8 := hk7.trans (hb8.mono hk7.size))
          | (refine (HI1.out _).mono ?_; rintro e w5 ⟨rfl, hb5⟩; have hk5 := hk4.trans (hb5.mono hk4.size)))
        | (go_at_call 26; first
          | (have := hk6; refine (HSA.out _).mono ?_; rintro e w7 ⟨rfl, hb7⟩; have hk7 := hk6.trans (hb7.mono hk6.size))
          | (refine (HSB.out _).mono ?_; rintro e w6 ⟨rfl, hb6⟩; have hk6 := hk5.trans (hb6.mono hk5.size)))
        | (go_at_call 28; refine (HA.out _).mono ?_; rintro e w9 ⟨rfl, hb9⟩; have hk9 := hk8.trans (hb9.mono hk8.size))
        | (go_at_call 29; first
          | (have := hk10; refine (HP.out _ hk10).mono ?_; rintro e w11 ⟨b11, hm, rfl, hb11⟩; have hk11 := hk10.trans (hb11.mono hk10.size); obtain rfl := HLAW.out _ hm; clear hm)
          | (refine (HP.out _ hk9).mono ?_; rintro e w11 ⟨b11, hm, rfl, hb11⟩; have hk11 := hk9.trans (hb11.mono hk9.size); obtain rfl := HLAW.out _ hm; clear hm)))
      all_goals (go_ret; first | exact ⟨rfl, hk11⟩ | exact ⟨ret_bool (by simp), hk11⟩)
  · have h47 : gb a 0 ≠ 46 := h46
    have q6 : (gb a 0 == 46) = false := by simpa using h47
    have q6' : (gb a 0 != 46) = true := by simpa using h47
    rw [decide_eq_true h46, Bool.and_true] at hlaw
    have HLAW := Lib.hid hlaw
    clear hlaw h46 h47
    cases g3 <;> cases g4
    all_goals
      go_enter Tryf.func7, Tryf.ntmps7
      go_wp2_with (first
        | (go_at_call 15; first | (have := hk3; refine (HM.out _).mono ?_; rintro e w4 ⟨rfl, hb4⟩; have hk4 := hk3.trans (hb4.mono hk3.size)) | (refine (HL.out _).mono ?_; rintro e w3 ⟨rfl, hk3⟩))
        | (go_at_call 27; first
          | (have := hk9; refine (HI3.out _).mono ?_; rintro e w10 ⟨rfl, hb10⟩; have hk10 := hk9.trans (hb10.mono hk9.size))
          | (have := hk7; refine (HI2.out _).mono ?_; rintro e w8 ⟨rfl, hb8⟩; have hk8 := hk7.trans (hb8.mono hk7.size))
          | (refine (HI1.out _).mono ?_; rintro e w5 ⟨rfl, hb5⟩; have hk5 := hk4.trans (hb5.mono hk4.size)))
        | (go_at_call 26; first
          | (have := hk6; refine (HSA.out _).mono ?_; rintro e w7 ⟨rfl, hb7⟩; have hk7 := hk6.trans (hb7.mono hk6.size))
          | (refine (HSB.out _).mono ?_; rintro e w6 ⟨rfl, hb6⟩; have hk6 := hk5.trans (hb6.mono hk5.size)))
        | (go_at_call 28; refine (HA.out _).mono ?_; rintro e w9 ⟨rfl, hb9⟩; have hk9 := hk8.trans (hb9.mono hk8.size))
        | (go_at_call 29; first
          | (have := hk10; refine (HP.out _ hk10).mono ?_; rintro e w11 ⟨b11, hm, rfl, hb11⟩; have hk11 := hk10.trans (hb11.mono hk10.size); obtain rfl := HLAW.out _ hm; clear hm)
          | (refine (HP.out _ hk9).mono ?_; rintro e w11 ⟨b11, hm, rfl, hb11⟩; have hk11 := hk9.trans (hb11.mono hk9.size); obtain rfl := HLAW.out _ hm; clear hm)))
      all_goals (go_ret; first | exact ⟨rfl, hk11⟩ | exact ⟨ret_bool (by simp), hk11⟩)

end Go.Proofs.YtpbebckhemnooaaFmt.PS
