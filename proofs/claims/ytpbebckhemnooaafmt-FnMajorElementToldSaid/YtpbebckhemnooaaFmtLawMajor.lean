/- laws.FnMajorElement returns true; the conditions: the tape answers fmt's stop, where the names of Windows lie. -/
import Derived.Test.YtpbebckhemnooaaFmtLawBase
import Derived.Test.YtpbebckhemnooaaFmtNumber
import Derived.Test.YtpbebckhemnooaaFmtValidA
namespace Go.Proofs.YtpbebckhemnooaaFmt.PS
open Go.RowKit Go.Proofs.YtpbebckhemnooaaFmtW.PrintWords Go.Proofs.YtpbebckhemnooaaFmtW.PrintLast Go.Proofs.YtpbebckhemnooaaFmtW.PrintMore Go.Proofs.YtpbebckhemnooaaFmt.PT
set_option linter.unusedVariables false
set_option linter.unusedSimpArgs false

theorem major_1 {p : List UInt8} (h : modPathI p = 1) (h9 : p.take 9 ≠ gopkgL) (h8 : p ≠ [103, 111, 112, 107, 103, 46, 105, 110]) (n : Nat) {b : Bool} (m : MB (p ++ 47 :: 118 :: numL n) b) : b = decide (1 < n) := by
  obtain ⟨_, x0⟩ := MB.some p
  obtain ⟨_, x2⟩ := MB.some (p ++ 47 :: 118 :: 48 :: numL n)
  obtain ⟨_, x3⟩ := MB.some (p ++ 47 :: 118 :: (numL n ++ [46, 49]))
  exact (major_law h h9 h8 n x0 m x2 x3).2.1
theorem major_2 {p : List UInt8} (h : modPathI p = 1) (h9 : p.take 9 ≠ gopkgL) (h8 : p ≠ [103, 111, 112, 107, 103, 46, 105, 110]) (n : Nat) {b : Bool} (m : MB (p ++ 47 :: 118 :: 48 :: numL n) b) : b = false := by
  obtain ⟨_, x0⟩ := MB.some p
  obtain ⟨_, x2⟩ := MB.some (p ++ 47 :: 118 :: numL n)
  obtain ⟨_, x3⟩ := MB.some (p ++ 47 :: 118 :: (numL n ++ [46, 49]))
  exact (major_law h h9 h8 n x0 x2 m x3).2.2.1
theorem major_3 {p : List UInt8} (h : modPathI p = 1) (h9 : p.take 9 ≠ gopkgL) (h8 : p ≠ [103, 111, 112, 107, 103, 46, 105, 110]) (n : Nat) {b : Bool} (m : MB (p ++ 47 :: 118 :: (numL n ++ [46, 49])) b) : b = false := by
  obtain ⟨_, x0⟩ := MB.some p
  obtain ⟨_, x2⟩ := MB.some (p ++ 47 :: 118 :: 48 :: numL n)
  obtain ⟨_, x3⟩ := MB.some (p ++ 47 :: 118 :: numL n)
  exact (major_law h h9 h8 n x0 x3 x2 m).2.2.2
set_option maxHeartbeats 6400000 in
set_option maxRecDepth 100000 in
theorem law_major (F : Stop.Interp) (s : ByteArray) (z : Int) (hz : (Lit.int .u16 z).wf = true) (w : World) (hF : F.answers w.tape) (hN : NamesIn w) :
    Calls Tryf.prog 8 #[.string s, .int .u16 z] w (Yes w) := by
  have hz0 : 0 ≤ z ∧ z ≤ 65535 := by
    have h_ : IntKind.u16.min ≤ z ∧ z ≤ IntKind.u16.max := by simpa [Lit.wf] using hz
    have e1 : IntKind.u16.min = 0 := by decide
    have e2 : IntKind.u16.max = 65535 := by decide
    omega
  obtain ⟨n, rfl⟩ := Int.eq_ofNat_of_zero_le hz0.1
  have hn1 : n ≤ 65535 := by omega
  have hn2 : (n : Int) ≤ 65535 := by omega
  clear hz hz0
  by_cases c1 : (s.size : Int) > 2147483647
  · have h1 : (s.size : Int) > 2147483647 := c1
    go_enter Tryf.func8, Tryf.ntmps8
    go_wp2_with fail
    all_goals (go_ret; exact ⟨rfl, Below.refl _ _⟩)
  have hs : s.size ≤ 1099511627776 := by omega
  by_cases c2 : (s.size : Int) > 500
  · have HL := Lib.hid fun W => long_at s true (decide_eq_true c2) W
    have h1 : ¬ (s.size : Int) > 2147483647 := c1
    clear c2
    go_enter Tryf.func8, Tryf.ntmps8
    go_wp2_with (go_at_call 15; refine (HL.out _).mono ?_; rintro e w3 ⟨rfl, hb3⟩)
    all_goals (go_ret; exact ⟨rfl, hb3⟩)
  have HL := Lib.hid fun W => long_at s false (decide_eq_false c2) W
  have h1 : ¬ (s.size : Int) > 2147483647 := c1
  have hs5 : s.size ≤ 500 := by omega
  obtain ⟨m, hm⟩ : ∃ m, modPathI s.data.toList = m := ⟨_, rfl⟩
  have HS := Lib.hid fun W => path_at s hs W
  rw [hm] at HS
  clear c1 c2
  by_cases hm1 : m = 1
  case neg =>
    have hm2 : (m == 1) = false := by simpa using hm1
    have hm3 : (m != 1) = true := by simpa using hm1
    clear hN hm hm1
    go_enter Tryf.func8, Tryf.ntmps8
    go_wp2_with (first
      | (go_at_call 15; refine (HL.out _).mono ?_; rintro e w3 ⟨rfl, hk3⟩)
      | (go_at_call 30; refine (HS.out _).mono ?_; rintro e w4 ⟨rfl, hb4⟩; have hk4 := hk3.trans (hb4.mono hk3.size)))
    all_goals (go_ret; exact ⟨rfl, hk4⟩)
  case pos =>
  subst hm1
  by_cases h9 : s.data.toList.take 9 = gopkgL
  · have hl9 : 9 ≤ s.size := by
      have := congrArg List.length h9
      rw [List.length_take, len_size] at this
      have e : gopkgL.length = 9 := rfl
      omega
    have q0 : (s.size : Int) ≥ 9 := by omega
    have q1 : ((s.extract 0 9).toList == [103, 111, 112, 107, 103, 46, 105, 110, 47]) = true := by rw [Lib.toList_data, extract_take, h9]; rfl
    have q2 : (s.extract 0 9).toList = [103, 111, 112, 107, 103, 46, 105, 110, 47] := by rw [Lib.toList_data, extract_take, h9]; rfl
    clear hN hm h9
    go_enter Tryf.func8, Tryf.ntmps8
    go_wp2_with (first
      | (go_at_call 15; refine (HL.out _).mono ?_; rintro e w3 ⟨rfl, hk3⟩)
      | (go_at_call 30; refine (HS.out _).mono ?_; rintro e w4 ⟨rfl, hb4⟩; have hk4 := hk3.trans (hb4.mono hk3.size)))
    all_goals (go_ret; exact ⟨rfl, hk4⟩)
  have q1 : ((s.extract 0 9).toList == [103, 111, 112, 107, 103, 46, 105, 110, 47]) = false := by rw [Lib.toList_data, extract_take]; exact beq_eq_false_iff_ne.2 h9
  have q2 : ¬ (s.extract 0 9).toList = [103, 111, 112, 107, 103, 46, 105, 110, 47] := by rw [Lib.toList_data, extract_take]; exact h9
  by_cases h8 : s.data.toList = [103, 111, 112, 107, 103, 46, 105, 110]
  · have q3 : (s.toList == [103, 111, 112, 107, 103, 46, 105, 110]) = true := by rw [Lib.toList_data, h8]; rfl
    have q4 : s.toList = [103, 111, 112, 107, 103, 46, 105, 110] := by rw [Lib.toList_data, h8]
    have hl8 : s.size = 8 := by rw [← len_size, h8]; rfl
    have q0 : ¬ (s.size : Int) ≥ 9 := by omega
    clear hN hm h9 h8 hl8
    go_enter Tryf.func8, Tryf.ntmps8
    go_wp2_with (first
      | (go_at_call 15; refine (HL.out _).mono ?_; rintro e w3 ⟨rfl, hk3⟩)
      | (go_at_call 30; refine (HS.out _).mono ?_; rintro e w4 ⟨rfl, hb4⟩; have hk4 := hk3.trans (hb4.mono hk3.size)))
    all_goals (go_ret; exact ⟨rfl, hk4⟩)
  have q3 : (s.toList == [103, 111, 112, 107, 103, 46, 105, 110]) = false := by rw [Lib.toList_data]; simpa using h8
  have q4 : ¬ s.toList = [103, 111, 112, 107, 103, 46, 105, 110] := by rw [Lib.toList_data]; exact h8
  have HASC := Lib.hid (mod_fine hm).1
  have HM9 := Lib.hid h9
  have HM8 := Lib.hid h8
  have HMM := Lib.hid hm
  have HP := Lib.hid fun (t : ByteArray) (ht : t.size ≤ 100000) (hasc : asc t.data.toList) (W : World) (hb : Below w.heap.size w W) => implPath_any F t (by omega) W (below_tape hF hb) (hN.below hb) (fun W2 _ => valid_asc t ht hasc W2)
  have HQ := Lib.hid (number_at n (by omega))
  have HLN := Lib.hid (num_len n)
  have HNA : Hid (asc (numL n)) := Lib.hid fun c hc => digC_asc (num_dig n c hc)
  obtain ⟨y1, e1, l1, z1⟩ := cat_at (a := s) (b := ⟨#[47, 118]⟩) (by rw [show (⟨#[47, 118]⟩ : ByteArray).size = 2 from rfl]; omega)
  rw [show (⟨#[47, 118]⟩ : ByteArray).size = 2 from rfl] at z1
  obtain ⟨y2, e2, l2, z2⟩ := cat_at (a := s) (b := ⟨#[47, 118, 48]⟩) (by rw [show (⟨#[47, 118, 48]⟩ : ByteArray).size = 3 from rfl]; omega)
  rw [show (⟨#[47, 118, 48]⟩ : ByteArray).size = 3 from rfl] at z2
  have L1 : Hid (y1.data.toList = s.data.toList ++ [47, 118]) := Lib.hid l1
  have L2 : Hid (y2.data.toList = s.data.toList ++ [47, 118, 48]) := Lib.hid l2
  have hy1 : y1.size ≤ 502 := by omega
  have hy2 : y2.size ≤ 503 := by omega
  clear hN hm h9 h8 l1 l2 z1 z2
  obtain ⟨g, hg⟩ : ∃ g, decide (1 < n) = g := ⟨_, rfl⟩
  have HGG := Lib.hid hg
  have hgi : decide ((n : Int) > 1) = g := by rw [← hg]; exact decide_eq_decide.2 (by omega)
  by_cases hgt : (n : Int) > 1
  all_goals
    have hgv := Lib.hid hgi
    first
      | (have HGB : Hid (g = true) := Lib.hid (by rw [← hgi]; exact decide_eq_true hgt))
      | (have HGB : Hid (g = false) := Lib.hid (by rw [← hgi]; exact decide_eq_false hgt))
    clear hg hgi
    go_enter Tryf.func8, Tryf.ntmps8
    go_wp2_with (first
      | (go_at_call 15; refine (HL.out _).mono ?_; rintro e w3 ⟨rfl, hk3⟩)
      | (go_at_call 30; refine (HS.out _).mono ?_; rintro e w4 ⟨rfl, hb4⟩; have hk4 := hk3.trans (hb4.mono hk3.size))
      | (go_at_call 31; first
        | (have := hk9; refine (HQ.out _).mono ?_; rintro e w10 ⟨t10, rfl, ht10, hb10⟩; have hk10 := hk9.trans (hb10.mono hk9.size); have hz10 : t10.size ≤ 65536 := (by have := HLN.out; rw [← len_size, ht10]; omega); obtain ⟨x10, e10, l10, z10⟩ := cat_at (a := y1) (b := t10) (by omega); obtain ⟨x11, e11, l11, z11⟩ := cat_at (a := x10) (b := ⟨#[46, 49]⟩) (by rw [show (⟨#[46, 49]⟩ : ByteArray).size = 2 from rfl]; omega); rw [show (⟨#[46, 49]⟩ : ByteArray).size = 2 from rfl] at z11; have hx11 : x11.size ≤ 100000 := (by omega); have L11 : Hid (x11.data.toList = s.data.toList ++ 47 :: 118 :: (numL n ++ [46, 49])) := Lib.hid (by rw [l11, l10, L1.out, ht10]; simp); clear l10 l11 z10 z11 ht10)
        | (have := hk7; refine (HQ.out _).mono ?_; rintro e w8 ⟨t8, rfl, ht8, hb8⟩; have hk8 := hk7.trans (hb8.mono hk7.size); have hz8 : t8.size ≤ 65536 := (by have := HLN.out; rw [← len_size, ht8]; omega); obtain ⟨x8, e8, l8, z8⟩ := cat_at (a := y2) (b := t8) (by omega); have hx8 : x8.size ≤ 100000 := (by omega); have L8 : Hid (x8.data.toList = s.data.toList ++ 47 :: 118 :: 48 :: numL n) := Lib.hid (by rw [l8, L2.out, ht8]; simp); clear l8 z8 ht8)
        | (refine (HQ.out _).mono ?_; rintro e w6 ⟨t6, rfl, ht6, hb6⟩; have hk6 := hk5.trans (hb6.mono hk5.size); have hz6 : t6.size ≤ 65536 := (by have := HLN.out; rw [← len_size, ht6]; omega); obtain ⟨x6, e6, l6, z6⟩ := cat_at (a := y1) (b := t6) (by omega); have hx6 : x6.size ≤ 100000 := (by omega); have L6 : Hid (x6.data.toList = s.data.toList ++ 47 :: 118 :: numL n) := Lib.hid (by rw [l6, L1.out, ht6]; simp); clear l6 z6 ht6))
      | (go_at_call 29; first
        | (have := hk10; refine (HP.out x11 hx11 (by rw [L11.out]; exact asc_app HASC.out (asc_cons (by decide) (asc_cons (by decide) (asc_app HNA.out (asc_cons (by decide) (asc_cons (by decide) fun c hc => by simp at hc)))))) _ hk10).mono ?_; rintro e w11 ⟨b11, hm11, rfl, hb11⟩; have hk11 := hk10.trans (hb11.mono hk10.size); obtain rfl := major_3 HMM.out HM9.out HM8.out n (L11.out ▸ hm11); clear hm11)
        | (have := hk8; refine (HP.out x8 hx8 (by rw [L8.out]; exact asc_app HASC.out (asc_cons (by decide) (asc_cons (by decide) (asc_cons (by decide) HNA.out)))) _ hk8).mono ?_; rintro e w9 ⟨b9, hm9, rfl, hb9⟩; have hk9 := hk8.trans (hb9.mono hk8.size); obtain rfl := major_2 HMM.out HM9.out HM8.out n (L8.out ▸ hm9); clear hm9)
        | (have := hk6; refine (HP.out x6 hx6 (by rw [L6.out]; exact asc_app HASC.out (asc_cons (by decide) (asc_cons (by decide) HNA.out))) _ hk6).mono ?_; rintro e w7 ⟨b7, hm7, rfl, hb7⟩; have hk7 := hk6.trans (hb7.mono hk6.size); obtain rfl := ((major_1 HMM.out HM9.out HM8.out n (L6.out ▸ hm7)).trans HGG.out).trans HGB.out; clear hm7)
        | (refine (HP.out s (by omega) HASC.out _ hk4).mono ?_; rintro e w5 ⟨b5, hm5, rfl, hb5⟩; have hk5 := hk4.trans (hb5.mono hk4.size); obtain rfl := (hm5.1 HASC.out).2 (mod_fine HMM.out).2.1; clear hm5)))
    all_goals (go_ret; first | exact ⟨rfl, hk11⟩ | (refine ⟨ret_bool ?_, hk11⟩; simp; done) | (refine ⟨ret_bool ?_, hk11⟩; simp; omega))

end Go.Proofs.YtpbebckhemnooaaFmt.PS
