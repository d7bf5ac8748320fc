/- laws.FnShortName returns true; the conditions: the tape answers fmt's stop, where the names of Windows lie, that utf8.ValidString answers. -/
import Derived.Test.YtdnkmikckchnpaaFmtLawBase
import Derived.Test.YtdnkmikckchnpaaFmtNumber
namespace Go.Proofs.YtdnkmikckchnpaaFmt.PS
open Go.RowKit Go.Proofs.YtdnkmikckchnpaaFmtW.PrintWords Go.Proofs.YtdnkmikckchnpaaFmtW.PrintLast Go.Proofs.YtdnkmikckchnpaaFmtW.PrintMore Go.Proofs.YtdnkmikckchnpaaFmt.PT
set_option linter.unusedVariables false
set_option linter.unusedSimpArgs false

theorem short_a {p hd : List UInt8} (h : allB true true [45, 95] hd = true) (n : Nat) {b : Bool} (m : MB (p ++ 47 :: (hd ++ 126 :: numL n)) b) : b = false := by
  obtain ⟨_, x0⟩ := PB.some 1 p
  obtain ⟨_, x2⟩ := PB.some 1 (p ++ 47 :: (hd ++ 126 :: numL n))
  obtain ⟨_, x3⟩ := PB.some 1 (p ++ 47 :: (hd ++ [126, 120]))
  exact (short_law h n x0 m x2 x3).1
theorem short_b {p hd : List UInt8} (h : allB true true [45, 95] hd = true) (n : Nat) {b : Bool} (m : PB 1 (p ++ 47 :: (hd ++ 126 :: numL n)) b) : b = false := by
  obtain ⟨_, x0⟩ := PB.some 1 p
  obtain ⟨_, x2⟩ := MB.some (p ++ 47 :: (hd ++ 126 :: numL n))
  obtain ⟨_, x3⟩ := PB.some 1 (p ++ 47 :: (hd ++ [126, 120]))
  exact (short_law h n x0 x2 m x3).2.1
theorem short_c {p hd : List UInt8} (h : allB true true [45, 95] hd = true) (hp : importI p = 1) {b : Bool} (m : PB 1 (p ++ 47 :: (hd ++ [126, 120])) b) : b = true := by
  obtain ⟨_, x0⟩ := PB.some 1 p
  obtain ⟨_, x1⟩ := MB.some (p ++ 47 :: (hd ++ 126 :: numL 0))
  obtain ⟨_, x2⟩ := PB.some 1 (p ++ 47 :: (hd ++ 126 :: numL 0))
  exact (short_law h 0 x0 x1 x2 m).2.2 hp
set_option maxHeartbeats 6400000 in
set_option maxRecDepth 100000 in
theorem law_short (F : Stop.Interp) (a b : ByteArray) (z : Int) (hz : (Lit.int .u16 z).wf = true) (w : World) (hF : F.answers w.tape) (hN : NamesIn w) (hv : ∀ s : ByteArray, s.size ≤ 100000 → ∀ W, Below w.heap.size w W → ValidOK W s) :
    Calls Tryf.prog 4 #[.string a, .string b, .int .u16 z] w (Yes w) := by
  have hz0 : 0 ≤ z ∧ z ≤ 65535 := by
    have h_ : IntKind.u16.min ≤ z ∧ z ≤ IntKind.u16.max := by simpa [Lit.wf] using hz
    have e1 : IntKind.u16.min = 0 := by decide
    have e2 : IntKind.u16.max = 65535 := by decide
    omega
  obtain ⟨n, rfl⟩ := Int.eq_ofNat_of_zero_le hz0.1
  have hn1 : n ≤ 65535 := by omega
  have hn2 : (n : Int) ≤ 65535 := by omega
  clear hz hz0
  by_cases c1 : (a.size : Int) > 2147483647
  · have h1 : (a.size : Int) > 2147483647 := c1
    go_enter Tryf.func4, Tryf.ntmps4
    go_wp2_with fail
    all_goals (go_ret; exact ⟨rfl, Below.refl _ _⟩)
  have h1 : ¬ (a.size : Int) > 2147483647 := c1
  by_cases d1 : (b.size : Int) > 2147483647
  · have h2 : (b.size : Int) > 2147483647 := d1
    go_enter Tryf.func4, Tryf.ntmps4
    go_wp2_with fail
    all_goals (go_ret; exact ⟨rfl, Below.refl _ _⟩)
  have h2 : ¬ (b.size : Int) > 2147483647 := d1
  have hs1 : a.size ≤ 1099511627776 := by omega
  have hs2 : b.size ≤ 1099511627776 := by omega
  by_cases c2 : (a.size : Int) > 500
  · have HL := Lib.hid fun W => long_at a true (decide_eq_true c2) W
    clear c2 hv
    go_enter Tryf.func4, Tryf.ntmps4
    go_wp2_with (go_at_call 9; refine (HL.out _).mono ?_; rintro e w3 ⟨rfl, hb3⟩)
    all_goals (go_ret; exact ⟨rfl, hb3⟩)
  by_cases d2 : (b.size : Int) > 500
  · have HL := Lib.hid fun W => long_at a false (decide_eq_false c2) W
    have HM := Lib.hid fun W => long_at b true (decide_eq_true d2) W
    clear c2 d2 hv
    go_enter Tryf.func4, Tryf.ntmps4
    go_wp2_with (go_at_call 9; first | (have := hb3; refine (HM.out _).mono ?_; rintro e w4 ⟨rfl, hb4⟩) | (refine (HL.out _).mono ?_; rintro e w3 ⟨rfl, hb3⟩))
    all_goals (go_ret; exact ⟨rfl, hb3.trans (hb4.mono hb3.size)⟩)
  have HL := Lib.hid fun W => long_at a false (decide_eq_false c2) W
  have HM := Lib.hid fun W => long_at b false (decide_eq_false d2) W
  have hz1 : a.size ≤ 500 := by omega
  have hz2 : b.size ≤ 500 := by omega
  clear c1 d1 c2 d2
  obtain ⟨g, hg⟩ : ∃ g, allB true true [45, 95] b.data.toList = g := ⟨_, rfl⟩
  have HA := Lib.hid fun W => all_at b ⟨#[45, 95]⟩ true true hs2 (by decide) W
  rw [show (⟨#[45, 95]⟩ : ByteArray).data.toList = [45, 95] from rfl, hg] at HA
  cases g with
  | false =>
    clear hv hN hg
    go_enter Tryf.func4, Tryf.ntmps4
    go_wp2_with (first
      | (go_at_call 9; first | (have := hk3; refine (HM.out _).mono ?_; rintro e w4 ⟨rfl, hb4⟩; have hk4 := hk3.trans (hb4.mono hk3.size)) | (refine (HL.out _).mono ?_; rintro e w3 ⟨rfl, hk3⟩))
      | (go_at_call 15; refine (HA.out _).mono ?_; rintro e w5 ⟨rfl, hb5⟩; have hk5 := hk4.trans (hb5.mono hk4.size)))
    all_goals (go_ret; exact ⟨rfl, hk5⟩)
  | true =>
    have HAL := Lib.hid hg
    have HI := Lib.hid fun (t : ByteArray) (ht : t.size ≤ 100000) (W : World) (hb : Below w.heap.size w W) => implImport_any F t (by omega) W (below_tape hF hb) (hN.below hb) (fun h => by cases h) (hv t ht W hb)
    have HP := Lib.hid fun (t : ByteArray) (ht : t.size ≤ 100000) (W : World) (hb : Below w.heap.size w W) => implPath_any F t (by omega) W (below_tape hF hb) (hN.below hb) (fun W2 hb2 => hv t ht W2 (hb.trans (hb2.mono hb.size)))
    have HS := Lib.hid fun W => import_at a hs1 W
    have HQ := Lib.hid (number_at n (by omega))
    have HLN := Lib.hid (num_len n)
    obtain ⟨x1, e1, l1, z1⟩ := cat_at (a := a) (b := ⟨#[47]⟩) (by rw [show (⟨#[47]⟩ : ByteArray).size = 1 from rfl]; omega)
    rw [show (⟨#[47]⟩ : ByteArray).size = 1 from rfl] at z1
    obtain ⟨x2, e2, l2, z2⟩ := cat_at (a := x1) (b := b) (by omega)
    obtain ⟨x3, e3, l3, z3⟩ := cat_at (a := x2) (b := ⟨#[126]⟩) (by rw [show (⟨#[126]⟩ : ByteArray).size = 1 from rfl]; omega)
    rw [show (⟨#[126]⟩ : ByteArray).size = 1 from rfl] at z3
    obtain ⟨x5, e5, l5, z5⟩ := cat_at (a := x2) (b := ⟨#[126, 120]⟩) (by rw [show (⟨#[126, 120]⟩ : ByteArray).size = 2 from rfl]; omega)
    rw [show (⟨#[126, 120]⟩ : ByteArray).size = 2 from rfl] at z5
    have L3 : Hid (x3.data.toList = a.data.toList ++ 47 :: (b.data.toList ++ [126])) := Lib.hid (by rw [l3, l2, l1]; simp)
    have L5 : Hid (x5.data.toList = a.data.toList ++ 47 :: (b.data.toList ++ [126, 120])) := Lib.hid (by rw [l5, l2, l1]; simp)
    have hz3 : x3.size ≤ 1002 := by omega
    have hz5 : x5.size ≤ 1003 := by omega
    obtain ⟨m, hm⟩ : ∃ m, importI a.data.toList = m := ⟨_, rfl⟩
    have HMM := Lib.hid hm
    rw [hm] at HS
    clear hv hN hg hm l1 l2 l3 l5 z1 z2 z3 z5
    by_cases hm1 : m = 1
    · subst hm1
      go_enter Tryf.func4, Tryf.ntmps4
      go_wp2_with (first
        | (go_at_call 9; first | (have := hk3; refine (HM.out _).mono ?_; rintro e w4 ⟨rfl, hb4⟩; have hk4 := hk3.trans (hb4.mono hk3.size)) | (refine (HL.out _).mono ?_; rintro e w3 ⟨rfl, hk3⟩))
        | (go_at_call 15; refine (HA.out _).mono ?_; rintro e w5 ⟨rfl, hb5⟩; have hk5 := hk4.trans (hb5.mono hk4.size))
        | (go_at_call 16; refine (HQ.out _).mono ?_; rintro e w6 ⟨t6, rfl, ht6, hb6⟩; have hk6 := hk5.trans (hb6.mono hk5.size); have hz6 : t6.size ≤ 65536 := (by have := HLN.out; rw [← len_size, ht6]; omega); obtain ⟨x4, e4, l4, z4⟩ := cat_at (a := x3) (b := t6) (by omega); have hz4 : x4.size ≤ 100000 := (by omega); have L4 : Hid (x4.data.toList = a.data.toList ++ 47 :: (b.data.toList ++ 126 :: numL n)) := Lib.hid (by rw [l4, L3.out, ht6]; simp); clear l4 z4 ht6)
        | (go_at_call 17; first
          | (have := hk12; refine (HI.out x5 (by omega) _ hk12).mono ?_; rintro e w13 ⟨b13, hp13, rfl, hb13⟩; have hk13 := hk12.trans (hb13.mono hk12.size); obtain rfl := short_c HAL.out HMM.out (L5.out ▸ hp13); clear hp13)
          | (have := hk10; refine (HI.out x4 hz4 _ hk10).mono ?_; rintro e w11 ⟨b11, hp11, rfl, hb11⟩; have hk11 := hk10.trans (hb11.mono hk10.size); obtain rfl := short_b HAL.out n (L4.out ▸ hp11); clear hp11)
          | (refine (HI.out a (by omega) _ hk6).mono ?_; rintro e w7 ⟨b7, hp7, rfl, hb7⟩; have hk7 := hk6.trans (hb7.mono hk6.size); have HT := Lib.hid fun W => told_at b7 1 true (by rw [← HMM.out]; exact import_law hp7) W; clear hp7))
        | (go_at_call 18; first
          | (have := hk11; refine (HS.out _).mono ?_; rintro e w12 ⟨rfl, hb12⟩; have hk12 := hk11.trans (hb12.mono hk11.size))
          | (refine (HS.out _).mono ?_; rintro e w8 ⟨rfl, hb8⟩; have hk8 := hk7.trans (hb8.mono hk7.size)))
        | (go_at_call 13; refine (HT.out _).mono ?_; rintro e w9 ⟨rfl, hb9⟩; have hk9 := hk8.trans (hb9.mono hk8.size))
        | (go_at_call 19; refine (HP.out x4 hz4 _ hk9).mono ?_; rintro e w10 ⟨b10, hp10, rfl, hb10⟩; have hk10 := hk9.trans (hb10.mono hk9.size); obtain rfl := short_a HAL.out n (L4.out ▸ hp10); clear hp10))
      all_goals (go_ret; first | exact ⟨rfl, hk13⟩ | exact ⟨ret_bool (by simp), hk13⟩)
    · have hm2 : (m == 1) = false := by simpa using hm1
      have hm3 : (m != 1) = true := by simpa using hm1
      clear hm1
      go_enter Tryf.func4, Tryf.ntmps4
      go_wp2_with (first
        | (go_at_call 9; first | (have := hk3; refine (HM.out _).mono ?_; rintro e w4 ⟨rfl, hb4⟩; have hk4 := hk3.trans (hb4.mono hk3.size)) | (refine (HL.out _).mono ?_; rintro e w3 ⟨rfl, hk3⟩))
        | (go_at_call 15; refine (HA.out _).mono ?_; rintro e w5 ⟨rfl, hb5⟩; have hk5 := hk4.trans (hb5.mono hk4.size))
        | (go_at_call 16; refine (HQ.out _).mono ?_; rintro e w6 ⟨t6, rfl, ht6, hb6⟩; have hk6 := hk5.trans (hb6.mono hk5.size); have hz6 : t6.size ≤ 65536 := (by have := HLN.out; rw [← len_size, ht6]; omega); obtain ⟨x4, e4, l4, z4⟩ := cat_at (a := x3) (b := t6) (by omega); have hz4 : x4.size ≤ 100000 := (by omega); have L4 : Hid (x4.data.toList = a.data.toList ++ 47 :: (b.data.toList ++ 126 :: numL n)) := Lib.hid (by rw [l4, L3.out, ht6]; simp); clear l4 z4 ht6)
        | (go_at_call 17; first
          | (have := hk10; refine (HI.out x4 hz4 _ hk10).mono ?_; rintro e w11 ⟨b11, hp11, rfl, hb11⟩; have hk11 := hk10.trans (hb11.mono hk10.size); obtain rfl := short_b HAL.out n (L4.out ▸ hp11); clear hp11)
          | (refine (HI.out a (by omega) _ hk6).mono ?_; rintro e w7 ⟨b7, hp7, rfl, hb7⟩; have hk7 := hk6.trans (hb7.mono hk6.size); have HT := Lib.hid fun W => told_at b7 m true (by rw [← HMM.out]; exact import_law hp7) W; clear hp7))
        | (go_at_call 18; first
          | (have := hk11; refine (HS.out _).mono ?_; rintro e w12 ⟨rfl, hb12⟩; have hk12 := hk11.trans (hb12.mono hk11.size))
          | (refine (HS.out _).mono ?_; rintro e w8 ⟨rfl, hb8⟩; have hk8 := hk7.trans (hb8.mono hk7.size)))
        | (go_at_call 13; refine (HT.out _).mono ?_; rintro e w9 ⟨rfl, hb9⟩; have hk9 := hk8.trans (hb9.mono hk8.size))
        | (go_at_call 19; refine (HP.out x4 hz4 _ hk9).mono ?_; rintro e w10 ⟨b10, hp10, rfl, hb10⟩; have hk10 := hk9.trans (hb10.mono hk9.size); obtain rfl := short_a HAL.out n (L4.out ▸ hp10); clear hp10))
      all_goals (go_ret; first | exact ⟨rfl, hk12⟩ | exact ⟨ret_bool (by simp), hk12⟩)

end Go.Proofs.YtdnkmikckchnpaaFmt.PS
