/- laws.FnElement returns true; the conditions: the tape answers fmt's stop, where the names of Windows lie, that utf8.ValidString, unicode.IsLetter and strings.EqualFold answer. -/
import Derived.Test.YtpbebckhemnooaaFmtLawBase
import Derived.Test.YtpbebckhemnooaaFmtFileLaw
namespace Go.Proofs.YtpbebckhemnooaaFmt.PS
open Go.RowKit Go.Proofs.YtpbebckhemnooaaFmtW.PrintWords Go.Proofs.YtpbebckhemnooaaFmtW.PrintLast Go.Proofs.YtpbebckhemnooaaFmtW.PrintMore Go.Proofs.YtpbebckhemnooaaFmt.PT
set_option linter.unusedVariables false
set_option linter.unusedSimpArgs false

theorem elem_a {p t : List UInt8} (j : Nat) (hj : j < 8) (ht : allB true true [45, 95] t = true) {b : Bool} (m : MB (p ++ 47 :: elemN j t) b) : b = false := by
  obtain ⟨_, x2⟩ := PB.some 1 (p ++ 47 :: elemN j t)
  obtain ⟨_, x3⟩ := PB.some 2 (p ++ 47 :: elemN j t)
  exact (element_law j hj ht m x2 x3).1
theorem elem_b {p t : List UInt8} (j : Nat) (hj : j < 8) (ht : allB true true [45, 95] t = true) {b : Bool} (m : PB 1 (p ++ 47 :: elemN j t) b) : b = false := by
  obtain ⟨_, x2⟩ := MB.some (p ++ 47 :: elemN j t)
  obtain ⟨_, x3⟩ := PB.some 2 (p ++ 47 :: elemN j t)
  exact (element_law j hj ht x2 m x3).2.1
theorem elem_c {p t : List UInt8} (j : Nat) (hj : j < 8) (ht : allB true true [45, 95] t = true) {b : Bool} (m : PB 2 (p ++ 47 :: elemN j t) b) : b = false := by
  obtain ⟨_, x2⟩ := MB.some (p ++ 47 :: elemN j t)
  obtain ⟨_, x3⟩ := PB.some 1 (p ++ 47 :: elemN j t)
  exact (element_law j hj ht x2 x3 m).2.2

set_option maxHeartbeats 6400000 in
set_option maxRecDepth 100000 in
theorem elem_main0 (a b : ByteArray) (n : Nat) (m : Int) (hn0 : 0 ≤ (n : Int)) (hn : (n : Int) ≤ 255) (hmod : (n : Int) % 8 = 0) (w : World) (hz1 : a.size ≤ 500) (hz2 : b.size ≤ 500) (HS : ∀ W, Calls Tryf.prog 30 #[.string a] W fun e w' => e = .returned (.int .i64 m) ∧ Below W.heap.size W w') (HMM : modPathI a.data.toList = m)
    (HL : ∀ W, Calls Tryf.prog 15 #[.string a] W fun e w' => e = .returned (.bool false) ∧ Below W.heap.size W w') (HM : ∀ W, Calls Tryf.prog 15 #[.string b] W fun e w' => e = .returned (.bool false) ∧ Below W.heap.size W w')
    (HA : ∀ W, Calls Tryf.prog 28 #[.string b, .bool true, .bool true, .string ⟨#[45, 95]⟩] W fun e w' => e = .returned (.bool true) ∧ Below W.heap.size W w') (HAL : allB true true [45, 95] b.data.toList = true)
    (HP : ∀ t : ByteArray, t.size ≤ 100000 → ∀ W, Below w.heap.size w W → Calls Tryf.prog 29 #[.string t] W (MBool W t.data.toList))
    (HI : ∀ t : ByteArray, t.size ≤ 100000 → ∀ W, Below w.heap.size w W → Calls Tryf.prog 25 #[.string t] W (BoolPost W 1 t.data.toList))
    (HC : ∀ t : ByteArray, t.size ≤ 100000 → ∀ W, Below w.heap.size w W → Calls Tryf.prog 23 #[.string t] W (BoolPost W 2 t.data.toList)) :
    Calls Tryf.prog 10 #[.string a, .int .u8 (n : Int), .string b] w (Yes w) := by
  have h1 : ¬ (a.size : Int) > 2147483647 := by omega
  have h2 : ¬ (b.size : Int) > 2147483647 := by omega
  have HS := Lib.hid HS
  have HMM := Lib.hid HMM
  have HL := Lib.hid HL
  have HM := Lib.hid HM
  have HA := Lib.hid HA
  have HAL := Lib.hid HAL
  have HP := Lib.hid HP
  have HI := Lib.hid HI
  have HC := Lib.hid HC
  obtain ⟨x1, e1, l1, z1⟩ := cat_at (a := a) (b := ⟨#[47]⟩) (by rw [show (⟨#[47]⟩ : ByteArray).size = 1 from rfl]; omega)
  rw [show (⟨#[47]⟩ : ByteArray).size = 1 from rfl] at z1
  obtain ⟨x2, e2, l2, z2⟩ := cat_at (a := x1) (b := ⟨#[99, 111, 110]⟩) (by rw [show (⟨#[99, 111, 110]⟩ : ByteArray).size = 3 from rfl]; omega)
  rw [show (⟨#[99, 111, 110]⟩ : ByteArray).size = 3 from rfl] at z2
  by_cases hq : b.size = 0
  · have q1 : b.toList = [] := by rw [Lib.toList_data]; exact data_eq_nil hq
    have q2 : (b.toList != []) = false := by simp [q1]
    have q3 : (b.toList == []) = true := by simp [q1]
    have L2 : Hid (x2.data.toList = a.data.toList ++ 47 :: elemN 0 b.data.toList) := Lib.hid (by rw [l2, l1, elemN, if_pos (data_eq_nil hq)]; simp [eightL])
    have hx2 : x2.size ≤ 600 := by omega
    clear l1 l2 z1 z2 hq
    go_enter Tryf.func10, Tryf.ntmps10
    go_wp2_with (first
      | (go_at_call 15; first | (have := hk3; refine (HM.out _).mono ?_; rintro e w4 ⟨rfl, hb4⟩; have hk4 := hk3.trans (hb4.mono hk3.size)) | (refine (HL.out _).mono ?_; rintro e w3 ⟨rfl, hk3⟩))
      | (go_at_call 28; refine (HA.out _).mono ?_; rintro e w5 ⟨rfl, hb5⟩; have hk5 := hk4.trans (hb5.mono hk4.size); have hk6 := hk5.alloc hk5.size (.cells #[.string ⟨#[99, 111, 110]⟩, .string ⟨#[80, 82, 78]⟩, .string ⟨#[65, 117, 120]⟩, .string ⟨#[110, 85, 108]⟩, .string ⟨#[99, 111, 109, 49]⟩, .string ⟨#[67, 79, 77, 57]⟩, .string ⟨#[108, 112, 116, 51]⟩, .string ⟨#[76, 112, 84, 55]⟩] 9))
      | (go_at_call 29; first
        | (have := hk9; refine (HP.out x2 (by omega) _ hk9).mono ?_; rintro e w10 ⟨b10, hp10, rfl, hb10⟩; have hk10 := hk9.trans (hb10.mono hk9.size); obtain rfl := elem_a 0 (by decide) HAL.out (L2.out ▸ hp10); clear hp10)
        | (refine (HP.out a (by omega) _ hk6).mono ?_; rintro e w7 ⟨b7, hp7, rfl, hb7⟩; have hk7 := hk6.trans (hb7.mono hk6.size); have HT := Lib.hid fun W => told_at b7 m true (by rw [← HMM.out]; exact path_law hp7) W; clear hp7))
      | (go_at_call 30; refine (HS.out _).mono ?_; rintro e w8 ⟨rfl, hb8⟩; have hk8 := hk7.trans (hb8.mono hk7.size))
      | (go_at_call 17; refine (HT.out _).mono ?_; rintro e w9 ⟨rfl, hb9⟩; have hk9 := hk8.trans (hb9.mono hk8.size))
      | (go_at_call 25; refine (HI.out x2 (by omega) _ hk10).mono ?_; rintro e w11 ⟨b11, hp11, rfl, hb11⟩; have hk11 := hk10.trans (hb11.mono hk10.size); obtain rfl := elem_b 0 (by decide) HAL.out (L2.out ▸ hp11); clear hp11)
      | (go_at_call 23; refine (HC.out x2 (by omega) _ hk11).mono ?_; rintro e w12 ⟨b12, hp12, rfl, hb12⟩; have hk12 := hk11.trans (hb12.mono hk11.size); obtain rfl := elem_c 0 (by decide) HAL.out (L2.out ▸ hp12); clear hp12))
    all_goals (go_ret; first | exact ⟨rfl, hk12⟩ | exact ⟨ret_bool (by simp), hk12⟩)
  · have q1 : ¬ b.toList = [] := by rw [Lib.toList_data]; exact data_ne_nil (by omega)
    have q2 : (b.toList != []) = true := by simp [q1]
    have q3 : (b.toList == []) = false := by simp [q1]
    obtain ⟨x3, e3, l3, z3⟩ := cat_at (a := ⟨#[46]⟩) (b := b) (by rw [show (⟨#[46]⟩ : ByteArray).size = 1 from rfl]; omega)
    rw [show (⟨#[46]⟩ : ByteArray).size = 1 from rfl] at z3
    obtain ⟨x4, e4, l4, z4⟩ := cat_at (a := x2) (b := x3) (by omega)
    have L4 : Hid (x4.data.toList = a.data.toList ++ 47 :: elemN 0 b.data.toList) := Lib.hid (by rw [l4, l3, l2, l1, elemN, if_neg (data_ne_nil (by omega))]; simp [eightL])
    have hx4 : x4.size ≤ 1100 := by omega
    clear l1 l2 l3 l4 z1 z2 z3 z4 hq
    go_enter Tryf.func10, Tryf.ntmps10
    go_wp2_with (first
      | (go_at_call 15; first | (have := hk3; refine (HM.out _).mono ?_; rintro e w4 ⟨rfl, hb4⟩; have hk4 := hk3.trans (hb4.mono hk3.size)) | (refine (HL.out _).mono ?_; rintro e w3 ⟨rfl, hk3⟩))
      | (go_at_call 28; refine (HA.out _).mono ?_; rintro e w5 ⟨rfl, hb5⟩; have hk5 := hk4.trans (hb5.mono hk4.size); have hk6 := hk5.alloc hk5.size (.cells #[.string ⟨#[99, 111, 110]⟩, .string ⟨#[80, 82, 78]⟩, .string ⟨#[65, 117, 120]⟩, .string ⟨#[110, 85, 108]⟩, .string ⟨#[99, 111, 109, 49]⟩, .string ⟨#[67, 79, 77, 57]⟩, .string ⟨#[108, 112, 116, 51]⟩, .string ⟨#[76, 112, 84, 55]⟩] 9))
      | (go_at_call 29; first
        | (have := hk9; refine (HP.out x4 (by omega) _ hk9).mono ?_; rintro e w10 ⟨b10, hp10, rfl, hb10⟩; have hk10 := hk9.trans (hb10.mono hk9.size); obtain rfl := elem_a 0 (by decide) HAL.out (L4.out ▸ hp10); clear hp10)
        | (refine (HP.out a (by omega) _ hk6).mono ?_; rintro e w7 ⟨b7, hp7, rfl, hb7⟩; have hk7 := hk6.trans (hb7.mono hk6.size); have HT := Lib.hid fun W => told_at b7 m true (by rw [← HMM.out]; exact path_law hp7) W; clear hp7))
      | (go_at_call 30; refine (HS.out _).mono ?_; rintro e w8 ⟨rfl, hb8⟩; have hk8 := hk7.trans (hb8.mono hk7.size))
      | (go_at_call 17; refine (HT.out _).mono ?_; rintro e w9 ⟨rfl, hb9⟩; have hk9 := hk8.trans (hb9.mono hk8.size))
      | (go_at_call 25; refine (HI.out x4 (by omega) _ hk10).mono ?_; rintro e w11 ⟨b11, hp11, rfl, hb11⟩; have hk11 := hk10.trans (hb11.mono hk10.size); obtain rfl := elem_b 0 (by decide) HAL.out (L4.out ▸ hp11); clear hp11)
      | (go_at_call 23; refine (HC.out x4 (by omega) _ hk11).mono ?_; rintro e w12 ⟨b12, hp12, rfl, hb12⟩; have hk12 := hk11.trans (hb12.mono hk11.size); obtain rfl := elem_c 0 (by decide) HAL.out (L4.out ▸ hp12); clear hp12))
    all_goals (go_ret; first | exact ⟨rfl, hk12⟩ | exact ⟨ret_bool (by simp), hk12⟩)

set_option maxHeartbeats 6400000 in
set_option maxRecDepth 100000 in
theorem elem_main1 (a b : ByteArray) (n : Nat) (m : Int) (hn0 : 0 ≤ (n : Int)) (hn : (n : Int) ≤ 255) (hmod : (n : Int) % 8 = 1) (w : World) (hz1 : a.size ≤ 500) (hz2 : b.size ≤ 500) (HS : ∀ W, Calls Tryf.prog 30 #[.string a] W fun e w' => e = .returned (.int .i64 m) ∧ Below W.heap.size W w') (HMM : modPathI a.data.toList = m)
    (HL : ∀ W, Calls Tryf.prog 15 #[.string a] W fun e w' => e = .returned (.bool false) ∧ Below W.heap.size W w') (HM : ∀ W, Calls Tryf.prog 15 #[.string b] W fun e w' => e = .returned (.bool false) ∧ Below W.heap.size W w')
    (HA : ∀ W, Calls Tryf.prog 28 #[.string b, .bool true, .bool true, .string ⟨#[45, 95]⟩] W fun e w' => e = .returned (.bool true) ∧ Below W.heap.size W w') (HAL : allB true true [45, 95] b.data.toList = true)
    (HP : ∀ t : ByteArray, t.size ≤ 100000 → ∀ W, Below w.heap.size w W → Calls Tryf.prog 29 #[.string t] W (MBool W t.data.toList))
    (HI : ∀ t : ByteArray, t.size ≤ 100000 → ∀ W, Below w.heap.size w W → Calls Tryf.prog 25 #[.string t] W (BoolPost W 1 t.data.toList))
    (HC : ∀ t : ByteArray, t.size ≤ 100000 → ∀ W, Below w.heap.size w W → Calls Tryf.prog 23 #[.string t] W (BoolPost W 2 t.data.toList)) :
    Calls Tryf.prog 10 #[.string a, .int .u8 (n : Int), .string b] w (Yes w) := by
  have h1 : ¬ (a.size : Int) > 2147483647 := by omega
  have h2 : ¬ (b.size : Int) > 2147483647 := by omega
  have HS := Lib.hid HS
  have HMM := Lib.hid HMM
  have HL := Lib.hid HL
  have HM := Lib.hid HM
  have HA := Lib.hid HA
  have HAL := Lib.hid HAL
  have HP := Lib.hid HP
  have HI := Lib.hid HI
  have HC := Lib.hid HC
  obtain ⟨x1, e1, l1, z1⟩ := cat_at (a := a) (b := ⟨#[47]⟩) (by rw [show (⟨#[47]⟩ : ByteArray).size = 1 from rfl]; omega)
  rw [show (⟨#[47]⟩ : ByteArray).size = 1 from rfl] at z1
  obtain ⟨x2, e2, l2, z2⟩ := cat_at (a := x1) (b := ⟨#[80, 82, 78]⟩) (by rw [show (⟨#[80, 82, 78]⟩ : ByteArray).size = 3 from rfl]; omega)
  rw [show (⟨#[80, 82, 78]⟩ : ByteArray).size = 3 from rfl] at z2
  by_cases hq : b.size = 0
  · have q1 : b.toList = [] := by rw [Lib.toList_data]; exact data_eq_nil hq
    have q2 : (b.toList != []) = false := by simp [q1]
    have q3 : (b.toList == []) = true := by simp [q1]
    have L2 : Hid (x2.data.toList = a.data.toList ++ 47 :: elemN 1 b.data.toList) := Lib.hid (by rw [l2, l1, elemN, if_pos (data_eq_nil hq)]; simp [eightL])
    have hx2 : x2.size ≤ 600 := by omega
    clear l1 l2 z1 z2 hq
    go_enter Tryf.func10, Tryf.ntmps10
    go_wp2_with (first
      | (go_at_call 15; first | (have := hk3; refine (HM.out _).mono ?_; rintro e w4 ⟨rfl, hb4⟩; have hk4 := hk3.trans (hb4.mono hk3.size)) | (refine (HL.out _).mono ?_; rintro e w3 ⟨rfl, hk3⟩))
      | (go_at_call 28; refine (HA.out _).mono ?_; rintro e w5 ⟨rfl, hb5⟩; have hk5 := hk4.trans (hb5.mono hk4.size); have hk6 := hk5.alloc hk5.size (.cells #[.string ⟨#[99, 111, 110]⟩, .string ⟨#[80, 82, 78]⟩, .string ⟨#[65, 117, 120]⟩, .string ⟨#[110, 85, 108]⟩, .string ⟨#[99, 111, 109, 49]⟩, .string ⟨#[67, 79, 77, 57]⟩, .string ⟨#[108, 112, 116, 51]⟩, .string ⟨#[76, 112, 84, 55]⟩] 9))
      | (go_at_call 29; first
        | (have := hk9; refine (HP.out x2 (by omega) _ hk9).mono ?_; rintro e w10 ⟨b10, hp10, rfl, hb10⟩; have hk10 := hk9.trans (hb10.mono hk9.size); obtain rfl := elem_a 1 (by decide) HAL.out (L2.out ▸ hp10); clear hp10)
        | (refine (HP.out a (by omega) _ hk6).mono ?_; rintro e w7 ⟨b7, hp7, rfl, hb7⟩; have hk7 := hk6.trans (hb7.mono hk6.size); have HT := Lib.hid fun W => told_at b7 m true (by rw [← HMM.out]; exact path_law hp7) W; clear hp7))
      | (go_at_call 30; refine (HS.out _).mono ?_; rintro e w8 ⟨rfl, hb8⟩; have hk8 := hk7.trans (hb8.mono hk7.size))
      | (go_at_call 17; refine (HT.out _).mono ?_; rintro e w9 ⟨rfl, hb9⟩; have hk9 := hk8.trans (hb9.mono hk8.size))
      | (go_at_call 25; refine (HI.out x2 (by omega) _ hk10).mono ?_; rintro e w11 ⟨b11, hp11, rfl, hb11⟩; have hk11 := hk10.trans (hb11.mono hk10.size); obtain rfl := elem_b 1 (by decide) HAL.out (L2.out ▸ hp11); clear hp11)
      | (go_at_call 23; refine (HC.out x2 (by omega) _ hk11).mono ?_; rintro e w12 ⟨b12, hp12, rfl, hb12⟩; have hk12 := hk11.trans (hb12.mono hk11.size); obtain rfl := elem_c 1 (by decide) HAL.out (L2.out ▸ hp12); clear hp12))
    all_goals (go_ret; first | exact ⟨rfl, hk12⟩ | exact ⟨ret_bool (by simp), hk12⟩)
  · have q1 : ¬ b.toList = [] := by rw [Lib.toList_data]; exact data_ne_nil (by omega)
    have q2 : (b.toList != []) = true := by simp [q1]
    have q3 : (b.toList == []) = false := by simp [q1]
    obtain ⟨x3, e3, l3, z3⟩ := cat_at (a := ⟨#[46]⟩) (b := b) (by rw [show (⟨#[46]⟩ : ByteArray).size = 1 from rfl]; omega)
    rw [show (⟨#[46]⟩ : ByteArray).size = 1 from rfl] at z3
    obtain ⟨x4, e4, l4, z4⟩ := cat_at (a := x2) (b := x3) (by omega)
    have L4 : Hid (x4.data.toList = a.data.toList ++ 47 :: elemN 1 b.data.toList) := Lib.hid (by rw [l4, l3, l2, l1, elemN, if_neg (data_ne_nil (by omega))]; simp [eightL])
    have hx4 : x4.size ≤ 1100 := by omega
    clear l1 l2 l3 l4 z1 z2 z3 z4 hq
    go_enter Tryf.func10, Tryf.ntmps10
    go_wp2_with (first
      | (go_at_call 15; first | (have := hk3; refine (HM.out _).mono ?_; rintro e w4 ⟨rfl, hb4⟩; have hk4 := hk3.trans (hb4.mono hk3.size)) | (refine (HL.out _).mono ?_; rintro e w3 ⟨rfl, hk3⟩))
      | (go_at_call 28; refine (HA.out _).mono ?_; rintro e w5 ⟨rfl, hb5⟩; have hk5 := hk4.trans (hb5.mono hk4.size); have hk6 := hk5.alloc hk5.size (.cells #[.string ⟨#[99, 111, 110]⟩, .string ⟨#[80, 82, 78]⟩, .string ⟨#[65, 117, 120]⟩, .string ⟨#[110, 85, 108]⟩, .string ⟨#[99, 111, 109, 49]⟩, .string ⟨#[67, 79, 77, 57]⟩, .string ⟨#[108, 112, 116, 51]⟩, .string ⟨#[76, 112, 84, 55]⟩] 9))
      | (go_at_call 29; first
        | (have := hk9; refine (HP.out x4 (by omega) _ hk9).mono ?_; rintro e w10 ⟨b10, hp10, rfl, hb10⟩; have hk10 := hk9.trans (hb10.mono hk9.size); obtain rfl := elem_a 1 (by decide) HAL.out (L4.out ▸ hp10); clear hp10)
        | (refine (HP.out a (by omega) _ hk6).mono ?_; rintro e w7 ⟨b7, hp7, rfl, hb7⟩; have hk7 := hk6.trans (hb7.mono hk6.size); have HT := Lib.hid fun W => told_at b7 m true (by rw [← HMM.out]; exact path_law hp7) W; clear hp7))
      | (go_at_call 30; refine (HS.out _).mono ?_; rintro e w8 ⟨rfl, hb8⟩; have hk8 := hk7.trans (hb8.mono hk7.size))
      | (go_at_call 17; refine (HT.out _).mono ?_; rintro e w9 ⟨rfl, hb9⟩; have hk9 := hk8.trans (hb9.mono hk8.size))
      | (go_at_call 25; refine (HI.out x4 (by omega) _ hk10).mono ?_; rintro e w11 ⟨b11, hp11, rfl, hb11⟩; have hk11 := hk10.trans (hb11.mono hk10.size); obtain rfl := elem_b 1 (by decide) HAL.out (L4.out ▸ hp11); clear hp11)
      | (go_at_call 23; refine (HC.out x4 (by omega) _ hk11).mono ?_; rintro e w12 ⟨b12, hp12, rfl, hb12⟩; have hk12 := hk11.trans (hb12.mono hk11.size); obtain rfl := elem_c 1 (by decide) HAL.out (L4.out ▸ hp12); clear hp12))
    all_goals (go_ret; first | exact ⟨rfl, hk12⟩ | exact ⟨ret_bool (by simp), hk12⟩)

set_option maxHeartbeats 6400000 in
set_option maxRecDepth 100000 in
theorem elem_main2 (a b : ByteArray) (n : Nat) (m : Int) (hn0 : 0 ≤ (n : Int)) (hn : (n : Int) ≤ 255) (hmod : (n : Int) % 8 = 2) (w : World) (hz1 : a.size ≤ 500) (hz2 : b.size ≤ 500) (HS : ∀ W, Calls Tryf.prog 30 #[.string a] W fun e w' => e = .returned (.int .i64 m) ∧ Below W.heap.size W w') (HMM : modPathI a.data.toList = m)
    (HL : ∀ W, Calls Tryf.prog 15 #[.string a] W fun e w' => e = .returned (.bool false) ∧ Below W.heap.size W w') (HM : ∀ W, Calls Tryf.prog 15 #[.string b] W fun e w' => e = .returned (.bool false) ∧ Below W.heap.size W w')
    (HA : ∀ W, Calls Tryf.prog 28 #[.string b, .bool true, .bool true, .string ⟨#[45, 95]⟩] W fun e w' => e = .returned (.bool true) ∧ Below W.heap.size W w') (HAL : allB true true [45, 95] b.data.toList = true)
    (HP : ∀ t : ByteArray, t.size ≤ 100000 → ∀ W, Below w.heap.size w W → Calls Tryf.prog 29 #[.string t] W (MBool W t.data.toList))
    (HI : ∀ t : ByteArray, t.size ≤ 100000 → ∀ W, Below w.heap.size w W → Calls Tryf.prog 25 #[.string t] W (BoolPost W 1 t.data.toList))
    (HC : ∀ t : ByteArray, t.size ≤ 100000 → ∀ W, Below w.heap.size w W → Calls Tryf.prog 23 #[.string t] W (BoolPost W 2 t.data.toList)) :
    Calls Tryf.prog 10 #[.string a, .int .u8 (n : Int), .string b] w (Yes w) := by
  have h1 : ¬ (a.size : Int) > 2147483647 := by omega
  have h2 : ¬ (b.size : Int) > 2147483647 := by omega
  have HS := Lib.hid HS
  have HMM := Lib.hid HMM
  have HL := Lib.hid HL
  have HM := Lib.hid HM
  have HA := Lib.hid HA
  have HAL := Lib.hid HAL
  have HP := Lib.hid HP
  have HI := Lib.hid HI
  have HC := Lib.hid HC
  obtain ⟨x1, e1, l1, z1⟩ := cat_at (a := a) (b := ⟨#[47]⟩) (by rw [show (⟨#[47]⟩ : ByteArray).size = 1 from rfl]; omega)
  rw [show (⟨#[47]⟩ : ByteArray).size = 1 from rfl] at z1
  obtain ⟨x2, e2, l2, z2⟩ := cat_at (a := x1) (b := ⟨#[65, 117, 120]⟩) (by rw [show (⟨#[65, 117, 120]⟩ : ByteArray).size = 3 from rfl]; omega)
  rw [show (⟨#[65, 117, 120]⟩ : ByteArray).size = 3 from rfl] at z2
  by_cases hq : b.size = 0
  · have q1 : b.toList = [] := by rw [Lib.toList_data]; exact data_eq_nil hq
    have q2 : (b.toList != []) = false := by simp [q1]
    have q3 : (b.toList == []) = true := by simp [q1]
    have L2 : Hid (x2.data.toList = a.data.toList ++ 47 :: elemN 2 b.data.toList) := Lib.hid (by rw [l2, l1, elemN, if_pos (data_eq_nil hq)]; simp [eightL])
    have hx2 : x2.size ≤ 600 := by omega
    clear l1 l2 z1 z2 hq
    go_enter Tryf.func10, Tryf.ntmps10
    go_wp2_with (first
      | (go_at_call 15; first | (have := hk3; refine (HM.out _).mono ?_; rintro e w4 ⟨rfl, hb4⟩; have hk4 := hk3.trans (hb4.mono hk3.size)) | (refine (HL.out _).mono ?_; rintro e w3 ⟨rfl, hk3⟩))
      | (go_at_call 28; refine (HA.out _).mono ?_; rintro e w5 ⟨rfl, hb5⟩; have hk5 := hk4.trans (hb5.mono hk4.size); have hk6 := hk5.alloc hk5.size (.cells #[.string ⟨#[99, 111, 110]⟩, .string ⟨#[80, 82, 78]⟩, .string ⟨#[65, 117, 120]⟩, .string ⟨#[110, 85, 108]⟩, .string ⟨#[99, 111, 109, 49]⟩, .string ⟨#[67, 79, 77, 57]⟩, .string ⟨#[108, 112, 116, 51]⟩, .string ⟨#[76, 112, 84, 55]⟩] 9))
      | (go_at_call 29; first
        | (have := hk9; refine (HP.out x2 (by omega) _ hk9).mono ?_; rintro e w10 ⟨b10, hp10, rfl, hb10⟩; have hk10 := hk9.trans (hb10.mono hk9.size); obtain rfl := elem_a 2 (by decide) HAL.out (L2.out ▸ hp10); clear hp10)
        | (refine (HP.out a (by omega) _ hk6).mono ?_; rintro e w7 ⟨b7, hp7, rfl, hb7⟩; have hk7 := hk6.trans (hb7.mono hk6.size); have HT := Lib.hid fun W => told_at b7 m true (by rw [← HMM.out]; exact path_law hp7) W; clear hp7))
      | (go_at_call 30; refine (HS.out _).mono ?_; rintro e w8 ⟨rfl, hb8⟩; have hk8 := hk7.trans (hb8.mono hk7.size))
      | (go_at_call 17; refine (HT.out _).mono ?_; rintro e w9 ⟨rfl, hb9⟩; have hk9 := hk8.trans (hb9.mono hk8.size))
      | (go_at_call 25; refine (HI.out x2 (by omega) _ hk10).mono ?_; rintro e w11 ⟨b11, hp11, rfl, hb11⟩; have hk11 := hk10.trans (hb11.mono hk10.size); obtain rfl := elem_b 2 (by decide) HAL.out (L2.out ▸ hp11); clear hp11)
      | (go_at_call 23; refine (HC.out x2 (by omega) _ hk11).mono ?_; rintro e w12 ⟨b12, hp12, rfl, hb12⟩; have hk12 := hk11.trans (hb12.mono hk11.size); obtain rfl := elem_c 2 (by decide) HAL.out (L2.out ▸ hp12); clear hp12))
    all_goals (go_ret; first | exact ⟨rfl, hk12⟩ | exact ⟨ret_bool (by simp), hk12⟩)
  · have q1 : ¬ b.toList = [] := by rw [Lib.toList_data]; exact data_ne_nil (by omega)
    have q2 : (b.toList != []) = true := by simp [q1]
    have q3 : (b.toList == []) = false := by simp [q1]
    obtain ⟨x3, e3, l3, z3⟩ := cat_at (a := ⟨#[46]⟩) (b := b) (by rw [show (⟨#[46]⟩ : ByteArray).size = 1 from rfl]; omega)
    rw [show (⟨#[46]⟩ : ByteArray).size = 1 from rfl] at z3
    obtain ⟨x4, e4, l4, z4⟩ := cat_at (a := x2) (b := x3) (by omega)
    have L4 : Hid (x4.data.toList = a.data.toList ++ 47 :: elemN 2 b.data.toList) := Lib.hid (by rw [l4, l3, l2, l1, elemN, if_neg (data_ne_nil (by omega))]; simp [eightL])
    have hx4 : x4.size ≤ 1100 := by omega
    clear l1 l2 l3 l4 z1 z2 z3 z4 hq
    go_enter Tryf.func10, Tryf.ntmps10
    go_wp2_with (first
      | (go_at_call 15; first | (have := hk3; refine (HM.out _).mono ?_; rintro e w4 ⟨rfl, hb4⟩; have hk4 := hk3.trans (hb4.mono hk3.size)) | (refine (HL.out _).mono ?_; rintro e w3 ⟨rfl, hk3⟩))
      | (go_at_call 28; refine (HA.out _).mono ?_; rintro e w5 ⟨rfl, hb5⟩; have hk5 := hk4.trans (hb5.mono hk4.size); have hk6 := hk5.alloc hk5.size (.cells #[.string ⟨#[99, 111, 110]⟩, .string ⟨#[80, 82, 78]⟩, .string ⟨#[65, 117, 120]⟩, .string ⟨#[110, 85, 108]⟩, .string ⟨#[99, 111, 109, 49]⟩, .string ⟨#[67, 79, 77, 57]⟩, .string ⟨#[108, 112, 116, 51]⟩, .string ⟨#[76, 112, 84, 55]⟩] 9))
      | (go_at_call 29; first
        | (have := hk9; refine (HP.out x4 (by omega) _ hk9).mono ?_; rintro e w10 ⟨b10, hp10, rfl, hb10⟩; have hk10 := hk9.trans (hb10.mono hk9.size); obtain rfl := elem_a 2 (by decide) HAL.out (L4.out ▸ hp10); clear hp10)
        | (refine (HP.out a (by omega) _ hk6).mono ?_; rintro e w7 ⟨b7, hp7, rfl, hb7⟩; have hk7 := hk6.trans (hb7.mono hk6.size); have HT := Lib.hid fun W => told_at b7 m true (by rw [← HMM.out]; exact path_law hp7) W; clear hp7))
      | (go_at_call 30; refine (HS.out _).mono ?_; rintro e w8 ⟨rfl, hb8⟩; have hk8 := hk7.trans (hb8.mono hk7.size))
      | (go_at_call 17; refine (HT.out _).mono ?_; rintro e w9 ⟨rfl, hb9⟩; have hk9 := hk8.trans (hb9.mono hk8.size))
      | (go_at_call 25; refine (HI.out x4 (by omega) _ hk10).mono ?_; rintro e w11 ⟨b11, hp11, rfl, hb11⟩; have hk11 := hk10.trans (hb11.mono hk10.size); obtain rfl := elem_b 2 (by decide) HAL.out (L4.out ▸ hp11); clear hp11)
      | (go_at_call 23; refine (HC.out x4 (by omega) _ hk11).mono ?_; rintro e w12 ⟨b12, hp12, rfl, hb12⟩; have hk12 := hk11.trans (hb12.mono hk11.size); obtain rfl := elem_c 2 (by decide) HAL.out (L4.out ▸ hp12); clear hp12))
    all_goals (go_ret; first | exact ⟨rfl, hk12⟩ | exact ⟨ret_bool (by simp), hk12⟩)

set_option maxHeartbeats 6400000 in
set_option maxRecDepth 100000 in
theorem elem_main3 (a b : ByteArray) (n : Nat) (m : Int) (hn0 : 0 ≤ (n : Int)) (hn : (n : Int) ≤ 255) (hmod : (n : Int) % 8 = 3) (w : World) (hz1 : a.size ≤ 500) (hz2 : b.size ≤ 500) (HS : ∀ W, Calls Tryf.prog 30 #[.string a] W fun e w' => e = .returned (.int .i64 m) ∧ Below W.heap.size W w') (HMM : modPathI a.data.toList = m)
    (HL : ∀ W, Calls Tryf.prog 15 #[.string a] W fun e w' => e = .returned (.bool false) ∧ Below W.heap.size W w') (HM : ∀ W, Calls Tryf.prog 15 #[.string b] W fun e w' => e = .returned (.bool false) ∧ Below W.heap.size W w')
    (HA : ∀ W, Calls Tryf.prog 28 #[.string b, .bool true, .bool true, .string ⟨#[45, 95]⟩] W fun e w' => e = .returned (.bool true) ∧ Below W.heap.size W w') (HAL : allB true true [45, 95] b.data.toList = true)
    (HP : ∀ t : ByteArray, t.size ≤ 100000 → ∀ W, Below w.heap.size w W → Calls Tryf.prog 29 #[.string t] W (MBool W t.data.toList))
    (HI : ∀ t : ByteArray, t.size ≤ 100000 → ∀ W, Below w.heap.size w W → Calls Tryf.prog 25 #[.string t] W (BoolPost W 1 t.data.toList))
    (HC : ∀ t : ByteArray, t.size ≤ 100000 → ∀ W, Below w.heap.size w W → Calls Tryf.prog 23 #[.string t] W (BoolPost W 2 t.data.toList)) :
    Calls Tryf.prog 10 #[.string a, .int .u8 (n : Int), .string b] w (Yes w) := by
  have h1 : ¬ (a.size : Int) > 2147483647 := by omega
  have h2 : ¬ (b.size : Int) > 2147483647 := by omega
  have HS := Lib.hid HS
  have HMM := Lib.hid HMM
  have HL := Lib.hid HL
  have HM := Lib.hid HM
  have HA := Lib.hid HA
  have HAL := Lib.hid HAL
  have HP := Lib.hid HP
  have HI := Lib.hid HI
  have HC := Lib.hid HC
  obtain ⟨x1, e1, l1, z1⟩ := cat_at (a := a) (b := ⟨#[47]⟩) (by rw [show (⟨#[47]⟩ : ByteArray).size = 1 from rfl]; omega)
  rw [show (⟨#[47]⟩ : ByteArray).size = 1 from rfl] at z1
  obtain ⟨x2, e2, l2, z2⟩ := cat_at (a := x1) (b := ⟨#[110, 85, 108]⟩) (by rw [show (⟨#[110, 85, 108]⟩ : ByteArray).size = 3 from rfl]; omega)
  rw [show (⟨#[110, 85, 108]⟩ : ByteArray).size = 3 from rfl] at z2
  by_cases hq : b.size = 0
  · have q1 : b.toList = [] := by rw [Lib.toList_data]; exact data_eq_nil hq
    have q2 : (b.toList != []) = false := by simp [q1]
    have q3 : (b.toList == []) = true := by simp [q1]
    have L2 : Hid (x2.data.toList = a.data.toList ++ 47 :: elemN 3 b.data.toList) := Lib.hid (by rw [l2, l1, elemN, if_pos (data_eq_nil hq)]; simp [eightL])
    have hx2 : x2.size ≤ 600 := by omega
    clear l1 l2 z1 z2 hq
    go_enter Tryf.func10, Tryf.ntmps10
    go_wp2_with (first
      | (go_at_call 15; first | (have := hk3; refine (HM.out _).mono ?_; rintro e w4 ⟨rfl, hb4⟩; have hk4 := hk3.trans (hb4.mono hk3.size)) | (refine (HL.out _).mono ?_; rintro e w3 ⟨rfl, hk3⟩))
      | (go_at_call 28; refine (HA.out _).mono ?_; rintro e w5 ⟨rfl, hb5⟩; have hk5 := hk4.trans (hb5.mono hk4.size); have hk6 := hk5.alloc hk5.size (.cells #[.string ⟨#[99, 111, 110]⟩, .string ⟨#[80, 82, 78]⟩, .string ⟨#[65, 117, 120]⟩, .string ⟨#[110, 85, 108]⟩, .string ⟨#[99, 111, 109, 49]⟩, .string ⟨#[67, 79, 77, 57]⟩, .string ⟨#[108, 112, 116, 51]⟩, .string ⟨#[76, 112, 84, 55]⟩] 9))
      | (go_at_call 29; first
        | (have := hk9; refine (HP.out x2 (by omega) _ hk9).mono ?_; rintro e w10 ⟨b10, hp10, rfl, hb10⟩; have hk10 := hk9.trans (hb10.mono hk9.size); obtain rfl := elem_a 3 (by decide) HAL.out (L2.out ▸ hp10); clear hp10)
        | (refine (HP.out a (by omega) _ hk6).mono ?_; rintro e w7 ⟨b7, hp7, rfl, hb7⟩; have hk7 := hk6.trans (hb7.mono hk6.size); have HT := Lib.hid fun W => told_at b7 m true (by rw [← HMM.out]; exact path_law hp7) W; clear hp7))
      | (go_at_call 30; refine (HS.out _).mono ?_; rintro e w8 ⟨rfl, hb8⟩; have hk8 := hk7.trans (hb8.mono hk7.size))
      | (go_at_call 17; refine (HT.out _).mono ?_; rintro e w9 ⟨rfl, hb9⟩; have hk9 := hk8.trans (hb9.mono hk8.size))
      | (go_at_call 25; refine (HI.out x2 (by omega) _ hk10).mono ?_; rintro e w11 ⟨b11, hp11, rfl, hb11⟩; have hk11 := hk10.trans (hb11.mono hk10.size); obtain rfl := elem_b 3 (by decide) HAL.out (L2.out ▸ hp11); clear hp11)
      | (go_at_call 23; refine (HC.out x2 (by omega) _ hk11).mono ?_; rintro e w12 ⟨b12, hp12, rfl, hb12⟩; have hk12 := hk11.trans (hb12.mono hk11.size); obtain rfl := elem_c 3 (by decide) HAL.out (L2.out ▸ hp12); clear hp12))
    all_goals (go_ret; first | exact ⟨rfl, hk12⟩ | exact ⟨ret_bool (by simp), hk12⟩)
  · have q1 : ¬ b.toList = [] := by rw [Lib.toList_data]; exact data_ne_nil (by omega)
    have q2 : (b.toList != []) = true := by simp [q1]
    have q3 : (b.toList == []) = false := by simp [q1]
    obtain ⟨x3, e3, l3, z3⟩ := cat_at (a := ⟨#[46]⟩) (b := b) (by rw [show (⟨#[46]⟩ : ByteArray).size = 1 from rfl]; omega)
    rw [show (⟨#[46]⟩ : ByteArray).size = 1 from rfl] at z3
    obtain ⟨x4, e4, l4, z4⟩ := cat_at (a := x2) (b := x3) (by omega)
    have L4 : Hid (x4.data.toList = a.data.toList ++ 47 :: elemN 3 b.data.toList) := Lib.hid (by rw [l4, l3, l2, l1, elemN, if_neg (data_ne_nil (by omega))]; simp [eightL])
    have hx4 : x4.size ≤ 1100 := by omega
    clear l1 l2 l3 l4 z1 z2 z3 z4 hq
    go_enter Tryf.func10, Tryf.ntmps10
    go_wp2_with (first
      | (go_at_call 15; first | (have := hk3; refine (HM.out _).mono ?_; rintro e w4 ⟨rfl, hb4⟩; have hk4 := hk3.trans (hb4.mono hk3.size)) | (refine (HL.out _).mono ?_; rintro e w3 ⟨rfl, hk3⟩))
      | (go_at_call 28; refine (HA.out _).mono ?_; rintro e w5 ⟨rfl, hb5⟩; have hk5 := hk4.trans (hb5.mono hk4.size); have hk6 := hk5.alloc hk5.size (.cells #[.string ⟨#[99, 111, 110]⟩, .string ⟨#[80, 82, 78]⟩, .string ⟨#[65, 117, 120]⟩, .string ⟨#[110, 85, 108]⟩, .string ⟨#[99, 111, 109, 49]⟩, .string ⟨#[67, 79, 77, 57]⟩, .string ⟨#[108, 112, 116, 51]⟩, .string ⟨#[76, 112, 84, 55]⟩] 9))
      | (go_at_call 29; first
        | (have := hk9; refine (HP.out x4 (by omega) _ hk9).mono ?_; rintro e w10 ⟨b10, hp10, rfl, hb10⟩; have hk10 := hk9.trans (hb10.mono hk9.size); obtain rfl := elem_a 3 (by decide) HAL.out (L4.out ▸ hp10); clear hp10)
        | (refine (HP.out a (by omega) _ hk6).mono ?_; rintro e w7 ⟨b7, hp7, rfl, hb7⟩; have hk7 := hk6.trans (hb7.mono hk6.size); have HT := Lib.hid fun W => told_at b7 m true (by rw [← HMM.out]; exact path_law hp7) W; clear hp7))
      | (go_at_call 30; refine (HS.out _).mono ?_; rintro e w8 ⟨rfl, hb8⟩; have hk8 := hk7.trans (hb8.mono hk7.size))
      | (go_at_call 17; refine (HT.out _).mono ?_; rintro e w9 ⟨rfl, hb9⟩; have hk9 := hk8.trans (hb9.mono hk8.size))
      | (go_at_call 25; refine (HI.out x4 (by omega) _ hk10).mono ?_; rintro e w11 ⟨b11, hp11, rfl, hb11⟩; have hk11 := hk10.trans (hb11.mono hk10.size); obtain rfl := elem_b 3 (by decide) HAL.out (L4.out ▸ hp11); clear hp11)
      | (go_at_call 23; refine (HC.out x4 (by omega) _ hk11).mono ?_; rintro e w12 ⟨b12, hp12, rfl, hb12⟩; have hk12 := hk11.trans (hb12.mono hk11.size); obtain rfl := elem_c 3 (by decide) HAL.out (L4.out ▸ hp12); clear hp12))
    all_goals (go_ret; first | exact ⟨rfl, hk12⟩ | exact ⟨ret_bool (by simp), hk12⟩)

set_option maxHeartbeats 6400000 in
set_option maxRecDepth 100000 in
theorem elem_main4 (a b : ByteArray) (n : Nat) (m : Int) (hn0 : 0 ≤ (n : Int)) (hn : (n : Int) ≤ 255) (hmod : (n : Int) % 8 = 4) (w : World) (hz1 : a.size ≤ 500) (hz2 : b.size ≤ 500) (HS : ∀ W, Calls Tryf.prog 30 #[.string a] W fun e w' => e = .returned (.int .i64 m) ∧ Below W.heap.size W w') (HMM : modPathI a.data.toList = m)
    (HL : ∀ W, Calls Tryf.prog 15 #[.string a] W fun e w' => e = .returned (.bool false) ∧ Below W.heap.size W w') (HM : ∀ W, Calls Tryf.prog 15 #[.string b] W fun e w' => e = .returned (.bool false) ∧ Below W.heap.size W w')
    (HA : ∀ W, Calls Tryf.prog 28 #[.string b, .bool true, .bool true, .string ⟨#[45, 95]⟩] W fun e w' => e = .returned (.bool true) ∧ Below W.heap.size W w') (HAL : allB true true [45, 95] b.data.toList = true)
    (HP : ∀ t : ByteArray, t.size ≤ 100000 → ∀ W, Below w.heap.size w W → Calls Tryf.prog 29 #[.string t] W (MBool W t.data.toList))
    (HI : ∀ t : ByteArray, t.size ≤ 100000 → ∀ W, Below w.heap.size w W → Calls Tryf.prog 25 #[.string t] W (BoolPost W 1 t.data.toList))
    (HC : ∀ t : ByteArray, t.size ≤ 100000 → ∀ W, Below w.heap.size w W → Calls Tryf.prog 23 #[.string t] W (BoolPost W 2 t.data.toList)) :
    Calls Tryf.prog 10 #[.string a, .int .u8 (n : Int), .string b] w (Yes w) := by
  have h1 : ¬ (a.size : Int) > 2147483647 := by omega
  have h2 : ¬ (b.size : Int) > 2147483647 := by omega
  have HS := Lib.hid HS
  have HMM := Lib.hid HMM
  have HL := Lib.hid HL
  have HM := Lib.hid HM
  have HA := Lib.hid HA
  have HAL := Lib.hid HAL
  have HP := Lib.hid HP
  have HI := Lib.hid HI
  have HC := Lib.hid HC
  obtain ⟨x1, e1, l1, z1⟩ := cat_at (a := a) (b := ⟨#[47]⟩) (by rw [show (⟨#[47]⟩ : ByteArray).size = 1 from rfl]; omega)
  rw [show (⟨#[47]⟩ : ByteArray).size = 1 from rfl] at z1
  obtain ⟨x2, e2, l2, z2⟩ := cat_at (a := x1) (b := ⟨#[99, 111, 109, 49]⟩) (by rw [show (⟨#[99, 111, 109, 49]⟩ : ByteArray).size = 4 from rfl]; omega)
  rw [show (⟨#[99, 111, 109, 49]⟩ : ByteArray).size = 4 from rfl] at z2
  by_cases hq : b.size = 0
  · have q1 : b.toList = [] := by rw [Lib.toList_data]; exact data_eq_nil hq
    have q2 : (b.toList != []) = false := by simp [q1]
    have q3 : (b.toList == []) = true := by simp [q1]
    have L2 : Hid (x2.data.toList = a.data.toList ++ 47 :: elemN 4 b.data.toList) := Lib.hid (by rw [l2, l1, elemN, if_pos (data_eq_nil hq)]; simp [eightL])
    have hx2 : x2.size ≤ 600 := by omega
    clear l1 l2 z1 z2 hq
    go_enter Tryf.func10, Tryf.ntmps10
    go_wp2_with (first
      | (go_at_call 15; first | (have := hk3; refine (HM.out _).mono ?_; rintro e w4 ⟨rfl, hb4⟩; have hk4 := hk3.trans (hb4.mono hk3.size)) | (refine (HL.out _).mono ?_; rintro e w3 ⟨rfl, hk3⟩))
      | (go_at_call 28; refine (HA.out _).mono ?_; rintro e w5 ⟨rfl, hb5⟩; have hk5 := hk4.trans (hb5.mono hk4.size); have hk6 := hk5.alloc hk5.size (.cells #[.string ⟨#[99, 111, 110]⟩, .string ⟨#[80, 82, 78]⟩, .string ⟨#[65, 117, 120]⟩, .string ⟨#[110, 85, 108]⟩, .string ⟨#[99, 111, 109, 49]⟩, .string ⟨#[67, 79, 77, 57]⟩, .string ⟨#[108, 112, 116, 51]⟩, .string ⟨#[76, 112, 84, 55]⟩] 9))
      | (go_at_call 29; first
        | (have := hk9; refine (HP.out x2 (by omega) _ hk9).mono ?_; rintro e w10 ⟨b10, hp10, rfl, hb10⟩; have hk10 := hk9.trans (hb10.mono hk9.size); obtain rfl := elem_a 4 (by decide) HAL.out (L2.out ▸ hp10); clear hp10)
        | (refine (HP.out a (by omega) _ hk6).mono ?_; rintro e w7 ⟨b7, hp7, rfl, hb7⟩; have hk7 := hk6.trans (hb7.mono hk6.size); have HT := Lib.hid fun W => told_at b7 m true (by rw [← HMM.out]; exact path_law hp7) W; clear hp7))
      | (go_at_call 30; refine (HS.out _).mono ?_; rintro e w8 ⟨rfl, hb8⟩; have hk8 := hk7.trans (hb8.mono hk7.size))
      | (go_at_call 17; refine (HT.out _).mono ?_; rintro e w9 ⟨rfl, hb9⟩; have hk9 := hk8.trans (hb9.mono hk8.size))
      | (go_at_call 25; refine (HI.out x2 (by omega) _ hk10).mono ?_; rintro e w11 ⟨b11, hp11, rfl, hb11⟩; have hk11 := hk10.trans (hb11.mono hk10.size); obtain rfl := elem_b 4 (by decide) HAL.out (L2.out ▸ hp11); clear hp11)
      | (go_at_call 23; refine (HC.out x2 (by omega) _ hk11).mono ?_; rintro e w12 ⟨b12, hp12, rfl, hb12⟩; have hk12 := hk11.trans (hb12.mono hk11.size); obtain rfl := elem_c 4 (by decide) HAL.out (L2.out ▸ hp12); clear hp12))
    all_goals (go_ret; first | exact ⟨rfl, hk12⟩ | exact ⟨ret_bool (by simp), hk12⟩)
  · have q1 : ¬ b.toList = [] := by rw [Lib.toList_data]; exact data_ne_nil (by omega)
    have q2 : (b.toList != []) = true := by simp [q1]
    have q3 : (b.toList == []) = false := by simp [q1]
    obtain ⟨x3, e3, l3, z3⟩ := cat_at (a := ⟨#[46]⟩) (b := b) (by rw [show (⟨#[46]⟩ : ByteArray).size = 1 from rfl]; omega)
    rw [show (⟨#[46]⟩ : ByteArray).size = 1 from rfl] at z3
    obtain ⟨x4, e4, l4, z4⟩ := cat_at (a := x2) (b := x3) (by omega)
    have L4 : Hid (x4.data.toList = a.data.toList ++ 47 :: elemN 4 b.data.toList) := Lib.hid (by rw [l4, l3, l2, l1, elemN, if_neg (data_ne_nil (by omega))]; simp [eightL])
    have hx4 : x4.size ≤ 1100 := by omega
    clear l1 l2 l3 l4 z1 z2 z3 z4 hq
    go_enter Tryf.func10, Tryf.ntmps10
    go_wp2_with (first
      | (go_at_call 15; first | (have := hk3; refine (HM.out _).mono ?_; rintro e w4 ⟨rfl, hb4⟩; have hk4 := hk3.trans (hb4.mono hk3.size)) | (refine (HL.out _).mono ?_; rintro e w3 ⟨rfl, hk3⟩))
      | (go_at_call 28; refine (HA.out _).mono ?_; rintro e w5 ⟨rfl, hb5⟩; have hk5 := hk4.trans (hb5.mono hk4.size); have hk6 := hk5.alloc hk5.size (.cells #[.string ⟨#[99, 111, 110]⟩, .string ⟨#[80, 82, 78]⟩, .string ⟨#[65, 117, 120]⟩, .string ⟨#[110, 85, 108]⟩, .string ⟨#[99, 111, 109, 49]⟩, .string ⟨#[67, 79, 77, 57]⟩, .string ⟨#[108, 112, 116, 51]⟩, .string ⟨#[76, 112, 84, 55]⟩] 9))
      | (go_at_call 29; first
        | (have := hk9; refine (HP.out x4 (by omega) _ hk9).mono ?_; rintro e w10 ⟨b10, hp10, rfl, hb10⟩; have hk10 := hk9.trans (hb10.mono hk9.size); obtain rfl := elem_a 4 (by decide) HAL.out (L4.out ▸ hp10); clear hp10)
        | (refine (HP.out a (by omega) _ hk6).mono ?_; rintro e w7 ⟨b7, hp7, rfl, hb7⟩; have hk7 := hk6.trans (hb7.mono hk6.size); have HT := Lib.hid fun W => told_at b7 m true (by rw [← HMM.out]; exact path_law hp7) W; clear hp7))
      | (go_at_call 30; refine (HS.out _).mono ?_; rintro e w8 ⟨rfl, hb8⟩; have hk8 := hk7.trans (hb8.mono hk7.size))
      | (go_at_call 17; refine (HT.out _).mono ?_; rintro e w9 ⟨rfl, hb9⟩; have hk9 := hk8.trans (hb9.mono hk8.size))
      | (go_at_call 25; refine (HI.out x4 (by omega) _ hk10).mono ?_; rintro e w11 ⟨b11, hp11, rfl, hb11⟩; have hk11 := hk10.trans (hb11.mono hk10.size); obtain rfl := elem_b 4 (by decide) HAL.out (L4.out ▸ hp11); clear hp11)
      | (go_at_call 23; refine (HC.out x4 (by omega) _ hk11).mono ?_; rintro e w12 ⟨b12, hp12, rfl, hb12⟩; have hk12 := hk11.trans (hb12.mono hk11.size); obtain rfl := elem_c 4 (by decide) HAL.out (L4.out ▸ hp12); clear hp12))
    all_goals (go_ret; first | exact ⟨rfl, hk12⟩ | exact ⟨ret_bool (by simp), hk12⟩)

set_option maxHeartbeats 6400000 in
set_option maxRecDepth 100000 in
theorem elem_main5 (a b : ByteArray) (n : Nat) (m : Int) (hn0 : 0 ≤ (n : Int)) (hn : (n : Int) ≤ 255) (hmod : (n : Int) % 8 = 5) (w : World) (hz1 : a.size ≤ 500) (hz2 : b.size ≤ 500) (HS : ∀ W, Calls Tryf.prog 30 #[.string a] W fun e w' => e = .returned (.int .i64 m) ∧ Below W.heap.size W w') (HMM : modPathI a.data.toList = m)
    (HL : ∀ W, Calls Tryf.prog 15 #[.string a] W fun e w' => e = .returned (.bool false) ∧ Below W.heap.size W w') (HM : ∀ W, Calls Tryf.prog 15 #[.string b] W fun e w' => e = .returned (.bool false) ∧ Below W.heap.size W w')
    (HA : ∀ W, Calls Tryf.prog 28 #[.string b, .bool true, .bool true, .string ⟨#[45, 95]⟩] W fun e w' => e = .returned (.bool true) ∧ Below W.heap.size W w') (HAL : allB true true [45, 95] b.data.toList = true)
    (HP : ∀ t : ByteArray, t.size ≤ 100000 → ∀ W, Below w.heap.size w W → Calls Tryf.prog 29 #[.string t] W (MBool W t.data.toList))
    (HI : ∀ t : ByteArray, t.size ≤ 100000 → ∀ W, Below w.heap.size w W → Calls Tryf.prog 25 #[.string t] W (BoolPost W 1 t.data.toList))
    (HC : ∀ t : ByteArray, t.size ≤ 100000 → ∀ W, Below w.heap.size w W → Calls Tryf.prog 23 #[.string t] W (BoolPost W 2 t.data.toList)) :
    Calls Tryf.prog 10 #[.string a, .int .u8 (n : Int), .string b] w (Yes w) := by
  have h1 : ¬ (a.size : Int) > 2147483647 := by omega
  have h2 : ¬ (b.size : Int) > 2147483647 := by omega
  have HS := Lib.hid HS
  have HMM := Lib.hid HMM
  have HL := Lib.hid HL
  have HM := Lib.hid HM
  have HA := Lib.hid HA
  have HAL := Lib.hid HAL
  have HP := Lib.hid HP
  have HI := Lib.hid HI
  have HC := Lib.hid HC
  obtain ⟨x1, e1, l1, z1⟩ := cat_at (a := a) (b := ⟨#[47]⟩) (by rw [show (⟨#[47]⟩ : ByteArray).size = 1 from rfl]; omega)
  rw [show (⟨#[47]⟩ : ByteArray).size = 1 from rfl] at z1
  obtain ⟨x2, e2, l2, z2⟩ := cat_at (a := x1) (b := ⟨#[67, 79, 77, 57]⟩) (by rw [show (⟨#[67, 79, 77, 57]⟩ : ByteArray).size = 4 from rfl]; omega)
  rw [show (⟨#[67, 79, 77, 57]⟩ : ByteArray).size = 4 from rfl] at z2
  by_cases hq : b.size = 0
  · have q1 : b.toList = [] := by rw [Lib.toList_data]; exact data_eq_nil hq
    have q2 : (b.toList != []) = false := by simp [q1]
    have q3 : (b.toList == []) = true := by simp [q1]
    have L2 : Hid (x2.data.toList = a.data.toList ++ 47 :: elemN 5 b.data.toList) := Lib.hid (by rw [l2, l1, elemN, if_pos (data_eq_nil hq)]; simp [eightL])
    have hx2 : x2.size ≤ 600 := by omega
    clear l1 l2 z1 z2 hq
    go_enter Tryf.func10, Tryf.ntmps10
    go_wp2_with (first
      | (go_at_call 15; first | (have := hk3; refine (HM.out _).mono ?_; rintro e w4 ⟨rfl, hb4⟩; have hk4 := hk3.trans (hb4.mono hk3.size)) | (refine (HL.out _).mono ?_; rintro e w3 ⟨rfl, hk3⟩))
      | (go_at_call 28; refine (HA.out _).mono ?_; rintro e w5 ⟨rfl, hb5⟩; have hk5 := hk4.trans (hb5.mono hk4.size); have hk6 := hk5.alloc hk5.size (.cells #[.string ⟨#[99, 111, 110]⟩, .string ⟨#[80, 82, 78]⟩, .string ⟨#[65, 117, 120]⟩, .string ⟨#[110, 85, 108]⟩, .string ⟨#[99, 111, 109, 49]⟩, .string ⟨#[67, 79, 77, 57]⟩, .string ⟨#[108, 112, 116, 51]⟩, .string ⟨#[76, 112, 84, 55]⟩] 9))
      | (go_at_call 29; first
        | (have := hk9; refine (HP.out x2 (by omega) _ hk9).mono ?_; rintro e w10 ⟨b10, hp10, rfl, hb10⟩; have hk10 := hk9.trans (hb10.mono hk9.size); obtain rfl := elem_a 5 (by decide) HAL.out (L2.out ▸ hp10); clear hp10)
        | (refine (HP.out a (by omega) _ hk6).mono ?_; rintro e w7 ⟨b7, hp7, rfl, hb7⟩; have hk7 := hk6.trans (hb7.mono hk6.size); have HT := Lib.hid fun W => told_at b7 m true (by rw [← HMM.out]; exact path_law hp7) W; clear hp7))
      | (go_at_call 30; refine (HS.out _).mono ?_; rintro e w8 ⟨rfl, hb8⟩; have hk8 := hk7.trans (hb8.mono hk7.size))
      | (go_at_call 17; refine (HT.out _).mono ?_; rintro e w9 ⟨rfl, hb9⟩; have hk9 := hk8.trans (hb9.mono hk8.size))
      | (go_at_call 25; refine (HI.out x2 (by omega) _ hk10).mono ?_; rintro e w11 ⟨b11, hp11, rfl, hb11⟩; have hk11 := hk10.trans (hb11.mono hk10.size); obtain rfl := elem_b 5 (by decide) HAL.out (L2.out ▸ hp11); clear hp11)
      | (go_at_call 23; refine (HC.out x2 (by omega) _ hk11).mono ?_; rintro e w12 ⟨b12, hp12, rfl, hb12⟩; have hk12 := hk11.trans (hb12.mono hk11.size); obtain rfl := elem_c 5 (by decide) HAL.out (L2.out ▸ hp12); clear hp12))
    all_goals (go_ret; first | exact ⟨rfl, hk12⟩ | exact ⟨ret_bool (by simp), hk12⟩)
  · have q1 : ¬ b.toList = [] := by rw [Lib.toList_data]; exact data_ne_nil (by omega)
    have q2 : (b.toList != []) = true := by simp [q1]
    have q3 : (b.toList == []) = false := by simp [q1]
    obtain ⟨x3, e3, l3, z3⟩ := cat_at (a := ⟨#[46]⟩) (b := b) (by rw [show (⟨#[46]⟩ : ByteArray).size = 1 from rfl]; omega)
    rw [show (⟨#[46]⟩ : ByteArray).size = 1 from rfl] at z3
    obtain ⟨x4, e4, l4, z4⟩ := cat_at (a := x2) (b := x3) (by omega)
    have L4 : Hid (x4.data.toList = a.data.toList ++ 47 :: elemN 5 b.data.toList) := Lib.hid (by rw [l4, l3, l2, l1, elemN, if_neg (data_ne_nil (by omega))]; simp [eightL])
    have hx4 : x4.size ≤ 1100 := by omega
    clear l1 l2 l3 l4 z1 z2 z3 z4 hq
    go_enter Tryf.func10, Tryf.ntmps10
    go_wp2_with (first
      | (go_at_call 15; first | (have := hk3; refine (HM.out _).mono ?_; rintro e w4 ⟨rfl, hb4⟩; have hk4 := hk3.trans (hb4.mono hk3.size)) | (refine (HL.out _).mono ?_; rintro e w3 ⟨rfl, hk3⟩))
      | (go_at_call 28; refine (HA.out _).mono ?_; rintro e w5 ⟨rfl, hb5⟩; have hk5 := hk4.trans (hb5.mono hk4.size); have hk6 := hk5.alloc hk5.size (.cells #[.string ⟨#[99, 111, 110]⟩, .string ⟨#[80, 82, 78]⟩, .string ⟨#[65, 117, 120]⟩, .string ⟨#[110, 85, 108]⟩, .string ⟨#[99, 111, 109, 49]⟩, .string ⟨#[67, 79, 77, 57]⟩, .string ⟨#[108, 112, 116, 51]⟩, .string ⟨#[76, 112, 84, 55]⟩] 9))
      | (go_at_call 29; first
        | (have := hk9; refine (HP.out x4 (by omega) _ hk9).mono ?_; rintro e w10 ⟨b10, hp10, rfl, hb10⟩; have hk10 := hk9.trans (hb10.mono hk9.size); obtain rfl := elem_a 5 (by decide) HAL.out (L4.out ▸ hp10); clear hp10)
        | (refine (HP.out a (by omega) _ hk6).mono ?_; rintro e w7 ⟨b7, hp7, rfl, hb7⟩; have hk7 := hk6.trans (hb7.mono hk6.size); have HT := Lib.hid fun W => told_at b7 m true (by rw [← HMM.out]; exact path_law hp7) W; clear hp7))
      | (go_at_call 30; refine (HS.out _).mono ?_; rintro e w8 ⟨rfl, hb8⟩; have hk8 := hk7.trans (hb8.mono hk7.size))
      | (go_at_call 17; refine (HT.out _).mono ?_; rintro e w9 ⟨rfl, hb9⟩; have hk9 := hk8.trans (hb9.mono hk8.size))
      | (go_at_call 25; refine (HI.out x4 (by omega) _ hk10).mono ?_; rintro e w11 ⟨b11, hp11, rfl, hb11⟩; have hk11 := hk10.trans (hb11.mono hk10.size); obtain rfl := elem_b 5 (by decide) HAL.out (L4.out ▸ hp11); clear hp11)
      | (go_at_call 23; refine (HC.out x4 (by omega) _ hk11).mono ?_; rintro e w12 ⟨b12, hp12, rfl, hb12⟩; have hk12 := hk11.trans (hb12.mono hk11.size); obtain rfl := elem_c 5 (by decide) HAL.out (L4.out ▸ hp12); clear hp12))
    all_goals (go_ret; first | exact ⟨rfl, hk12⟩ | exact ⟨ret_bool (by simp), hk12⟩)

set_option maxHeartbeats 6400000 in
set_option maxRecDepth 100000 in
theorem elem_main6 (a b : ByteArray) (n : Nat) (m : Int) (hn0 : 0 ≤ (n : Int)) (hn : (n : Int) ≤ 255) (hmod : (n : Int) % 8 = 6) (w : World) (hz1 : a.size ≤ 500) (hz2 : b.size ≤ 500) (HS : ∀ W, Calls Tryf.prog 30 #[.string a] W fun e w' => e = .returned (.int .i64 m) ∧ Below W.heap.size W w') (HMM : modPathI a.data.toList = m)
    (HL : ∀ W, Calls Tryf.prog 15 #[.string a] W fun e w' => e = .returned (.bool false) ∧ Below W.heap.size W w') (HM : ∀ W, Calls Tryf.prog 15 #[.string b] W fun e w' => e = .returned (.bool false) ∧ Below W.heap.size W w')
    (HA : ∀ W, Calls Tryf.prog 28 #[.string b, .bool true, .bool true, .string ⟨#[45, 95]⟩] W fun e w' => e = .returned (.bool true) ∧ Below W.heap.size W w') (HAL : allB true true [45, 95] b.data.toList = true)
    (HP : ∀ t : ByteArray, t.size ≤ 100000 → ∀ W, Below w.heap.size w W → Calls Tryf.prog 29 #[.string t] W (MBool W t.data.toList))
    (HI : ∀ t : ByteArray, t.size ≤ 100000 → ∀ W, Below w.heap.size w W → Calls Tryf.prog 25 #[.string t] W (BoolPost W 1 t.data.toList))
    (HC : ∀ t : ByteArray, t.size ≤ 100000 → ∀ W, Below w.heap.size w W → Calls Tryf.prog 23 #[.string t] W (BoolPost W 2 t.data.toList)) :
    Calls Tryf.prog 10 #[.string a, .int .u8 (n : Int), .string b] w (Yes w) := by
  have h1 : ¬ (a.size : Int) > 2147483647 := by omega
  have h2 : ¬ (b.size : Int) > 2147483647 := by omega
  have HS := Lib.hid HS
  have HMM := Lib.hid HMM
  have HL := Lib.hid HL
  have HM := Lib.hid HM
  have HA := Lib.hid HA
  have HAL := Lib.hid HAL
  have HP := Lib.hid HP
  have HI := Lib.hid HI
  have HC := Lib.hid HC
  obtain ⟨x1, e1, l1, z1⟩ := cat_at (a := a) (b := ⟨#[47]⟩) (by rw [show (⟨#[47]⟩ : ByteArray).size = 1 from rfl]; omega)
  rw [show (⟨#[47]⟩ : ByteArray).size = 1 from rfl] at z1
  obtain ⟨x2, e2, l2, z2⟩ := cat_at (a := x1) (b := ⟨#[108, 112, 116, 51]⟩) (by rw [show (⟨#[108, 112, 116, 51]⟩ : ByteArray).size = 4 from rfl]; omega)
  rw [show (⟨#[108, 112, 116, 51]⟩ : ByteArray).size = 4 from rfl] at z2
  by_cases hq : b.size = 0
  · have q1 : b.toList = [] := by rw [Lib.toList_data]; exact data_eq_nil hq
    have q2 : (b.toList != []) = false := by simp [q1]
    have q3 : (b.toList == []) = true := by simp [q1]
    have L2 : Hid (x2.data.toList = a.data.toList ++ 47 :: elemN 6 b.data.toList) := Lib.hid (by rw [l2, l1, elemN, if_pos (data_eq_nil hq)]; simp [eightL])
    have hx2 : x2.size ≤ 600 := by omega
    clear l1 l2 z1 z2 hq
    go_enter Tryf.func10, Tryf.ntmps10
    go_wp2_with (first
      | (go_at_call 15; first | (have := hk3; refine (HM.out _).mono ?_; rintro e w4 ⟨rfl, hb4⟩; have hk4 := hk3.trans (hb4.mono hk3.size)) | (refine (HL.out _).mono ?_; rintro e w3 ⟨rfl, hk3⟩))
      | (go_at_call 28; refine (HA.out _).mono ?_; rintro e w5 ⟨rfl, hb5⟩; have hk5 := hk4.trans (hb5.mono hk4.size); have hk6 := hk5.alloc hk5.size (.cells #[.string ⟨#[99, 111, 110]⟩, .string ⟨#[80, 82, 78]⟩, .string ⟨#[65, 117, 120]⟩, .string ⟨#[110, 85, 108]⟩, .string ⟨#[99, 111, 109, 49]⟩, .string ⟨#[67, 79, 77, 57]⟩, .string ⟨#[108, 112, 116, 51]⟩, .string ⟨#[76, 112, 84, 55]⟩] 9))
      | (go_at_call 29; first
        | (have := hk9; refine (HP.out x2 (by omega) _ hk9).mono ?_; rintro e w10 ⟨b10, hp10, rfl, hb10⟩; have hk10 := hk9.trans (hb10.mono hk9.size); obtain rfl := elem_a 6 (by decide) HAL.out (L2.out ▸ hp10); clear hp10)
        | (refine (HP.out a (by omega) _ hk6).mono ?_; rintro e w7 ⟨b7, hp7, rfl, hb7⟩; have hk7 := hk6.trans (hb7.mono hk6.size); have HT := Lib.hid fun W => told_at b7 m true (by rw [← HMM.out]; exact path_law hp7) W; clear hp7))
      | (go_at_call 30; refine (HS.out _).mono ?_; rintro e w8 ⟨rfl, hb8⟩; have hk8 := hk7.trans (hb8.mono hk7.size))
      | (go_at_call 17; refine (HT.out _).mono ?_; rintro e w9 ⟨rfl, hb9⟩; have hk9 := hk8.trans (hb9.mono hk8.size))
      | (go_at_call 25; refine (HI.out x2 (by omega) _ hk10).mono ?_; rintro e w11 ⟨b11, hp11, rfl, hb11⟩; have hk11 := hk10.trans (hb11.mono hk10.size); obtain rfl := elem_b 6 (by decide) HAL.out (L2.out ▸ hp11); clear hp11)
      | (go_at_call 23; refine (HC.out x2 (by omega) _ hk11).mono ?_; rintro e w12 ⟨b12, hp12, rfl, hb12⟩; have hk12 := hk11.trans (hb12.mono hk11.size); obtain rfl := elem_c 6 (by decide) HAL.out (L2.out ▸ hp12); clear hp12))
    all_goals (go_ret; first | exact ⟨rfl, hk12⟩ | exact ⟨ret_bool (by simp), hk12⟩)
  · have q1 : ¬ b.toList = [] := by rw [Lib.toList_data]; exact data_ne_nil (by omega)
    have q2 : (b.toList != []) = true := by simp [q1]
    have q3 : (b.toList == []) = false := by simp [q1]
    obtain ⟨x3, e3, l3, z3⟩ := cat_at (a := ⟨#[46]⟩) (b := b) (by rw [show (⟨#[46]⟩ : ByteArray).size = 1 from rfl]; omega)
    rw [show (⟨#[46]⟩ : ByteArray).size = 1 from rfl] at z3
    obtain ⟨x4, e4, l4, z4⟩ := cat_at (a := x2) (b := x3) (by omega)
    have L4 : Hid (x4.data.toList = a.data.toList ++ 47 :: elemN 6 b.data.toList) := Lib.hid (by rw [l4, l3, l2, l1, elemN, if_neg (data_ne_nil (by omega))]; simp [eightL])
    have hx4 : x4.size ≤ 1100 := by omega
    clear l1 l2 l3 l4 z1 z2 z3 z4 hq
    go_enter Tryf.func10, Tryf.ntmps10
    go_wp2_with (first
      | (go_at_call 15; first | (have := hk3; refine (HM.out _).mono ?_; rintro e w4 ⟨rfl, hb4⟩; have hk4 := hk3.trans (hb4.mono hk3.size)) | (refine (HL.out _).mono ?_; rintro e w3 ⟨rfl, hk3⟩))
      | (go_at_call 28; refine (HA.out _).mono ?_; rintro e w5 ⟨rfl, hb5⟩; have hk5 := hk4.trans (hb5.mono hk4.size); have hk6 := hk5.alloc hk5.size (.cells #[.string ⟨#[99, 111, 110]⟩, .string ⟨#[80, 82, 78]⟩, .string ⟨#[65, 117, 120]⟩, .string ⟨#[110, 85, 108]⟩, .string ⟨#[99, 111, 109, 49]⟩, .string ⟨#[67, 79, 77, 57]⟩, .string ⟨#[108, 112, 116, 51]⟩, .string ⟨#[76, 112, 84, 55]⟩] 9))
      | (go_at_call 29; first
        | (have := hk9; refine (HP.out x4 (by omega) _ hk9).mono ?_; rintro e w10 ⟨b10, hp10, rfl, hb10⟩; have hk10 := hk9.trans (hb10.mono hk9.size); obtain rfl := elem_a 6 (by decide) HAL.out (L4.out ▸ hp10); clear hp10)
        | (refine (HP.out a (by omega) _ hk6).mono ?_; rintro e w7 ⟨b7, hp7, rfl, hb7⟩; have hk7 := hk6.trans (hb7.mono hk6.size); have HT := Lib.hid fun W => told_at b7 m true (by rw [← HMM.out]; exact path_law hp7) W; clear hp7))
      | (go_at_call 30; refine (HS.out _).mono ?_; rintro e w8 ⟨rfl, hb8⟩; have hk8 := hk7.trans (hb8.mono hk7.size))
      | (go_at_call 17; refine (HT.out _).mono ?_; rintro e w9 ⟨rfl, hb9⟩; have hk9 := hk8.trans (hb9.mono hk8.size))
      | (go_at_call 25; refine (HI.out x4 (by omega) _ hk10).mono ?_; rintro e w11 ⟨b11, hp11, rfl, hb11⟩; have hk11 := hk10.trans (hb11.mono hk10.size); obtain rfl := elem_b 6 (by decide) HAL.out (L4.out ▸ hp11); clear hp11)
      | (go_at_call 23; refine (HC.out x4 (by omega) _ hk11).mono ?_; rintro e w12 ⟨b12, hp12, rfl, hb12⟩; have hk12 := hk11.trans (hb12.mono hk11.size); obtain rfl := elem_c 6 (by decide) HAL.out (L4.out ▸ hp12); clear hp12))
    all_goals (go_ret; first | exact ⟨rfl, hk12⟩ | exact ⟨ret_bool (by simp), hk12⟩)

set_option maxHeartbeats 6400000 in
set_option maxRecDepth 100000 in
theorem elem_main7 (a b : ByteArray) (n : Nat) (m : Int) (hn0 : 0 ≤ (n : Int)) (hn : (n : Int) ≤ 255) (hmod : (n : Int) % 8 = 7) (w : World) (hz1 : a.size ≤ 500) (hz2 : b.size ≤ 500) (HS : ∀ W, Calls Tryf.prog 30 #[.string a] W fun e w' => e = .returned (.int .i64 m) ∧ Below W.heap.size W w') (HMM : modPathI a.data.toList = m)
    (HL : ∀ W, Calls Tryf.prog 15 #[.string a] W fun e w' => e = .returned (.bool false) ∧ Below W.heap.size W w') (HM : ∀ W, Calls Tryf.prog 15 #[.string b] W fun e w' => e = .returned (.bool false) ∧ Below W.heap.size W w')
    (HA : ∀ W, Calls Tryf.prog 28 #[.string b, .bool true, .bool true, .string ⟨#[45, 95]⟩] W fun e w' => e = .returned (.bool true) ∧ Below W.heap.size W w') (HAL : allB true true [45, 95] b.data.toList = true)
    (HP : ∀ t : ByteArray, t.size ≤ 100000 → ∀ W, Below w.heap.size w W → Calls Tryf.prog 29 #[.string t] W (MBool W t.data.toList))
    (HI : ∀ t : ByteArray, t.size ≤ 100000 → ∀ W, Below w.heap.size w W → Calls Tryf.prog 25 #[.string t] W (BoolPost W 1 t.data.toList))
    (HC : ∀ t : ByteArray, t.size ≤ 100000 → ∀ W, Below w.heap.size w W → Calls Tryf.prog 23 #[.string t] W (BoolPost W 2 t.data.toList)) :
    Calls Tryf.prog 10 #[.string a, .int .u8 (n : Int), .string b] w (Yes w) := by
  have h1 : ¬ (a.size : Int) > 2147483647 := by omega
  have h2 : ¬ (b.size : Int) > 2147483647 := by omega
  have HS := Lib.hid HS
  have HMM := Lib.hid HMM
  have HL := Lib.hid HL
  have HM := Lib.hid HM
  have HA := Lib.hid HA
  have HAL := Lib.hid HAL
  have HP := Lib.hid HP
  have HI := Lib.hid HI
  have HC := Lib.hid HC
  obtain ⟨x1, e1, l1, z1⟩ := cat_at (a := a) (b := ⟨#[47]⟩) (by rw [show (⟨#[47]⟩ : ByteArray).size = 1 from rfl]; omega)
  rw [show (⟨#[47]⟩ : ByteArray).size = 1 from rfl] at z1
  obtain ⟨x2, e2, l2, z2⟩ := cat_at (a := x1) (b := ⟨#[76, 112, 84, 55]⟩) (by rw [show (⟨#[76, 112, 84, 55]⟩ : ByteArray).size = 4 from rfl]; omega)
  rw [show (⟨#[76, 112, 84, 55]⟩ : ByteArray).size = 4 from rfl] at z2
  by_cases hq : b.size = 0
  · have q1 : b.toList = [] := by rw [Lib.toList_data]; exact data_eq_nil hq
    have q2 : (b.toList != []) = false := by simp [q1]
    have q3 : (b.toList == []) = true := by simp [q1]
    have L2 : Hid (x2.data.toList = a.data.toList ++ 47 :: elemN 7 b.data.toList) := Lib.hid (by rw [l2, l1, elemN, if_pos (data_eq_nil hq)]; simp [eightL])
    have hx2 : x2.size ≤ 600 := by omega
    clear l1 l2 z1 z2 hq
    go_enter Tryf.func10, Tryf.ntmps10
    go_wp2_with (first
      | (go_at_call 15; first | (have := hk3; refine (HM.out _).mono ?_; rintro e w4 ⟨rfl, hb4⟩; have hk4 := hk3.trans (hb4.mono hk3.size)) | (refine (HL.out _).mono ?_; rintro e w3 ⟨rfl, hk3⟩))
      | (go_at_call 28; refine (HA.out _).mono ?_; rintro e w5 ⟨rfl, hb5⟩; have hk5 := hk4.trans (hb5.mono hk4.size); have hk6 := hk5.alloc hk5.size (.cells #[.string ⟨#[99, 111, 110]⟩, .string ⟨#[80, 82, 78]⟩, .string ⟨#[65, 117, 120]⟩, .string ⟨#[110, 85, 108]⟩, .string ⟨#[99, 111, 109, 49]⟩, .string ⟨#[67, 79, 77, 57]⟩, .string ⟨#[108, 112, 116, 51]⟩, .string ⟨#[76, 112, 84, 55]⟩] 9))
      | (go_at_call 29; first
        | (have := hk9; refine (HP.out x2 (by omega) _ hk9).mono ?_; rintro e w10 ⟨b10, hp10, rfl, hb10⟩; have hk10 := hk9.trans (hb10.mono hk9.size); obtain rfl := elem_a 7 (by decide) HAL.out (L2.out ▸ hp10); clear hp10)
        | (refine (HP.out a (by omega) _ hk6).mono ?_; rintro e w7 ⟨b7, hp7, rfl, hb7⟩; have hk7 := hk6.trans (hb7.mono hk6.size); have HT := Lib.hid fun W => told_at b7 m true (by rw [← HMM.out]; exact path_law hp7) W; clear hp7))
      | (go_at_call 30; refine (HS.out _).mono ?_; rintro e w8 ⟨rfl, hb8⟩; have hk8 := hk7.trans (hb8.mono hk7.size))
      | (go_at_call 17; refine (HT.out _).mono ?_; rintro e w9 ⟨rfl, hb9⟩; have hk9 := hk8.trans (hb9.mono hk8.size))
      | (go_at_call 25; refine (HI.out x2 (by omega) _ hk10).mono ?_; rintro e w11 ⟨b11, hp11, rfl, hb11⟩; have hk11 := hk10.trans (hb11.mono hk10.size); obtain rfl := elem_b 7 (by decide) HAL.out (L2.out ▸ hp11); clear hp11)
      | (go_at_call 23; refine (HC.out x2 (by omega) _ hk11).mono ?_; rintro e w12 ⟨b12, hp12, rfl, hb12⟩; have hk12 := hk11.trans (hb12.mono hk11.size); obtain rfl := elem_c 7 (by decide) HAL.out (L2.out ▸ hp12); clear hp12))
    all_goals (go_ret; first | exact ⟨rfl, hk12⟩ | exact ⟨ret_bool (by simp), hk12⟩)
  · have q1 : ¬ b.toList = [] := by rw [Lib.toList_data]; exact data_ne_nil (by omega)
    have q2 : (b.toList != []) = true := by simp [q1]
    have q3 : (b.toList == []) = false := by simp [q1]
    obtain ⟨x3, e3, l3, z3⟩ := cat_at (a := ⟨#[46]⟩) (b := b) (by rw [show (⟨#[46]⟩ : ByteArray).size = 1 from rfl]; omega)
    rw [show (⟨#[46]⟩ : ByteArray).size = 1 from rfl] at z3
    obtain ⟨x4, e4, l4, z4⟩ := cat_at (a := x2) (b := x3) (by omega)
    have L4 : Hid (x4.data.toList = a.data.toList ++ 47 :: elemN 7 b.data.toList) := Lib.hid (by rw [l4, l3, l2, l1, elemN, if_neg (data_ne_nil (by omega))]; simp [eightL])
    have hx4 : x4.size ≤ 1100 := by omega
    clear l1 l2 l3 l4 z1 z2 z3 z4 hq
    go_enter Tryf.func10, Tryf.ntmps10
    go_wp2_with (first
      | (go_at_call 15; first | (have := hk3; refine (HM.out _).mono ?_; rintro e w4 ⟨rfl, hb4⟩; have hk4 := hk3.trans (hb4.mono hk3.size)) | (refine (HL.out _).mono ?_; rintro e w3 ⟨rfl, hk3⟩))
      | (go_at_call 28; refine (HA.out _).mono ?_; rintro e w5 ⟨rfl, hb5⟩; have hk5 := hk4.trans (hb5.mono hk4.size); have hk6 := hk5.alloc hk5.size (.cells #[.string ⟨#[99, 111, 110]⟩, .string ⟨#[80, 82, 78]⟩, .string ⟨#[65, 117, 120]⟩, .string ⟨#[110, 85, 108]⟩, .string ⟨#[99, 111, 109, 49]⟩, .string ⟨#[67, 79, 77, 57]⟩, .string ⟨#[108, 112, 116, 51]⟩, .string ⟨#[76, 112, 84, 55]⟩] 9))
      | (go_at_call 29; first
        | (have := hk9; refine (HP.out x4 (by omega) _ hk9).mono ?_; rintro e w10 ⟨b10, hp10, rfl, hb10⟩; have hk10 := hk9.trans (hb10.mono hk9.size); obtain rfl := elem_a 7 (by decide) HAL.out (L4.out ▸ hp10); clear hp10)
        | (refine (HP.out a (by omega) _ hk6).mono ?_; rintro e w7 ⟨b7, hp7, rfl, hb7⟩; have hk7 := hk6.trans (hb7.mono hk6.size); have HT := Lib.hid fun W => told_at b7 m true (by rw [← HMM.out]; exact path_law hp7) W; clear hp7))
      | (go_at_call 30; refine (HS.out _).mono ?_; rintro e w8 ⟨rfl, hb8⟩; have hk8 := hk7.trans (hb8.mono hk7.size))
      | (go_at_call 17; refine (HT.out _).mono ?_; rintro e w9 ⟨rfl, hb9⟩; have hk9 := hk8.trans (hb9.mono hk8.size))
      | (go_at_call 25; refine (HI.out x4 (by omega) _ hk10).mono ?_; rintro e w11 ⟨b11, hp11, rfl, hb11⟩; have hk11 := hk10.trans (hb11.mono hk10.size); obtain rfl := elem_b 7 (by decide) HAL.out (L4.out ▸ hp11); clear hp11)
      | (go_at_call 23; refine (HC.out x4 (by omega) _ hk11).mono ?_; rintro e w12 ⟨b12, hp12, rfl, hb12⟩; have hk12 := hk11.trans (hb12.mono hk11.size); obtain rfl := elem_c 7 (by decide) HAL.out (L4.out ▸ hp12); clear hp12))
    all_goals (go_ret; first | exact ⟨rfl, hk12⟩ | exact ⟨ret_bool (by simp), hk12⟩)

set_option maxHeartbeats 6400000 in
set_option maxRecDepth 100000 in
theorem law_elem (F : Stop.Interp) (a : ByteArray) (z : Int) (b : ByteArray) (hz : (Lit.int .u8 z).wf = true) (w : World) (hF : F.answers w.tape) (hN : NamesIn w) (hX : HighOK w) (hv : ∀ s : ByteArray, s.size ≤ 100000 → ∀ W, Below w.heap.size w W → ValidOK W s) :
    Calls Tryf.prog 10 #[.string a, .int .u8 z, .string b] w (Yes w) := by
  have hz0 : 0 ≤ z ∧ z ≤ 255 := by
    have h_ : IntKind.u8.min ≤ z ∧ z ≤ IntKind.u8.max := by simpa [Lit.wf] using hz
    have e1 : IntKind.u8.min = 0 := by decide
    have e2 : IntKind.u8.max = 255 := by decide
    omega
  obtain ⟨n, rfl⟩ := Int.eq_ofNat_of_zero_le hz0.1
  have hn1 : (n : Int) ≤ 255 := hz0.2
  have hn0 : 0 ≤ (n : Int) := hz0.1
  clear hz hz0
  by_cases c1 : (a.size : Int) > 2147483647
  · have h1 : (a.size : Int) > 2147483647 := c1
    go_enter Tryf.func10, Tryf.ntmps10
    go_wp2_with fail
    all_goals (go_ret; exact ⟨rfl, Below.refl _ _⟩)
  have h1 : ¬ (a.size : Int) > 2147483647 := c1
  by_cases d1 : (b.size : Int) > 2147483647
  · have h2 : (b.size : Int) > 2147483647 := d1
    go_enter Tryf.func10, Tryf.ntmps10
    go_wp2_with fail
    all_goals (go_ret; exact ⟨rfl, Below.refl _ _⟩)
  have h2 : ¬ (b.size : Int) > 2147483647 := d1
  have hs1 : a.size ≤ 1099511627776 := by omega
  have hs2 : b.size ≤ 1099511627776 := by omega
  by_cases c2 : (a.size : Int) > 500
  · have HL := Lib.hid fun W => long_at a true (decide_eq_true c2) W
    clear c2 hv hX
    go_enter Tryf.func10, Tryf.ntmps10
    go_wp2_with (go_at_call 15; refine (HL.out _).mono ?_; rintro e w3 ⟨rfl, hb3⟩)
    all_goals (go_ret; exact ⟨rfl, hb3⟩)
  by_cases d2 : (b.size : Int) > 500
  · have HL := Lib.hid fun W => long_at a false (decide_eq_false c2) W
    have HM := Lib.hid fun W => long_at b true (decide_eq_true d2) W
    clear c2 d2 hv hX
    go_enter Tryf.func10, Tryf.ntmps10
    go_wp2_with (go_at_call 15; first | (have := hb3; refine (HM.out _).mono ?_; rintro e w4 ⟨rfl, hb4⟩) | (refine (HL.out _).mono ?_; rintro e w3 ⟨rfl, hb3⟩))
    all_goals (go_ret; exact ⟨rfl, hb3.trans (hb4.mono hb3.size)⟩)
  have HL := Lib.hid fun W => long_at a false (decide_eq_false c2) W
  have HM := Lib.hid fun W => long_at b false (decide_eq_false d2) W
  have hz1 : a.size ≤ 500 := by omega
  have hz2 : b.size ≤ 500 := by omega
  clear c1 d1 c2 d2
  obtain ⟨g, hg⟩ : ∃ g, allB true true [45, 95] b.data.toList = g := ⟨_, rfl⟩
  have HA := Lib.hid fun W => all_at b ⟨#[45, 95]⟩ true true hs2 (by decide) W
  rw [show (⟨#[45, 95]⟩ : ByteArray).data.toList = [45, 95] from rfl, hg] at HA
  cases g with
  | false =>
    clear hv hN hX hg
    go_enter Tryf.func10, Tryf.ntmps10
    go_wp2_with (first
      | (go_at_call 15; first | (have := hk3; refine (HM.out _).mono ?_; rintro e w4 ⟨rfl, hb4⟩; have hk4 := hk3.trans (hb4.mono hk3.size)) | (refine (HL.out _).mono ?_; rintro e w3 ⟨rfl, hk3⟩))
      | (go_at_call 28; refine (HA.out _).mono ?_; rintro e w5 ⟨rfl, hb5⟩; have hk5 := hk4.trans (hb5.mono hk4.size)))
    all_goals (go_ret; exact ⟨rfl, hk5⟩)
  | true =>
    have HI := fun (t : ByteArray) (ht : t.size ≤ 100000) (W : World) (hb : Below w.heap.size w W) => implImport_any F t (by omega) W (below_tape hF hb) (hN.below hb) (fun h => by cases h) (hv t ht W hb)
    have HP := fun (t : ByteArray) (ht : t.size ≤ 100000) (W : World) (hb : Below w.heap.size w W) => implPath_any F t (by omega) W (below_tape hF hb) (hN.below hb) (fun W2 hb2 => hv t ht W2 (hb.trans (hb2.mono hb.size)))
    have HC := fun (t : ByteArray) (ht : t.size ≤ 100000) (W : World) (hb : Below w.heap.size w W) => implFile_any F t (by omega) W (below_tape hF hb) (hN.below hb) (fun _ => .inr (hX.below hb)) (hv t ht W hb)
    have HS := fun W => path_at a hs1 W
    have hm8 : (n : Int) % 8 = 0 ∨ (n : Int) % 8 = 1 ∨ (n : Int) % 8 = 2 ∨ (n : Int) % 8 = 3 ∨ (n : Int) % 8 = 4 ∨ (n : Int) % 8 = 5 ∨ (n : Int) % 8 = 6 ∨ (n : Int) % 8 = 7 := by omega
    rcases hm8 with h | h | h | h | h | h | h | h
    · exact elem_main0 a b n _ hn0 hn1 h w hz1 hz2 HS rfl HL.out HM.out HA.out hg HP HI HC
    · exact elem_main1 a b n _ hn0 hn1 h w hz1 hz2 HS rfl HL.out HM.out HA.out hg HP HI HC
    · exact elem_main2 a b n _ hn0 hn1 h w hz1 hz2 HS rfl HL.out HM.out HA.out hg HP HI HC
    · exact elem_main3 a b n _ hn0 hn1 h w hz1 hz2 HS rfl HL.out HM.out HA.out hg HP HI HC
    · exact elem_main4 a b n _ hn0 hn1 h w hz1 hz2 HS rfl HL.out HM.out HA.out hg HP HI HC
    · exact elem_main5 a b n _ hn0 hn1 h w hz1 hz2 HS rfl HL.out HM.out HA.out hg HP HI HC
    · exact elem_main6 a b n _ hn0 hn1 h w hz1 hz2 HS rfl HL.out HM.out HA.out hg HP HI HC
    · exact elem_main7 a b n _ hn0 hn1 h w hz1 hz2 HS rfl HL.out HM.out HA.out hg HP HI HC

end Go.Proofs.YtpbebckhemnooaaFmt.PS
