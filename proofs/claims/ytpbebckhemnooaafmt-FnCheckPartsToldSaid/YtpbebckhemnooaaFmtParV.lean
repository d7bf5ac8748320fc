/- semver.parse behind its three numbers; the condition is the text's size. What semver.parse answers, on lists of bytes; the condition is the text's size. What semver's IsValid, Major and Build answer, and what module.CheckPathMajor and module.Check answer, on lists of bytes; the conditions: the texts' sizes, that the tape answers fmt's stop, and module.CheckPath's. -/
import Derived.Test.YtpbebckhemnooaaFmtSemP
import Derived.Test.YtpbebckhemnooaaFmtMod

namespace Go.Proofs.YtpbebckhemnooaaFmt.PS
open Go.RowKit Go.Proofs.YtpbebckhemnooaaFmtW.PrintWords Go.Proofs.YtpbebckhemnooaaFmtW.PrintLast Go.Proofs.YtpbebckhemnooaaFmtW.PrintMore
set_option linter.unusedVariables false
set_option linter.unusedSimpArgs false

set_option maxRecDepth 100000 in
set_option maxHeartbeats 6400000 in
theorem parse_tail (s : ByteArray) (w : World) (hne : (s.toList == []) = false) (h1s : 1 ≤ s.size) (h0s : 0 < s.size) (n1 : (gb s 0 != 118) = false)
    (x1 : ByteArray) (hx1 : s.extract 1 s.size = x1) (a1 t1 : ByteArray) (C1 : Hid (∀ W : World, Calls Tryf.prog 97 #[.string x1] W fun e w' => e = .returned (.tuple #[.string a1, .string t1, .bool true]) ∧ Below W.heap.size W w'))
    (m1 : (t1.toList == []) = false) (s1 : 1 ≤ t1.size) (s1' : 0 < t1.size) (g1 : (gb t1 0 != 46) = false)
    (x2 : ByteArray) (hx2 : t1.extract 1 t1.size = x2) (a2 t2 : ByteArray) (C2 : Hid (∀ W : World, Calls Tryf.prog 97 #[.string x2] W fun e w' => e = .returned (.tuple #[.string a2, .string t2, .bool true]) ∧ Below W.heap.size W w'))
    (m2 : (t2.toList == []) = false) (s2 : 1 ≤ t2.size) (s2' : 0 < t2.size) (g2 : (gb t2 0 != 46) = false)
    (x3 : ByteArray) (hx3 : t2.extract 1 t2.size = x3) (a3 t3 : ByteArray) (C3 : Hid (∀ W : World, Calls Tryf.prog 97 #[.string x3] W fun e w' => e = .returned (.tuple #[.string a3, .string t3, .bool true]) ∧ Below W.heap.size W w'))
    (hts3 : t3.size ≤ 1099511627776) (HO : Hid (semL s.data.toList = (preL t3.data.toList).bind fun r => (bldL r).map fun b => (a1.data.toList, b))) :
    Calls Tryf.prog 85 #[.string s] w (ParPost (semL s.data.toList) w) := by
  have hi := info_par
  have hu := Tryf.underlying76
  have hgb := get_gb s
  have hgt1 := get_gb t1
  have hgt2 := get_gb t2
  have hgt3 := get_gb t3
  by_cases hp : 0 < t3.size ∧ gb t3 0 = 45
  · obtain ⟨s3, d3⟩ := hp
    have s3i : (0 : Int) < (t3.size : Int) := by omega
    have g3 : (gb t3 0 == 45) = true := by simp [d3]
    obtain ⟨a4, t4, ok4, hts4, hy4, hn4, C4⟩ := pre_named t3 hts3 s3 d3
    have C4 := Lib.hid C4
    clear d3
    cases ok4 with
    | false =>
      have HO := Lib.hid (show semL s.data.toList = none by rw [HO.out, hn4 rfl]; rfl)
      clear hy4 hn4
      (go_enter Tryf.func85, Tryf.ntmps85; go_wp2_with (first | (go_at_call 97; have hk := P2; refine (C3.out _).mono ?_; rintro e w3 ⟨rfl, hb3⟩; have P3 := Lib.hid ((P2.out.put1 a2).later hb3); clear c1 f1 c2 f2 c3 f3; obtain ⟨-, -, c2, -, -, -⟩ := P3.out.cells; obtain ⟨-, -, f2, -, -, -⟩ := P3.out.free) | (go_at_call 97; have hk := P1; refine (C2.out _).mono ?_; rintro e w2 ⟨rfl, hb2⟩; have P2 := Lib.hid ((P1.out.put0 a1).later hb2); clear c0 f0 c1 f1 c2 f2 c3 f3; obtain ⟨-, c1, c2, c3, -, -⟩ := P2.out.cells; obtain ⟨-, f1, f2, f3, -, -⟩ := P2.out.free) | (go_at_call 97; refine (C1.out _).mono ?_; rintro e w1 ⟨rfl, hb1⟩; have P1 := Lib.hid ((ParAt.start w).later hb1); obtain ⟨c0, c1, c2, c3, -, -⟩ := P1.out.cells; obtain ⟨f0, f1, f2, f3, -, -⟩ := P1.out.free) | (go_at_call 98; refine (C4.out _).mono ?_; rintro e w4 ⟨rfl, hb4⟩; have P4 := Lib.hid ((P3.out.put2 a3).later hb4); clear c2 f2; obtain ⟨-, -, -, -, c4, -⟩ := P4.out.cells; obtain ⟨-, -, -, -, f4, -⟩ := P4.out.free)))
      (refine bodyPost_ret (results_ct rfl _ _ _ _ _ (0, 0) _ rfl ((P4.out.put4 a4)).1 Tryf.underlying76 rfl (by kernel_rfl)) rfl ?_; first | exact par_none (P4.out.put4 a4) HO.out | exact par_some (P4.out.put4 a4) HO.out)
    | true =>
    have HO : Hid (semL s.data.toList = (bldL t4.data.toList).map fun b => (a1.data.toList, b)) := Lib.hid (by rw [HO.out, hy4 rfl]; rfl)
    clear hy4 hn4
    have hgt4 := get_gb t4
    by_cases e4 : t4.size = 0
    · obtain rfl : t4 = ⟨#[]⟩ := empty_of_size e4
      have HO := Lib.hid (show semL s.data.toList = some (a1.data.toList, []) by rw [HO.out]; rfl)
      clear e4
      (go_enter Tryf.func85, Tryf.ntmps85; go_wp2_with (first | (go_at_call 97; have hk := P2; refine (C3.out _).mono ?_; rintro e w3 ⟨rfl, hb3⟩; have P3 := Lib.hid ((P2.out.put1 a2).later hb3); clear c1 f1 c2 f2 c3 f3; obtain ⟨-, -, c2, -, -, -⟩ := P3.out.cells; obtain ⟨-, -, f2, -, -, -⟩ := P3.out.free) | (go_at_call 97; have hk := P1; refine (C2.out _).mono ?_; rintro e w2 ⟨rfl, hb2⟩; have P2 := Lib.hid ((P1.out.put0 a1).later hb2); clear c0 f0 c1 f1 c2 f2 c3 f3; obtain ⟨-, c1, c2, c3, -, -⟩ := P2.out.cells; obtain ⟨-, f1, f2, f3, -, -⟩ := P2.out.free) | (go_at_call 97; refine (C1.out _).mono ?_; rintro e w1 ⟨rfl, hb1⟩; have P1 := Lib.hid ((ParAt.start w).later hb1); obtain ⟨c0, c1, c2, c3, -, -⟩ := P1.out.cells; obtain ⟨f0, f1, f2, f3, -, -⟩ := P1.out.free) | (go_at_call 98; refine (C4.out _).mono ?_; rintro e w4 ⟨rfl, hb4⟩; have P4 := Lib.hid ((P3.out.put2 a3).later hb4); clear c2 f2; obtain ⟨-, -, -, -, c4, -⟩ := P4.out.cells; obtain ⟨-, -, -, -, f4, -⟩ := P4.out.free)))
      (refine bodyPost_ret (results_ct rfl _ _ _ _ _ (0, 0) _ rfl ((P4.out.put4 a4)).1 Tryf.underlying76 rfl (by kernel_rfl)) rfl ?_; first | exact par_none (P4.out.put4 a4) HO.out | exact par_some (P4.out.put4 a4) HO.out)
    have m4 : t4.toList.isEmpty = false := by simpa using nonempty_ne e4
    have s4 : 0 < t4.size := by omega
    have s4i : (0 : Int) < (t4.size : Int) := by omega
    have E4 := Lib.hid (show ¬ t4.data.toList = [] from fun h => e4 (by rw [← len_size, h]; rfl))
    clear e4
    by_cases d4 : gb t4 0 = 43
    case neg =>
      have g4 : (gb t4 0 == 43) = false := by simpa using d4
      have HO := Lib.hid (show semL s.data.toList = none by rw [HO.out]; unfold bldL; rw [← gb_lb, if_neg d4, if_neg E4.out]; rfl)
      clear d4
      (go_enter Tryf.func85, Tryf.ntmps85; go_wp2_with (first | (go_at_call 97; have hk := P2; refine (C3.out _).mono ?_; rintro e w3 ⟨rfl, hb3⟩; have P3 := Lib.hid ((P2.out.put1 a2).later hb3); clear c1 f1 c2 f2 c3 f3; obtain ⟨-, -, c2, -, -, -⟩ := P3.out.cells; obtain ⟨-, -, f2, -, -, -⟩ := P3.out.free) | (go_at_call 97; have hk := P1; refine (C2.out _).mono ?_; rintro e w2 ⟨rfl, hb2⟩; have P2 := Lib.hid ((P1.out.put0 a1).later hb2); clear c0 f0 c1 f1 c2 f2 c3 f3; obtain ⟨-, c1, c2, c3, -, -⟩ := P2.out.cells; obtain ⟨-, f1, f2, f3, -, -⟩ := P2.out.free) | (go_at_call 97; refine (C1.out _).mono ?_; rintro e w1 ⟨rfl, hb1⟩; have P1 := Lib.hid ((ParAt.start w).later hb1); obtain ⟨c0, c1, c2, c3, -, -⟩ := P1.out.cells; obtain ⟨f0, f1, f2, f3, -, -⟩ := P1.out.free) | (go_at_call 98; refine (C4.out _).mono ?_; rintro e w4 ⟨rfl, hb4⟩; have P4 := Lib.hid ((P3.out.put2 a3).later hb4); clear c2 f2; obtain ⟨-, -, -, -, c4, -⟩ := P4.out.cells; obtain ⟨-, -, -, -, f4, -⟩ := P4.out.free)))
      (refine bodyPost_ret (results_ct rfl _ _ _ _ _ (0, 0) _ rfl ((P4.out.put4 a4)).1 Tryf.underlying76 rfl (by kernel_rfl)) rfl ?_; first | exact par_none (P4.out.put4 a4) HO.out | exact par_some (P4.out.put4 a4) HO.out)
    have g4 : (gb t4 0 == 43) = true := by simp [d4]
    obtain ⟨a5, t5, ok5, hy5, hn5, C5⟩ := bld_named t4 hts4 s4 d4
    have C5 := Lib.hid C5
    clear d4
    cases ok5 with
    | false =>
      have HO := Lib.hid (show semL s.data.toList = none by rw [HO.out, hn5 rfl]; rfl)
      clear hy5 hn5
      (go_enter Tryf.func85, Tryf.ntmps85; go_wp2_with (first | (go_at_call 97; have hk := P2; refine (C3.out _).mono ?_; rintro e w3 ⟨rfl, hb3⟩; have P3 := Lib.hid ((P2.out.put1 a2).later hb3); clear c1 f1 c2 f2 c3 f3; obtain ⟨-, -, c2, -, -, -⟩ := P3.out.cells; obtain ⟨-, -, f2, -, -, -⟩ := P3.out.free) | (go_at_call 97; have hk := P1; refine (C2.out _).mono ?_; rintro e w2 ⟨rfl, hb2⟩; have P2 := Lib.hid ((P1.out.put0 a1).later hb2); clear c0 f0 c1 f1 c2 f2 c3 f3; obtain ⟨-, c1, c2, c3, -, -⟩ := P2.out.cells; obtain ⟨-, f1, f2, f3, -, -⟩ := P2.out.free) | (go_at_call 97; refine (C1.out _).mono ?_; rintro e w1 ⟨rfl, hb1⟩; have P1 := Lib.hid ((ParAt.start w).later hb1); obtain ⟨c0, c1, c2, c3, -, -⟩ := P1.out.cells; obtain ⟨f0, f1, f2, f3, -, -⟩ := P1.out.free) | (go_at_call 98; refine (C4.out _).mono ?_; rintro e w4 ⟨rfl, hb4⟩; have P4 := Lib.hid ((P3.out.put2 a3).later hb4); clear c2 f2; obtain ⟨-, -, -, -, c4, -⟩ := P4.out.cells; obtain ⟨-, -, -, -, f4, -⟩ := P4.out.free) | (go_at_call 99; have hk := P4; refine (C5.out _).mono ?_; rintro e w5 ⟨rfl, hb5⟩; have P5 := Lib.hid ((P4.out.put4 a4).later hb5); clear c4 f4; obtain ⟨-, -, -, -, -, c5⟩ := P5.out.cells; obtain ⟨-, -, -, -, -, f5⟩ := P5.out.free) | (go_at_call 99; refine (C5.out _).mono ?_; rintro e w5 ⟨rfl, hb5⟩; have P5 := Lib.hid ((P3.out.put2 a3).later hb5); clear c2 f2; obtain ⟨-, -, -, -, -, c5⟩ := P5.out.cells; obtain ⟨-, -, -, -, -, f5⟩ := P5.out.free)))
      (refine bodyPost_ret (results_ct rfl _ _ _ _ _ (0, 0) _ rfl ((P5.out.put5 a5)).1 Tryf.underlying76 rfl (by kernel_rfl)) rfl ?_; first | exact par_none (P5.out.put5 a5) HO.out | exact par_some (P5.out.put5 a5) HO.out)
    | true =>
      have HO := Lib.hid (show semL s.data.toList = some (a1.data.toList, a5.data.toList) by rw [HO.out, (hy5 rfl).1]; rfl)
      have m5 : t5.toList.isEmpty = true := by rw [(hy5 rfl).2]; rfl
      clear hy5 hn5
      (go_enter Tryf.func85, Tryf.ntmps85; go_wp2_with (first | (go_at_call 97; have hk := P2; refine (C3.out _).mono ?_; rintro e w3 ⟨rfl, hb3⟩; have P3 := Lib.hid ((P2.out.put1 a2).later hb3); clear c1 f1 c2 f2 c3 f3; obtain ⟨-, -, c2, -, -, -⟩ := P3.out.cells; obtain ⟨-, -, f2, -, -, -⟩ := P3.out.free) | (go_at_call 97; have hk := P1; refine (C2.out _).mono ?_; rintro e w2 ⟨rfl, hb2⟩; have P2 := Lib.hid ((P1.out.put0 a1).later hb2); clear c0 f0 c1 f1 c2 f2 c3 f3; obtain ⟨-, c1, c2, c3, -, -⟩ := P2.out.cells; obtain ⟨-, f1, f2, f3, -, -⟩ := P2.out.free) | (go_at_call 97; refine (C1.out _).mono ?_; rintro e w1 ⟨rfl, hb1⟩; have P1 := Lib.hid ((ParAt.start w).later hb1); obtain ⟨c0, c1, c2, c3, -, -⟩ := P1.out.cells; obtain ⟨f0, f1, f2, f3, -, -⟩ := P1.out.free) | (go_at_call 98; refine (C4.out _).mono ?_; rintro e w4 ⟨rfl, hb4⟩; have P4 := Lib.hid ((P3.out.put2 a3).later hb4); clear c2 f2; obtain ⟨-, -, -, -, c4, -⟩ := P4.out.cells; obtain ⟨-, -, -, -, f4, -⟩ := P4.out.free) | (go_at_call 99; have hk := P4; refine (C5.out _).mono ?_; rintro e w5 ⟨rfl, hb5⟩; have P5 := Lib.hid ((P4.out.put4 a4).later hb5); clear c4 f4; obtain ⟨-, -, -, -, -, c5⟩ := P5.out.cells; obtain ⟨-, -, -, -, -, f5⟩ := P5.out.free) | (go_at_call 99; refine (C5.out _).mono ?_; rintro e w5 ⟨rfl, hb5⟩; have P5 := Lib.hid ((P3.out.put2 a3).later hb5); clear c2 f2; obtain ⟨-, -, -, -, -, c5⟩ := P5.out.cells; obtain ⟨-, -, -, -, -, f5⟩ := P5.out.free)))
      (refine bodyPost_ret (results_ct rfl _ _ _ _ _ (0, 0) _ rfl ((P5.out.put5 a5)).1 Tryf.underlying76 rfl (by kernel_rfl)) rfl ?_; first | exact par_none (P5.out.put5 a5) HO.out | exact par_some (P5.out.put5 a5) HO.out)
  · have hG : ¬ 0 < t3.size ∨ (0 < t3.size ∧ (gb t3 0 == 45) = false) := by
      by_cases h : 0 < t3.size
      · exact .inr ⟨h, by simp; exact fun e => hp ⟨h, e⟩⟩
      · exact .inl h
    have HO : Hid (semL s.data.toList = (bldL t3.data.toList).map fun b => (a1.data.toList, b)) := Lib.hid (by
      have : preL t3.data.toList = some t3.data.toList := by
        unfold preL
        rw [if_neg]
        rw [← gb_lb]
        intro e
        refine hp ⟨Nat.pos_of_ne_zero fun h => ?_, e⟩
        rw [empty_of_size h] at e
        exact absurd e (by decide)
      rw [HO.out, this]; rfl)
    clear hp
    rcases hG with e3 | ⟨s3, g3⟩
    · obtain rfl : t3 = ⟨#[]⟩ := empty_of_size (by omega)
      have HO := Lib.hid (show semL s.data.toList = some (a1.data.toList, []) by rw [HO.out]; rfl)
      clear e3
      (go_enter Tryf.func85, Tryf.ntmps85; go_wp2_with (first | (go_at_call 97; have hk := P2; refine (C3.out _).mono ?_; rintro e w3 ⟨rfl, hb3⟩; have P3 := Lib.hid ((P2.out.put1 a2).later hb3); clear c1 f1 c2 f2 c3 f3; obtain ⟨-, -, c2, -, -, -⟩ := P3.out.cells; obtain ⟨-, -, f2, -, -, -⟩ := P3.out.free) | (go_at_call 97; have hk := P1; refine (C2.out _).mono ?_; rintro e w2 ⟨rfl, hb2⟩; have P2 := Lib.hid ((P1.out.put0 a1).later hb2); clear c0 f0 c1 f1 c2 f2 c3 f3; obtain ⟨-, c1, c2, c3, -, -⟩ := P2.out.cells; obtain ⟨-, f1, f2, f3, -, -⟩ := P2.out.free) | (go_at_call 97; refine (C1.out _).mono ?_; rintro e w1 ⟨rfl, hb1⟩; have P1 := Lib.hid ((ParAt.start w).later hb1); obtain ⟨c0, c1, c2, c3, -, -⟩ := P1.out.cells; obtain ⟨f0, f1, f2, f3, -, -⟩ := P1.out.free) | (go_at_call 98; refine (C4.out _).mono ?_; rintro e w4 ⟨rfl, hb4⟩; have P4 := Lib.hid ((P3.out.put2 a3).later hb4); clear c2 f2; obtain ⟨-, -, -, -, c4, -⟩ := P4.out.cells; obtain ⟨-, -, -, -, f4, -⟩ := P4.out.free) | (go_at_call 99; have hk := P4; refine (C5.out _).mono ?_; rintro e w5 ⟨rfl, hb5⟩; have P5 := Lib.hid ((P4.out.put4 a4).later hb5); clear c4 f4; obtain ⟨-, -, -, -, -, c5⟩ := P5.out.cells; obtain ⟨-, -, -, -, -, f5⟩ := P5.out.free) | (go_at_call 99; refine (C5.out _).mono ?_; rintro e w5 ⟨rfl, hb5⟩; have P5 := Lib.hid ((P3.out.put2 a3).later hb5); clear c2 f2; obtain ⟨-, -, -, -, -, c5⟩ := P5.out.cells; obtain ⟨-, -, -, -, -, f5⟩ := P5.out.free)))
      (refine bodyPost_ret (results_ct rfl _ _ _ _ _ (0, 0) _ rfl ((P3.out.put2 a3)).1 Tryf.underlying76 rfl (by kernel_rfl)) rfl ?_; first | exact par_none (P3.out.put2 a3) HO.out | exact par_some (P3.out.put2 a3) HO.out)
    have m3 : t3.toList.isEmpty = false := by simpa using nonempty_ne (by omega : t3.size ≠ 0)
    have s3i : (0 : Int) < (t3.size : Int) := by omega
    have E3 := Lib.hid (show ¬ t3.data.toList = [] from fun h => by have : t3.size = 0 := by { rw [← len_size, h]; rfl }; omega)
    by_cases d4 : gb t3 0 = 43
    case neg =>
      have g4 : (gb t3 0 == 43) = false := by simpa using d4
      have HO := Lib.hid (show semL s.data.toList = none by rw [HO.out]; unfold bldL; rw [← gb_lb, if_neg d4, if_neg E3.out]; rfl)
      clear d4
      (go_enter Tryf.func85, Tryf.ntmps85; go_wp2_with (first | (go_at_call 97; have hk := P2; refine (C3.out _).mono ?_; rintro e w3 ⟨rfl, hb3⟩; have P3 := Lib.hid ((P2.out.put1 a2).later hb3); clear c1 f1 c2 f2 c3 f3; obtain ⟨-, -, c2, -, -, -⟩ := P3.out.cells; obtain ⟨-, -, f2, -, -, -⟩ := P3.out.free) | (go_at_call 97; have hk := P1; refine (C2.out _).mono ?_; rintro e w2 ⟨rfl, hb2⟩; have P2 := Lib.hid ((P1.out.put0 a1).later hb2); clear c0 f0 c1 f1 c2 f2 c3 f3; obtain ⟨-, c1, c2, c3, -, -⟩ := P2.out.cells; obtain ⟨-, f1, f2, f3, -, -⟩ := P2.out.free) | (go_at_call 97; refine (C1.out _).mono ?_; rintro e w1 ⟨rfl, hb1⟩; have P1 := Lib.hid ((ParAt.start w).later hb1); obtain ⟨c0, c1, c2, c3, -, -⟩ := P1.out.cells; obtain ⟨f0, f1, f2, f3, -, -⟩ := P1.out.free) | (go_at_call 98; refine (C4.out _).mono ?_; rintro e w4 ⟨rfl, hb4⟩; have P4 := Lib.hid ((P3.out.put2 a3).later hb4); clear c2 f2; obtain ⟨-, -, -, -, c4, -⟩ := P4.out.cells; obtain ⟨-, -, -, -, f4, -⟩ := P4.out.free) | (go_at_call 99; have hk := P4; refine (C5.out _).mono ?_; rintro e w5 ⟨rfl, hb5⟩; have P5 := Lib.hid ((P4.out.put4 a4).later hb5); clear c4 f4; obtain ⟨-, -, -, -, -, c5⟩ := P5.out.cells; obtain ⟨-, -, -, -, -, f5⟩ := P5.out.free) | (go_at_call 99; refine (C5.out _).mono ?_; rintro e w5 ⟨rfl, hb5⟩; have P5 := Lib.hid ((P3.out.put2 a3).later hb5); clear c2 f2; obtain ⟨-, -, -, -, -, c5⟩ := P5.out.cells; obtain ⟨-, -, -, -, -, f5⟩ := P5.out.free)))
      (refine bodyPost_ret (results_ct rfl _ _ _ _ _ (0, 0) _ rfl ((P3.out.put2 a3)).1 Tryf.underlying76 rfl (by kernel_rfl)) rfl ?_; first | exact par_none (P3.out.put2 a3) HO.out | exact par_some (P3.out.put2 a3) HO.out)
    have g4 : (gb t3 0 == 43) = true := by simp [d4]
    obtain ⟨a5, t5, ok5, hy5, hn5, C5⟩ := bld_named t3 hts3 s3 d4
    have C5 := Lib.hid C5
    clear d4
    cases ok5 with
    | false =>
      have HO := Lib.hid (show semL s.data.toList = none by rw [HO.out, hn5 rfl]; rfl)
      clear hy5 hn5
      (go_enter Tryf.func85, Tryf.ntmps85; go_wp2_with (first | (go_at_call 97; have hk := P2; refine (C3.out _).mono ?_; rintro e w3 ⟨rfl, hb3⟩; have P3 := Lib.hid ((P2.out.put1 a2).later hb3); clear c1 f1 c2 f2 c3 f3; obtain ⟨-, -, c2, -, -, -⟩ := P3.out.cells; obtain ⟨-, -, f2, -, -, -⟩ := P3.out.free) | (go_at_call 97; have hk := P1; refine (C2.out _).mono ?_; rintro e w2 ⟨rfl, hb2⟩; have P2 := Lib.hid ((P1.out.put0 a1).later hb2); clear c0 f0 c1 f1 c2 f2 c3 f3; obtain ⟨-, c1, c2, c3, -, -⟩ := P2.out.cells; obtain ⟨-, f1, f2, f3, -, -⟩ := P2.out.free) | (go_at_call 97; refine (C1.out _).mono ?_; rintro e w1 ⟨rfl, hb1⟩; have P1 := Lib.hid ((ParAt.start w).later hb1); obtain ⟨c0, c1, c2, c3, -, -⟩ := P1.out.cells; obtain ⟨f0, f1, f2, f3, -, -⟩ := P1.out.free) | (go_at_call 98; refine (C4.out _).mono ?_; rintro e w4 ⟨rfl, hb4⟩; have P4 := Lib.hid ((P3.out.put2 a3).later hb4); clear c2 f2; obtain ⟨-, -, -, -, c4, -⟩ := P4.out.cells; obtain ⟨-, -, -, -, f4, -⟩ := P4.out.free) | (go_at_call 99; have hk := P4; refine (C5.out _).mono ?_; rintro e w5 ⟨rfl, hb5⟩; have P5 := Lib.hid ((P4.out.put4 a4).later hb5); clear c4 f4; obtain ⟨-, -, -, -, -, c5⟩ := P5.out.cells; obtain ⟨-, -, -, -, -, f5⟩ := P5.out.free) | (go_at_call 99; refine (C5.out _).mono ?_; rintro e w5 ⟨rfl, hb5⟩; have P5 := Lib.hid ((P3.out.put2 a3).later hb5); clear c2 f2; obtain ⟨-, -, -, -, -, c5⟩ := P5.out.cells; obtain ⟨-, -, -, -, -, f5⟩ := P5.out.free)))
      (refine bodyPost_ret (results_ct rfl _ _ _ _ _ (0, 0) _ rfl ((P5.out.put5 a5)).1 Tryf.underlying76 rfl (by kernel_rfl)) rfl ?_; first | exact par_none (P5.out.put5 a5) HO.out | exact par_some (P5.out.put5 a5) HO.out)
    | true =>
      have HO := Lib.hid (show semL s.data.toList = some (a1.data.toList, a5.data.toList) by rw [HO.out, (hy5 rfl).1]; rfl)
      have m5 : t5.toList.isEmpty = true := by rw [(hy5 rfl).2]; rfl
      clear hy5 hn5
      (go_enter Tryf.func85, Tryf.ntmps85; go_wp2_with (first | (go_at_call 97; have hk := P2; refine (C3.out _).mono ?_; rintro e w3 ⟨rfl, hb3⟩; have P3 := Lib.hid ((P2.out.put1 a2).later hb3); clear c1 f1 c2 f2 c3 f3; obtain ⟨-, -, c2, -, -, -⟩ := P3.out.cells; obtain ⟨-, -, f2, -, -, -⟩ := P3.out.free) | (go_at_call 97; have hk := P1; refine (C2.out _).mono ?_; rintro e w2 ⟨rfl, hb2⟩; have P2 := Lib.hid ((P1.out.put0 a1).later hb2); clear c0 f0 c1 f1 c2 f2 c3 f3; obtain ⟨-, c1, c2, c3, -, -⟩ := P2.out.cells; obtain ⟨-, f1, f2, f3, -, -⟩ := P2.out.free) | (go_at_call 97; refine (C1.out _).mono ?_; rintro e w1 ⟨rfl, hb1⟩; have P1 := Lib.hid ((ParAt.start w).later hb1); obtain ⟨c0, c1, c2, c3, -, -⟩ := P1.out.cells; obtain ⟨f0, f1, f2, f3, -, -⟩ := P1.out.free) | (go_at_call 98; refine (C4.out _).mono ?_; rintro e w4 ⟨rfl, hb4⟩; have P4 := Lib.hid ((P3.out.put2 a3).later hb4); clear c2 f2; obtain ⟨-, -, -, -, c4, -⟩ := P4.out.cells; obtain ⟨-, -, -, -, f4, -⟩ := P4.out.free) | (go_at_call 99; have hk := P4; refine (C5.out _).mono ?_; rintro e w5 ⟨rfl, hb5⟩; have P5 := Lib.hid ((P4.out.put4 a4).later hb5); clear c4 f4; obtain ⟨-, -, -, -, -, c5⟩ := P5.out.cells; obtain ⟨-, -, -, -, -, f5⟩ := P5.out.free) | (go_at_call 99; refine (C5.out _).mono ?_; rintro e w5 ⟨rfl, hb5⟩; have P5 := Lib.hid ((P3.out.put2 a3).later hb5); clear c2 f2; obtain ⟨-, -, -, -, -, c5⟩ := P5.out.cells; obtain ⟨-, -, -, -, -, f5⟩ := P5.out.free)))
      (refine bodyPost_ret (results_ct rfl _ _ _ _ _ (0, 0) _ rfl ((P5.out.put5 a5)).1 Tryf.underlying76 rfl (by kernel_rfl)) rfl ?_; first | exact par_none (P5.out.put5 a5) HO.out | exact par_some (P5.out.put5 a5) HO.out)

end Go.Proofs.YtpbebckhemnooaaFmt.PS

namespace Go.Proofs.YtpbebckhemnooaaFmt.PS
open Go.RowKit Go.Proofs.YtpbebckhemnooaaFmtW.PrintWords Go.Proofs.YtpbebckhemnooaaFmtW.PrintLast Go.Proofs.YtpbebckhemnooaaFmtW.PrintMore
set_option linter.unusedVariables false
set_option linter.unusedSimpArgs false

set_option maxRecDepth 100000 in
set_option maxHeartbeats 6400000 in
theorem parse_any (s : ByteArray) (hs : s.size ≤ 1099511627776) (w : World) : Calls Tryf.prog 85 #[.string s] w (ParPost (semL s.data.toList) w) := by
  have hi := info_par
  have hu := Tryf.underlying76
  have hgb := get_gb s
  have P0 := Lib.hid (ParAt.start w)
  by_cases h0 : s.size = 0
  · obtain rfl : s = ⟨#[]⟩ := empty_of_size h0
    have HO := Lib.hid (show semL (⟨#[]⟩ : ByteArray).data.toList = none from rfl)
    go_enter Tryf.func85, Tryf.ntmps85
    go_wp2
    (refine bodyPost_ret (results_ct rfl _ _ _ _ _ (0, 0) _ rfl (P0.out).1 Tryf.underlying76 rfl (by kernel_rfl)) rfl ?_; first | exact par_none P0.out HO.out | exact par_some P0.out HO.out)
  have hne : (s.toList == []) = false := nonempty_ne h0
  have h1s : 1 ≤ s.size := by omega
  have h0s : 0 < s.size := by omega
  by_cases hv : gb s 0 = 118
  case neg =>
    have n1 : (gb s 0 != 118) = true := by simpa using hv
    have HO := Lib.hid (show semL s.data.toList = none by unfold semL; rw [← gb_lb, if_neg hv])
    clear hv
    go_enter Tryf.func85, Tryf.ntmps85
    go_wp2
    (refine bodyPost_ret (results_ct rfl _ _ _ _ _ (0, 0) _ rfl (P0.out).1 Tryf.underlying76 rfl (by kernel_rfl)) rfl ?_; first | exact par_none P0.out HO.out | exact par_some P0.out HO.out)
  have n1 : (gb s 0 != 118) = false := by simp [hv]
  have HO : Hid (semL s.data.toList = (intL (s.data.toList.drop 1)).bind fun x => if x.2 = [] then some (x.1, []) else if lb x.2 0 = 46 then (intL (x.2.drop 1)).bind fun y => if y.2 = [] then some (x.1, []) else if lb y.2 0 = 46 then (intL (y.2.drop 1)).bind fun z => (preL z.2).bind fun r => (bldL r).map fun b => (x.1, b) else none else none) := Lib.hid (by unfold semL; rw [← gb_lb, if_pos hv])
  clear hv
  obtain ⟨x1, hx1⟩ : ∃ x, s.extract 1 s.size = x := ⟨_, rfl⟩
  have X1 := Lib.hid (show x1.data.toList = s.data.toList.drop 1 by rw [← hx1]; exact extract_drop s 1)
  obtain ⟨a1, t1, ok1, hts1, -, hy1, hn1, C1⟩ := int_named x1 (by rw [← hx1]; exact Nat.le_trans (extract_size_le _ _ _) hs)
  have C1 := Lib.hid C1
  rw [X1.out] at hy1 hn1
  cases ok1 with
  | false =>
    have HO := Lib.hid (show semL s.data.toList = none by rw [HO.out, hn1 rfl]; rfl)
    clear hy1 hn1
    (go_enter Tryf.func85, Tryf.ntmps85; go_wp2_with (first | (go_at_call 97; refine (C1.out _).mono ?_; rintro e w1 ⟨rfl, hb1⟩; have P1 := Lib.hid ((ParAt.start w).later hb1); obtain ⟨c0, c1, c2, c3, -, -⟩ := P1.out.cells; obtain ⟨f0, f1, f2, f3, -, -⟩ := P1.out.free)))
    (refine bodyPost_ret (results_ct rfl _ _ _ _ _ (0, 0) _ rfl ((P1.out.put0 a1)).1 Tryf.underlying76 rfl (by kernel_rfl)) rfl ?_; first | exact par_none (P1.out.put0 a1) HO.out | exact par_some (P1.out.put0 a1) HO.out)
  | true =>
  have HO : Hid (semL s.data.toList = if t1.data.toList = [] then some (a1.data.toList, []) else if lb t1.data.toList 0 = 46 then (intL (t1.data.toList.drop 1)).bind fun y => if y.2 = [] then some (a1.data.toList, []) else if lb y.2 0 = 46 then (intL (y.2.drop 1)).bind fun z => (preL z.2).bind fun r => (bldL r).map fun b => (a1.data.toList, b) else none else none) := Lib.hid (by rw [HO.out, hy1 rfl]; rfl)
  clear hy1 hn1
  by_cases e1 : t1.size = 0
  · have m1 : (t1.toList == []) = true := by rw [Lib.toList_data, empty_of_size e1]; rfl
    have HO := Lib.hid (show semL s.data.toList = some (a1.data.toList, []) by rw [HO.out, empty_of_size e1]; rfl)
    clear e1
    (go_enter Tryf.func85, Tryf.ntmps85; go_wp2_with (first | (go_at_call 97; refine (C1.out _).mono ?_; rintro e w1 ⟨rfl, hb1⟩; have P1 := Lib.hid ((ParAt.start w).later hb1); obtain ⟨c0, c1, c2, c3, -, -⟩ := P1.out.cells; obtain ⟨f0, f1, f2, f3, -, -⟩ := P1.out.free)))
    (refine bodyPost_ret (results_ct rfl _ _ _ _ _ (0, 0) _ rfl (((((P1.out.put0 a1).put1 _).put2 _).put3 _)).1 Tryf.underlying76 rfl (by kernel_rfl)) rfl ?_; first | exact par_none ((((P1.out.put0 a1).put1 _).put2 _).put3 _) HO.out | exact par_some ((((P1.out.put0 a1).put1 _).put2 _).put3 _) HO.out)
  have m1 : (t1.toList == []) = false := nonempty_ne e1
  have hgt1 := get_gb t1
  have s1 : 1 ≤ t1.size := by omega
  have s1' : 0 < t1.size := by omega
  have E1 := Lib.hid (show ¬ t1.data.toList = [] from fun h => e1 (by rw [← len_size, h]; rfl))
  clear e1
  by_cases d1 : gb t1 0 = 46
  case neg =>
    have g1 : (gb t1 0 != 46) = true := by simpa using d1
    have HO := Lib.hid (show semL s.data.toList = none by rw [HO.out, if_neg E1.out, ← gb_lb, if_neg d1])
    clear d1
    (go_enter Tryf.func85, Tryf.ntmps85; go_wp2_with (first | (go_at_call 97; refine (C1.out _).mono ?_; rintro e w1 ⟨rfl, hb1⟩; have P1 := Lib.hid ((ParAt.start w).later hb1); obtain ⟨c0, c1, c2, c3, -, -⟩ := P1.out.cells; obtain ⟨f0, f1, f2, f3, -, -⟩ := P1.out.free)))
    (refine bodyPost_ret (results_ct rfl _ _ _ _ _ (0, 0) _ rfl ((P1.out.put0 a1)).1 Tryf.underlying76 rfl (by kernel_rfl)) rfl ?_; first | exact par_none (P1.out.put0 a1) HO.out | exact par_some (P1.out.put0 a1) HO.out)
  have g1 : (gb t1 0 != 46) = false := by simp [d1]
  have HO : Hid (semL s.data.toList = (intL (t1.data.toList.drop 1)).bind fun y => if y.2 = [] then some (a1.data.toList, []) else if lb y.2 0 = 46 then (intL (y.2.drop 1)).bind fun z => (preL z.2).bind fun r => (bldL r).map fun b => (a1.data.toList, b) else none) := Lib.hid (by rw [HO.out, if_neg E1.out, ← gb_lb, if_pos d1])
  clear d1
  obtain ⟨x2, hx2⟩ : ∃ x, t1.extract 1 t1.size = x := ⟨_, rfl⟩
  have X2 := Lib.hid (show x2.data.toList = t1.data.toList.drop 1 by rw [← hx2]; exact extract_drop t1 1)
  obtain ⟨a2, t2, ok2, hts2, -, hy2, hn2, C2⟩ := int_named x2 (by rw [← hx2]; exact Nat.le_trans (extract_size_le _ _ _) hts1)
  have C2 := Lib.hid C2
  rw [X2.out] at hy2 hn2
  cases ok2 with
  | false =>
    have HO := Lib.hid (show semL s.data.toList = none by rw [HO.out, hn2 rfl]; rfl)
    clear hy2 hn2
    (go_enter Tryf.func85, Tryf.ntmps85; go_wp2_with (first | (go_at_call 97; have hk := P1; refine (C2.out _).mono ?_; rintro e w2 ⟨rfl, hb2⟩; have P2 := Lib.hid ((P1.out.put0 a1).later hb2); clear c0 f0 c1 f1 c2 f2 c3 f3; obtain ⟨-, c1, c2, c3, -, -⟩ := P2.out.cells; obtain ⟨-, f1, f2, f3, -, -⟩ := P2.out.free) | (go_at_call 97; refine (C1.out _).mono ?_; rintro e w1 ⟨rfl, hb1⟩; have P1 := Lib.hid ((ParAt.start w).later hb1); obtain ⟨c0, c1, c2, c3, -, -⟩ := P1.out.cells; obtain ⟨f0, f1, f2, f3, -, -⟩ := P1.out.free)))
    (refine bodyPost_ret (results_ct rfl _ _ _ _ _ (0, 0) _ rfl ((P2.out.put1 a2)).1 Tryf.underlying76 rfl (by kernel_rfl)) rfl ?_; first | exact par_none (P2.out.put1 a2) HO.out | exact par_some (P2.out.put1 a2) HO.out)
  | true =>
  have HO : Hid (semL s.data.toList = if t2.data.toList = [] then some (a1.data.toList, []) else if lb t2.data.toList 0 = 46 then (intL (t2.data.toList.drop 1)).bind fun z => (preL z.2).bind fun r => (bldL r).map fun b => (a1.data.toList, b) else none) := Lib.hid (by rw [HO.out, hy2 rfl]; rfl)
  clear hy2 hn2
  by_cases e2 : t2.size = 0
  · have m2 : (t2.toList == []) = true := by rw [Lib.toList_data, empty_of_size e2]; rfl
    have HO := Lib.hid (show semL s.data.toList = some (a1.data.toList, []) by rw [HO.out, empty_of_size e2]; rfl)
    clear e2
    (go_enter Tryf.func85, Tryf.ntmps85; go_wp2_with (first | (go_at_call 97; have hk := P1; refine (C2.out _).mono ?_; rintro e w2 ⟨rfl, hb2⟩; have P2 := Lib.hid ((P1.out.put0 a1).later hb2); clear c0 f0 c1 f1 c2 f2 c3 f3; obtain ⟨-, c1, c2, c3, -, -⟩ := P2.out.cells; obtain ⟨-, f1, f2, f3, -, -⟩ := P2.out.free) | (go_at_call 97; refine (C1.out _).mono ?_; rintro e w1 ⟨rfl, hb1⟩; have P1 := Lib.hid ((ParAt.start w).later hb1); obtain ⟨c0, c1, c2, c3, -, -⟩ := P1.out.cells; obtain ⟨f0, f1, f2, f3, -, -⟩ := P1.out.free)))
    (refine bodyPost_ret (results_ct rfl _ _ _ _ _ (0, 0) _ rfl ((((P2.out.put1 a2).put2 _).put3 _)).1 Tryf.underlying76 rfl (by kernel_rfl)) rfl ?_; first | exact par_none (((P2.out.put1 a2).put2 _).put3 _) HO.out | exact par_some (((P2.out.put1 a2).put2 _).put3 _) HO.out)
  have m2 : (t2.toList == []) = false := nonempty_ne e2
  have hgt2 := get_gb t2
  have s2 : 1 ≤ t2.size := by omega
  have s2' : 0 < t2.size := by omega
  have E2 := Lib.hid (show ¬ t2.data.toList = [] from fun h => e2 (by rw [← len_size, h]; rfl))
  clear e2
  by_cases d2 : gb t2 0 = 46
  case neg =>
    have g2 : (gb t2 0 != 46) = true := by simpa using d2
    have HO := Lib.hid (show semL s.data.toList = none by rw [HO.out, if_neg E2.out, ← gb_lb, if_neg d2])
    clear d2
    (go_enter Tryf.func85, Tryf.ntmps85; go_wp2_with (first | (go_at_call 97; have hk := P1; refine (C2.out _).mono ?_; rintro e w2 ⟨rfl, hb2⟩; have P2 := Lib.hid ((P1.out.put0 a1).later hb2); clear c0 f0 c1 f1 c2 f2 c3 f3; obtain ⟨-, c1, c2, c3, -, -⟩ := P2.out.cells; obtain ⟨-, f1, f2, f3, -, -⟩ := P2.out.free) | (go_at_call 97; refine (C1.out _).mono ?_; rintro e w1 ⟨rfl, hb1⟩; have P1 := Lib.hid ((ParAt.start w).later hb1); obtain ⟨c0, c1, c2, c3, -, -⟩ := P1.out.cells; obtain ⟨f0, f1, f2, f3, -, -⟩ := P1.out.free)))
    (refine bodyPost_ret (results_ct rfl _ _ _ _ _ (0, 0) _ rfl ((P2.out.put1 a2)).1 Tryf.underlying76 rfl (by kernel_rfl)) rfl ?_; first | exact par_none (P2.out.put1 a2) HO.out | exact par_some (P2.out.put1 a2) HO.out)
  have g2 : (gb t2 0 != 46) = false := by simp [d2]
  have HO : Hid (semL s.data.toList = (intL (t2.data.toList.drop 1)).bind fun z => (preL z.2).bind fun r => (bldL r).map fun b => (a1.data.toList, b)) := Lib.hid (by rw [HO.out, if_neg E2.out, ← gb_lb, if_pos d2])
  clear d2
  obtain ⟨x3, hx3⟩ : ∃ x, t2.extract 1 t2.size = x := ⟨_, rfl⟩
  have X3 := Lib.hid (show x3.data.toList = t2.data.toList.drop 1 by rw [← hx3]; exact extract_drop t2 1)
  obtain ⟨a3, t3, ok3, hts3, -, hy3, hn3, C3⟩ := int_named x3 (by rw [← hx3]; exact Nat.le_trans (extract_size_le _ _ _) hts2)
  have C3 := Lib.hid C3
  rw [X3.out] at hy3 hn3
  cases ok3 with
  | false =>
    have HO := Lib.hid (show semL s.data.toList = none by rw [HO.out, hn3 rfl]; rfl)
    clear hy3 hn3
    (go_enter Tryf.func85, Tryf.ntmps85; go_wp2_with (first | (go_at_call 97; have hk := P2; refine (C3.out _).mono ?_; rintro e w3 ⟨rfl, hb3⟩; have P3 := Lib.hid ((P2.out.put1 a2).later hb3); clear c1 f1 c2 f2 c3 f3; obtain ⟨-, -, c2, -, -, -⟩ := P3.out.cells; obtain ⟨-, -, f2, -, -, -⟩ := P3.out.free) | (go_at_call 97; have hk := P1; refine (C2.out _).mono ?_; rintro e w2 ⟨rfl, hb2⟩; have P2 := Lib.hid ((P1.out.put0 a1).later hb2); clear c0 f0 c1 f1 c2 f2 c3 f3; obtain ⟨-, c1, c2, c3, -, -⟩ := P2.out.cells; obtain ⟨-, f1, f2, f3, -, -⟩ := P2.out.free) | (go_at_call 97; refine (C1.out _).mono ?_; rintro e w1 ⟨rfl, hb1⟩; have P1 := Lib.hid ((ParAt.start w).later hb1); obtain ⟨c0, c1, c2, c3, -, -⟩ := P1.out.cells; obtain ⟨f0, f1, f2, f3, -, -⟩ := P1.out.free)))
    (refine bodyPost_ret (results_ct rfl _ _ _ _ _ (0, 0) _ rfl ((P3.out.put2 a3)).1 Tryf.underlying76 rfl (by kernel_rfl)) rfl ?_; first | exact par_none (P3.out.put2 a3) HO.out | exact par_some (P3.out.put2 a3) HO.out)
  | true =>
  have HO : Hid (semL s.data.toList = (preL t3.data.toList).bind fun r => (bldL r).map fun b => (a1.data.toList, b)) := Lib.hid (by rw [HO.out, hy3 rfl]; rfl)
  clear hy3 hn3
  exact parse_tail s w hne h1s h0s n1 x1 hx1 a1 t1 C1 m1 s1 s1' g1 x2 hx2 a2 t2 C2 m2 s2 s2' g2 x3 hx3 a3 t3 C3 hts3 HO

end Go.Proofs.YtpbebckhemnooaaFmt.PS

namespace Go.Proofs.YtpbebckhemnooaaFmt.PS
open Go.RowKit Go.Proofs.YtpbebckhemnooaaFmtW.PrintWords Go.Proofs.YtpbebckhemnooaaFmtW.PrintLast Go.Proofs.YtpbebckhemnooaaFmtW.PrintMore
set_option linter.unusedVariables false
set_option linter.unusedSimpArgs false

theorem sem_shape {l : List UInt8} {x : List UInt8 × List UInt8} (h : semL l = some x) : ∃ r, l = 118 :: (x.1 ++ r) := by
  unfold semL at h
  by_cases h1 : lb l 0 = 118
  case neg => rw [if_neg h1] at h; cases h
  rw [if_pos h1] at h
  cases l with
  | nil => exact absurd h1 (by decide)
  | cons c l =>
    have hc : c = 118 := (nat_eq (n := 118) (by omega)).1 h1
    subst hc
    simp only [List.drop_one, List.tail_cons] at h
    obtain ⟨y, hy, h⟩ := Option.bind_eq_some_iff.1 h
    have e : y.1 ++ y.2 = l := by
      unfold intL at hy
      by_cases h2 : intB l = true
      · rw [if_pos h2] at hy
        obtain rfl := Option.some.inj hy
        exact List.take_append_drop _ _
      · rw [if_neg h2] at hy; cases hy
    have e1 : x.1 = y.1 := by
      by_cases h2 : y.2 = []
      · rw [if_pos h2] at h; obtain rfl := Option.some.inj h; rfl
      rw [if_neg h2] at h
      by_cases h3 : lb y.2 0 = 46
      case neg => rw [if_neg h3] at h; cases h
      rw [if_pos h3] at h
      obtain ⟨z, hz, h⟩ := Option.bind_eq_some_iff.1 h
      by_cases h2 : z.2 = []
      · rw [if_pos h2] at h; obtain rfl := Option.some.inj h; rfl
      rw [if_neg h2] at h
      by_cases h3 : lb z.2 0 = 46
      case neg => rw [if_neg h3] at h; cases h
      rw [if_pos h3] at h
      obtain ⟨z2, hz2, h⟩ := Option.bind_eq_some_iff.1 h
      obtain ⟨r, hr, h⟩ := Option.bind_eq_some_iff.1 h
      obtain ⟨b, hb, h⟩ := Option.map_eq_some_iff.1 h
      rw [← h]
    exact ⟨y.2, by rw [e1, e]⟩

set_option maxRecDepth 100000 in
set_option maxHeartbeats 1600000 in
theorem valid_sem (s : ByteArray) (hs : s.size ≤ 1099511627776) (w : World) : Calls Tryf.prog 67 #[.string s] w fun e w' => e = .returned (.bool (semL s.data.toList).isSome) ∧ Below w.heap.size w w' := by
  have hi := info_par
  have hu := Tryf.underlying76
  have HC := Lib.hid fun W => parse_any s hs W
  obtain ⟨b, hb⟩ : ∃ b, (semL s.data.toList).isSome = b := ⟨_, rfl⟩
  have HB := Lib.hid hb
  rw [hb]
  clear hb
  go_enter Tryf.func67, Tryf.ntmps67
  go_wp2_with (go_at_call 85; refine (HC.out _).mono ?_; rintro e w7 ⟨a, b1, c, d, p, q, ok, rfl, hb7, rfl, -⟩)
  go_ret
  exact ⟨by rw [HB.out]; rfl, hb7.alloc hb7.size _⟩

theorem parse_none {s : ByteArray} (hs : s.size ≤ 1099511627776) (h : semL s.data.toList = none) (w : World) : Calls Tryf.prog 85 #[.string s] w fun e w' => ∃ (a b c d p q : ByteArray), e = .returned (.tuple #[.agg #[.string a, .string b, .string c, .string d, .string p, .string q], .bool false]) ∧ Below w.heap.size w w' := by
  refine (parse_any s hs w).mono fun e w' ⟨a, b, c, d, p, q, ok, he, hb, hok, _⟩ => ⟨a, b, c, d, p, q, ?_, hb⟩
  rw [h] at hok
  obtain rfl : ok = false := hok
  exact he
theorem parse_some {s : ByteArray} (hs : s.size ≤ 1099511627776) {x : List UInt8 × List UInt8} (h : semL s.data.toList = some x) (w : World) : Calls Tryf.prog 85 #[.string s] w fun e w' => ∃ (a b c d p q : ByteArray), e = .returned (.tuple #[.agg #[.string a, .string b, .string c, .string d, .string p, .string q], .bool true]) ∧ a.data.toList = x.1 ∧ q.data.toList = x.2 ∧ Below w.heap.size w w' := by
  refine (parse_any s hs w).mono fun e w' ⟨a, b, c, d, p, q, ok, he, hb, hok, hx⟩ => ⟨a, b, c, d, p, q, ?_, (hx x h).1, (hx x h).2, hb⟩
  rw [h] at hok
  obtain rfl : ok = true := hok
  exact he
/-- What Major and Build answer. -/
def majL (l : List UInt8) : List UInt8 := match semL l with | none => [] | some x => 118 :: x.1
def buiL (l : List UInt8) : List UInt8 := match semL l with | none => [] | some x => x.2
def StrPost (l : List UInt8) (w : World) (e : Ending) (w' : World) : Prop := ∃ t : ByteArray, e = .returned (.string t) ∧ t.data.toList = l ∧ Below w.heap.size w w'

set_option maxRecDepth 100000 in
set_option maxHeartbeats 1600000 in
theorem major_sem (s : ByteArray) (hs : s.size ≤ 1099511627776) (w : World) : Calls Tryf.prog 88 #[.string s] w (StrPost (majL s.data.toList) w) := by
  have hi := info_par
  have hu := Tryf.underlying76
  cases ho : semL s.data.toList with
  | none =>
    have HC := Lib.hid fun W => parse_none hs ho W
    have HM := Lib.hid (show majL s.data.toList = [] by unfold majL; rw [ho])
    clear ho
    go_enter Tryf.func88, Tryf.ntmps88
    go_wp2_with (go_at_call 85; refine (HC.out _).mono ?_; rintro e w7 ⟨a, b1, c, d, p, q, rfl, hb7⟩)
    go_ret
    exact ⟨_, rfl, by rw [HM.out], hb7.alloc hb7.size _⟩
  | some x =>
    have HC := Lib.hid fun W => parse_some hs ho W
    have HM := Lib.hid (show majL s.data.toList = 118 :: x.1 by unfold majL; rw [ho])
    obtain ⟨r, hr⟩ := sem_shape ho
    have HR := Lib.hid hr
    have hsz : x.1.length + 1 ≤ s.size := by rw [← len_size, hr]; simp
    clear ho hr
    go_enter Tryf.func88, Tryf.ntmps88
    go_wp2_with (go_at_call 85; refine (HC.out _).mono ?_; rintro e w7 ⟨a, b1, c, d, p, q, rfl, ha, hq, hb7⟩; have ha1 : a.size = x.1.length := (by rw [← len_size, ha]); have HA := Lib.hid ha1; have ha2 : 1 + (a.size : Int) ≤ (s.size : Int) := (by omega); have ha3 : (0 : Int) ≤ 1 + (a.size : Int) := (by omega); have ha4 : wrap64 (1 + (a.size : Int)) = 1 + (a.size : Int) := w64 (by omega) (by omega); clear ha ha1 hq)
    go_ret
    refine ⟨_, rfl, ?_, hb7.alloc hb7.size _⟩
    rw [HM.out, extract_take, HR.out]
    rw [show 1 + a.size = x.1.length + 1 by have := HA.out; omega]
    simp

set_option maxRecDepth 100000 in
set_option maxHeartbeats 1600000 in
theorem build_sem (s : ByteArray) (hs : s.size ≤ 1099511627776) (w : World) : Calls Tryf.prog 89 #[.string s] w (StrPost (buiL s.data.toList) w) := by
  have hi := info_par
  have hu := Tryf.underlying76
  cases ho : semL s.data.toList with
  | none =>
    have HC := Lib.hid fun W => parse_none hs ho W
    have HM := Lib.hid (show buiL s.data.toList = [] by unfold buiL; rw [ho])
    clear ho
    go_enter Tryf.func89, Tryf.ntmps89
    go_wp2_with (go_at_call 85; refine (HC.out _).mono ?_; rintro e w7 ⟨a, b1, c, d, p, q, rfl, hb7⟩)
    go_ret
    exact ⟨_, rfl, by rw [HM.out], hb7.alloc hb7.size _⟩
  | some x =>
    have HC := Lib.hid fun W => parse_some hs ho W
    have HM := Lib.hid (show buiL s.data.toList = x.2 by unfold buiL; rw [ho])
    clear ho
    go_enter Tryf.func89, Tryf.ntmps89
    go_wp2_with (go_at_call 85; refine (HC.out _).mono ?_; rintro e w7 ⟨a, b1, c, d, p, q, rfl, ha, hq, hb7⟩; have hq := Lib.hid hq; clear ha)
    go_ret
    exact ⟨_, rfl, by rw [HM.out]; exact hq.out, hb7.alloc hb7.size _⟩

end Go.Proofs.YtpbebckhemnooaaFmt.PS
