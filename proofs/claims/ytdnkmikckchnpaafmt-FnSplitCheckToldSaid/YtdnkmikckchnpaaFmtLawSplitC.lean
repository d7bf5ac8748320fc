/- laws.FnSplitCheck returns true; the conditions: the tape answers fmt's stop, where the names of Windows lie. -/
import Derived.Test.YtdnkmikckchnpaaFmtLawBase
import Derived.Test.YtdnkmikckchnpaaFmtMajC
import Derived.Test.YtdnkmikckchnpaaFmtValidA
namespace Go.Proofs.YtdnkmikckchnpaaFmt.PS
open Go.RowKit Go.Proofs.YtdnkmikckchnpaaFmtW.PrintWords Go.Proofs.YtdnkmikckchnpaaFmtW.PrintLast Go.Proofs.YtdnkmikckchnpaaFmtW.PrintMore Go.Proofs.YtdnkmikckchnpaaFmt.PT
set_option linter.unusedVariables false
set_option linter.unusedSimpArgs false

set_option maxRecDepth 100000 in
theorem cpm_impl (F : Stop.Interp) (v pm : ByteArray) (hv : v.size ≤ 1099511627776) (hp : pm.size ≤ 1099511627776) (b : Bool) (h : cpmL v.data.toList (trimL pm.data.toList) = b) (w : World) (hF : F.answers w.tape) :
    Calls Tryf.prog 29 #[.string v, .string pm] w fun e w' => e = .returned (.bool b) ∧ Below w.heap.size w w' := by
  have HC := Lib.hid (cpm_any F v pm hv hp w hF)
  have HB := Lib.hid h
  clear h
  go_enter Tryf.func29, Tryf.ntmps29
  go_wp2_with (go_at_call 47; refine HC.out.mono ?_; rintro e w7 ⟨hb7, ⟨hc, rfl⟩ | ⟨hc, g7, rfl⟩⟩)
  all_goals go_ret
  all_goals exact ⟨by rw [← HB.out, hc]; rfl, hb7⟩
set_option maxRecDepth 100000 in
theorem spv_impl (s : ByteArray) (hs : s.size ≤ 1099511627776) (w : World) : Calls Tryf.prog 27 #[.string s] w fun e w' => ∃ a b : ByteArray, e = .returned (.tuple #[.string a, .string b, .bool (spvI s.data.toList).2.2]) ∧ b.data.toList = (spvI s.data.toList).2.1 ∧ Below w.heap.size w w' := by
  have HS := Lib.hid fun W => spv_at s hs W
  obtain ⟨ok, hok⟩ : ∃ b, (spvI s.data.toList).2.2 = b := ⟨_, rfl⟩
  rw [hok] at HS ⊢
  clear hok
  go_enter Tryf.func27, Tryf.ntmps27
  go_wp2_with (go_at_call 44; refine (HS.out _).mono ?_; rintro e w7 ⟨p1, p2, rfl, hp12, hb7⟩; have HP := Lib.hid (congrArg (fun x => x.2.1) hp12); clear hp12)
  go_ret3
  exact ⟨_, _, rfl, HP.out, hb7⟩

set_option maxHeartbeats 3200000 in
set_option maxRecDepth 100000 in
theorem law_splitc (F : Stop.Interp) (a b : ByteArray) (w : World) (hF : F.answers w.tape) (hN : NamesIn w) :
    Calls Tryf.prog 8 #[.string a, .string b] w (Yes w) := by
  by_cases c1 : (a.size : Int) > 2147483647
  · have h1 : (a.size : Int) > 2147483647 := c1
    go_enter Tryf.func8, Tryf.ntmps8
    go_wp2_with fail
    all_goals (go_ret; exact ⟨rfl, Below.refl _ _⟩)
  have h1 : ¬ (a.size : Int) > 2147483647 := c1
  by_cases d1 : (b.size : Int) > 2147483647
  · have h2 : (b.size : Int) > 2147483647 := d1
    go_enter Tryf.func8, Tryf.ntmps8
    go_wp2_with fail
    all_goals (go_ret; exact ⟨rfl, Below.refl _ _⟩)
  have h2 : ¬ (b.size : Int) > 2147483647 := d1
  have hs1 : a.size ≤ 1099511627776 := by omega
  have hs2 : b.size ≤ 1099511627776 := by omega
  by_cases c2 : (a.size : Int) > 500
  · have HL := Lib.hid fun W => long_at a true (decide_eq_true c2) W
    clear c2
    go_enter Tryf.func8, Tryf.ntmps8
    go_wp2_with (go_at_call 9; refine (HL.out _).mono ?_; rintro e w3 ⟨rfl, hb3⟩)
    all_goals (go_ret; exact ⟨rfl, hb3⟩)
  by_cases d2 : (b.size : Int) > 500
  · have HL := Lib.hid fun W => long_at a false (decide_eq_false c2) W
    have HM := Lib.hid fun W => long_at b true (decide_eq_true d2) W
    clear c2 d2
    go_enter Tryf.func8, Tryf.ntmps8
    go_wp2_with (go_at_call 9; first | (have := hb3; refine (HM.out _).mono ?_; rintro e w4 ⟨rfl, hb4⟩) | (refine (HL.out _).mono ?_; rintro e w3 ⟨rfl, hb3⟩))
    all_goals (go_ret; exact ⟨rfl, hb3.trans (hb4.mono hb3.size)⟩)
  have HL := Lib.hid fun W => long_at a false (decide_eq_false c2) W
  have HM := Lib.hid fun W => long_at b false (decide_eq_false d2) W
  have HP := Lib.hid fun W => path_at a hs1 W
  have HS := Lib.hid fun W => check_at a b (by omega) hs2 W
  obtain ⟨n, hn⟩ : ∃ n, modPathI a.data.toList = n := ⟨_, rfl⟩
  obtain ⟨m, hm⟩ : ∃ n, checkI a.data.toList b.data.toList = n := ⟨_, rfl⟩
  rw [hn] at HP
  rw [hm] at HS
  have hz : a.size ≤ 500 := by omega
  clear c2 d2 c1 d1
  by_cases n1 : n = 1
  case neg =>
    have q1 : (n != 1) = true := by simpa using n1
    clear hN hn hm n1
    go_enter Tryf.func8, Tryf.ntmps8
    go_wp2_with (first
      | (go_at_call 9; first | (have := hk3; refine (HM.out _).mono ?_; rintro e w4 ⟨rfl, hb4⟩; have hk := hk3.trans (hb4.mono hk3.size)) | (refine (HL.out _).mono ?_; rintro e w3 ⟨rfl, hk3⟩))
      | (go_at_call 21; refine (HP.out _).mono ?_; rintro e w5 ⟨rfl, hb5⟩; have hk := hk.trans (hb5.mono hk.size)))
    all_goals (go_ret; exact ⟨rfl, hk⟩)
  have q1 : (n != 1) = false := by simp [n1]
  rw [n1] at hn
  subst n1
  by_cases m0 : m = 0
  · have q2 : (m == 0) = true := by simpa using m0
    clear hN hn hm m0
    go_enter Tryf.func8, Tryf.ntmps8
    go_wp2_with (first
      | (go_at_call 9; first | (have := hk3; refine (HM.out _).mono ?_; rintro e w4 ⟨rfl, hb4⟩; have hk := hk3.trans (hb4.mono hk3.size)) | (refine (HL.out _).mono ?_; rintro e w3 ⟨rfl, hk3⟩))
      | (go_at_call 21; refine (HP.out _).mono ?_; rintro e w5 ⟨rfl, hb5⟩; have hk := hk.trans (hb5.mono hk.size))
      | (go_at_call 26; refine (HS.out _).mono ?_; rintro e w6 ⟨rfl, hb6⟩; have hk := hk.trans (hb6.mono hk.size)))
    all_goals (go_ret; exact ⟨rfl, hk⟩)
  have q2 : (m == 0) = false := by simpa using m0
  clear m0
  obtain ⟨hasc, hok, -, -⟩ := mod_fine hn
  have hspv : (spvI a.data.toList).2.2 = true := hok.2.2.2
  obtain ⟨sv, hsv⟩ : ∃ b', (rdL b.data.toList).isSome = b' := ⟨_, rfl⟩
  obtain ⟨cp, hcp⟩ : ∃ b', cpmL b.data.toList (trimL (spvI a.data.toList).2.1) = b' := ⟨_, rfl⟩
  have hsem : (semL b.data.toList).isSome = sv := by rw [sem_rd, Option.isSome_map, hsv]
  have hck : ∀ b5, MB a.data.toList b5 → checkL b5 a.data.toList b.data.toList = (sv && cp) := fun b5 h5 => by
    unfold checkL
    rw [(h5.1 hasc).2 hok, hsem, hcp, Bool.true_and]
  have hlaw : laws_told.f (sv && cp) m = some true := by
    obtain ⟨b5, h5⟩ := MB.some a.data.toList
    have := check_law (v := b.data.toList) h5
    rw [hck b5 h5, hm] at this
    exact this
  have HT := Lib.hid fun W => told_at (sv && cp) m true hlaw W
  have HI : Hid (∀ W : World, Below w.heap.size w W → Calls Tryf.prog 25 #[.string a, .string b] W fun e w' => e = .returned (.bool (sv && cp)) ∧ Below W.heap.size W w') := Lib.hid fun W hb => (check_impl F a b hs1 hs2 W (below_tape hF hb) (hN.below hb) (fun W2 _ => valid_asc a (by omega) hasc W2)).mono fun e w' ⟨b5, h5, he, hb5⟩ => ⟨by rw [he, hck b5 h5], hb5⟩
  have HV := Lib.hid fun W => spv_impl a hs1 W
  rw [hspv] at HV
  have HC := Lib.hid fun (W : World) (hb : Below w.heap.size w W) (pm : ByteArray) (h : pm.data.toList = (spvI a.data.toList).2.1) => cpm_impl F b pm hs2 (by have := spvI_len a.data.toList; rw [← h, len_size, len_size] at this; omega) cp (by rw [h]; exact hcp) W (below_tape hF hb)
  cases sv with
  | false =>
    have hr : rdL b.data.toList = none := by cases h : rdL b.data.toList with | none => rfl | some x => rw [h] at hsv; cases hsv
    have HR := Lib.hid fun W => read_no hs2 hr W
    rw [Bool.false_and] at HT HI
    clear hN hn hm hasc hok hspv hsv hcp hsem hck hlaw hr HC
    go_enter Tryf.func8, Tryf.ntmps8
    go_wp2_with (first
      | (go_at_call 9; first | (have := hk3; refine (HM.out _).mono ?_; rintro e w4 ⟨rfl, hb4⟩; have hk := hk3.trans (hb4.mono hk3.size)) | (refine (HL.out _).mono ?_; rintro e w3 ⟨rfl, hk3⟩))
      | (go_at_call 21; refine (HP.out _).mono ?_; rintro e w5 ⟨rfl, hb5⟩; have hk := hk.trans (hb5.mono hk.size))
      | (go_at_call 26; refine (HS.out _).mono ?_; rintro e w6 ⟨rfl, hb6⟩; have hk := hk.trans (hb6.mono hk.size))
      | (go_at_call 27; refine (HV.out _).mono ?_; rintro e w7 ⟨p1, p2, rfl, hp2, hb7⟩; have HP2 := Lib.hid hp2; clear hp2; have hk := hk.trans (hb7.mono hk.size))
      | (go_at_call 28; refine (HR.out _).mono ?_; rintro e w8 ⟨x1, x2, x3, x4, x5, x6, rfl, hb8⟩; have hk := hk.trans (hb8.mono hk.size); have hk := hk.alloc hk.size (.cells #[.string x1, .string x2, .string x3, .string x4, .string x5, .int .i64 x6] 38))
      | (go_at_call 25; refine (HI.out _ hk).mono ?_; rintro e w9 ⟨rfl, hb9⟩; have hk := hk.trans (hb9.mono hk.size))
      | (go_at_call 13; refine (HT.out _).mono ?_; rintro e w10 ⟨rfl, hb10⟩; have hk := hk.trans (hb10.mono hk.size)))
    all_goals (go_ret; exact ⟨rfl, hk⟩)
  | true =>
    obtain ⟨x, hr⟩ : ∃ x, rdL b.data.toList = some x := Option.isSome_iff_exists.1 hsv
    have HR := Lib.hid fun W => read_yes hs2 hr W
    rw [Bool.true_and] at HT HI
    clear hN hn hm hasc hok hspv hsv hcp hsem hck hlaw hr
    cases cp
    all_goals
      go_enter Tryf.func8, Tryf.ntmps8
      go_wp2_with (first
        | (go_at_call 9; first | (have := hk3; refine (HM.out _).mono ?_; rintro e w4 ⟨rfl, hb4⟩; have hk := hk3.trans (hb4.mono hk3.size)) | (refine (HL.out _).mono ?_; rintro e w3 ⟨rfl, hk3⟩))
        | (go_at_call 21; refine (HP.out _).mono ?_; rintro e w5 ⟨rfl, hb5⟩; have hk := hk.trans (hb5.mono hk.size))
        | (go_at_call 26; refine (HS.out _).mono ?_; rintro e w6 ⟨rfl, hb6⟩; have hk := hk.trans (hb6.mono hk.size))
        | (go_at_call 27; refine (HV.out _).mono ?_; rintro e w7 ⟨p1, p2, rfl, hp2, hb7⟩; have HP2 := Lib.hid hp2; clear hp2; have hk := hk.trans (hb7.mono hk.size))
        | (go_at_call 28; refine (HR.out _).mono ?_; rintro e w8 ⟨x1, x2, x3, x4, x5, x6, rfl, ha, hq, hn, hb8⟩; have hk := hk.trans (hb8.mono hk.size); have hk := hk.alloc hk.size (.cells #[.string x1, .string x2, .string x3, .string x4, .string x5, .int .i64 (x.2.2 : Int)] 38))
        | (go_at_call 25; refine (HI.out _ hk).mono ?_; rintro e w9 ⟨rfl, hb9⟩; have hk := hk.trans (hb9.mono hk.size))
        | (go_at_call 29; refine (HC.out _ hk _ HP2.out).mono ?_; rintro e w11 ⟨rfl, hb11⟩; have hk := hk.trans (hb11.mono hk.size))
        | (go_at_call 13; refine (HT.out _).mono ?_; rintro e w10 ⟨rfl, hb10⟩; have hk := hk.trans (hb10.mono hk.size)))
      all_goals (go_ret; exact ⟨rfl, hk⟩)

end Go.Proofs.YtdnkmikckchnpaaFmt.PS
