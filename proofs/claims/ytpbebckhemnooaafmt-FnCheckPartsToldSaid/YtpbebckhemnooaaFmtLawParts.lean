/- laws.FnCheckParts returns true; the conditions: the tape answers fmt's stop, where the names of Windows lie, that utf8.ValidString answers. -/
import Derived.Test.YtpbebckhemnooaaFmtLawBase
import Derived.Test.YtpbebckhemnooaaFmtMajC
namespace Go.Proofs.YtpbebckhemnooaaFmt.PS
open Go.RowKit Go.Proofs.YtpbebckhemnooaaFmtW.PrintWords Go.Proofs.YtpbebckhemnooaaFmtW.PrintLast Go.Proofs.YtpbebckhemnooaaFmtW.PrintMore Go.Proofs.YtpbebckhemnooaaFmt.PT
set_option linter.unusedVariables false
set_option linter.unusedSimpArgs false

theorem MB.eq {l : List UInt8} {b b' : Bool} (h : MB l b) (h' : MB l b') : b = b' := by
  by_cases ha : asc l
  · have e := (h.1 ha).trans (h'.1 ha).symm
    cases b <;> cases b' <;> simp_all
  · rw [h.2 ha, h'.2 ha]

set_option maxHeartbeats 3200000 in
set_option maxRecDepth 100000 in
theorem law_parts (F : Stop.Interp) (a b : ByteArray) (w : World) (hF : F.answers w.tape) (hN : NamesIn w) (hv : ∀ s : ByteArray, s.size ≤ 100000 → ∀ W, Below w.heap.size w W → ValidOK W s) :
    Calls Tryf.prog 14 #[.string a, .string b] w (Yes w) := by
  by_cases c1 : (a.size : Int) > 2147483647
  · have h1 : (a.size : Int) > 2147483647 := c1
    go_enter Tryf.func14, Tryf.ntmps14
    go_wp2_with fail
    all_goals (go_ret; exact ⟨rfl, Below.refl _ _⟩)
  have h1 : ¬ (a.size : Int) > 2147483647 := c1
  by_cases d1 : (b.size : Int) > 2147483647
  · have h2 : (b.size : Int) > 2147483647 := d1
    go_enter Tryf.func14, Tryf.ntmps14
    go_wp2_with fail
    all_goals (go_ret; exact ⟨rfl, Below.refl _ _⟩)
  have h2 : ¬ (b.size : Int) > 2147483647 := d1
  have hs1 : a.size ≤ 1099511627776 := by omega
  have hs2 : b.size ≤ 1099511627776 := by omega
  by_cases c2 : (a.size : Int) > 500
  · have HL := Lib.hid fun W => long_at a true (decide_eq_true c2) W
    clear c2 hv
    go_enter Tryf.func14, Tryf.ntmps14
    go_wp2_with (go_at_call 15; refine (HL.out _).mono ?_; rintro e w3 ⟨rfl, hb3⟩)
    all_goals (go_ret; exact ⟨rfl, hb3⟩)
  by_cases d2 : (b.size : Int) > 500
  · have HL := Lib.hid fun W => long_at a false (decide_eq_false c2) W
    have HM := Lib.hid fun W => long_at b true (decide_eq_true d2) W
    clear c2 d2 hv
    go_enter Tryf.func14, Tryf.ntmps14
    go_wp2_with (go_at_call 15; first | (have := hb3; refine (HM.out _).mono ?_; rintro e w4 ⟨rfl, hb4⟩) | (refine (HL.out _).mono ?_; rintro e w3 ⟨rfl, hb3⟩))
    all_goals (go_ret; exact ⟨rfl, hb3.trans (hb4.mono hb3.size)⟩)
  have HL := Lib.hid fun W => long_at a false (decide_eq_false c2) W
  have HM := Lib.hid fun W => long_at b false (decide_eq_false d2) W
  have HV := Lib.hid fun (W : World) (hb : Below w.heap.size w W) (W2 : World) (hb2 : Below W.heap.size W W2) => hv a (by omega) W2 (hb.trans (hb2.mono hb.size))
  obtain ⟨b0, h0⟩ := MB.some a.data.toList
  obtain ⟨c, hc⟩ : ∃ c, checkL b0 a.data.toList b.data.toList = c := ⟨_, rfl⟩
  have HI : Hid (∀ W : World, Below w.heap.size w W → Calls Tryf.prog 34 #[.string a, .string b] W fun e w' => e = .returned (.bool c) ∧ Below W.heap.size W w') := Lib.hid fun W hb => (check_impl F a b hs1 hs2 W (below_tape hF hb) (hN.below hb) (fun W2 hb2 => HV.out W hb W2 hb2)).mono fun e w' ⟨b5, h5, he, hb5⟩ => ⟨by rw [he, MB.eq h5 h0, hc], hb5⟩
  have HP : Hid (∀ W : World, Below w.heap.size w W → Calls Tryf.prog 29 #[.string a] W fun e w' => e = .returned (.bool b0) ∧ Below W.heap.size W w') := Lib.hid fun W hb => (implPath_any F a hs1 W (below_tape hF hb) (hN.below hb) (fun W2 hb2 => HV.out W hb W2 hb2)).mono fun e w' ⟨b5, h5, he, hb5⟩ => ⟨by rw [he, MB.eq h5 h0], hb5⟩
  have HS := Lib.hid fun W => check_at a b (by omega) hs2 W
  obtain ⟨n, hn⟩ : ∃ n, checkI a.data.toList b.data.toList = n := ⟨_, rfl⟩
  have HT := Lib.hid fun W => told_at c n true (by rw [← hn, ← hc]; exact check_law (v := b.data.toList) h0) W
  rw [hn] at HS
  clear c2 d2 c1 d1 hv hN hn
  cases hr : rdL b.data.toList with
  | none =>
    have HR := Lib.hid fun W => read_no hs2 hr W
    obtain rfl : c = false := by
      rw [← hc]
      unfold checkL
      rw [sem_rd, hr]
      simp
    clear hc h0 hr HP HV
    go_enter Tryf.func14, Tryf.ntmps14
    go_wp2_with (first
      | (go_at_call 15; first | (have := hk3; refine (HM.out _).mono ?_; rintro e w4 ⟨rfl, hb4⟩; have hk := hk3.trans (hb4.mono hk3.size)) | (refine (HL.out _).mono ?_; rintro e w3 ⟨rfl, hk3⟩))
      | (go_at_call 34; refine (HI.out _ hk).mono ?_; rintro e w5 ⟨rfl, hb5⟩; have hk := hk.trans (hb5.mono hk.size))
      | (go_at_call 35; refine (HR.out _).mono ?_; rintro e w8 ⟨x1, x2, x3, x4, x5, x6, rfl, hb8⟩; have hk := hk.trans (hb8.mono hk.size); have hk := hk.alloc hk.size (.cells #[.string x1, .string x2, .string x3, .string x4, .string x5, .int .i64 x6] 38))
      | (go_at_call 36; refine (HS.out _).mono ?_; rintro e w6 ⟨rfl, hb6⟩; have hk := hk.trans (hb6.mono hk.size))
      | (go_at_call 17; refine (HT.out _).mono ?_; rintro e w7 ⟨rfl, hb7⟩; have hk := hk.trans (hb7.mono hk.size)))
    all_goals (go_ret; exact ⟨rfl, hk⟩)
  | some x =>
    have HR := Lib.hid fun W => read_yes hs2 hr W
    clear hr HV
    cases c with
    | false =>
      clear hc h0 HP
      go_enter Tryf.func14, Tryf.ntmps14
      go_wp2_with (first
        | (go_at_call 15; first | (have := hk3; refine (HM.out _).mono ?_; rintro e w4 ⟨rfl, hb4⟩; have hk := hk3.trans (hb4.mono hk3.size)) | (refine (HL.out _).mono ?_; rintro e w3 ⟨rfl, hk3⟩))
        | (go_at_call 34; refine (HI.out _ hk).mono ?_; rintro e w5 ⟨rfl, hb5⟩; have hk := hk.trans (hb5.mono hk.size))
        | (go_at_call 35; refine (HR.out _).mono ?_; rintro e w8 ⟨x1, x2, x3, x4, x5, x6, rfl, ha, hq, hn, hb8⟩; have hk := hk.trans (hb8.mono hk.size); have hk := hk.alloc hk.size (.cells #[.string x1, .string x2, .string x3, .string x4, .string x5, .int .i64 (x.2.2 : Int)] 38))
        | (go_at_call 36; refine (HS.out _).mono ?_; rintro e w6 ⟨rfl, hb6⟩; have hk := hk.trans (hb6.mono hk.size))
        | (go_at_call 17; refine (HT.out _).mono ?_; rintro e w7 ⟨rfl, hb7⟩; have hk := hk.trans (hb7.mono hk.size)))
      all_goals (go_ret; exact ⟨rfl, hk⟩)
    | true =>
      obtain rfl : b0 = true := by
        unfold checkL at hc
        simp only [Bool.and_eq_true] at hc
        exact hc.1.1
      clear hc h0
      go_enter Tryf.func14, Tryf.ntmps14
      go_wp2_with (first
        | (go_at_call 15; first | (have := hk3; refine (HM.out _).mono ?_; rintro e w4 ⟨rfl, hb4⟩; have hk := hk3.trans (hb4.mono hk3.size)) | (refine (HL.out _).mono ?_; rintro e w3 ⟨rfl, hk3⟩))
        | (go_at_call 34; refine (HI.out _ hk).mono ?_; rintro e w5 ⟨rfl, hb5⟩; have hk := hk.trans (hb5.mono hk.size))
        | (go_at_call 35; refine (HR.out _).mono ?_; rintro e w8 ⟨x1, x2, x3, x4, x5, x6, rfl, ha, hq, hn, hb8⟩; have hk := hk.trans (hb8.mono hk.size); have hk := hk.alloc hk.size (.cells #[.string x1, .string x2, .string x3, .string x4, .string x5, .int .i64 (x.2.2 : Int)] 38))
        | (go_at_call 36; refine (HS.out _).mono ?_; rintro e w6 ⟨rfl, hb6⟩; have hk := hk.trans (hb6.mono hk.size))
        | (go_at_call 17; refine (HT.out _).mono ?_; rintro e w7 ⟨rfl, hb7⟩; have hk := hk.trans (hb7.mono hk.size))
        | (go_at_call 29; refine (HP.out _ hk).mono ?_; rintro e w9 ⟨rfl, hb9⟩; have hk := hk.trans (hb9.mono hk.size)))
      all_goals (go_ret; exact ⟨rfl, hk⟩)

end Go.Proofs.YtpbebckhemnooaaFmt.PS
