/- laws.FnCheck returns true; the conditions: the tape answers fmt's stop, where the names of Windows lie, that utf8.ValidString answers. -/
import Derived.Test.YtdnkmikckchnpaaFmtLawBase
import Derived.Test.YtdnkmikckchnpaaFmtMajC
namespace Go.Proofs.YtdnkmikckchnpaaFmt.PS
open Go.RowKit Go.Proofs.YtdnkmikckchnpaaFmtW.PrintWords Go.Proofs.YtdnkmikckchnpaaFmtW.PrintLast Go.Proofs.YtdnkmikckchnpaaFmtW.PrintMore Go.Proofs.YtdnkmikckchnpaaFmt.PT
set_option linter.unusedVariables false
set_option linter.unusedSimpArgs false

set_option maxHeartbeats 3200000 in
set_option maxRecDepth 100000 in
theorem law_check (F : Stop.Interp) (a b : ByteArray) (w : World) (hF : F.answers w.tape) (hN : NamesIn w) (hv : ∀ s : ByteArray, s.size ≤ 100000 → ∀ W, Below w.heap.size w W → ValidOK W s) :
    Calls Tryf.prog 7 #[.string a, .string b] w (Yes w) := by
  by_cases c1 : (a.size : Int) > 2147483647
  · have h1 : (a.size : Int) > 2147483647 := c1
    go_enter Tryf.func7, Tryf.ntmps7
    go_wp2_with fail
    all_goals (go_ret; exact ⟨rfl, Below.refl _ _⟩)
  have h1 : ¬ (a.size : Int) > 2147483647 := c1
  by_cases d1 : (b.size : Int) > 2147483647
  · have h2 : (b.size : Int) > 2147483647 := d1
    go_enter Tryf.func7, Tryf.ntmps7
    go_wp2_with fail
    all_goals (go_ret; exact ⟨rfl, Below.refl _ _⟩)
  have h2 : ¬ (b.size : Int) > 2147483647 := d1
  have hs1 : a.size ≤ 1099511627776 := by omega
  have hs2 : b.size ≤ 1099511627776 := by omega
  by_cases c2 : (a.size : Int) > 500
  · have HL := Lib.hid fun W => long_at a true (decide_eq_true c2) W
    clear c2 hv
    go_enter Tryf.func7, Tryf.ntmps7
    go_wp2_with (go_at_call 9; refine (HL.out _).mono ?_; rintro e w3 ⟨rfl, hb3⟩)
    all_goals (go_ret; exact ⟨rfl, hb3⟩)
  by_cases d2 : (b.size : Int) > 500
  · have HL := Lib.hid fun W => long_at a false (decide_eq_false c2) W
    have HM := Lib.hid fun W => long_at b true (decide_eq_true d2) W
    clear c2 d2 hv
    go_enter Tryf.func7, Tryf.ntmps7
    go_wp2_with (go_at_call 9; first | (have := hb3; refine (HM.out _).mono ?_; rintro e w4 ⟨rfl, hb4⟩) | (refine (HL.out _).mono ?_; rintro e w3 ⟨rfl, hb3⟩))
    all_goals (go_ret; exact ⟨rfl, hb3.trans (hb4.mono hb3.size)⟩)
  have HL := Lib.hid fun W => long_at a false (decide_eq_false c2) W
  have HM := Lib.hid fun W => long_at b false (decide_eq_false d2) W
  have HI := Lib.hid fun (W : World) (hb : Below w.heap.size w W) => check_impl F a b hs1 hs2 W (below_tape hF hb) (hN.below hb) (fun W2 hb2 => hv a (by omega) W2 (hb.trans (hb2.mono hb.size)))
  have HS := Lib.hid fun W => check_at a b (by omega) hs2 W
  obtain ⟨n, hn⟩ : ∃ n, checkI a.data.toList b.data.toList = n := ⟨_, rfl⟩
  have HNN := Lib.hid hn
  rw [hn] at HS
  clear c2 d2 c1 d1 hv hN hn
  go_enter Tryf.func7, Tryf.ntmps7
  go_wp2_with (first
    | (go_at_call 9; first | (have := hk3; refine (HM.out _).mono ?_; rintro e w4 ⟨rfl, hb4⟩; have hk4 := hk3.trans (hb4.mono hk3.size)) | (refine (HL.out _).mono ?_; rintro e w3 ⟨rfl, hk3⟩))
    | (go_at_call 25; refine (HI.out _ hk4).mono ?_; rintro e w5 ⟨b5, hm5, rfl, hb5⟩; have hk5 := hk4.trans (hb5.mono hk4.size); have HT := Lib.hid fun W => told_at _ n true (by rw [← HNN.out]; exact check_law (v := b.data.toList) hm5) W; clear hm5)
    | (go_at_call 26; refine (HS.out _).mono ?_; rintro e w6 ⟨rfl, hb6⟩; have hk6 := hk5.trans (hb6.mono hk5.size))
    | (go_at_call 13; refine (HT.out _).mono ?_; rintro e w7 ⟨rfl, hb7⟩; have hk7 := hk6.trans (hb7.mono hk6.size)))
  all_goals (go_ret; exact ⟨rfl, hk7⟩)

end Go.Proofs.YtdnkmikckchnpaaFmt.PS
