/- laws.FnEscape returns true; the conditions: the tape answers fmt's stop, where the names of Windows lie, that utf8.ValidString answers. -/
import Derived.Test.YtpbebckhemnooaaFmtLawImp
import Derived.Test.YtpbebckhemnooaaFmtEscSpec
import Derived.Test.YtpbebckhemnooaaFmtEscPath
import Derived.Test.YtpbebckhemnooaaFmtLawPath
namespace Go.Proofs.YtpbebckhemnooaaFmt.PS
open Go.RowKit Go.Proofs.YtpbebckhemnooaaFmtW.PrintWords Go.Proofs.YtpbebckhemnooaaFmtW.PrintLast Go.Proofs.YtpbebckhemnooaaFmtW.PrintMore Go.Proofs.YtpbebckhemnooaaFmt.PT
set_option linter.unusedVariables false
set_option linter.unusedSimpArgs false

set_option maxHeartbeats 3200000 in
set_option maxRecDepth 100000 in
theorem law_escape (F : Stop.Interp) (s : ByteArray) (w : World) (hF : F.answers w.tape) (hN : NamesIn w) (hv : ∀ s : ByteArray, s.size ≤ 100000 → ∀ W, Below w.heap.size w W → ValidOK W s) :
    Calls Tryf.prog 11 #[.string s] w (Yes w) := by
  by_cases c1 : (s.size : Int) > 2147483647
  · have h1 : (s.size : Int) > 2147483647 := c1
    go_enter Tryf.func11, Tryf.ntmps11
    go_wp2_with fail
    all_goals (go_ret; exact ⟨rfl, Below.refl _ _⟩)
  have hs : s.size ≤ 1099511627776 := by omega
  by_cases c2 : (s.size : Int) > 500
  · have HL := Lib.hid fun W => long_at s true (decide_eq_true c2) W
    have h1 : ¬ (s.size : Int) > 2147483647 := c1
    clear c2 hv
    go_enter Tryf.func11, Tryf.ntmps11
    go_wp2_with (go_at_call 15; refine (HL.out _).mono ?_; rintro e w3 ⟨rfl, hb3⟩)
    all_goals (go_ret; exact ⟨rfl, hb3⟩)
  · have HL := Lib.hid fun W => long_at s false (decide_eq_false c2) W
    have HE := Lib.hid fun (W : World) (hb : Below w.heap.size w W) => implEscape_any F s hs W (below_tape hF hb) (hN.below hb) (fun W2 hb2 => hv s (by omega) W2 (hb.trans (hb2.mono hb.size)))
    have HI := Lib.hid fun (W : World) (hb : Below w.heap.size w W) => implPath_any F s hs W (below_tape hF hb) (hN.below hb) (fun W2 hb2 => hv s (by omega) W2 (hb.trans (hb2.mono hb.size)))
    have HS := Lib.hid fun W => path_at s hs W
    have HX := Lib.hid fun W => escape_at s hs W
    have h1 : ¬ (s.size : Int) > 2147483647 := c1
    obtain ⟨n, hn⟩ : ∃ n, modPathI s.data.toList = n := ⟨_, rfl⟩
    have HNN := Lib.hid hn
    rw [hn] at HS
    clear c2 hv hN hn
    go_enter Tryf.func11, Tryf.ntmps11
    go_wp2_with (first
      | (go_at_call 15; refine (HL.out _).mono ?_; rintro e w3 ⟨rfl, hb3⟩)
      | (go_at_call 32; refine (HE.out _ hb3).mono ?_; rintro e w4 ⟨b, hpb, ⟨rfl, t, rfl, ht, hb4⟩ | ⟨rfl, rfl, hb4⟩⟩ <;> have hb34 := hb3.trans (hb4.mono hb3.size) <;> have HM := Lib.hid hpb <;> have HT := Lib.hid (told_at _ n true (by rw [← HNN.out]; exact path_law hpb)) <;> clear hpb)
      | (go_at_call 30; refine (HS.out _).mono ?_; rintro e w5 ⟨rfl, hb5⟩; have hb35 := hb34.trans (hb5.mono hb34.size))
      | (go_at_call 17; refine (HT.out _).mono ?_; rintro e w6 ⟨rfl, hb6⟩; have hb36 := hb35.trans (hb6.mono hb35.size))
      | (go_at_call 29; refine (HI.out _ hb36).mono ?_; rintro e w7 ⟨b7, hm7, rfl, hb7⟩; have hb37 := hb36.trans (hb7.mono hb36.size); obtain rfl := MB.one HM.out hm7; clear hm7)
      | (go_at_call 20; refine (HX.out _).mono ?_; rintro e w8 ⟨t8, rfl, ht8, hb8⟩; have hb38 := hb37.trans (hb8.mono hb37.size); obtain rfl : t8 = t := ext_bytes (ht8.trans ht.symm)))
    all_goals (go_ret; first | exact ⟨rfl, hb38⟩ | exact ⟨rfl, hb37⟩ | exact ⟨ret_bool (by simp), hb38⟩)

end Go.Proofs.YtpbebckhemnooaaFmt.PS
