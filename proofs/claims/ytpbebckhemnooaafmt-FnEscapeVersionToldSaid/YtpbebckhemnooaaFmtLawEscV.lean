/- laws.FnEscapeVersion returns true; the conditions: the tape answers fmt's stop, where the names of Windows lie, that unicode.IsLetter and strings.EqualFold answer. -/
import Derived.Test.YtpbebckhemnooaaFmtLawBase
import Derived.Test.YtpbebckhemnooaaFmtEscSpec
import Derived.Test.YtpbebckhemnooaaFmtEscVer
namespace Go.Proofs.YtpbebckhemnooaaFmt.PS
open Go.RowKit Go.Proofs.YtpbebckhemnooaaFmtW.PrintWords Go.Proofs.YtpbebckhemnooaaFmtW.PrintLast Go.Proofs.YtpbebckhemnooaaFmtW.PrintMore Go.Proofs.YtpbebckhemnooaaFmt.PT
set_option linter.unusedVariables false
set_option linter.unusedSimpArgs false

set_option maxHeartbeats 3200000 in
set_option maxRecDepth 100000 in
theorem law_escv (F : Stop.Interp) (s : ByteArray) (w : World) (hF : F.answers w.tape) (hN : NamesIn w) (hX : HighOK w) :
    Calls Tryf.prog 3 #[.string s] w (Yes w) := by
  by_cases c1 : (s.size : Int) > 2147483647
  · have h1 : (s.size : Int) > 2147483647 := c1
    go_enter Tryf.func3, Tryf.ntmps3
    go_wp2_with fail
    all_goals (go_ret; exact ⟨rfl, Below.refl _ _⟩)
  have hs : s.size ≤ 1099511627776 := by omega
  by_cases c2 : (s.size : Int) > 500
  · have HL := Lib.hid fun W => long_at s true (decide_eq_true c2) W
    have h1 : ¬ (s.size : Int) > 2147483647 := c1
    clear c2 hX
    go_enter Tryf.func3, Tryf.ntmps3
    go_wp2_with (go_at_call 15; refine (HL.out _).mono ?_; rintro e w3 ⟨rfl, hb3⟩)
    all_goals (go_ret; exact ⟨rfl, hb3⟩)
  · have HL := Lib.hid fun W => long_at s false (decide_eq_false c2) W
    have h1 : ¬ (s.size : Int) > 2147483647 := c1
    have HA := Lib.hid fun W => ascii_at s hs W
    have HE := Lib.hid fun (W : World) (hb : Below w.heap.size w W) => implEscV_any F s hs W (below_tape hF hb) (hN.below hb) (.inr (hX.below hb))
    have HS := Lib.hid fun W => name_at s hs W
    have HX := Lib.hid fun W => escape_at s hs W
    obtain ⟨n, hn⟩ : ∃ n, nameI s.data.toList = n := ⟨_, rfl⟩
    have HNN := Lib.hid hn
    rw [hn] at HS
    clear c1 c2 hN hn hX
    go_enter Tryf.func3, Tryf.ntmps3
    go_wp2_with (first
      | (go_at_call 15; refine (HL.out _).mono ?_; rintro e w3 ⟨rfl, hk3⟩)
      | (go_at_call 16; refine (HE.out _ hk3).mono ?_; rintro e w5 ⟨b, hvb, ⟨rfl, t, rfl, ht, hb5⟩ | ⟨rfl, rfl, hb5⟩⟩ <;> have hk5 := hk3.trans (hb5.mono hk3.size) <;> have HV := Lib.hid hvb <;> have HT := Lib.hid (told_at _ n true (by rw [← HNN.out]; exact name_law hvb)) <;> clear hvb)
      | (go_at_call 18; refine (HS.out _).mono ?_; rintro e w7 ⟨rfl, hb7⟩; have hk7 := hk5.trans (hb7.mono hk5.size))
      | (go_at_call 17; refine (HT.out _).mono ?_; rintro e w8 ⟨rfl, hb8⟩; have hk8 := hk7.trans (hb8.mono hk7.size))
      | (go_at_call 19; refine (HA.out _).mono ?_; rintro e w9 ⟨rfl, hb9⟩; have hk9 := hk8.trans (hb9.mono hk8.size); have hasb : ascB s.data.toList = true := (ascB_iff _).2 HV.out.asc_of)
      | (go_at_call 20; refine (HX.out _).mono ?_; rintro e w10 ⟨t10, rfl, ht10, hb10⟩; have hk10 := hk9.trans (hb10.mono hk9.size); obtain rfl : t10 = t := ext_bytes (ht10.trans ht.symm)))
    all_goals (go_ret; first | exact ⟨rfl, hk10⟩ | exact ⟨ret_bool (by simp), hk10⟩ | exact ⟨rfl, hk9⟩ | exact ⟨rfl, hk8⟩)

end Go.Proofs.YtpbebckhemnooaaFmt.PS
