/- laws.FnVersionBack returns true; the conditions: the tape answers fmt's stop, where the names of Windows lie. -/
import Derived.Test.YtdnkmikckchnpaaFmtLawBase
import Derived.Test.YtdnkmikckchnpaaFmtEscVer
namespace Go.Proofs.YtdnkmikckchnpaaFmt.PS
open Go.RowKit Go.Proofs.YtdnkmikckchnpaaFmtW.PrintWords Go.Proofs.YtdnkmikckchnpaaFmtW.PrintLast Go.Proofs.YtdnkmikckchnpaaFmtW.PrintMore Go.Proofs.YtdnkmikckchnpaaFmt.PT
set_option linter.unusedVariables false
set_option linter.unusedSimpArgs false

theorem vback_law {l : List UInt8} (ha : asc l) (h : VB l true) {b : Bool} {r : List UInt8} (u : WB (escL l) b r) : b = true ∧ r = l := by
  obtain ⟨h1, h33⟩ := (h.1 ha).1 rfl
  have h2 := unesc_esc ha h33
  have hb : b = true := (u.2.1 l h2).2 h1
  exact ⟨hb, (Option.some.inj (h2.symm.trans (u.2.2 hb))).symm⟩
set_option maxHeartbeats 3200000 in
set_option maxRecDepth 100000 in
theorem law_vback (F : Stop.Interp) (s : ByteArray) (w : World) (hF : F.answers w.tape) (hN : NamesIn w) :
    Calls Tryf.prog 3 #[.string s] w (Yes w) := by
  by_cases c1 : (s.size : Int) > 2147483647
  · have h1 : (s.size : Int) > 2147483647 := c1
    go_enter Tryf.func3, Tryf.ntmps3
    go_wp2_with fail
    all_goals (go_ret; exact ⟨rfl, Below.refl _ _⟩)
  have hs : s.size ≤ 1099511627776 := by omega
  by_cases c2 : (s.size : Int) > 500
  · have HL := Lib.hid fun W => long_at s true (decide_eq_true c2) W
    have h1 : ¬ (s.size : Int) > 2147483647 := c1
    clear c2
    go_enter Tryf.func3, Tryf.ntmps3
    go_wp2_with (go_at_call 9; refine (HL.out _).mono ?_; rintro e w3 ⟨rfl, hb3⟩)
    all_goals (go_ret; exact ⟨rfl, hb3⟩)
  · have HL := Lib.hid fun W => long_at s false (decide_eq_false c2) W
    have h1 : ¬ (s.size : Int) > 2147483647 := c1
    by_cases ha : asc s.data.toList
    · have HA := Lib.hid fun W => ascii_at s hs W
      rw [(ascB_iff _).2 ha] at HA
      have HE := Lib.hid fun (W : World) (hb : Below w.heap.size w W) => implEscV_any F s hs W (below_tape hF hb) (hN.below hb) (.inl ha)
      have HU := Lib.hid fun (t : ByteArray) (ht : t.size ≤ 100000) (W : World) (hb : Below w.heap.size w W) => implUnescV_any F t (by omega) W (below_tape hF hb) (hN.below hb)
      have HS := Lib.hid fun W => name_at s hs W
      have HLE : Hid (s.data.toList.length ≤ 500) := Lib.hid (by rw [len_size]; omega)
      have HAS := Lib.hid ha
      obtain ⟨n, hn⟩ : ∃ n, nameI s.data.toList = n := ⟨_, rfl⟩
      have HNN := Lib.hid hn
      rw [hn] at HS
      clear c1 c2 hN hn ha
      go_enter Tryf.func3, Tryf.ntmps3
      go_wp2_with (first
        | (go_at_call 9; refine (HL.out _).mono ?_; rintro e w3 ⟨rfl, hk3⟩)
        | (go_at_call 10; refine (HA.out _).mono ?_; rintro e w4 ⟨rfl, hb4⟩; have hk4 := hk3.trans (hb4.mono hk3.size))
        | (go_at_call 11; refine (HE.out _ hk4).mono ?_; rintro e w5 ⟨b, hvb, ⟨rfl, t, rfl, ht, hb5⟩ | ⟨rfl, rfl, hb5⟩⟩ <;> have hk5 := hk4.trans (hb5.mono hk4.size) <;> have HV := Lib.hid hvb <;> have HT := Lib.hid (told_at _ n true (by rw [← HNN.out]; exact name_law hvb)) <;> clear hvb)
        | (go_at_call 12; first
          | (refine (HU.out t (by have := esc_len s.data.toList; have := HLE.out; rw [← len_size, ht]; omega) _ hk5).mono ?_; rintro e w6 ⟨b6, t6, hub, rfl, hb6⟩; obtain ⟨rfl, h6⟩ := vback_law HAS.out HV.out (ht ▸ hub); obtain rfl := ext_bytes h6; have hk6 := hk5.trans (hb6.mono hk5.size); clear hub h6)
          | (refine (HU.out ⟨#[]⟩ (by decide) _ hk5).mono ?_; rintro e w6 ⟨b6, t6, hub, rfl, hb6⟩; have hk6 := hk5.trans (hb6.mono hk5.size); clear hub))
        | (go_at_call 14; refine (HS.out _).mono ?_; rintro e w7 ⟨rfl, hb7⟩; have hk7 := hk6.trans (hb7.mono hk6.size))
        | (go_at_call 13; refine (HT.out _).mono ?_; rintro e w8 ⟨rfl, hb8⟩; have hk8 := hk7.trans (hb8.mono hk7.size)))
      all_goals (go_ret; first | exact ⟨rfl, hk8⟩ | exact ⟨ret_bool (by simp), hk8⟩)
    · have HA := Lib.hid fun W => ascii_at s hs W
      rw [Bool.eq_false_iff.2 fun h => ha ((ascB_iff _).1 h)] at HA
      clear c1 c2 hN ha
      go_enter Tryf.func3, Tryf.ntmps3
      go_wp2_with (first
        | (go_at_call 9; refine (HL.out _).mono ?_; rintro e w3 ⟨rfl, hk3⟩)
        | (go_at_call 10; refine (HA.out _).mono ?_; rintro e w4 ⟨rfl, hb4⟩; have hk4 := hk3.trans (hb4.mono hk3.size)))
      all_goals (go_ret; exact ⟨rfl, hk4⟩)

end Go.Proofs.YtdnkmikckchnpaaFmt.PS
