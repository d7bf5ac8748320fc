/- laws.FnEscapeBack returns true; the conditions: the tape answers fmt's stop, where the names of Windows lie, that utf8.ValidString answers. -/
import Derived.Test.YtpbebckhemnooaaFmtLawImp
import Derived.Test.YtpbebckhemnooaaFmtEscSpec
import Derived.Test.YtpbebckhemnooaaFmtEscPath
import Derived.Test.YtpbebckhemnooaaFmtLawPath
namespace Go.Proofs.YtpbebckhemnooaaFmt.PS
open Go.RowKit Go.Proofs.YtpbebckhemnooaaFmtW.PrintWords Go.Proofs.YtpbebckhemnooaaFmtW.PrintLast Go.Proofs.YtpbebckhemnooaaFmtW.PrintMore Go.Proofs.YtpbebckhemnooaaFmt.PT
set_option linter.unusedVariables false
set_option linter.unusedSimpArgs false

theorem back_law {l : List UInt8} (h : MB l true) {b : Bool} {r : List UInt8} (u : UB (escL l) b r) : b = true ∧ r = l := by
  have h2 := unesc_esc h.fine.1 (mod_33 h.fine.2)
  have hb : b = true := MB.one (u.2.1 l h2) h
  exact ⟨hb, (Option.some.inj (h2.symm.trans (u.2.2 hb))).symm⟩
set_option maxHeartbeats 3200000 in
set_option maxRecDepth 100000 in
theorem law_back (F : Stop.Interp) (s : ByteArray) (w : World) (hF : F.answers w.tape) (hN : NamesIn w) (hv : ∀ s : ByteArray, s.size ≤ 100000 → ∀ W, Below w.heap.size w W → ValidOK W s) :
    Calls Tryf.prog 13 #[.string s] w (Yes w) := by
  by_cases c1 : (s.size : Int) > 2147483647
  · have h1 : (s.size : Int) > 2147483647 := c1
    go_enter Tryf.func13, Tryf.ntmps13
    go_wp2_with fail
    all_goals (go_ret; exact ⟨rfl, Below.refl _ _⟩)
  have hs : s.size ≤ 1099511627776 := by omega
  by_cases c2 : (s.size : Int) > 500
  · have HL := Lib.hid fun W => long_at s true (decide_eq_true c2) W
    have h1 : ¬ (s.size : Int) > 2147483647 := c1
    clear c2 hv
    go_enter Tryf.func13, Tryf.ntmps13
    go_wp2_with (go_at_call 15; refine (HL.out _).mono ?_; rintro e w3 ⟨rfl, hb3⟩)
    all_goals (go_ret; exact ⟨rfl, hb3⟩)
  · have HL := Lib.hid fun W => long_at s false (decide_eq_false c2) W
    have HE := Lib.hid fun (W : World) (hb : Below w.heap.size w W) => implEscape_any F s hs W (below_tape hF hb) (hN.below hb) (fun W2 hb2 => hv s (by omega) W2 (hb.trans (hb2.mono hb.size)))
    have HU := Lib.hid fun (t : ByteArray) (ht : t.size ≤ 100000) (W : World) (hb : Below w.heap.size w W) => implUnescape_any F t (by omega) W (below_tape hF hb) (hN.below hb) (fun t2 ht2 W2 hb2 => hv t2 (by omega) W2 (hb.trans (hb2.mono hb.size)))
    have HS := Lib.hid fun W => path_at s hs W
    have h1 : ¬ (s.size : Int) > 2147483647 := c1
    have hlen : s.data.toList.length ≤ 500 := by rw [len_size]; omega
    have HLE := Lib.hid hlen
    obtain ⟨n, hn⟩ : ∃ n, modPathI s.data.toList = n := ⟨_, rfl⟩
    have HNN := Lib.hid hn
    rw [hn] at HS
    clear c2 hv hN hn hlen
    go_enter Tryf.func13, Tryf.ntmps13
    go_wp2_with (first
      | (go_at_call 15; refine (HL.out _).mono ?_; rintro e w3 ⟨rfl, hb3⟩)
      | (go_at_call 32; refine (HE.out _ hb3).mono ?_; rintro e w4 ⟨b, hpb, ⟨rfl, t, rfl, ht, hb4⟩ | ⟨rfl, rfl, hb4⟩⟩ <;> have hb34 := hb3.trans (hb4.mono hb3.size) <;> have HM := Lib.hid hpb <;> have HT := Lib.hid (told_at _ n true (by rw [← HNN.out]; exact path_law hpb)) <;> clear hpb)
      | (go_at_call 33; first
        | (refine (HU.out t (by have := esc_len s.data.toList; have := HLE.out; rw [← len_size, ht]; omega) _ hb34).mono ?_; rintro e w5 ⟨b5, t5, hub, rfl, hb5⟩; obtain ⟨rfl, h5⟩ := back_law HM.out (ht ▸ hub); obtain rfl := ext_bytes h5; have hb35 := hb34.trans (hb5.mono hb34.size); clear hub h5)
        | (refine (HU.out ⟨#[]⟩ (by decide) _ hb34).mono ?_; rintro e w5 ⟨b5, t5, hub, rfl, hb5⟩; have hb35 := hb34.trans (hb5.mono hb34.size); clear hub))
      | (go_at_call 30; refine (HS.out _).mono ?_; rintro e w6 ⟨rfl, hb6⟩; have hb36 := hb35.trans (hb6.mono hb35.size))
      | (go_at_call 17; refine (HT.out _).mono ?_; rintro e w7 ⟨rfl, hb7⟩; have hb37 := hb36.trans (hb7.mono hb36.size)))
    all_goals (go_ret; first | exact ⟨rfl, hb37⟩ | exact ⟨ret_bool (by simp), hb37⟩)

end Go.Proofs.YtpbebckhemnooaaFmt.PS
