/- laws.FnPath returns true; the conditions: the tape answers fmt's stop, where the names of Windows lie, that utf8.ValidString answers. -/
import Derived.Test.YtpbebckhemnooaaFmtLawImp
import Derived.Test.YtpbebckhemnooaaFmtPlainB
namespace Go.Proofs.YtpbebckhemnooaaFmt.PS
open Go.RowKit Go.Proofs.YtpbebckhemnooaaFmtW.PrintWords Go.Proofs.YtpbebckhemnooaaFmtW.PrintLast Go.Proofs.YtpbebckhemnooaaFmtW.PrintMore Go.Proofs.YtpbebckhemnooaaFmt.PT
set_option linter.unusedVariables false
set_option linter.unusedSimpArgs false

theorem path_at (s : ByteArray) (hs : s.size ≤ 1099511627776) (w : World) : Calls Tryf.prog 30 #[.string s] w fun e w' => e = .returned (.int .i64 (modPathI s.data.toList)) ∧ Below w.heap.size w w' := by
  obtain ⟨k, hk⟩ := (Path_ev s hs).fin
  exact (spec_Path.calls k s _ w hk).mono fun _ _ ⟨he, hd⟩ => ⟨he, by first | exact hd | exact drawn_below hd⟩

set_option maxHeartbeats 1600000 in
theorem law_path (F : Stop.Interp) (s : ByteArray) (w : World) (hF : F.answers w.tape) (hN : NamesIn w) (hv : s.size ≤ 500 → ∀ W, Below w.heap.size w W → ValidOK W s) :
    Calls Tryf.prog 9 #[.string s] w (Yes w) := by
  by_cases c1 : (s.size : Int) > 2147483647
  · have h1 : (s.size : Int) > 2147483647 := c1
    go_enter Tryf.func9, Tryf.ntmps9
    go_wp2_with fail
    all_goals (go_ret; exact ⟨rfl, Below.refl _ _⟩)
  have hs : s.size ≤ 1099511627776 := by omega
  by_cases c2 : (s.size : Int) > 500
  · have HL := Lib.hid fun W => long_at s true (decide_eq_true c2) W
    have h1 : ¬ (s.size : Int) > 2147483647 := c1
    clear c2 hv
    go_enter Tryf.func9, Tryf.ntmps9
    go_wp2_with (go_at_call 15; refine (HL.out _).mono ?_; rintro e w3 ⟨rfl, hb3⟩)
    all_goals (go_ret; exact ⟨rfl, hb3⟩)
  · have HL := Lib.hid fun W => long_at s false (decide_eq_false c2) W
    have HI := Lib.hid fun (W : World) (hb : Below w.heap.size w W) => implPath_any F s hs W (below_tape hF hb) (hN.below hb) (fun W2 hb2 => hv (by omega) W2 (hb.trans (hb2.mono hb.size)))
    have HS := Lib.hid fun W => path_at s hs W
    have HB := Lib.hid (Below.refl w.heap.size w)
    have h1 : ¬ (s.size : Int) > 2147483647 := c1
    obtain ⟨n, hn⟩ : ∃ n, modPathI s.data.toList = n := ⟨_, rfl⟩
    have HNN := Lib.hid hn
    rw [hn] at HS
    clear c2 hv hN hn
    go_enter Tryf.func9, Tryf.ntmps9
    go_wp2_with (first
      | (go_at_call 15; refine (HL.out _).mono ?_; rintro e w3 ⟨rfl, hb3⟩)
      | (go_at_call 29; refine (HI.out _ hb3).mono ?_; rintro e w4 ⟨b, hpb, rfl, hb4⟩; have HT := Lib.hid fun W => told_at b n true (by rw [← HNN.out]; exact path_law hpb) W; clear hpb)
      | (go_at_call 30; refine (HS.out _).mono ?_; rintro e w5 ⟨rfl, hb5⟩)
      | (go_at_call 17; refine (HT.out _).mono ?_; rintro e w6 ⟨rfl, hb6⟩))
    all_goals (go_ret; exact ⟨rfl, hb3.trans ((hb4.mono hb3.size).trans ((hb5.mono (Nat.le_trans hb3.size hb4.size)).trans (hb6.mono (Nat.le_trans hb3.size (Nat.le_trans hb4.size hb5.size)))))⟩)

end Go.Proofs.YtpbebckhemnooaaFmt.PS
