/- laws.FnFilePath returns true; the conditions: the tape answers fmt's stop, where the names of Windows lie, that utf8.ValidString, unicode.IsLetter and strings.EqualFold answer. -/
import Derived.Test.YtpbebckhemnooaaFmtLawBase
import Derived.Test.YtpbebckhemnooaaFmtFileLaw
namespace Go.Proofs.YtpbebckhemnooaaFmt.PS
open Go.RowKit Go.Proofs.YtpbebckhemnooaaFmtW.PrintWords Go.Proofs.YtpbebckhemnooaaFmtW.PrintLast Go.Proofs.YtpbebckhemnooaaFmtW.PrintMore Go.Proofs.YtpbebckhemnooaaFmt.PT
set_option linter.unusedVariables false
set_option linter.unusedSimpArgs false

theorem file_at (s : ByteArray) (hs : s.size ≤ 1099511627776) (w : World) : Calls Tryf.prog 24 #[.string s] w fun e w' => e = .returned (.int .i64 (pathI true s.data.toList)) ∧ Below w.heap.size w w' := by
  obtain ⟨k, hk⟩ := (FilePath_ev s hs).fin
  exact (spec_FilePath.calls k s _ w hk).mono fun _ _ ⟨he, hd⟩ => ⟨he, by first | exact hd | exact drawn_below hd⟩
set_option maxHeartbeats 3200000 in
set_option maxRecDepth 100000 in
theorem law_file (F : Stop.Interp) (s : ByteArray) (w : World) (hF : F.answers w.tape) (hN : NamesIn w) (hX : HighOK w) (hv : ∀ s : ByteArray, s.size ≤ 100000 → ∀ W, Below w.heap.size w W → ValidOK W s) :
    Calls Tryf.prog 5 #[.string s] w (Yes w) := by
  by_cases c1 : (s.size : Int) > 2147483647
  · have h1 : (s.size : Int) > 2147483647 := c1
    go_enter Tryf.func5, Tryf.ntmps5
    go_wp2_with fail
    all_goals (go_ret; exact ⟨rfl, Below.refl _ _⟩)
  have hs : s.size ≤ 1099511627776 := by omega
  by_cases c2 : (s.size : Int) > 500
  · have HL := Lib.hid fun W => long_at s true (decide_eq_true c2) W
    have h1 : ¬ (s.size : Int) > 2147483647 := c1
    clear c2 hv hX
    go_enter Tryf.func5, Tryf.ntmps5
    go_wp2_with (go_at_call 15; refine (HL.out _).mono ?_; rintro e w3 ⟨rfl, hb3⟩)
    all_goals (go_ret; exact ⟨rfl, hb3⟩)
  · have HL := Lib.hid fun W => long_at s false (decide_eq_false c2) W
    have h1 : ¬ (s.size : Int) > 2147483647 := c1
    have HI := Lib.hid fun (W : World) (hb : Below w.heap.size w W) => implFile_any F s hs W (below_tape hF hb) (hN.below hb) (fun _ => .inr (hX.below hb)) (hv s (by omega) W hb)
    have HS := Lib.hid fun W => file_at s hs W
    obtain ⟨n, hn⟩ : ∃ n, pathI true s.data.toList = n := ⟨_, rfl⟩
    have HNN := Lib.hid hn
    rw [hn] at HS
    clear c1 c2 hv hX hN hn
    go_enter Tryf.func5, Tryf.ntmps5
    go_wp2_with (first
      | (go_at_call 15; refine (HL.out _).mono ?_; rintro e w3 ⟨rfl, hk3⟩)
      | (go_at_call 23; refine (HI.out _ hk3).mono ?_; rintro e w4 ⟨b, hpb, rfl, hb4⟩; have hk4 := hk3.trans (hb4.mono hk3.size); have HT := Lib.hid fun W => told_at b n true (by rw [← HNN.out]; exact file_law hpb) W; clear hpb)
      | (go_at_call 24; refine (HS.out _).mono ?_; rintro e w5 ⟨rfl, hb5⟩; have hk5 := hk4.trans (hb5.mono hk4.size))
      | (go_at_call 17; refine (HT.out _).mono ?_; rintro e w6 ⟨rfl, hb6⟩; have hk6 := hk5.trans (hb6.mono hk5.size)))
    all_goals (go_ret; exact ⟨rfl, hk6⟩)

end Go.Proofs.YtpbebckhemnooaaFmt.PS
