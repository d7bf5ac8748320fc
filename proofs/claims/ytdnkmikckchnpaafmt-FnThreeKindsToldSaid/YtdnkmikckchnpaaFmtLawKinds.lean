/- laws.FnThreeKinds returns true; the conditions: the tape answers fmt's stop, where the names of Windows lie, that utf8.ValidString, unicode.IsLetter and strings.EqualFold answer. -/
import Derived.Test.YtdnkmikckchnpaaFmtLawBase
import Derived.Test.YtdnkmikckchnpaaFmtFileLaw
namespace Go.Proofs.YtdnkmikckchnpaaFmt.PS
open Go.RowKit Go.Proofs.YtdnkmikckchnpaaFmtW.PrintWords Go.Proofs.YtdnkmikckchnpaaFmtW.PrintLast Go.Proofs.YtdnkmikckchnpaaFmtW.PrintMore Go.Proofs.YtdnkmikckchnpaaFmt.PT
set_option linter.unusedVariables false
set_option linter.unusedSimpArgs false

theorem file_at (s : ByteArray) (hs : s.size ≤ 1099511627776) (w : World) : Calls Tryf.prog 22 #[.string s] w fun e w' => e = .returned (.int .i64 (pathI true s.data.toList)) ∧ Below w.heap.size w w' := by
  obtain ⟨k, hk⟩ := (FilePath_ev s hs).fin
  exact (spec_FilePath.calls k s _ w hk).mono fun _ _ ⟨he, hd⟩ => ⟨he, by first | exact hd | exact drawn_below hd⟩
theorem kinds_ways {l : List UInt8} {a b c : Bool} (ha : MB l a) (hb : PB 1 l b) (hc : PB 2 l c) : (a = false ∧ b = false ∧ c = false) ∨ (a = false ∧ b = false ∧ c = true) ∨ (a = false ∧ b = true ∧ c = true) ∨ (a = true ∧ b = true ∧ c = true) := by
  obtain ⟨h1, h2⟩ := kinds_law ha hb hc
  cases a <;> cases b <;> cases c <;> simp_all
set_option maxHeartbeats 6400000 in
set_option maxRecDepth 100000 in
theorem law_kinds (F : Stop.Interp) (s : ByteArray) (w : World) (hF : F.answers w.tape) (hN : NamesIn w) (hX : HighOK w) (hv : ∀ s : ByteArray, s.size ≤ 100000 → ∀ W, Below w.heap.size w W → ValidOK W s) :
    Calls Tryf.prog 5 #[.string s] w (Yes w) := by
  by_cases c1 : (s.size : Int) > 2147483647
  · have h1 : (s.size : Int) > 2147483647 := c1
    go_enter Tryf.func5, Tryf.ntmps5
    go_wp2_with fail
    all_goals (go_ret; exact ⟨rfl, Below.refl _ _⟩)
  have hs : s.size ≤ 1099511627776 := by omega
  by_cases c2 : (s.size : Int) > 500
  · have HL := Lib.hid fun W => long_at s true (decide_eq_true c2) W
    have h1 : ¬ (s.size : Int) > 2147483647 := c1
    clear c2 hv hX
    go_enter Tryf.func5, Tryf.ntmps5
    go_wp2_with (go_at_call 9; refine (HL.out _).mono ?_; rintro e w3 ⟨rfl, hb3⟩)
    all_goals (go_ret; exact ⟨rfl, hb3⟩)
  · have HL := Lib.hid fun W => long_at s false (decide_eq_false c2) W
    have h1 : ¬ (s.size : Int) > 2147483647 := c1
    have HA := Lib.hid fun (W : World) (hb : Below w.heap.size w W) => implPath_any F s hs W (below_tape hF hb) (hN.below hb) (fun W2 hb2 => hv s (by omega) W2 (hb.trans (hb2.mono hb.size)))
    have HB := Lib.hid fun (W : World) (hb : Below w.heap.size w W) => implImport_any F s hs W (below_tape hF hb) (hN.below hb) (fun h => by cases h) (hv s (by omega) W hb)
    have HI := Lib.hid fun (W : World) (hb : Below w.heap.size w W) => implFile_any F s hs W (below_tape hF hb) (hN.below hb) (fun _ => .inr (hX.below hb)) (hv s (by omega) W hb)
    have HS := Lib.hid fun W => file_at s hs W
    have HR := Lib.hid fun W => import_at s hs W
    have HQ := Lib.hid fun W => path_at s hs W
    obtain ⟨n, hn⟩ : ∃ n, pathI true s.data.toList = n := ⟨_, rfl⟩
    have HN3 := Lib.hid hn
    rw [hn] at HS
    obtain ⟨m, hm⟩ : ∃ n, importI s.data.toList = n := ⟨_, rfl⟩
    have HN2 := Lib.hid hm
    rw [hm] at HR
    obtain ⟨q, hq⟩ : ∃ n, modPathI s.data.toList = n := ⟨_, rfl⟩
    have HN1 := Lib.hid hq
    rw [hq] at HQ
    clear c1 c2 hv hX hN hn hm hq
    go_enter Tryf.func5, Tryf.ntmps5
    go_wp2_with (first
      | (go_at_call 9; refine (HL.out _).mono ?_; rintro e w3 ⟨rfl, hk3⟩)
      | (go_at_call 19; refine (HA.out _ hk3).mono ?_; rintro e w4 ⟨a, hpa, rfl, hb4⟩; have hk4 := hk3.trans (hb4.mono hk3.size); have HT1 := Lib.hid fun W => told_at a q true (by rw [← HN1.out]; exact path_law hpa) W)
      | (go_at_call 17; refine (HB.out _ hk4).mono ?_; rintro e w5 ⟨b, hpb, rfl, hb5⟩; have hk5 := hk4.trans (hb5.mono hk4.size); have HT2 := Lib.hid fun W => told_at b m true (by rw [← HN2.out]; exact import_law hpb) W)
      | (go_at_call 20; refine (HI.out _ hk5).mono ?_; rintro e w6 ⟨c, hpc, rfl, hb6⟩; have hk6 := hk5.trans (hb6.mono hk5.size); have HT3 := Lib.hid fun W => told_at c n true (by rw [← HN3.out]; exact file_law hpc) W; obtain ⟨rfl, rfl, rfl⟩ | ⟨rfl, rfl, rfl⟩ | ⟨rfl, rfl, rfl⟩ | ⟨rfl, rfl, rfl⟩ := kinds_ways hpa hpb hpc <;> clear hpa hpb hpc)
      | (go_at_call 21; refine (HQ.out _).mono ?_; rintro e w7 ⟨rfl, hb7⟩; have hk7 := hk6.trans (hb7.mono hk6.size))
      | (go_at_call 18; refine (HR.out _).mono ?_; rintro e w9 ⟨rfl, hb9⟩; have hk9 := hk8.trans (hb9.mono hk8.size))
      | (go_at_call 22; refine (HS.out _).mono ?_; rintro e w11 ⟨rfl, hb11⟩; have hk11 := hk10.trans (hb11.mono hk10.size))
      | (go_at_call 13; first
        | (have := hk11; refine (HT3.out _).mono ?_; rintro e w12 ⟨rfl, hb12⟩; have hk12 := hk11.trans (hb12.mono hk11.size))
        | (have := hk9; refine (HT2.out _).mono ?_; rintro e w10 ⟨rfl, hb10⟩; have hk10 := hk9.trans (hb10.mono hk9.size))
        | (refine (HT1.out _).mono ?_; rintro e w8 ⟨rfl, hb8⟩; have hk8 := hk7.trans (hb8.mono hk7.size))))
    all_goals (go_ret; first | exact ⟨rfl, hk12⟩ | exact ⟨ret_bool (by simp), hk12⟩)

end Go.Proofs.YtdnkmikckchnpaaFmt.PS
