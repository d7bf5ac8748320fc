/- laws.FnImportPath returns true; the conditions: the tape answers fmt's stop, where the names of Windows lie, that utf8.ValidString answers. -/
import Derived.Test.YtpbebckhemnooaaFmtImp
import Derived.Test.YtpbebckhemnooaaFmtPlain
namespace Go.Proofs.YtpbebckhemnooaaFmt.PS
open Go.RowKit Go.Proofs.YtpbebckhemnooaaFmtW.PrintWords Go.Proofs.YtpbebckhemnooaaFmtW.PrintLast Go.Proofs.YtpbebckhemnooaaFmtW.PrintMore Go.Proofs.YtpbebckhemnooaaFmt.PT
set_option linter.unusedVariables false
set_option linter.unusedSimpArgs false

/-- A statement's answer. -/
def Yes (w : World) (e : Ending) (w' : World) : Prop := e = .returned (.bool true) ∧ Below w.heap.size w w'

theorem below_of_drawn {w w' : World} (h : Drawn0 w w') : Below w.heap.size w w' := h.below
theorem long_at (s : ByteArray) (b : Bool) (h : decide ((s.size : Int) > 500) = b) (w : World) : Calls Tryf.prog 15 #[.string s] w fun e w' => e = .returned (.bool b) ∧ Below w.heap.size w w' :=
  (laws_long.calls s b w (by unfold laws_long.f; rw [h])).mono fun _ _ ⟨he, hd⟩ => ⟨he, drawn_below hd⟩
theorem told_at (b : Bool) (n : Int) (r : Bool) (h : laws_told.f b n = some r) (w : World) : Calls Tryf.prog 17 #[.bool b, .int .i64 n] w fun e w' => e = .returned (.bool r) ∧ Below w.heap.size w w' :=
  (laws_told.calls b n r w h).mono fun _ _ ⟨he, hd⟩ => ⟨he, drawn_below hd⟩
theorem import_at (s : ByteArray) (hs : s.size ≤ 1099511627776) (w : World) : Calls Tryf.prog 26 #[.string s] w fun e w' => e = .returned (.int .i64 (importI s.data.toList)) ∧ Below w.heap.size w w' := by
  obtain ⟨k, hk⟩ := (ImportPath_ev s hs).fin
  exact (spec_ImportPath.calls k s _ w hk).mono fun _ _ ⟨he, hd⟩ => ⟨he, by first | exact hd | exact drawn_below hd⟩

set_option maxHeartbeats 1600000 in
theorem law_import (F : Stop.Interp) (s : ByteArray) (w : World) (hF : F.answers w.tape) (hN : NamesIn w) (hv : s.size ≤ 500 → ∀ W, Below w.heap.size w W → ValidOK W s) :
    Calls Tryf.prog 6 #[.string s] w (Yes w) := by
  by_cases c1 : (s.size : Int) > 2147483647
  · have h1 : (s.size : Int) > 2147483647 := c1
    go_enter Tryf.func6, Tryf.ntmps6
    go_wp2_with fail
    all_goals (go_ret; exact ⟨rfl, Below.refl _ _⟩)
  have hs : s.size ≤ 1099511627776 := by omega
  by_cases c2 : (s.size : Int) > 500
  · have HL := Lib.hid fun W => long_at s true (decide_eq_true c2) W
    have h1 : ¬ (s.size : Int) > 2147483647 := c1
    clear c2 hv
    go_enter Tryf.func6, Tryf.ntmps6
    go_wp2_with (go_at_call 15; refine (HL.out _).mono ?_; rintro e w3 ⟨rfl, hb3⟩)
    all_goals (go_ret; exact ⟨rfl, hb3⟩)
  · have HL := Lib.hid fun W => long_at s false (decide_eq_false c2) W
    have HI := Lib.hid fun (W : World) (hb : Below w.heap.size w W) => implImport_any F s hs W (below_tape hF hb) (hN.below hb) (fun h => by cases h) (hv (by omega) W hb)
    have HS := Lib.hid fun W => import_at s hs W
    have HB := Lib.hid (Below.refl w.heap.size w)
    have h1 : ¬ (s.size : Int) > 2147483647 := c1
    obtain ⟨n, hn⟩ : ∃ n, importI s.data.toList = n := ⟨_, rfl⟩
    have HNN := Lib.hid hn
    rw [hn] at HS
    clear c2 hv hN hn
    go_enter Tryf.func6, Tryf.ntmps6
    go_wp2_with (first
      | (go_at_call 15; refine (HL.out _).mono ?_; rintro e w3 ⟨rfl, hb3⟩)
      | (go_at_call 25; refine (HI.out _ hb3).mono ?_; rintro e w4 ⟨b, hpb, rfl, hb4⟩; have HT := Lib.hid fun W => told_at b n true (by rw [← HNN.out]; exact import_law hpb) W; clear hpb)
      | (go_at_call 26; refine (HS.out _).mono ?_; rintro e w5 ⟨rfl, hb5⟩)
      | (go_at_call 17; refine (HT.out _).mono ?_; rintro e w6 ⟨rfl, hb6⟩))
    all_goals (go_ret; exact ⟨rfl, hb3.trans ((hb4.mono hb3.size).trans ((hb5.mono (Nat.le_trans hb3.size hb4.size)).trans (hb6.mono (Nat.le_trans hb3.size (Nat.le_trans hb4.size hb5.size)))))⟩)

end Go.Proofs.YtpbebckhemnooaaFmt.PS
