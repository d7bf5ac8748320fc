/- What every law of this seat asks alike: contracts of the reference's functions, of laws.long and laws.told, of texts put together; the conditions are sizes. -/
import Derived.Test.YtpbebckhemnooaaFmtImp
import Derived.Test.YtpbebckhemnooaaFmtPlainB
import Derived.Laws.Concat
import Derived.Laws.BytesArg
import Derived.Laws.NewBlocks
namespace Go.Proofs.YtpbebckhemnooaaFmt.PS
open Go.RowKit Go.Proofs.YtpbebckhemnooaaFmtW.PrintWords Go.Proofs.YtpbebckhemnooaaFmtW.PrintLast Go.Proofs.YtpbebckhemnooaaFmtW.PrintMore Go.Proofs.YtpbebckhemnooaaFmt.PT
set_option linter.unusedVariables false
set_option linter.unusedSimpArgs false

/-- A statement's answer. -/
def Yes (w : World) (e : Ending) (w' : World) : Prop := e = .returned (.bool true) ∧ Below w.heap.size w w'

theorem long_at (s : ByteArray) (b : Bool) (h : decide ((s.size : Int) > 500) = b) (w : World) : Calls Tryf.prog 15 #[.string s] w fun e w' => e = .returned (.bool b) ∧ Below w.heap.size w w' :=
  (laws_long.calls s b w (by unfold laws_long.f; rw [h])).mono fun _ _ ⟨he, hd⟩ => ⟨he, drawn_below hd⟩
theorem told_at (b : Bool) (n : Int) (r : Bool) (h : laws_told.f b n = some r) (w : World) : Calls Tryf.prog 17 #[.bool b, .int .i64 n] w fun e w' => e = .returned (.bool r) ∧ Below w.heap.size w w' :=
  (laws_told.calls b n r w h).mono fun _ _ ⟨he, hd⟩ => ⟨he, drawn_below hd⟩
theorem path_at (s : ByteArray) (hs : s.size ≤ 1099511627776) (w : World) : Calls Tryf.prog 30 #[.string s] w fun e w' => e = .returned (.int .i64 (modPathI s.data.toList)) ∧ Below w.heap.size w w' := by
  obtain ⟨k, hk⟩ := (Path_ev s hs).fin
  exact (spec_Path.calls k s _ w hk).mono fun _ _ ⟨he, hd⟩ => ⟨he, by first | exact hd | exact drawn_below hd⟩

theorem add_run (P : Program) (a b : ByteArray) (h : a.size + b.size ≤ 9223372036854775807) (W : World) : (Op.stringOp .add a b).run P W = .ok (.string (a ++ b)) W := run_string_add_sum W a b h

theorem all_at (s o : ByteArray) (sm gr : Bool) (hs : s.size ≤ 1099511627776) (ho : o.size ≤ 1099511627776) (w : World) : Calls Tryf.prog 28 #[.string s, .bool sm, .bool gr, .string o] w fun e w' => e = .returned (.bool (allB sm gr o.data.toList s.data.toList)) ∧ Below w.heap.size w w' := by
  obtain ⟨k, hk⟩ := (All_ev s o sm gr hs ho).fin
  exact (spec_All.calls k s sm gr o _ w hk).mono fun _ _ ⟨he, hd⟩ => ⟨he, by first | exact hd | exact drawn_below hd⟩
theorem cat_at {a b : ByteArray} (h : a.size + b.size ≤ 9223372036854775807) : ∃ x : ByteArray, (∀ W : World, (Op.stringOp .add a b).run Tryf.prog W = .ok (.string x) W) ∧ x.data.toList = a.data.toList ++ b.data.toList ∧ x.size = a.size + b.size :=
  ⟨a ++ b, fun W => add_run _ a b h W, append_list a b, ByteArray.size_append⟩
theorem MB.some (l : List UInt8) : ∃ b, MB l b := by
  classical
  exact ⟨decide (asc l ∧ ModOK l), fun ha => ⟨fun h => (of_decide_eq_true h).2, fun h => decide_eq_true ⟨ha, h⟩⟩, fun h => decide_eq_false fun h2 => h h2.1⟩
end Go.Proofs.YtpbebckhemnooaaFmt.PS
