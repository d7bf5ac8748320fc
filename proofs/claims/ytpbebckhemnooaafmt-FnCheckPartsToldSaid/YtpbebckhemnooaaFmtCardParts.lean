/- A pair that fits has a path and a version that are fine: laws.FnCheckParts returns true of every input, and what was there reads as it did: its told and tied card; the conditions: the variables that the row lists start as the program's text lays them, fmt's texts are as told, and what the row's own cells say. -/
import Derived.Test.YtpbebckhemnooaaFmtRowParts
import Derived.Test.YtpbebckhemnooaaFmtFactsParts
namespace Go.Proofs.YtpbebckhemnooaaFmt
open Go.Extern.Stop Go.Stop Go.Extern
set_option maxRecDepth 100000
set_option maxHeartbeats 1000000 in
theorem parts_holds : Rows.FnCheckPartsToldSaid :=
  Claim7.holds_of_told_tied_any_at .later 14 Tryf.f14 "fmt.Sprintf, its operands' methods called" ["fmt.errorf, its operands' methods called"] [] _ _ _ _ _ parts_wf rfl rfl rfl laidOut fact_maps rfl ⟨rfl, rfl, rfl, rfl, rfl, rfl, rfl⟩ rfl rfl parts_tie parts_func Tryf.func14 (by kernel_rfl)
    (of_decide_eq_true (by kernel_rfl)) (of_decide_eq_true (by kernel_rfl)) fact_stops rfl fact_knobs fact_word
    parts_in parts_open parts_rec parts_named (by kernel_rfl) (by kernel_rfl) (by kernel_rfl) (by kernel_rfl) (by kernel_rfl) rfl (by kernel_rfl) rfl rfl
    rfl rfl
    rfl fact_main fact_looks (by kernel_rfl) (by decide) parts_goes fnCheckParts_row_tie
    (OpenClaim.moreEntering_of fact_enter (by kernel_rfl) fact_heard (by kernel_rfl) (by kernel_rfl) (by kernel_rfl) (by kernel_rfl) fact_keys fact_lifts fact_make)
    ⟨_, WideRow.started_initial, quiet_all _⟩
    (fun os started _ H enc _ => parts_lifted os started H enc)

#print axioms parts_holds
end Go.Proofs.YtpbebckhemnooaaFmt
