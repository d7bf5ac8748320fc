/- A version is escaped just if it is the name of a file without exclamation marks: laws.FnEscapeVersion returns true of every input, and what was there reads as it did: its told and tied card; the conditions: the variables that the row lists start as the program's text lays them, fmt's texts are as told, and what the row's own cells say. -/
import Derived.Test.YtpbebckhemnooaaFmtRowEscV
import Derived.Test.YtpbebckhemnooaaFmtFactsEscV
namespace Go.Proofs.YtpbebckhemnooaaFmt
open Go.Extern.Stop Go.Stop Go.Extern
set_option maxRecDepth 100000
set_option maxHeartbeats 1000000 in
theorem escV_holds : Rows.FnEscapeVersionToldSaid :=
  Claim7.holds_of_told_tied_any_at .later 3 Tryf.f3 "fmt.Sprintf, its operands' methods called" ["fmt.errorf, its operands' methods called"] [] _ _ _ _ _ escV_wf rfl rfl rfl laidOut fact_maps rfl ⟨rfl, rfl, rfl, rfl, rfl, rfl, rfl⟩ rfl rfl escV_tie escV_func Tryf.func3 (by kernel_rfl)
    (of_decide_eq_true (by kernel_rfl)) (of_decide_eq_true (by kernel_rfl)) fact_stops rfl fact_knobs fact_word
    escV_in escV_open escV_rec escV_named (by kernel_rfl) (by kernel_rfl) (by kernel_rfl) (by kernel_rfl) (by kernel_rfl) rfl (by kernel_rfl) rfl rfl
    rfl rfl
    rfl fact_main fact_looks (by kernel_rfl) (by decide) escV_goes fnEscapeVersion_row_tie
    (OpenClaim.moreEntering_of fact_enter (by kernel_rfl) fact_heard (by kernel_rfl) (by kernel_rfl) (by kernel_rfl) (by kernel_rfl) fact_keys fact_lifts fact_make)
    ⟨_, WideRow.started_initial, quiet_all _⟩
    (fun os started _ H enc _ => escV_lifted os started H enc)

#print axioms escV_holds
end Go.Proofs.YtpbebckhemnooaaFmt
