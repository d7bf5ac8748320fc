/- An element that ends with a tilde and figures bars a path of an import: laws.FnShortName returns true of every input, and what was there reads as it did: its told and tied card; the conditions: the variables that the row lists start as the program's text lays them, fmt's texts are as told, and what the row's own cells say. -/
import Derived.Test.YtdnkmikckchnpaaFmtRowShort
import Derived.Test.YtdnkmikckchnpaaFmtFactsShort
namespace Go.Proofs.YtdnkmikckchnpaaFmt
open Go.Extern.Stop Go.Stop Go.Extern
set_option maxRecDepth 100000
set_option maxHeartbeats 1000000 in
theorem short_holds : Rows.FnShortNameToldSaid :=
  Claim7.holds_of_told_tied_any_at .later 4 Tryf.f4 "fmt.Sprintf, its operands' methods called" ["fmt.errorf, its operands' methods called"] [] _ _ _ _ _ short_wf rfl rfl rfl laidOut fact_maps rfl ⟨rfl, rfl, rfl, rfl, rfl, rfl, rfl⟩ rfl rfl short_tie short_func Tryf.func4 (by kernel_rfl)
    (of_decide_eq_true (by kernel_rfl)) (of_decide_eq_true (by kernel_rfl)) fact_stops rfl fact_knobs fact_word
    short_in short_open short_rec short_named (by kernel_rfl) (by kernel_rfl) (by kernel_rfl) (by kernel_rfl) (by kernel_rfl) rfl (by kernel_rfl) rfl rfl
    rfl rfl
    rfl fact_main fact_looks (by kernel_rfl) (by decide) short_goes fnShortName_row_tie
    (OpenClaim.moreEntering_of fact_enter (by kernel_rfl) fact_heard (by kernel_rfl) (by kernel_rfl) (by kernel_rfl) (by kernel_rfl) fact_keys fact_lifts fact_make)
    ⟨_, WideRow.started_initial, quiet_all _⟩
    (fun os started _ H enc _ => short_lifted os started H enc)

#print axioms short_holds
end Go.Proofs.YtdnkmikckchnpaaFmt
