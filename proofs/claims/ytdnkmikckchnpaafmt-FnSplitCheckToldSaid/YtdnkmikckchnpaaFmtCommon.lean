/- The closed facts that every row of this seat asks of the program alike; no condition. -/
import Derived.Test.YtdnkmikckchnpaaFmtRows
import Derived.Test.YtdnkmikckchnpaaFmtCards
import Derived.SevenTiedAt
import Derived.Stop.JoinedTold
import Derived.KernelRfl
namespace Go.Proofs.YtdnkmikckchnpaaFmt
open Go.Extern.Stop Go.Stop Go.Extern
set_option maxRecDepth 100000
theorem fact_maps : mapsRowed Tryf.pinned.checked.prog = true := by kernel_rfl
theorem fact_stops : ["fmt.Sprintf, its operands' methods called", "fmt.errorf, its operands' methods called"] = Tryf.pinned.checked.prog.stops := by kernel_rfl
theorem fact_knobs : [] = Tryf.pinned.checked.prog.stopKnobs := by kernel_rfl
theorem fact_word : Tryf.pinned.checked.prog.envWorded = true := by kernel_rfl
theorem fact_main : Tryf.pinned.checked.prog.mainIs = some (true, "86779fad75cab0e363e8ed3ee5996733fca326a667fcce680a2d269ecf52da15".toList) := by kernel_rfl
theorem fact_looks : true = Tryf.pinned.checked.prog.looks [] := by kernel_rfl
theorem fact_enter : Tryf.pinned.checked.prog.mayEnter = true := by kernel_rfl
theorem fact_heard : Tryf.pinned.checked.prog.stopsHeard = true := by kernel_rfl
theorem fact_keys : Rows.fnOneCaseRow.plainKeys = Tryf.pinned.checked.prog.plainKeys := by kernel_rfl
theorem fact_lifts : Rows.fnOneCaseRow.lifted = Tryf.pinned.checked.prog.liftsFinal := by kernel_rfl
theorem fact_make : Tryf.pinned.checked.prog.make = some Rows.fnOneCaseRow.make := by kernel_rfl
theorem quiet_all (os : Os) : Stop.quiet Tryf.pinned.checked.prog os := by
  intro k hk
  rw [← fact_knobs] at hk
  cases hk
end Go.Proofs.YtdnkmikckchnpaaFmt
