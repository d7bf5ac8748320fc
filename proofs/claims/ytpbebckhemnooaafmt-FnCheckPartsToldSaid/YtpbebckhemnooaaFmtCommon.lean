/- The closed facts that every row of this seat asks of the program alike; no condition. -/
import Derived.Test.YtpbebckhemnooaaFmtRows
import Derived.Test.YtpbebckhemnooaaFmtCards
import Derived.SevenTiedAt
import Derived.Stop.JoinedTold
import Derived.KernelRfl
namespace Go.Proofs.YtpbebckhemnooaaFmt
open Go.Extern.Stop Go.Stop Go.Extern
set_option maxRecDepth 100000
theorem fact_maps : mapsRowed Tryf.pinned.checked.prog = true := by kernel_rfl
theorem fact_stops : ["fmt.Sprintf, its operands' methods called", "fmt.errorf, its operands' methods called"] = Tryf.pinned.checked.prog.stops := by kernel_rfl
theorem fact_knobs : [] = Tryf.pinned.checked.prog.stopKnobs := by kernel_rfl
theorem fact_word : Tryf.pinned.checked.prog.envWorded = true := by kernel_rfl
theorem fact_main : Tryf.pinned.checked.prog.mainIs = some (true, "2a80155d54a8492d459f10dbc914aefc2e0b32a281d9e9e1809cd703f453733c".toList) := by kernel_rfl
theorem fact_looks : true = Tryf.pinned.checked.prog.looks [] := by kernel_rfl
theorem fact_enter : Tryf.pinned.checked.prog.mayEnter = true := by kernel_rfl
theorem fact_heard : Tryf.pinned.checked.prog.stopsHeard = true := by kernel_rfl
theorem fact_keys : Rows.fnImportPathRow.plainKeys = Tryf.pinned.checked.prog.plainKeys := by kernel_rfl
theorem fact_lifts : Rows.fnImportPathRow.lifted = Tryf.pinned.checked.prog.liftsFinal := by kernel_rfl
theorem fact_make : Tryf.pinned.checked.prog.make = some Rows.fnImportPathRow.make := by kernel_rfl
theorem quiet_all (os : Os) : Stop.quiet Tryf.pinned.checked.prog os := by
  intro k hk
  rw [← fact_knobs] at hk
  cases hk
end Go.Proofs.YtpbebckhemnooaaFmt
