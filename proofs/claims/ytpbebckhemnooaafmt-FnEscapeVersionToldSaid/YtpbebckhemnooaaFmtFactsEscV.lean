/- The closed facts that the row of laws.FnEscapeVersion asks; no condition. -/
import Derived.Test.YtpbebckhemnooaaFmtCommon
namespace Go.Proofs.YtpbebckhemnooaaFmt
open Go.Extern.Stop Go.Stop Go.Extern
set_option maxRecDepth 100000
theorem escV_in : Rows.fnEscapeVersionRow.inPlace = Tryf.pinned.checked.prog.inPlace 3 := by kernel_rfl
theorem escV_open : Rows.fnEscapeVersionRow.unfollowed = Tryf.pinned.checked.prog.unfollowed 3 := by kernel_rfl
theorem escV_rec : Rows.fnEscapeVersionRow.recurses = Tryf.pinned.checked.prog.recurses 3 := by kernel_rfl
theorem escV_named : Rows.fnEscapeVersionRow.named = Tryf.pinned.checked.prog.varsNamed 3 := by kernel_rfl
theorem escV_goes : false = Rows.fnEscapeVersionRow.goesBy Tryf.pinned.checked.prog := by kernel_rfl
theorem escV_func : Tryf.pinned.checked.prog.funcNamed Rows.fnEscapeVersionRow.func = some 3 := by kernel_rfl
theorem escV_tie : namedTie Tryf.pinned.checked.prog Rows.fnEscapeVersionRow.namedList (OpenSpec.ofChange Rows.fnEscapeVersionSpec).vars = true := by kernel_rfl
theorem escV_wf : Rows.fnEscapeVersionRow.wfByText (OpenSpec.ofChange Rows.fnEscapeVersionSpec) = true := by kernel_rfl
end Go.Proofs.YtpbebckhemnooaaFmt
