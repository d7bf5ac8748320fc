/- The closed facts that the row of laws.FnImportPath asks; no condition. -/
import Derived.Test.YtpbebckhemnooaaFmtCommon
namespace Go.Proofs.YtpbebckhemnooaaFmt
open Go.Extern.Stop Go.Stop Go.Extern
set_option maxRecDepth 100000
theorem imp_in : Rows.fnImportPathRow.inPlace = Tryf.pinned.checked.prog.inPlace 6 := by kernel_rfl
theorem imp_open : Rows.fnImportPathRow.unfollowed = Tryf.pinned.checked.prog.unfollowed 6 := by kernel_rfl
theorem imp_rec : Rows.fnImportPathRow.recurses = Tryf.pinned.checked.prog.recurses 6 := by kernel_rfl
theorem imp_named : Rows.fnImportPathRow.named = Tryf.pinned.checked.prog.varsNamed 6 := by kernel_rfl
theorem imp_goes : false = Rows.fnImportPathRow.goesBy Tryf.pinned.checked.prog := by kernel_rfl
theorem imp_func : Tryf.pinned.checked.prog.funcNamed Rows.fnImportPathRow.func = some 6 := by kernel_rfl
theorem imp_tie : namedTie Tryf.pinned.checked.prog Rows.fnImportPathRow.namedList (OpenSpec.ofChange Rows.fnImportPathSpec).vars = true := by kernel_rfl
theorem imp_wf : Rows.fnImportPathRow.wfByText (OpenSpec.ofChange Rows.fnImportPathSpec) = true := by kernel_rfl
end Go.Proofs.YtpbebckhemnooaaFmt
