/- The closed facts that the row of laws.FnFilePath asks; no condition. -/
import Derived.Test.YtpbebckhemnooaaFmtCommon
namespace Go.Proofs.YtpbebckhemnooaaFmt
open Go.Extern.Stop Go.Stop Go.Extern
set_option maxRecDepth 100000
theorem file_in : Rows.fnFilePathRow.inPlace = Tryf.pinned.checked.prog.inPlace 5 := by kernel_rfl
theorem file_open : Rows.fnFilePathRow.unfollowed = Tryf.pinned.checked.prog.unfollowed 5 := by kernel_rfl
theorem file_rec : Rows.fnFilePathRow.recurses = Tryf.pinned.checked.prog.recurses 5 := by kernel_rfl
theorem file_named : Rows.fnFilePathRow.named = Tryf.pinned.checked.prog.varsNamed 5 := by kernel_rfl
theorem file_goes : false = Rows.fnFilePathRow.goesBy Tryf.pinned.checked.prog := by kernel_rfl
theorem file_func : Tryf.pinned.checked.prog.funcNamed Rows.fnFilePathRow.func = some 5 := by kernel_rfl
theorem file_tie : namedTie Tryf.pinned.checked.prog Rows.fnFilePathRow.namedList (OpenSpec.ofChange Rows.fnFilePathSpec).vars = true := by kernel_rfl
theorem file_wf : Rows.fnFilePathRow.wfByText (OpenSpec.ofChange Rows.fnFilePathSpec) = true := by kernel_rfl
end Go.Proofs.YtpbebckhemnooaaFmt
