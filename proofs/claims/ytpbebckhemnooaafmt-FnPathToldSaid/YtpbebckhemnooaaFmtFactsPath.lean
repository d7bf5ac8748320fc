/- The closed facts that the row of laws.FnPath asks; no condition. -/
import Derived.Test.YtpbebckhemnooaaFmtCommon
namespace Go.Proofs.YtpbebckhemnooaaFmt
open Go.Extern.Stop Go.Stop Go.Extern
set_option maxRecDepth 100000
theorem path_in : Rows.fnPathRow.inPlace = Tryf.pinned.checked.prog.inPlace 9 := by kernel_rfl
theorem path_open : Rows.fnPathRow.unfollowed = Tryf.pinned.checked.prog.unfollowed 9 := by kernel_rfl
theorem path_rec : Rows.fnPathRow.recurses = Tryf.pinned.checked.prog.recurses 9 := by kernel_rfl
theorem path_named : Rows.fnPathRow.named = Tryf.pinned.checked.prog.varsNamed 9 := by kernel_rfl
theorem path_goes : false = Rows.fnPathRow.goesBy Tryf.pinned.checked.prog := by kernel_rfl
theorem path_func : Tryf.pinned.checked.prog.funcNamed Rows.fnPathRow.func = some 9 := by kernel_rfl
theorem path_tie : namedTie Tryf.pinned.checked.prog Rows.fnPathRow.namedList (OpenSpec.ofChange Rows.fnPathSpec).vars = true := by kernel_rfl
theorem path_wf : Rows.fnPathRow.wfByText (OpenSpec.ofChange Rows.fnPathSpec) = true := by kernel_rfl
end Go.Proofs.YtpbebckhemnooaaFmt
