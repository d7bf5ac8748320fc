/- The closed facts that the row of laws.FnEscapeBack asks; no condition. -/
import Derived.Test.YtpbebckhemnooaaFmtCommon
namespace Go.Proofs.YtpbebckhemnooaaFmt
open Go.Extern.Stop Go.Stop Go.Extern
set_option maxRecDepth 100000
theorem back_in : Rows.fnEscapeBackRow.inPlace = Tryf.pinned.checked.prog.inPlace 13 := by kernel_rfl
theorem back_open : Rows.fnEscapeBackRow.unfollowed = Tryf.pinned.checked.prog.unfollowed 13 := by kernel_rfl
theorem back_rec : Rows.fnEscapeBackRow.recurses = Tryf.pinned.checked.prog.recurses 13 := by kernel_rfl
theorem back_named : Rows.fnEscapeBackRow.named = Tryf.pinned.checked.prog.varsNamed 13 := by kernel_rfl
theorem back_goes : false = Rows.fnEscapeBackRow.goesBy Tryf.pinned.checked.prog := by kernel_rfl
theorem back_func : Tryf.pinned.checked.prog.funcNamed Rows.fnEscapeBackRow.func = some 13 := by kernel_rfl
theorem back_tie : namedTie Tryf.pinned.checked.prog Rows.fnEscapeBackRow.namedList (OpenSpec.ofChange Rows.fnEscapeBackSpec).vars = true := by kernel_rfl
theorem back_wf : Rows.fnEscapeBackRow.wfByText (OpenSpec.ofChange Rows.fnEscapeBackSpec) = true := by kernel_rfl
end Go.Proofs.YtpbebckhemnooaaFmt
