/- The closed facts that the row of laws.FnEscape asks; no condition. -/
import Derived.Test.YtpbebckhemnooaaFmtCommon
namespace Go.Proofs.YtpbebckhemnooaaFmt
open Go.Extern.Stop Go.Stop Go.Extern
set_option maxRecDepth 100000
theorem escape_in : Rows.fnEscapeRow.inPlace = Tryf.pinned.checked.prog.inPlace 11 := by kernel_rfl
theorem escape_open : Rows.fnEscapeRow.unfollowed = Tryf.pinned.checked.prog.unfollowed 11 := by kernel_rfl
theorem escape_rec : Rows.fnEscapeRow.recurses = Tryf.pinned.checked.prog.recurses 11 := by kernel_rfl
theorem escape_named : Rows.fnEscapeRow.named = Tryf.pinned.checked.prog.varsNamed 11 := by kernel_rfl
theorem escape_goes : false = Rows.fnEscapeRow.goesBy Tryf.pinned.checked.prog := by kernel_rfl
theorem escape_func : Tryf.pinned.checked.prog.funcNamed Rows.fnEscapeRow.func = some 11 := by kernel_rfl
theorem escape_tie : namedTie Tryf.pinned.checked.prog Rows.fnEscapeRow.namedList (OpenSpec.ofChange Rows.fnEscapeSpec).vars = true := by kernel_rfl
theorem escape_wf : Rows.fnEscapeRow.wfByText (OpenSpec.ofChange Rows.fnEscapeSpec) = true := by kernel_rfl
end Go.Proofs.YtpbebckhemnooaaFmt
