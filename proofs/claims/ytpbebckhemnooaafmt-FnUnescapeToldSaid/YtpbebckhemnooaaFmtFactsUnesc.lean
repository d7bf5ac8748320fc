/- The closed facts that the row of laws.FnUnescape asks; no condition. -/
import Derived.Test.YtpbebckhemnooaaFmtCommon
namespace Go.Proofs.YtpbebckhemnooaaFmt
open Go.Extern.Stop Go.Stop Go.Extern
set_option maxRecDepth 100000
theorem unesc_in : Rows.fnUnescapeRow.inPlace = Tryf.pinned.checked.prog.inPlace 12 := by kernel_rfl
theorem unesc_open : Rows.fnUnescapeRow.unfollowed = Tryf.pinned.checked.prog.unfollowed 12 := by kernel_rfl
theorem unesc_rec : Rows.fnUnescapeRow.recurses = Tryf.pinned.checked.prog.recurses 12 := by kernel_rfl
theorem unesc_named : Rows.fnUnescapeRow.named = Tryf.pinned.checked.prog.varsNamed 12 := by kernel_rfl
theorem unesc_goes : false = Rows.fnUnescapeRow.goesBy Tryf.pinned.checked.prog := by kernel_rfl
theorem unesc_func : Tryf.pinned.checked.prog.funcNamed Rows.fnUnescapeRow.func = some 12 := by kernel_rfl
theorem unesc_tie : namedTie Tryf.pinned.checked.prog Rows.fnUnescapeRow.namedList (OpenSpec.ofChange Rows.fnUnescapeSpec).vars = true := by kernel_rfl
theorem unesc_wf : Rows.fnUnescapeRow.wfByText (OpenSpec.ofChange Rows.fnUnescapeSpec) = true := by kernel_rfl
end Go.Proofs.YtpbebckhemnooaaFmt
