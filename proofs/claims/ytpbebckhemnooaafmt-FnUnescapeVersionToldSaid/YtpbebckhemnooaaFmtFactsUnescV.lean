/- The closed facts that the row of laws.FnUnescapeVersion asks; no condition. -/
import Derived.Test.YtpbebckhemnooaaFmtCommon
namespace Go.Proofs.YtpbebckhemnooaaFmt
open Go.Extern.Stop Go.Stop Go.Extern
set_option maxRecDepth 100000
theorem unescV_in : Rows.fnUnescapeVersionRow.inPlace = Tryf.pinned.checked.prog.inPlace 4 := by kernel_rfl
theorem unescV_open : Rows.fnUnescapeVersionRow.unfollowed = Tryf.pinned.checked.prog.unfollowed 4 := by kernel_rfl
theorem unescV_rec : Rows.fnUnescapeVersionRow.recurses = Tryf.pinned.checked.prog.recurses 4 := by kernel_rfl
theorem unescV_named : Rows.fnUnescapeVersionRow.named = Tryf.pinned.checked.prog.varsNamed 4 := by kernel_rfl
theorem unescV_goes : false = Rows.fnUnescapeVersionRow.goesBy Tryf.pinned.checked.prog := by kernel_rfl
theorem unescV_func : Tryf.pinned.checked.prog.funcNamed Rows.fnUnescapeVersionRow.func = some 4 := by kernel_rfl
theorem unescV_tie : namedTie Tryf.pinned.checked.prog Rows.fnUnescapeVersionRow.namedList (OpenSpec.ofChange Rows.fnUnescapeVersionSpec).vars = true := by kernel_rfl
theorem unescV_wf : Rows.fnUnescapeVersionRow.wfByText (OpenSpec.ofChange Rows.fnUnescapeVersionSpec) = true := by kernel_rfl
end Go.Proofs.YtpbebckhemnooaaFmt
