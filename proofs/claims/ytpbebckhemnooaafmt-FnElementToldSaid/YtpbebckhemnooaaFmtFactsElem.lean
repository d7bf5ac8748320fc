/- The closed facts that the row of laws.FnElement asks; no condition. -/
import Derived.Test.YtpbebckhemnooaaFmtCommon
namespace Go.Proofs.YtpbebckhemnooaaFmt
open Go.Extern.Stop Go.Stop Go.Extern
set_option maxRecDepth 100000
theorem elem_in : Rows.fnElementRow.inPlace = Tryf.pinned.checked.prog.inPlace 10 := by kernel_rfl
theorem elem_open : Rows.fnElementRow.unfollowed = Tryf.pinned.checked.prog.unfollowed 10 := by kernel_rfl
theorem elem_rec : Rows.fnElementRow.recurses = Tryf.pinned.checked.prog.recurses 10 := by kernel_rfl
theorem elem_named : Rows.fnElementRow.named = Tryf.pinned.checked.prog.varsNamed 10 := by kernel_rfl
theorem elem_goes : false = Rows.fnElementRow.goesBy Tryf.pinned.checked.prog := by kernel_rfl
theorem elem_func : Tryf.pinned.checked.prog.funcNamed Rows.fnElementRow.func = some 10 := by kernel_rfl
theorem elem_tie : namedTie Tryf.pinned.checked.prog Rows.fnElementRow.namedList (OpenSpec.ofChange Rows.fnElementSpec).vars = true := by kernel_rfl
theorem elem_wf : Rows.fnElementRow.wfByText (OpenSpec.ofChange Rows.fnElementSpec) = true := by kernel_rfl
end Go.Proofs.YtpbebckhemnooaaFmt
