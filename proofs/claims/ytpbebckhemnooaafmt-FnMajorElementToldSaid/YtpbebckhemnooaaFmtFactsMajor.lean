/- The closed facts that the row of laws.FnMajorElement asks; no condition. -/
import Derived.Test.YtpbebckhemnooaaFmtCommon
namespace Go.Proofs.YtpbebckhemnooaaFmt
open Go.Extern.Stop Go.Stop Go.Extern
set_option maxRecDepth 100000
theorem major_in : Rows.fnMajorElementRow.inPlace = Tryf.pinned.checked.prog.inPlace 8 := by kernel_rfl
theorem major_open : Rows.fnMajorElementRow.unfollowed = Tryf.pinned.checked.prog.unfollowed 8 := by kernel_rfl
theorem major_rec : Rows.fnMajorElementRow.recurses = Tryf.pinned.checked.prog.recurses 8 := by kernel_rfl
theorem major_named : Rows.fnMajorElementRow.named = Tryf.pinned.checked.prog.varsNamed 8 := by kernel_rfl
theorem major_goes : false = Rows.fnMajorElementRow.goesBy Tryf.pinned.checked.prog := by kernel_rfl
theorem major_func : Tryf.pinned.checked.prog.funcNamed Rows.fnMajorElementRow.func = some 8 := by kernel_rfl
theorem major_tie : namedTie Tryf.pinned.checked.prog Rows.fnMajorElementRow.namedList (OpenSpec.ofChange Rows.fnMajorElementSpec).vars = true := by kernel_rfl
theorem major_wf : Rows.fnMajorElementRow.wfByText (OpenSpec.ofChange Rows.fnMajorElementSpec) = true := by kernel_rfl
end Go.Proofs.YtpbebckhemnooaaFmt
