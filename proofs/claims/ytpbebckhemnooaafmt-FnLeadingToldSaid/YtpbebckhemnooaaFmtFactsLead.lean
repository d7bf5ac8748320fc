/- The closed facts that the row of laws.FnLeading asks; no condition. -/
import Derived.Test.YtpbebckhemnooaaFmtCommon
namespace Go.Proofs.YtpbebckhemnooaaFmt
open Go.Extern.Stop Go.Stop Go.Extern
set_option maxRecDepth 100000
theorem lead_in : Rows.fnLeadingRow.inPlace = Tryf.pinned.checked.prog.inPlace 7 := by kernel_rfl
theorem lead_open : Rows.fnLeadingRow.unfollowed = Tryf.pinned.checked.prog.unfollowed 7 := by kernel_rfl
theorem lead_rec : Rows.fnLeadingRow.recurses = Tryf.pinned.checked.prog.recurses 7 := by kernel_rfl
theorem lead_named : Rows.fnLeadingRow.named = Tryf.pinned.checked.prog.varsNamed 7 := by kernel_rfl
theorem lead_goes : false = Rows.fnLeadingRow.goesBy Tryf.pinned.checked.prog := by kernel_rfl
theorem lead_func : Tryf.pinned.checked.prog.funcNamed Rows.fnLeadingRow.func = some 7 := by kernel_rfl
theorem lead_tie : namedTie Tryf.pinned.checked.prog Rows.fnLeadingRow.namedList (OpenSpec.ofChange Rows.fnLeadingSpec).vars = true := by kernel_rfl
theorem lead_wf : Rows.fnLeadingRow.wfByText (OpenSpec.ofChange Rows.fnLeadingSpec) = true := by kernel_rfl
end Go.Proofs.YtpbebckhemnooaaFmt
