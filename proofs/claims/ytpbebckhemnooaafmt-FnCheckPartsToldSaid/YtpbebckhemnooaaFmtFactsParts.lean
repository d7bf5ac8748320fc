/- The closed facts that the row of laws.FnCheckParts asks; no condition. -/
import Derived.Test.YtpbebckhemnooaaFmtCommon
namespace Go.Proofs.YtpbebckhemnooaaFmt
open Go.Extern.Stop Go.Stop Go.Extern
set_option maxRecDepth 100000
theorem parts_in : Rows.fnCheckPartsRow.inPlace = Tryf.pinned.checked.prog.inPlace 14 := by kernel_rfl
theorem parts_open : Rows.fnCheckPartsRow.unfollowed = Tryf.pinned.checked.prog.unfollowed 14 := by kernel_rfl
theorem parts_rec : Rows.fnCheckPartsRow.recurses = Tryf.pinned.checked.prog.recurses 14 := by kernel_rfl
theorem parts_named : Rows.fnCheckPartsRow.named = Tryf.pinned.checked.prog.varsNamed 14 := by kernel_rfl
theorem parts_goes : false = Rows.fnCheckPartsRow.goesBy Tryf.pinned.checked.prog := by kernel_rfl
theorem parts_func : Tryf.pinned.checked.prog.funcNamed Rows.fnCheckPartsRow.func = some 14 := by kernel_rfl
theorem parts_tie : namedTie Tryf.pinned.checked.prog Rows.fnCheckPartsRow.namedList (OpenSpec.ofChange Rows.fnCheckPartsSpec).vars = true := by kernel_rfl
theorem parts_wf : Rows.fnCheckPartsRow.wfByText (OpenSpec.ofChange Rows.fnCheckPartsSpec) = true := by kernel_rfl
end Go.Proofs.YtpbebckhemnooaaFmt
