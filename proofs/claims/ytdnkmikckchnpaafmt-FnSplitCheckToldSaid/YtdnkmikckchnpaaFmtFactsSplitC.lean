/- The closed facts that the row of laws.FnSplitCheck asks; no condition. -/
import Derived.Test.YtdnkmikckchnpaaFmtCommon
namespace Go.Proofs.YtdnkmikckchnpaaFmt
open Go.Extern.Stop Go.Stop Go.Extern
set_option maxRecDepth 100000
theorem splitC_in : Rows.fnSplitCheckRow.inPlace = Tryf.pinned.checked.prog.inPlace 8 := by kernel_rfl
theorem splitC_open : Rows.fnSplitCheckRow.unfollowed = Tryf.pinned.checked.prog.unfollowed 8 := by kernel_rfl
theorem splitC_rec : Rows.fnSplitCheckRow.recurses = Tryf.pinned.checked.prog.recurses 8 := by kernel_rfl
theorem splitC_named : Rows.fnSplitCheckRow.named = Tryf.pinned.checked.prog.varsNamed 8 := by kernel_rfl
theorem splitC_goes : false = Rows.fnSplitCheckRow.goesBy Tryf.pinned.checked.prog := by kernel_rfl
theorem splitC_func : Tryf.pinned.checked.prog.funcNamed Rows.fnSplitCheckRow.func = some 8 := by kernel_rfl
theorem splitC_tie : namedTie Tryf.pinned.checked.prog Rows.fnSplitCheckRow.namedList (OpenSpec.ofChange Rows.fnSplitCheckSpec).vars = true := by kernel_rfl
theorem splitC_wf : Rows.fnSplitCheckRow.wfByText (OpenSpec.ofChange Rows.fnSplitCheckSpec) = true := by kernel_rfl
end Go.Proofs.YtdnkmikckchnpaaFmt
