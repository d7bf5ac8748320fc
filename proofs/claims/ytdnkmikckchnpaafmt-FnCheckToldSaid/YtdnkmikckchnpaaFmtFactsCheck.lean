/- The closed facts that the row of laws.FnCheck asks; no condition. -/
import Derived.Test.YtdnkmikckchnpaaFmtCommon
namespace Go.Proofs.YtdnkmikckchnpaaFmt
open Go.Extern.Stop Go.Stop Go.Extern
set_option maxRecDepth 100000
theorem check_in : Rows.fnCheckRow.inPlace = Tryf.pinned.checked.prog.inPlace 7 := by kernel_rfl
theorem check_open : Rows.fnCheckRow.unfollowed = Tryf.pinned.checked.prog.unfollowed 7 := by kernel_rfl
theorem check_rec : Rows.fnCheckRow.recurses = Tryf.pinned.checked.prog.recurses 7 := by kernel_rfl
theorem check_named : Rows.fnCheckRow.named = Tryf.pinned.checked.prog.varsNamed 7 := by kernel_rfl
theorem check_goes : false = Rows.fnCheckRow.goesBy Tryf.pinned.checked.prog := by kernel_rfl
theorem check_func : Tryf.pinned.checked.prog.funcNamed Rows.fnCheckRow.func = some 7 := by kernel_rfl
theorem check_tie : namedTie Tryf.pinned.checked.prog Rows.fnCheckRow.namedList (OpenSpec.ofChange Rows.fnCheckSpec).vars = true := by kernel_rfl
theorem check_wf : Rows.fnCheckRow.wfByText (OpenSpec.ofChange Rows.fnCheckSpec) = true := by kernel_rfl
end Go.Proofs.YtdnkmikckchnpaaFmt
