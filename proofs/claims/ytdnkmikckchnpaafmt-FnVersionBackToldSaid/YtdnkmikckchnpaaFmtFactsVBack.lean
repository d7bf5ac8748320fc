/- The closed facts that the row of laws.FnVersionBack asks; no condition. -/
import Derived.Test.YtdnkmikckchnpaaFmtCommon
namespace Go.Proofs.YtdnkmikckchnpaaFmt
open Go.Extern.Stop Go.Stop Go.Extern
set_option maxRecDepth 100000
theorem vBack_in : Rows.fnVersionBackRow.inPlace = Tryf.pinned.checked.prog.inPlace 3 := by kernel_rfl
theorem vBack_open : Rows.fnVersionBackRow.unfollowed = Tryf.pinned.checked.prog.unfollowed 3 := by kernel_rfl
theorem vBack_rec : Rows.fnVersionBackRow.recurses = Tryf.pinned.checked.prog.recurses 3 := by kernel_rfl
theorem vBack_named : Rows.fnVersionBackRow.named = Tryf.pinned.checked.prog.varsNamed 3 := by kernel_rfl
theorem vBack_goes : false = Rows.fnVersionBackRow.goesBy Tryf.pinned.checked.prog := by kernel_rfl
theorem vBack_func : Tryf.pinned.checked.prog.funcNamed Rows.fnVersionBackRow.func = some 3 := by kernel_rfl
theorem vBack_tie : namedTie Tryf.pinned.checked.prog Rows.fnVersionBackRow.namedList (OpenSpec.ofChange Rows.fnVersionBackSpec).vars = true := by kernel_rfl
theorem vBack_wf : Rows.fnVersionBackRow.wfByText (OpenSpec.ofChange Rows.fnVersionBackSpec) = true := by kernel_rfl
end Go.Proofs.YtdnkmikckchnpaaFmt
