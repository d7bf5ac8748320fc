/- The closed facts that the row of laws.FnOneCase asks; no condition. -/
import Derived.Test.YtdnkmikckchnpaaFmtCommon
namespace Go.Proofs.YtdnkmikckchnpaaFmt
open Go.Extern.Stop Go.Stop Go.Extern
set_option maxRecDepth 100000
theorem case_in : Rows.fnOneCaseRow.inPlace = Tryf.pinned.checked.prog.inPlace 6 := by kernel_rfl
theorem case_open : Rows.fnOneCaseRow.unfollowed = Tryf.pinned.checked.prog.unfollowed 6 := by kernel_rfl
theorem case_rec : Rows.fnOneCaseRow.recurses = Tryf.pinned.checked.prog.recurses 6 := by kernel_rfl
theorem case_named : Rows.fnOneCaseRow.named = Tryf.pinned.checked.prog.varsNamed 6 := by kernel_rfl
theorem case_goes : false = Rows.fnOneCaseRow.goesBy Tryf.pinned.checked.prog := by kernel_rfl
theorem case_func : Tryf.pinned.checked.prog.funcNamed Rows.fnOneCaseRow.func = some 6 := by kernel_rfl
theorem case_tie : namedTie Tryf.pinned.checked.prog Rows.fnOneCaseRow.namedList (OpenSpec.ofChange Rows.fnOneCaseSpec).vars = true := by kernel_rfl
theorem case_wf : Rows.fnOneCaseRow.wfByText (OpenSpec.ofChange Rows.fnOneCaseSpec) = true := by kernel_rfl
end Go.Proofs.YtdnkmikckchnpaaFmt
