/- The closed facts that the row of laws.FnShortName asks; no condition. -/
import Derived.Test.YtdnkmikckchnpaaFmtCommon
namespace Go.Proofs.YtdnkmikckchnpaaFmt
open Go.Extern.Stop Go.Stop Go.Extern
set_option maxRecDepth 100000
theorem short_in : Rows.fnShortNameRow.inPlace = Tryf.pinned.checked.prog.inPlace 4 := by kernel_rfl
theorem short_open : Rows.fnShortNameRow.unfollowed = Tryf.pinned.checked.prog.unfollowed 4 := by kernel_rfl
theorem short_rec : Rows.fnShortNameRow.recurses = Tryf.pinned.checked.prog.recurses 4 := by kernel_rfl
theorem short_named : Rows.fnShortNameRow.named = Tryf.pinned.checked.prog.varsNamed 4 := by kernel_rfl
theorem short_goes : false = Rows.fnShortNameRow.goesBy Tryf.pinned.checked.prog := by kernel_rfl
theorem short_func : Tryf.pinned.checked.prog.funcNamed Rows.fnShortNameRow.func = some 4 := by kernel_rfl
theorem short_tie : namedTie Tryf.pinned.checked.prog Rows.fnShortNameRow.namedList (OpenSpec.ofChange Rows.fnShortNameSpec).vars = true := by kernel_rfl
theorem short_wf : Rows.fnShortNameRow.wfByText (OpenSpec.ofChange Rows.fnShortNameSpec) = true := by kernel_rfl
end Go.Proofs.YtdnkmikckchnpaaFmt
