/- The closed facts that the row of laws.FnThreeKinds asks; no condition. -/
import Derived.Test.YtdnkmikckchnpaaFmtCommon
namespace Go.Proofs.YtdnkmikckchnpaaFmt
open Go.Extern.Stop Go.Stop Go.Extern
set_option maxRecDepth 100000
theorem kinds_in : Rows.fnThreeKindsRow.inPlace = Tryf.pinned.checked.prog.inPlace 5 := by kernel_rfl
theorem kinds_open : Rows.fnThreeKindsRow.unfollowed = Tryf.pinned.checked.prog.unfollowed 5 := by kernel_rfl
theorem kinds_rec : Rows.fnThreeKindsRow.recurses = Tryf.pinned.checked.prog.recurses 5 := by kernel_rfl
theorem kinds_named : Rows.fnThreeKindsRow.named = Tryf.pinned.checked.prog.varsNamed 5 := by kernel_rfl
theorem kinds_goes : false = Rows.fnThreeKindsRow.goesBy Tryf.pinned.checked.prog := by kernel_rfl
theorem kinds_func : Tryf.pinned.checked.prog.funcNamed Rows.fnThreeKindsRow.func = some 5 := by kernel_rfl
theorem kinds_tie : namedTie Tryf.pinned.checked.prog Rows.fnThreeKindsRow.namedList (OpenSpec.ofChange Rows.fnThreeKindsSpec).vars = true := by kernel_rfl
theorem kinds_wf : Rows.fnThreeKindsRow.wfByText (OpenSpec.ofChange Rows.fnThreeKindsSpec) = true := by kernel_rfl
end Go.Proofs.YtdnkmikckchnpaaFmt
