/- module.CheckImportPath, module.CheckFilePath and the thin package's functions over them; the conditions are checkPath's. -/
import Derived.Test.YtpbebckhemnooaaFmtPath
namespace Go.Proofs.YtpbebckhemnooaaFmt.PS
open Go.RowKit Go.Proofs.YtpbebckhemnooaaFmtW.PrintWords Go.Proofs.YtpbebckhemnooaaFmtW.PrintLast Go.Proofs.YtpbebckhemnooaaFmtW.PrintMore
set_option linter.unusedVariables false
set_option linter.unusedSimpArgs false

end Go.Proofs.YtpbebckhemnooaaFmt.PS
