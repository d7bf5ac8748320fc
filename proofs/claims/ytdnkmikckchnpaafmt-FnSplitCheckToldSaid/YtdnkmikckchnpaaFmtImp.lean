/- module.CheckImportPath, module.CheckFilePath and the thin package's functions over them; the conditions are checkPath's. -/
import Derived.Test.YtdnkmikckchnpaaFmtPath
namespace Go.Proofs.YtdnkmikckchnpaaFmt.PS
open Go.RowKit Go.Proofs.YtdnkmikckchnpaaFmtW.PrintWords Go.Proofs.YtdnkmikckchnpaaFmtW.PrintLast Go.Proofs.YtdnkmikckchnpaaFmtW.PrintMore
set_option linter.unusedVariables false
set_option linter.unusedSimpArgs false

end Go.Proofs.YtdnkmikckchnpaaFmt.PS
