-- Written by a program (myprint.sh: the kit's print, turned to take contracts of mine): one Lean function and its contract for each Go function.
import Derived.Test.YtpbebckhemnooaaFmtPSx0
import Derived.Test.YtpbebckhemnooaaFmtPSx1
import Derived.Test.YtpbebckhemnooaaFmtPSx2
import Derived.Test.YtpbebckhemnooaaFmtPSx3
import Derived.Test.YtpbebckhemnooaaFmtPSx4
import Derived.Test.YtpbebckhemnooaaFmtPSx5
import Derived.Test.YtpbebckhemnooaaFmtPSx6
import Derived.Test.YtpbebckhemnooaaFmtPSx7
namespace Go.Proofs.YtpbebckhemnooaaFmt.PS
open Go.RowKit Go.Proofs.YtpbebckhemnooaaFmtW.PrintWords Go.Proofs.YtpbebckhemnooaaFmtW.PrintLast Go.Proofs.YtpbebckhemnooaaFmtW.PrintMore
attribute [local go_sem] max2_int min2_int max_two min_two max_three min_three max_four min_four   -- for this text's walks alone
set_option linter.unusedVariables false
set_option linter.unusedSimpArgs false

end Go.Proofs.YtpbebckhemnooaaFmt.PS
