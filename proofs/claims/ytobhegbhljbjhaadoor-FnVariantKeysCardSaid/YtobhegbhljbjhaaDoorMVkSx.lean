/- Written by a program of this session (wip/gen/myprint.py) over the kit's print, with contracts of this session's own for the functions that the print does not take. -/
import Derived.Test.YtobhegbhljbjhaaDoorMVkSx0
import Derived.Test.YtobhegbhljbjhaaDoorMVkSx1
import Derived.Test.YtobhegbhljbjhaaDoorMVkSx2
import Derived.Test.YtobhegbhljbjhaaDoorMVkSx3
import Derived.Test.YtobhegbhljbjhaaDoorMVkSx4
import Derived.Test.YtobhegbhljbjhaaDoorMVkSx5
import Derived.Test.YtobhegbhljbjhaaDoorMVkSx6
namespace Go.Proofs.YtobhegbhljbjhaaDoor.MVkS
open Go.RowKit Go.Proofs.YtobhegbhljbjhaaDoorW.PrintWords Go.Proofs.YtobhegbhljbjhaaDoorW.PrintLast Go.Proofs.YtobhegbhljbjhaaDoorW.PrintMore
attribute [local go_sem] max2_int min2_int max_two min_two max_three min_three max_four min_four   -- for this text's walks alone
set_option linter.unusedVariables false
set_option linter.unusedSimpArgs false

end Go.Proofs.YtobhegbhljbjhaaDoor.MVkS
