-- WRITTEN BY OUR myprint.py, a program of this session's over the kit's printer
import Derived.Test.YtgpamoanclhbhaaDoorMx0
import Derived.Test.YtgpamoanclhbhaaDoorMx1
import Derived.Test.YtgpamoanclhbhaaDoorMx2
import Derived.Test.YtgpamoanclhbhaaDoorMx3
import Derived.Test.YtgpamoanclhbhaaDoorMx4
import Derived.Test.YtgpamoanclhbhaaDoorMx5
import Derived.Test.YtgpamoanclhbhaaDoorMx6
import Derived.Test.YtgpamoanclhbhaaDoorMx7
namespace Go.Proofs.YtgpamoanclhbhaaDoor.M
open Go.RowKit Go.Proofs.YtgpamoanclhbhaaDoorW.PrintWords Go.Proofs.YtgpamoanclhbhaaDoorW.PrintLast Go.Proofs.YtgpamoanclhbhaaDoorW.PrintMore
attribute [local go_sem] max2_int min2_int max_two min_two max_three min_three max_four min_four   -- for this text's walks alone
set_option linter.unusedVariables false
set_option linter.unusedSimpArgs false

end Go.Proofs.YtgpamoanclhbhaaDoor.M
