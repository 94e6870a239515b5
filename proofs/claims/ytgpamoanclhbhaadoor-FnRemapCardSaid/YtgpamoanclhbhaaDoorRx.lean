-- WRITTEN BY OUR myprint.py, a program of this session's over the kit's printer
import Derived.Test.YtgpamoanclhbhaaDoorRx0
import Derived.Test.YtgpamoanclhbhaaDoorRx1
import Derived.Test.YtgpamoanclhbhaaDoorRx2
import Derived.Test.YtgpamoanclhbhaaDoorRx3
import Derived.Test.YtgpamoanclhbhaaDoorRx4
import Derived.Test.YtgpamoanclhbhaaDoorRx5
import Derived.Test.YtgpamoanclhbhaaDoorRx6
namespace Go.Proofs.YtgpamoanclhbhaaDoor.R
open Go.RowKit Go.Proofs.YtgpamoanclhbhaaDoorW.PrintWords Go.Proofs.YtgpamoanclhbhaaDoorW.PrintLast Go.Proofs.YtgpamoanclhbhaaDoorW.PrintMore
attribute [local go_sem] max2_int min2_int max_two min_two max_three min_three max_four min_four   -- for this text's walks alone
set_option linter.unusedVariables false
set_option linter.unusedSimpArgs false

end Go.Proofs.YtgpamoanclhbhaaDoor.R
