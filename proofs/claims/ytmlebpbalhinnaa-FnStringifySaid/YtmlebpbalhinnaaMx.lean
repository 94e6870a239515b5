-- WRITTEN BY OUR myprint.py, a program of this session's over the kit's printer
import Derived.Test.YtmlebpbalhinnaaMx0
import Derived.Test.YtmlebpbalhinnaaMx1
import Derived.Test.YtmlebpbalhinnaaMx2
import Derived.Test.YtmlebpbalhinnaaMx3
import Derived.Test.YtmlebpbalhinnaaMx4
import Derived.Test.YtmlebpbalhinnaaMx5
import Derived.Test.YtmlebpbalhinnaaMx6
import Derived.Test.YtmlebpbalhinnaaMx7
namespace Go.Proofs.Ytmlebpbalhinnaa.M
open Go.RowKit Go.Proofs.YtmlebpbalhinnaaW.PrintWords Go.Proofs.YtmlebpbalhinnaaW.PrintLast Go.Proofs.YtmlebpbalhinnaaW.PrintMore
attribute [local go_sem] max2_int min2_int max_two min_two max_three min_three max_four min_four   -- for this text's walks alone
set_option linter.unusedVariables false
set_option linter.unusedSimpArgs false

end Go.Proofs.Ytmlebpbalhinnaa.M
