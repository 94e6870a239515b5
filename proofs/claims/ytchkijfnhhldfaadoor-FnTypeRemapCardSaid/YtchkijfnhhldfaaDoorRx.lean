-- WRITTEN BY OUR myprint.py, a program of this session's over the kit's printer
import Derived.Test.YtchkijfnhhldfaaDoorRx0
import Derived.Test.YtchkijfnhhldfaaDoorRx1
import Derived.Test.YtchkijfnhhldfaaDoorRx2
import Derived.Test.YtchkijfnhhldfaaDoorRx3
import Derived.Test.YtchkijfnhhldfaaDoorRx4
import Derived.Test.YtchkijfnhhldfaaDoorRx5
import Derived.Test.YtchkijfnhhldfaaDoorRx6
import Derived.Test.YtchkijfnhhldfaaDoorRx7
import Derived.Test.YtchkijfnhhldfaaDoorRx8
namespace Go.Proofs.YtchkijfnhhldfaaDoor.R
open Go.RowKit Go.Proofs.YtchkijfnhhldfaaDoorW.PrintWords Go.Proofs.YtchkijfnhhldfaaDoorW.PrintLast Go.Proofs.YtchkijfnhhldfaaDoorW.PrintMore
attribute [local go_sem] max2_int min2_int max_two min_two max_three min_three max_four min_four   -- for this text's walks alone
set_option linter.unusedVariables false
set_option linter.unusedSimpArgs false

end Go.Proofs.YtchkijfnhhldfaaDoor.R
