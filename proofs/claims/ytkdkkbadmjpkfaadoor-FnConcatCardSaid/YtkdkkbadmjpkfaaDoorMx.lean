-- WRITTEN BY OUR myprint.py, a program of this session's over the kit's printer
import Derived.Test.YtkdkkbadmjpkfaaDoorMx0
import Derived.Test.YtkdkkbadmjpkfaaDoorMx1
import Derived.Test.YtkdkkbadmjpkfaaDoorMx2
import Derived.Test.YtkdkkbadmjpkfaaDoorMx3
import Derived.Test.YtkdkkbadmjpkfaaDoorMx4
import Derived.Test.YtkdkkbadmjpkfaaDoorMx5
namespace Go.Proofs.YtkdkkbadmjpkfaaDoor.M
open Go.RowKit Go.Proofs.YtkdkkbadmjpkfaaDoorW.PrintWords Go.Proofs.YtkdkkbadmjpkfaaDoorW.PrintLast Go.Proofs.YtkdkkbadmjpkfaaDoorW.PrintMore
attribute [local go_sem] max2_int min2_int max_two min_two max_three min_three max_four min_four   -- for this text's walks alone
set_option linter.unusedVariables false
set_option linter.unusedSimpArgs false

end Go.Proofs.YtkdkkbadmjpkfaaDoor.M
