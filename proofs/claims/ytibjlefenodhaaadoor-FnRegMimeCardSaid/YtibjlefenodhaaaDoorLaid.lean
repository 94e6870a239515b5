/- From what a row lists of the package-level variables to what the contracts ask: nothing. -/
import Derived.Test.YtibjlefenodhaaaDoorRows
import Derived.Test.YtibjlefenodhaaaDoorFmt
set_option linter.unusedVariables false
namespace Go.Proofs.YtibjlefenodhaaaDoorFmt
open Go.RowKit Go.ChangeShapes Go.Proofs.YtibjlefenodhaaaDoor
theorem varsOK {l : List (String × DataW Unit)} {W : World} (h0 : laidMetH Tryd.prog l W) (_ _ _ _ : True) : VarsOK W := ⟨trivial⟩
end Go.Proofs.YtibjlefenodhaaaDoorFmt
