/- No package variable is read. -/
import Derived.Test.YtibjlefenodhaaaDoorProg
import Derived.Test.YtibjlefenodhaaaDoorWWords
import Derived.WalkKit
set_option linter.unusedVariables false
namespace Go.Proofs.YtibjlefenodhaaaDoorFmt
open Go.RowKit Go.Proofs.YtibjlefenodhaaaDoorW.PrintWords
/-- Nothing is asked. -/
structure VarsOK (w : World) : Prop where
  e0 : True
theorem VarsOK.below {w w' : World} (h : VarsOK w) (hb : Below w.heap.size w w') : VarsOK w' := ⟨trivial⟩
end Go.Proofs.YtibjlefenodhaaaDoorFmt
