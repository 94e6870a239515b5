/- What the language's lexer knows stands as it stood: the law's contract is proved by hand (Kno). -/
import Derived.Test.YtmldahejeobohaaDoorLx1
set_option linter.unusedVariables false
namespace Go.Proofs.YtmldahejeobohaaDoor.Pure
open Go.RowKit Go.Proofs.YtmldahejeobohaaDoorW.PrintWords Go.Proofs.YtmldahejeobohaaDoor.L
theorem FnDelegateKnown : laws_FnDelegateKnown.Pure := fun _ _ _ _ => rfl
end Go.Proofs.YtmldahejeobohaaDoor.Pure
