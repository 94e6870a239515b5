import Derived.Test.YtmldahejeobohaaDoorWInv
import Derived.Test.YtmldahejeobohaaDoorWFootNe
namespace Go.Proofs.YtmldahejeobohaaDoorW.PrintWords
open Go.RowKit
end Go.Proofs.YtmldahejeobohaaDoorW.PrintWords
namespace Go.Proofs.YtmldahejeobohaaDoorW.PrintLast
section
variable {ops : Array Oper} {a : Act} {o og : Oper} {g : Nat} {t : Tmp} {u : Bool}
end
end Go.Proofs.YtmldahejeobohaaDoorW.PrintLast
