/- The package variable EOF: what the calls read of it. -/
import Derived.Test.YtmldahejeobohaaDoorProg
import Derived.Test.YtmldahejeobohaaDoorWWords
import Derived.WalkKit
set_option linter.unusedVariables false
namespace Go.Proofs.YtmldahejeobohaaDoorFmt
open Go.RowKit Go.Proofs.YtmldahejeobohaaDoorW.PrintWords
/-- The mark of the end lies as its initialiser laid it. -/
structure VarsOK (w : World) : Prop where
  e0 : w.cell? ⟨0, 0, none⟩ = some (.int .i64 0)
  e1 : w.cell? ⟨0, 1, none⟩ = some (.string ⟨#[]⟩)
theorem VarsOK.below {w w' : World} (h : VarsOK w) (hb : Below w.heap.size w w') : VarsOK w' := ⟨pw_cell_below hb h.e0, pw_cell_below hb h.e1⟩
end Go.Proofs.YtmldahejeobohaaDoorFmt
