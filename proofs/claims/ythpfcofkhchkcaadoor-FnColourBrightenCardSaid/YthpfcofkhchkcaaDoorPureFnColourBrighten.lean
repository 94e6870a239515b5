import Derived.Test.YthpfcofkhchkcaaDoorBx1
namespace Go.Proofs.YthpfcofkhchkcaaDoor.Pure
open Go.Proofs.YthpfcofkhchkcaaDoor.B
theorem FnColourBrighten : laws_FnColourBrighten.Pure := by
  intro a0 a1 _ _
  rfl
end Go.Proofs.YthpfcofkhchkcaaDoor.Pure
