import Derived.Test.YthpfcofkhchkcaaDoorFx1
namespace Go.Proofs.YthpfcofkhchkcaaDoor.Pure
open Go.Proofs.YthpfcofkhchkcaaDoor.F
theorem FnColourDistance : laws_FnColourDistance.Pure := by
  intro a0 a1 _ _
  rfl
end Go.Proofs.YthpfcofkhchkcaaDoor.Pure
