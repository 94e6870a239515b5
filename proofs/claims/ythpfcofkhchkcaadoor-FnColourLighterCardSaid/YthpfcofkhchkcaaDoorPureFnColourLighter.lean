import Derived.Test.YthpfcofkhchkcaaDoorCx1
namespace Go.Proofs.YthpfcofkhchkcaaDoor.Pure
open Go.Proofs.YthpfcofkhchkcaaDoor.C
theorem FnColourLighter : laws_FnColourLighter.Pure := by
  intro a0 a1 _ _
  rfl
end Go.Proofs.YthpfcofkhchkcaaDoor.Pure
