/- The law FnColourClamp: the printed statement. -/
import Derived.Test.YtfpmnkmclbembaaDoorKx1
namespace Go.Proofs.YtfpmnkmclbembaaDoor.Pure
open Go.Proofs.YtfpmnkmclbembaaDoor.K
theorem FnColourClamp : laws_FnColourClamp.Pure := by
  intro a0 a1 a2 _ _ _
  rfl
end Go.Proofs.YtfpmnkmclbembaaDoor.Pure
