-- WRITTEN BY OUR myprint.py, a program of this session's over the kit's printer
import Derived.Test.YtfpmnkmclbembaaDoorKx0
namespace Go.Proofs.YtfpmnkmclbembaaDoor.K
open Go.RowKit Go.Proofs.YtfpmnkmclbembaaDoorW.PrintWords Go.Proofs.YtfpmnkmclbembaaDoorW.PrintLast Go.Proofs.YtfpmnkmclbembaaDoorW.PrintMore
attribute [local go_sem] max2_int min2_int max_two min_two max_three min_three max_four min_four   -- for this text's walks alone
set_option linter.unusedVariables false
set_option linter.unusedSimpArgs false

/-! ### laws_FnColourClamp: function 3 -/
def laws_FnColourClamp.f (a0 : Int) (a1 : Int) (a2 : Int) : Option Bool := some true
theorem laws_FnColourClamp.calls (a0 : Int) (a1 : Int) (a2 : Int) (r : Bool) (w : World) (hV : Go.Proofs.YtfpmnkmclbembaaDoorFmt.VarsOK w) (h : laws_FnColourClamp.f a0 a1 a2 = some r) :
    Calls Tryd.prog 3 #[.int .i32 a0, .int .u64 a1, .int .u64 a2] w fun e w' => e = .returned (.bool r) ∧ Below w.heap.size w w' := by
  obtain rfl := Option.some.inj h
  exact Go.Proofs.YtfpmnkmclbembaaDoorFlt.lawClamp a0 a1 a2 w hV

def laws_FnColourClamp.Pure : Prop := ∀ (a0 : Int) (a1 : Int) (a2 : Int), (Lit.int .i32 a0).wf = true → (Lit.int .u64 a1).wf = true → (Lit.int .u64 a2).wf = true → laws_FnColourClamp.f a0 a1 a2 = some true
end Go.Proofs.YtfpmnkmclbembaaDoor.K
