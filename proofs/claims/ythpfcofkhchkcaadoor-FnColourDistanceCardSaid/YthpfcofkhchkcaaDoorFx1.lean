-- WRITTEN BY OUR myprint.py, a program of this session's over the kit's printer
import Derived.Test.YthpfcofkhchkcaaDoorFx0
namespace Go.Proofs.YthpfcofkhchkcaaDoor.F
open Go.RowKit Go.Proofs.YthpfcofkhchkcaaDoorW.PrintWords Go.Proofs.YthpfcofkhchkcaaDoorW.PrintLast Go.Proofs.YthpfcofkhchkcaaDoorW.PrintMore
attribute [local go_sem] max2_int min2_int max_two min_two max_three min_three max_four min_four   -- for this text's walks alone
set_option linter.unusedVariables false
set_option linter.unusedSimpArgs false

/-! ### laws_FnColourDistance: function 12 -/
def laws_FnColourDistance.f (a0 : Int) (a1 : Int) : Option Bool := some true
theorem laws_FnColourDistance.calls (a0 : Int) (a1 : Int) (r : Bool) (w : World) (hV : Go.Proofs.YthpfcofkhchkcaaDoorFmt.VarsOK w) (h : laws_FnColourDistance.f a0 a1 = some r) :
    Calls Tryd.prog 12 #[.int .i32 a0, .int .i32 a1] w fun e w' => e = .returned (.bool r) ∧ Below w.heap.size w w' := by
  obtain rfl := Option.some.inj h
  exact Go.Proofs.YthpfcofkhchkcaaDoorFlt.lawDistance a0 a1 w hV

def laws_FnColourDistance.Pure : Prop := ∀ (a0 : Int) (a1 : Int), (Lit.int .i32 a0).wf = true → (Lit.int .i32 a1).wf = true → laws_FnColourDistance.f a0 a1 = some true
end Go.Proofs.YthpfcofkhchkcaaDoor.F
