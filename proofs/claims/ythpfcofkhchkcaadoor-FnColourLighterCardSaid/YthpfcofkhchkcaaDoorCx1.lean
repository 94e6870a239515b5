-- WRITTEN BY OUR myprint.py, a program of this session's over the kit's printer
import Derived.Test.YthpfcofkhchkcaaDoorCx0
namespace Go.Proofs.YthpfcofkhchkcaaDoor.C
open Go.RowKit Go.Proofs.YthpfcofkhchkcaaDoorW.PrintWords Go.Proofs.YthpfcofkhchkcaaDoorW.PrintLast Go.Proofs.YthpfcofkhchkcaaDoorW.PrintMore
attribute [local go_sem] max2_int min2_int max_two min_two max_three min_three max_four min_four   -- for this text's walks alone
set_option linter.unusedVariables false
set_option linter.unusedSimpArgs false

/-! ### laws_FnColourLighter: function 10 -/
def laws_FnColourLighter.f (a0 : Int) (a1 : Int) : Option Bool := some true
theorem laws_FnColourLighter.calls (a0 : Int) (a1 : Int) (r : Bool) (w : World) (hV : Go.Proofs.YthpfcofkhchkcaaDoorFmt.VarsOK w) (h : laws_FnColourLighter.f a0 a1 = some r) :
    Calls Tryd.prog 10 #[.int .i32 a0, .int .u64 a1] w fun e w' => e = .returned (.bool r) ∧ Below w.heap.size w w' := by
  obtain rfl := Option.some.inj h
  exact Go.Proofs.YthpfcofkhchkcaaDoorFlt.lawLighter a0 a1 w hV

def laws_FnColourLighter.Pure : Prop := ∀ (a0 : Int) (a1 : Int), (Lit.int .i32 a0).wf = true → (Lit.int .u64 a1).wf = true → laws_FnColourLighter.f a0 a1 = some true
end Go.Proofs.YthpfcofkhchkcaaDoor.C
