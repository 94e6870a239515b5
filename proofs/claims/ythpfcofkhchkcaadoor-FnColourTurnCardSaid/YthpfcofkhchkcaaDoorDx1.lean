-- WRITTEN BY OUR myprint.py, a program of this session's over the kit's printer
import Derived.Test.YthpfcofkhchkcaaDoorDx0
namespace Go.Proofs.YthpfcofkhchkcaaDoor.D
open Go.RowKit Go.Proofs.YthpfcofkhchkcaaDoorW.PrintWords Go.Proofs.YthpfcofkhchkcaaDoorW.PrintLast Go.Proofs.YthpfcofkhchkcaaDoorW.PrintMore
attribute [local go_sem] max2_int min2_int max_two min_two max_three min_three max_four min_four   -- for this text's walks alone
set_option linter.unusedVariables false
set_option linter.unusedSimpArgs false

/-! ### laws_FnColourTurn: function 11 -/
def laws_FnColourTurn.f (a0 : Int) (a1 : Int) : Option Bool := if a1.toNat < 18446744073709551616 then some true else none
theorem laws_FnColourTurn.calls (a0 : Int) (a1 : Int) (r : Bool) (w : World) (hV : Go.Proofs.YthpfcofkhchkcaaDoorFmt.VarsOK w) (h : laws_FnColourTurn.f a0 a1 = some r) :
    Calls Tryd.prog 11 #[.int .i32 a0, .int .u64 a1] w fun e w' => e = .returned (.bool r) ∧ Below w.heap.size w w' := by
  unfold laws_FnColourTurn.f at h
  by_cases h0 : a1.toNat < 18446744073709551616
  · rw [if_pos h0] at h
    obtain rfl := Option.some.inj h
    exact Go.Proofs.YthpfcofkhchkcaaDoorFlt.lawTurn a0 a1 h0 w hV
  · rw [if_neg h0] at h; cases h

def laws_FnColourTurn.Pure : Prop := ∀ (a0 : Int) (a1 : Int), (Lit.int .i32 a0).wf = true → (Lit.int .u64 a1).wf = true → laws_FnColourTurn.f a0 a1 = some true
end Go.Proofs.YthpfcofkhchkcaaDoor.D
