-- WRITTEN BY OUR myprint.py, a program of this session's over the kit's printer
import Derived.Test.YtifhhejohdmiaaaDoorMPax0
namespace Go.Proofs.YtifhhejohdmiaaaDoor.MPa
open Go.RowKit Go.Proofs.YtifhhejohdmiaaaDoorW.PrintWords Go.Proofs.YtifhhejohdmiaaaDoorW.PrintLast Go.Proofs.YtifhhejohdmiaaaDoorW.PrintMore
attribute [local go_sem] max2_int min2_int max_two min_two max_three min_three max_four min_four   -- for this text's walks alone
set_option linter.unusedVariables false
set_option linter.unusedSimpArgs false

/-! ### laws_FnEntryParse: function 4 -/
def laws_FnEntryParse.f (a0 : ByteArray) : Option Bool := if a0.size ≤ 140737488351232 then some true else none
theorem laws_FnEntryParse.calls (a0 : ByteArray) (r : Bool) (w : World) (hV : Go.Proofs.YtifhhejohdmiaaaDoorFmt.VarsOK w) (h : laws_FnEntryParse.f a0 = some r) :
    Calls Tryd.prog 4 #[.string a0] w fun e w' => e = .returned (.bool r) ∧ Below w.heap.size w w' := by
  unfold laws_FnEntryParse.f at h
  by_cases h0 : a0.size ≤ 140737488351232
  · rw [if_pos h0] at h
    obtain rfl := Option.some.inj h
    exact Go.Proofs.YtifhhejohdmiaaaDoorEnt.fnParse_c a0 h0 w hV
  · rw [if_neg h0] at h; cases h

def laws_FnEntryParse.Pure : Prop := ∀ (a0 : ByteArray), a0.size ≤ 140737488351232 → laws_FnEntryParse.f a0 = some true
end Go.Proofs.YtifhhejohdmiaaaDoor.MPa
