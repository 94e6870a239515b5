-- WRITTEN BY OUR myprint.py, a program of this session's over the kit's printer
import Derived.Test.YtohlppcboiiaaaaDoorHx0
namespace Go.Proofs.YtohlppcboiiaaaaDoor.H
open Go.RowKit Go.Proofs.YtohlppcboiiaaaaDoorW.PrintWords Go.Proofs.YtohlppcboiiaaaaDoorW.PrintLast Go.Proofs.YtohlppcboiiaaaaDoorW.PrintMore
attribute [local go_sem] max2_int min2_int max_two min_two max_three min_three max_four min_four   -- for this text's walks alone
set_option linter.unusedVariables false
set_option linter.unusedSimpArgs false

/-! ### laws_FnColourBrightness: function 3 -/
def laws_FnColourBrightness.f (a0 : Int) (a1 : Int) (a2 : Int) (a3 : Int) (a4 : Int) : Option Bool := if 0 ≤ a0 ∧ a0 < 256 ∧ 0 ≤ a1 ∧ a1 < 256 ∧ 0 ≤ a2 ∧ a2 < 256 ∧ 0 ≤ a3 ∧ a3 < 256 ∧ 0 ≤ a4 ∧ a4 < 256 then some true else none
theorem laws_FnColourBrightness.calls (a0 : Int) (a1 : Int) (a2 : Int) (a3 : Int) (a4 : Int) (r : Bool) (w : World) (hV : Go.Proofs.YtohlppcboiiaaaaDoorFmt.VarsOK w) (h : laws_FnColourBrightness.f a0 a1 a2 a3 a4 = some r) :
    Calls Tryd.prog 3 #[.int .u8 a0, .int .u8 a1, .int .u8 a2, .int .u8 a3, .int .u8 a4] w fun e w' => e = .returned (.bool r) ∧ Below w.heap.size w w' := by
  unfold laws_FnColourBrightness.f at h
  by_cases h0 : 0 ≤ a0 ∧ a0 < 256 ∧ 0 ≤ a1 ∧ a1 < 256 ∧ 0 ≤ a2 ∧ a2 < 256 ∧ 0 ≤ a3 ∧ a3 < 256 ∧ 0 ≤ a4 ∧ a4 < 256
  · rw [if_pos h0] at h
    obtain rfl := Option.some.inj h
    obtain ⟨h1, h2, h3, h4, h5, h6, h7, h8, h9, h10⟩ := h0
    obtain ⟨n0, rfl⟩ := Int.eq_ofNat_of_zero_le h1
    obtain ⟨n1, rfl⟩ := Int.eq_ofNat_of_zero_le h3
    obtain ⟨n2, rfl⟩ := Int.eq_ofNat_of_zero_le h5
    obtain ⟨n3, rfl⟩ := Int.eq_ofNat_of_zero_le h7
    obtain ⟨n4, rfl⟩ := Int.eq_ofNat_of_zero_le h9
    exact Go.Proofs.YtohlppcboiiaaaaDoorFlt.lawBrightness n0 n1 n2 n3 n4 (by omega) (by omega) (by omega) (by omega) (by omega) w hV
  · rw [if_neg h0] at h; cases h

def laws_FnColourBrightness.Pure : Prop := ∀ (a0 : Int) (a1 : Int) (a2 : Int) (a3 : Int) (a4 : Int), (Lit.int .u8 a0).wf = true → (Lit.int .u8 a1).wf = true → (Lit.int .u8 a2).wf = true → (Lit.int .u8 a3).wf = true → (Lit.int .u8 a4).wf = true → laws_FnColourBrightness.f a0 a1 a2 a3 a4 = some true
end Go.Proofs.YtohlppcboiiaaaaDoor.H
