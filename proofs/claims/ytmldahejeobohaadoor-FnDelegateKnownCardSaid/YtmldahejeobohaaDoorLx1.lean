-- WRITTEN BY OUR myprint.py, a program of this session's over the kit's printer
import Derived.Test.YtmldahejeobohaaDoorLx0
namespace Go.Proofs.YtmldahejeobohaaDoor.L
open Go.RowKit Go.Proofs.YtmldahejeobohaaDoorW.PrintWords Go.Proofs.YtmldahejeobohaaDoorW.PrintLast Go.Proofs.YtmldahejeobohaaDoorW.PrintMore
attribute [local go_sem] max2_int min2_int max_two min_two max_three min_three max_four min_four   -- for this text's walks alone
set_option linter.unusedVariables false
set_option linter.unusedSimpArgs false

/-! ### laws_FnDelegateKnown: function 3 -/
def laws_FnDelegateKnown.f (l0 : List (S29)) (l1 : List (S27)) : Option Bool := some true
theorem laws_FnDelegateKnown.calls (A0 : Option Addr) (c0 : Nat) (l0 : List (S29)) (A1 : Option Addr) (c1 : Nat) (l1 : List (S27)) (r : Bool) (w : World) (hr0 : Kd.C k29 w A0 l0.length l0) (hc0 : l0.length ≤ c0) (hr1 : Kd.C k27 w A1 l1.length l1) (hc1 : l1.length ≤ c1) (hV : Go.Proofs.YtmldahejeobohaaDoorFmt.VarsOK w) (h : laws_FnDelegateKnown.f l0 l1 = some r) :
    Calls Tryd.prog 3 #[.slice A0 l0.length c0, .slice A1 l1.length c1] w fun e w' => e = .returned (.bool r) ∧ Below w.heap.size w w' := by
  obtain rfl := Option.some.inj h
  have hC0 := Go.Proofs.YtmldahejeobohaaDoorTake.C_map (d := Go.Proofs.YtmldahejeobohaaDoorTake.pC) (f := fun c : S29 => (c.f0, c.f1)) hr0
  have hC1 := Go.Proofs.YtmldahejeobohaaDoorTake.C_map (d := Go.Proofs.YtmldahejeobohaaDoorTake.pT) (f := fun c : S27 => (c.f0, c.f1)) hr1
  have hm := Go.Proofs.YtmldahejeobohaaDoorKno.fnKnown_c A0 c0 (l0.map fun c => ⟨c.f0, c.f1⟩) A1 c1 (l1.map fun c => ⟨c.f0, c.f1⟩) w (by
    rw [List.length_map]
    refine Go.Proofs.YtmldahejeobohaaDoorTake.C_unmap (d := Go.Proofs.YtmldahejeobohaaDoorTake.pC) (f := fun c : Go.Proofs.YtmldahejeobohaaDoorKno.D => (c.f0, c.f1)) ?_
    rw [List.map_map]
    exact hC0) (by rw [List.length_map]; exact hc0) (by
    rw [List.length_map]
    refine Go.Proofs.YtmldahejeobohaaDoorTake.C_unmap (d := Go.Proofs.YtmldahejeobohaaDoorTake.pT) (f := fun c : Go.Proofs.YtmldahejeobohaaDoorKno.T => (c.f0, c.f1)) ?_
    rw [List.map_map]
    exact hC1) (by rw [List.length_map]; exact hc1) hV
  rw [List.length_map, List.length_map] at hm
  exact hm

def wf_S29 (x : S29) : Prop := (IntKind.i64.min ≤ x.f0 ∧ x.f0 ≤ IntKind.i64.max) ∧ (IntKind.i64.min ≤ x.f1 ∧ x.f1 ≤ IntKind.i64.max)
def wf_S27 (x : S27) : Prop := (IntKind.i64.min ≤ x.f0 ∧ x.f0 ≤ IntKind.i64.max) ∧ (x.f1.size ≤ maxLen)
def laws_FnDelegateKnown.Pure : Prop := ∀ (l0 : List (S29)) (l1 : List (S27)), (l0.length ≤ 9223372036854775807 ∧ ∀ x ∈ l0, wf_S29 x) → (l1.length ≤ 9223372036854775807 ∧ ∀ x ∈ l1, wf_S27 x) → laws_FnDelegateKnown.f l0 l1 = some true
end Go.Proofs.YtmldahejeobohaaDoor.L
