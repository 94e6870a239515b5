import Derived.Test.YthpfcofkhchkcaaDoorDx1
namespace Go.Proofs.YthpfcofkhchkcaaDoor.Pure
open Go.Proofs.YthpfcofkhchkcaaDoor.D
theorem FnColourTurn : laws_FnColourTurn.Pure := by
  intro a0 a1 _ h
  simp only [Lit.wf, Bool.and_eq_true, decide_eq_true_eq] at h
  obtain ⟨h1, h2⟩ := h
  have h2' : a1 ≤ 18446744073709551615 := h2
  unfold laws_FnColourTurn.f
  rw [if_pos (by omega)]
end Go.Proofs.YthpfcofkhchkcaaDoor.Pure
