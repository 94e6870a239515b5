import Derived.Test.YtohlppcboiiaaaaDoorHx1
namespace Go.Proofs.YtohlppcboiiaaaaDoor.Pure
open Go.Proofs.YtohlppcboiiaaaaDoor.H
theorem FnColourBrightness : laws_FnColourBrightness.Pure := by
  intro a0 a1 a2 a3 a4 h0 h1 h2 h3 h4
  simp only [Lit.wf, Bool.and_eq_true, decide_eq_true_eq] at h0 h1 h2 h3 h4
  have q : ∀ {a : Int}, IntKind.u8.min ≤ a ∧ a ≤ IntKind.u8.max → 0 ≤ a ∧ a < 256 := fun {a} h => ⟨h.1, Int.lt_of_le_of_lt h.2 (by decide)⟩
  unfold laws_FnColourBrightness.f
  rw [if_pos ⟨(q h0).1, (q h0).2, (q h1).1, (q h1).2, (q h2).1, (q h2).2, (q h3).1, (q h3).2, (q h4).1, (q h4).2⟩]
end Go.Proofs.YtohlppcboiiaaaaDoor.Pure
