/- A lexer is found by a kind of text that it alone names: the pure statement. -/
import Derived.Test.YtibjlefenodhaaaDoorRmi
import Derived.Test.YtibjlefenodhaaaDoorLx1
set_option linter.unusedVariables false
set_option linter.unusedSimpArgs false
namespace Go.Proofs.YtibjlefenodhaaaDoor.Pure
open Go.RowKit Go.Proofs.YtibjlefenodhaaaDoorEvt Go.Proofs.YtibjlefenodhaaaDoorW.PrintWords
theorem u8_wf' {a : Int} (h : (Lit.int .u8 a).wf = true) : 0 ≤ a ∧ a ≤ 255 := by
  have h' : (decide (IntKind.u8.min ≤ a ∧ a ≤ IntKind.u8.max)) = true := by simpa [Lit.wf] using h
  have h2 := of_decide_eq_true h'
  have e1 : IntKind.u8.min = 0 := by decide
  have e2 : IntKind.u8.max = 255 := by decide
  omega
theorem FnRegMime : Go.Proofs.YtibjlefenodhaaaDoor.L.laws_FnRegMime.Pure := by
  intro l0 a1 hl0 w1
  unfold Go.Proofs.YtibjlefenodhaaaDoor.L.laws_FnRegMime.f
  rw [if_pos ⟨fun x hx => ⟨(hl0.2 x hx).1, (hl0.2 x hx).2.1.2⟩, u8_wf' w1⟩]
end Go.Proofs.YtibjlefenodhaaaDoor.Pure
