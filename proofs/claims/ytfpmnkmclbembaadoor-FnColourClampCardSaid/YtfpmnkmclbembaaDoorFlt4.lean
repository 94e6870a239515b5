/- The law FnColourTurn, by a walk. -/
import Derived.Test.YtfpmnkmclbembaaDoorFlt2
import Derived.Test.YtfpmnkmclbembaaDoorTurn
set_option linter.unusedVariables false
set_option linter.unusedSimpArgs false
set_option exponentiation.threshold 3000
namespace Go.Proofs.YtfpmnkmclbembaaDoorFlt
open Go.RowKit Go.Proofs.YtfpmnkmclbembaaDoorW.PrintWords Go.Proofs.YtfpmnkmclbembaaDoorIeee Go.Proofs.YtfpmnkmclbembaaDoor
theorem run_neg (b : Nat) : ∀ w, (Op.unary .neg (.float .f64 b)).run Tryd.prog w = .ok (.float .f64 (b ^^^ 2 ^ 63)) w := fun w => rfl
theorem fdiv {x y r : Nat} (h : Ieee.double.div x y = some r) : ∀ w, (binOp .quo 25 (.float .f64 x) (.float .f64 y)).run Tryd.prog w = .ok (.float .f64 r) w := fun w => run_float_arith w .quo _ .f64 x y r h
set_option maxHeartbeats 4000000 in
theorem brightness (c : Int) (p1 p2 p3 : Nat) (hc : Parts c p1 p2 p3) (h1 : p1 ≤ 255) (h2 : p2 ≤ 255) (h3 : p3 ≤ 255) (w : World) :
    Calls Tryd.prog 12 #[.int .i32 c] w fun e w' => e = .returned (.float .f64 (Br (p1 + p2 + p3))) ∧ Below w.heap.size w w' := by
  have c1 : floatOfInt .f64 (p1 : Int) = fl p1 := fl_int _ h1
  have c2 : floatOfInt .f64 (p2 : Int) = fl p2 := fl_int _ h2
  have c3 : floatOfInt .f64 (p3 : Int) = fl p3 := fl_int _ h3
  have k1 := Aside0.mk hc.r
  have k2 := Aside0.mk hc.g
  have k3 := Aside0.mk hc.b
  have e1 := fadd (add_fl (a := p1) (b := p2) (by omega))
  have e2 := fadd (add_fl (a := p1 + p2) (b := p3) (by omega))
  obtain ⟨q, o, d1, d2, d3⟩ := br (p1 + p2 + p3) (by omega)
  have e3 := fdiv d1
  have e4 := fdiv d2
  clear d1 d2 d3 h1 h2 h3
  go_enter Tryd.func12, Tryd.ntmps12
  go_wp2_with (first | (go_at_call 17; refine (k1.out _).mono ?_; rintro e w' ⟨rfl, ⟨nd, rfl⟩⟩) | (go_at_call 18; refine (k2.out _).mono ?_; rintro e w' ⟨rfl, ⟨nd, rfl⟩⟩) | (go_at_call 19; refine (k3.out _).mono ?_; rintro e w' ⟨rfl, ⟨nd, rfl⟩⟩))
  go_ret
  exact ⟨rfl, by repeat (first | exact Below.refl _ _ | apply pw_below_drewN)⟩
set_option maxHeartbeats 4000000 in
theorem implBr (c : Int) (p1 p2 p3 : Nat) (hc : Parts c p1 p2 p3) (h1 : p1 ≤ 255) (h2 : p2 ≤ 255) (h3 : p3 ≤ 255) (w : World) :
    Calls Tryd.prog 7 #[.int .i32 c] w fun e w' => e = .returned (.int .u64 (Br (p1 + p2 + p3))) ∧ Below w.heap.size w w' := by
  have k := Aside0.mk (brightness c p1 p2 p3 hc h1 h2 h3)
  have hb := run_bits (Br (p1 + p2 + p3))
  clear hc h1 h2 h3
  generalize Br (p1 + p2 + p3) = B at *
  go_enter Tryd.func7, Tryd.ntmps7
  go_wp2_with (go_at_call 12; refine (k.out _).mono ?_; rintro e w' ⟨rfl, hB⟩)
  go_ret
  exact ⟨rfl, hB⟩
end Go.Proofs.YtfpmnkmclbembaaDoorFlt
