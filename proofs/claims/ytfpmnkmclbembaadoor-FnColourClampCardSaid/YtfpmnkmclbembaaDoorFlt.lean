/- Colours and floats: what the calls compute, by walks. -/
import Derived.Test.YtfpmnkmclbembaaDoorLight
import Derived.Test.YtfpmnkmclbembaaDoorMx1
import Derived.Test.YtfpmnkmclbembaaDoorColMath
import Derived.Laws.Externs
import Derived.Laws.FloatArith
set_option linter.unusedVariables false
set_option linter.unusedSimpArgs false
namespace Go.Proofs.YtfpmnkmclbembaaDoorFlt
open Go.RowKit Go.Proofs.YtfpmnkmclbembaaDoorW.PrintWords Go.Proofs.YtfpmnkmclbembaaDoorIeee Go.Proofs.YtfpmnkmclbembaaDoor

theorem run_bits (b : Nat) (w : World) : (callFunc 11 #[.float .f64 b]).run Tryd.prog w = .ok (.value (.int .u64 b)) w := by
  rw [run_callFunc_extern (P := Tryd.prog) (e := Extern.MathFloatBits.float64bits) Tryd.func11 (by decide +kernel) rfl (by rfl) (by rfl)]
  rfl
theorem run_frombits (n : Int) (w : World) : (callFunc 6 #[.int .u64 n]).run Tryd.prog w = .ok (.value (.float .f64 n.toNat)) w := by
  rw [run_callFunc_extern (P := Tryd.prog) (e := Extern.MathFloatBits.float64frombits) Tryd.func6 (by decide +kernel) rfl (by rfl) (by rfl)]
  rfl
theorem fadd {x y r : Nat} (h : Ieee.double.add x y = some r) : ∀ w, (binOp .add 25 (.float .f64 x) (.float .f64 y)).run Tryd.prog w = .ok (.float .f64 r) w := fun w => run_float_arith w .add _ .f64 x y r h
theorem fsub {x y r : Nat} (h : Ieee.double.sub x y = some r) : ∀ w, (binOp .sub 25 (.float .f64 x) (.float .f64 y)).run Tryd.prog w = .ok (.float .f64 r) w := fun w => run_float_arith w .sub _ .f64 x y r h
theorem fmul {x y r : Nat} (h : Ieee.double.mul x y = some r) : ∀ w, (binOp .mul 25 (.float .f64 x) (.float .f64 y)).run Tryd.prog w = .ok (.float .f64 r) w := fun w => run_float_arith w .mul _ .f64 x y r h
theorem fcv {z : Nat} {q : Int} (h : floatToIntVal .f64 z .u8 = some q) : ∀ w, (convert 25 5 (.float .f64 z)).run Tryd.prog w = .ok (.int .u8 q) w := fun w => run_convert_float_int w _ _ .f64 .u8 z q (by rw [Tryd.underlying25]; rfl) Tryd.underlying5 h
/-- The steps of a part. -/
theorem stepsN {p f q : Nat} (h0 : neg0 f = true) (h : lightV p f = some (q : Int)) : ∃ g z, Ieee.double.add f 4607182418800017408 = some g ∧ Ieee.double.mul (fl p) g = some z ∧ floatToIntVal .f64 z .u8 = some (q : Int) := by
  unfold lightV at h
  rw [if_pos h0] at h
  obtain ⟨g, hg, h⟩ := Option.bind_eq_some_iff.1 h
  obtain ⟨z, hz, h⟩ := Option.bind_eq_some_iff.1 h
  exact ⟨g, z, hg, hz, h⟩
theorem stepsP {p f q : Nat} (h0 : neg0 f = false) (h : lightV p f = some (q : Int)) : ∃ u v z, Ieee.double.sub 4643176031446892544 (fl p) = some u ∧ Ieee.double.mul u f = some v ∧ Ieee.double.add v (fl p) = some z ∧ floatToIntVal .f64 z .u8 = some (q : Int) := by
  unfold lightV at h
  rw [if_neg (by rw [h0]; decide)] at h
  obtain ⟨u, hu, h⟩ := Option.bind_eq_some_iff.1 h
  obtain ⟨v, hv, h⟩ := Option.bind_eq_some_iff.1 h
  obtain ⟨z, hz, h⟩ := Option.bind_eq_some_iff.1 h
  exact ⟨u, v, z, hu, hv, hz, h⟩
/-- What becomes of three parts. -/
structure Lit3 (f : Nat) (p1 p2 p3 : Nat) (q1 q2 q3 : Nat) : Prop where
  r : lightV p1 f = some (q1 : Int)
  g : lightV p2 f = some (q2 : Int)
  b : lightV p3 f = some (q3 : Int)
  p1 : p1 ≤ 255
  p2 : p2 ≤ 255
  p3 : p3 ≤ 255
  q1 : q1 ≤ 255
  q2 : q2 ≤ 255
  q3 : q3 ≤ 255
/-- The colour c has these parts. -/
structure Parts (c : Int) (p1 p2 p3 : Nat) : Prop where
  r : ∀ w, Calls Tryd.prog 17 #[.int .i32 c] w fun e w' => e = .returned (.int .u8 (p1 : Int)) ∧ Drawn0 w w'
  g : ∀ w, Calls Tryd.prog 18 #[.int .i32 c] w fun e w' => e = .returned (.int .u8 (p2 : Int)) ∧ Drawn0 w w'
  b : ∀ w, Calls Tryd.prog 19 #[.int .i32 c] w fun e w' => e = .returned (.int .u8 (p3 : Int)) ∧ Drawn0 w w'
theorem red_f (n : Nat) (hn : n < 16777216) (w : World) : Calls Tryd.prog 17 #[.int .i32 ((n : Int) + 1)] w fun e w' => e = .returned (.int .u8 ((n / 65536 : Nat) : Int)) ∧ Drawn0 w w' := by
  refine M.chroma_Colour_Red.calls _ _ w ?_
  unfold M.chroma_Colour_Red.f
  have h1 := Go.Proofs.YtfpmnkmclbembaaDoorFmt.redOf (n + 1) (by omega) (by omega)
  rw [show (((n + 1 : Nat) : Int)) = (n : Int) + 1 by omega] at h1
  rw [h1, Nat.add_sub_cancel, Nat.mod_eq_of_lt (show n / 65536 < 256 by omega)]
theorem green_f (n : Nat) (hn : n < 16777216) (w : World) : Calls Tryd.prog 18 #[.int .i32 ((n : Int) + 1)] w fun e w' => e = .returned (.int .u8 ((n / 256 % 256 : Nat) : Int)) ∧ Drawn0 w w' := by
  refine M.chroma_Colour_Green.calls _ _ w ?_
  unfold M.chroma_Colour_Green.f
  have h1 := Go.Proofs.YtfpmnkmclbembaaDoorFmt.greenOf (n + 1) (by omega) (by omega)
  rw [show (((n + 1 : Nat) : Int)) = (n : Int) + 1 by omega] at h1
  rw [h1, Nat.add_sub_cancel]
theorem blue_f (n : Nat) (hn : n < 16777216) (w : World) : Calls Tryd.prog 19 #[.int .i32 ((n : Int) + 1)] w fun e w' => e = .returned (.int .u8 ((n % 256 : Nat) : Int)) ∧ Drawn0 w w' := by
  refine M.chroma_Colour_Blue.calls _ _ w ?_
  unfold M.chroma_Colour_Blue.f
  have h1 := Go.Proofs.YtfpmnkmclbembaaDoorFmt.blueOf (n + 1) (by omega) (by omega)
  rw [show (((n + 1 : Nat) : Int)) = (n : Int) + 1 by omega] at h1
  rw [h1, Nat.add_sub_cancel]
theorem parts_of (n : Nat) (hn : n < 16777216) : Parts ((n : Int) + 1) (n / 65536) (n / 256 % 256) (n % 256) := ⟨red_f n hn, green_f n hn, blue_f n hn⟩
def nc (r g b : Nat) : Int := ((r * 65536 + g * 256 + b + 1 : Nat) : Int)
theorem new_f (r g b : Nat) (hr : r ≤ 255) (hg : g ≤ 255) (hb : b ≤ 255) (w : World) : Calls Tryd.prog 29 #[.int .u8 r, .int .u8 g, .int .u8 b] w fun e w' => e = .returned (.int .i32 (nc r g b)) ∧ Drawn0 w w' := by
  refine M.chroma_NewColour.calls _ _ _ _ w ?_
  unfold M.chroma_NewColour.f
  rw [Go.Proofs.YtfpmnkmclbembaaDoorFmt.newCol r g b (by omega) (by omega) (by omega)]
  rfl
set_option maxHeartbeats 4000000 in
theorem brighten (f : Nat) (c : Int) (p1 p2 p3 q1 q2 q3 : Nat) (hc : Parts c p1 p2 p3) (h : Lit3 f p1 p2 p3 q1 q2 q3) (w : World) :
    Calls Tryd.prog 22 #[.int .i32 c, .float .f64 f] w fun e w' => e = .returned (.int .i32 (nc q1 q2 q3)) ∧ Below w.heap.size w w' := by
  have c1 : floatOfInt .f64 (p1 : Int) = fl p1 := fl_int _ h.p1
  have c2 : floatOfInt .f64 (p2 : Int) = fl p2 := fl_int _ h.p2
  have c3 : floatOfInt .f64 (p3 : Int) = fl p3 := fl_int _ h.p3
  have k1 := Aside0.mk hc.r
  have k2 := Aside0.mk hc.g
  have k3 := Aside0.mk hc.b
  have k4 := Aside0.mk (new_f q1 q2 q3 h.q1 h.q2 h.q3)
  cases h0 : neg0 f
  · obtain ⟨u1, v1, z1, a1, a2, a3, a4⟩ := stepsP h0 h.r
    obtain ⟨u2, v2, z2, b1, b2, b3, b4⟩ := stepsP h0 h.g
    obtain ⟨u3, v3, z3, d1, d2, d3, d4⟩ := stepsP h0 h.b
    have hlt : (FloatKind.f64.format.order f 0 == some Ordering.lt) = false := h0
    have e1 := fsub a1
    have e2 := fmul a2
    have e3 := fadd a3
    have e4 := fcv a4
    have e5 := fsub b1
    have e6 := fmul b2
    have e7 := fadd b3
    have e8 := fcv b4
    have e9 := fsub d1
    have e10 := fmul d2
    have e11 := fadd d3
    have e12 := fcv d4
    clear a1 a2 a3 a4 b1 b2 b3 b4 d1 d2 d3 d4 h
    go_enter Tryd.func22, Tryd.ntmps22
    go_wp2_with (first | (go_at_call 17; refine (k1.out _).mono ?_; rintro e w' ⟨rfl, ⟨nd, rfl⟩⟩) | (go_at_call 18; refine (k2.out _).mono ?_; rintro e w' ⟨rfl, ⟨nd, rfl⟩⟩) | (go_at_call 19; refine (k3.out _).mono ?_; rintro e w' ⟨rfl, ⟨nd, rfl⟩⟩) | (go_at_call 29; refine (k4.out _).mono ?_; rintro e w' ⟨rfl, ⟨nd, rfl⟩⟩))
    go_ret
    exact ⟨rfl, by repeat (first | exact Below.refl _ _ | apply pw_below_drewN)⟩
  · obtain ⟨g1, z1, a1, a2, a3⟩ := stepsN h0 h.r
    obtain ⟨g2, z2, b1, b2, b3⟩ := stepsN h0 h.g
    obtain ⟨g3, z3, d1, d2, d3⟩ := stepsN h0 h.b
    obtain rfl : g1 = g2 := Option.some.inj (a1.symm.trans b1)
    obtain rfl : g1 = g3 := Option.some.inj (a1.symm.trans d1)
    have hlt : (FloatKind.f64.format.order f 0 == some Ordering.lt) = true := h0
    have e1 := fadd a1
    have e2 := fmul a2
    have e3 := fcv a3
    have e4 := fmul b2
    have e5 := fcv b3
    have e6 := fmul d2
    have e7 := fcv d3
    clear a1 a2 a3 b1 b2 b3 d1 d2 d3 h
    go_enter Tryd.func22, Tryd.ntmps22
    go_wp2_with (first | (go_at_call 17; refine (k1.out _).mono ?_; rintro e w' ⟨rfl, ⟨nd, rfl⟩⟩) | (go_at_call 18; refine (k2.out _).mono ?_; rintro e w' ⟨rfl, ⟨nd, rfl⟩⟩) | (go_at_call 19; refine (k3.out _).mono ?_; rintro e w' ⟨rfl, ⟨nd, rfl⟩⟩) | (go_at_call 29; refine (k4.out _).mono ?_; rintro e w' ⟨rfl, ⟨nd, rfl⟩⟩))
    go_ret
    exact ⟨rfl, by repeat (first | exact Below.refl _ _ | apply pw_below_drewN)⟩
end Go.Proofs.YtfpmnkmclbembaaDoorFlt
