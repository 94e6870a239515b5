/- Plain laws on a colour whose brightness is held between two bounds, in doubles. No program in sight. -/
import Derived.Test.YtfpmnkmclbembaaDoorErr
import GoSem.Extern.MathDim
set_option linter.unusedVariables false
set_option linter.unusedSimpArgs false
set_option exponentiation.threshold 3000
namespace Go.Proofs.YtfpmnkmclbembaaDoorIeee
open Ieee

theorem DU : 1099511627776 * (D : Int) = U := by
  have : 1099511627776 * D = U := by unfold D U; decide +kernel
  rw [← this, Int.natCast_mul]; rfl
theorem D_nn : (0 : Int) ≤ D := Int.natCast_nonneg _
theorem U_nn : (0 : Int) < U := Int.natCast_pos.2 U_pos
theorem fl_va {n : Nat} (h : n ≤ 1000) : Va (fl n) ((n : Int) * U) := by
  have := va_pos (fl_sm h)
  rw [Int.natCast_mul] at this
  exact this
def three : Nat := 4613937818241073152
theorem three_fl : fl 3 = three := by decide +kernel
theorem one_va : Va one U := va_pos one_sm
theorem zero_va : Va 0 0 := ⟨false, 0, ⟨0, -1074, read_zero, by omega, by simp⟩, rfl⟩
theorem neg0_va {f : Nat} {F : Int} (h : Va f F) : neg0 f = decide (F < 0) := by
  unfold neg0
  rw [order_va h zero_va]
  rcases Int.lt_trichotomy F 0 with h0 | h0 | h0
  · rw [Int.compare_eq_lt.2 h0, decide_eq_true h0]; rfl
  · subst h0; rfl
  · rw [Int.compare_eq_gt.2 h0, decide_eq_false (by omega)]; rfl
theorem mul_cancel {a b : Int} (h : a * U ≤ b * U) : a ≤ b := Int.le_of_mul_le_mul_right h U_nn
/-- A quotient by a whole number. -/
theorem div_int {x y : Nat} {a : Int} (n : Nat) (hn : 0 < n) (hx : Va x a) (hy : Va y ((n : Int) * U)) (h : (a.natAbs : Int) ≤ 8 * (n * U)) :
    ∃ z c, double.div x y = some z ∧ Va z c ∧ c * n ≤ a + 2 * D * n ∧ a ≤ c * n + 2 * D * n ∧ (0 ≤ a → 0 ≤ c) ∧ ((a.natAbs : Int) ≤ n * U → c.natAbs ≤ U) := by
  have hp : (0 : Int) < (n : Int) * U := Int.mul_pos (Int.natCast_pos.2 hn) U_nn
  obtain ⟨z, c, hz, v, n1, n2, n3, n4⟩ := div_near hx hy hp h
  refine ⟨z, c, hz, v, ?_, ?_, n3, n4⟩
  · refine mul_cancel ?_
    rw [Int.add_mul, Int.mul_assoc, Int.mul_assoc (2 * (D : Int))]
    exact n1
  · refine mul_cancel ?_
    rw [Int.add_mul, Int.mul_assoc, Int.mul_assoc (2 * (D : Int))]
    exact n2
/-- A product with a whole number. -/
theorem mul_int {x y : Nat} {b : Int} (n : Nat) (hx : Va x ((n : Int) * U)) (hy : Va y b) (h : ((n : Int) * b).natAbs ≤ 1000 * U) : ∃ z c, double.mul x y = some z ∧ Va z c ∧ Near c (n * b) :=
  mul_near hx hy (by rw [Int.mul_assoc, Int.mul_assoc, Int.mul_comm (U : Int)]) h
theorem mul_int' {x y : Nat} {b : Int} (n : Nat) (hx : Va x b) (hy : Va y ((n : Int) * U)) (h : ((n : Int) * b).natAbs ≤ 1000 * U) : ∃ z c, double.mul x y = some z ∧ Va z c ∧ Near c (n * b) :=
  mul_near hx hy (by rw [← Int.mul_assoc, Int.mul_comm b]) h
theorem light_near {f : Nat} {F : Int} (hF : Va f F) (h : F.natAbs ≤ U) {p : Nat} (hp : p ≤ 255) :
    ∃ q : Nat, lightV p f = some (q : Int) ∧ q ≤ 255 ∧ (F < 0 → (q : Int) * U ≤ p * F + p * U + 256 * D ∧ p * F + p * U ≤ (q : Int) * U + U + 256 * D) ∧ (0 ≤ F → (q : Int) * U ≤ 255 * F - p * F + p * U + 2 * D ∧ 255 * F - p * F + p * U ≤ (q : Int) * U + U + 2 * D) := by
  have hDU := DU
  have hD0 := D_nn
  have hU0 := U_nn
  have hz := neg0_va hF
  have hpU : (p : Int) * U ≤ 255 * U := Int.mul_le_mul_of_nonneg_right (by omega) (by omega)
  have hpU0 : (0 : Int) ≤ p * U := Int.mul_nonneg (by omega) (by omega)
  have hpD : (p : Int) * D ≤ 255 * D := Int.mul_le_mul_of_nonneg_right (by omega) (by omega)
  by_cases hn : F < 0
  · rw [decide_eq_true hn] at hz
    obtain ⟨g, c1, hg, v1, n1⟩ := add_near hF one_va (by omega)
    have c1a : 0 ≤ c1 := n1.pos (by omega)
    have c1b : c1 ≤ U := by have := n1.upto 1 (by decide) (by omega); omega
    have m0 : (0 : Int) ≤ p * c1 := Int.mul_nonneg (by omega) c1a
    have m1 : (p : Int) * c1 ≤ p * U := Int.mul_le_mul_of_nonneg_left c1b (by omega)
    obtain ⟨z, c2, h2, v2, n2⟩ := mul_int p (fl_va (by omega)) v1 (by omega)
    have c2a := n2.pos m0
    have c2b := n2.upto p (by omega) m1
    obtain ⟨q, hq, hq1, hq2, hq3⟩ := byte_va v2 c2a (by omega)
    have k1 : (p : Int) * c1 ≤ p * F + p * U + p * D := by
      have := Int.mul_le_mul_of_nonneg_left n1.le (show (0 : Int) ≤ (p : Int) by omega)
      rw [Int.mul_add, Int.mul_add] at this
      exact this
    have k2 : (p : Int) * F + p * U ≤ p * c1 + p * D := by
      have := Int.mul_le_mul_of_nonneg_left n1.ge (show (0 : Int) ≤ (p : Int) by omega)
      rw [Int.mul_add, Int.mul_add] at this
      exact this
    have n2l := n2.le
    have n2g := n2.ge
    rw [Int.add_mul, Int.one_mul] at hq3
    refine ⟨q, ?_, hq1, fun _ => ⟨by omega, by omega⟩, fun h => by omega⟩
    unfold lightV
    rw [if_pos hz, hg, Option.bind_some, h2, Option.bind_some, hq]
  · rw [decide_eq_false hn] at hz
    have hk : (((255 - p : Nat) : Int)) * F = 255 * F - p * F := by rw [show ((255 - p : Nat) : Int) = 255 - (p : Int) by omega, Int.sub_mul]
    have hkU : (((255 - p : Nat) : Int)) * U = 255 * U - p * U := by rw [show ((255 - p : Nat) : Int) = 255 - (p : Int) by omega, Int.sub_mul]
    have m0 : (0 : Int) ≤ ((255 - p : Nat) : Int) * F := Int.mul_nonneg (by omega) (by omega)
    have m1 : ((255 - p : Nat) : Int) * F ≤ ((255 - p : Nat) : Int) * U := Int.mul_le_mul_of_nonneg_left (by omega) (by omega)
    obtain ⟨v, c1, h1, v1, n1⟩ := mul_int (255 - p) (fl_va (by omega)) hF (by omega)
    have c1a := n1.pos m0
    have c1b := n1.upto (255 - p) (by omega) m1
    obtain ⟨z, c2, h2, v2, n2⟩ := add_near v1 (fl_va (n := p) (by omega)) (by omega)
    have c2a := n2.pos (by omega)
    have c2b := n2.upto 255 (by omega) (by omega)
    obtain ⟨q, hq, hq1, hq2, hq3⟩ := byte_va v2 c2a (by omega)
    have n1l := n1.le
    have n1g := n1.ge
    have n2l := n2.le
    have n2g := n2.ge
    rw [Int.add_mul, Int.one_mul] at hq3
    refine ⟨q, ?_, hq1, fun h => by omega, fun _ => ⟨by omega, by omega⟩⟩
    unfold lightV
    rw [if_neg (by rw [hz]; decide), sub255 p hp, Option.bind_some, h1, Option.bind_some, h2, Option.bind_some, hq]
theorem br_va (S : Nat) (h : S ≤ 765) : ∃ b : Int, Va (Br S) b ∧ 765 * b ≤ S * U + 2040 * D ∧ (S : Int) * U ≤ 765 * b + 2040 * D ∧ 0 ≤ b := by
  have hDU := DU
  have hD0 := D_nn
  have hU0 := U_nn
  obtain ⟨q, o, h1, h2, h3⟩ := br S h
  have hSU : (S : Int) * U ≤ 765 * U := Int.mul_le_mul_of_nonneg_right (by omega) (by omega)
  have hSU0 : (0 : Int) ≤ S * U := Int.mul_nonneg (by omega) (by omega)
  have va255 : Va 4643176031446892544 (((255 : Nat) : Int) * U) := by have := fl_va (n := 255) (by decide); rw [c255_fl] at this; exact this
  have va3 : Va 4613937818241073152 (((3 : Nat) : Int) * U) := by have := fl_va (n := 3) (by decide); rw [three_fl] at this; exact this
  obtain ⟨z, c1, e1, v1, n1, n2, n3, n4⟩ := div_int 255 (by decide) (fl_va (n := S) (by omega)) va255 (by omega)
  rw [h1] at e1
  injection e1 with e1
  subst e1
  have c1a := n3 hSU0
  obtain ⟨z, c2, e2, v2, m1, m2, m3, m4⟩ := div_int 3 (by decide) v1 va3 (by omega)
  rw [h2] at e2
  injection e2 with e2
  subst e2
  exact ⟨c2, v2, by omega, by omega, m3 c1a⟩
def E : Nat := 4000000
/-- What a clamped colour's parts come to. -/
structure Held (t : Int) (Q : Nat) : Prop where
  le : (Q : Int) * U ≤ 765 * t + E * D
  ge : 765 * t ≤ (Q : Int) * U + 3 * U + E * D
theorem sum3 (p1 p2 p3 : Nat) (x : Int) : ((p1 + p2 + p3 : Nat) : Int) * x = p1 * x + p2 * x + p3 * x := by
  rw [Int.natCast_add, Int.natCast_add, Int.add_mul, Int.add_mul]
theorem lights {f : Nat} {F : Int} (hF : Va f F) (h : F.natAbs ≤ U) {p1 p2 p3 : Nat} (h1 : p1 ≤ 255) (h2 : p2 ≤ 255) (h3 : p3 ≤ 255) :
    ∃ q1 q2 q3 : Nat, lightV p1 f = some (q1 : Int) ∧ lightV p2 f = some (q2 : Int) ∧ lightV p3 f = some (q3 : Int) ∧ q1 ≤ 255 ∧ q2 ≤ 255 ∧ q3 ≤ 255 ∧
    (F < 0 → ((q1 + q2 + q3 : Nat) : Int) * U ≤ ((p1 + p2 + p3 : Nat) : Int) * F + ((p1 + p2 + p3 : Nat) : Int) * U + 768 * D ∧ ((p1 + p2 + p3 : Nat) : Int) * F + ((p1 + p2 + p3 : Nat) : Int) * U ≤ ((q1 + q2 + q3 : Nat) : Int) * U + 3 * U + 768 * D) ∧
    (0 ≤ F → ((q1 + q2 + q3 : Nat) : Int) * U ≤ 765 * F - ((p1 + p2 + p3 : Nat) : Int) * F + ((p1 + p2 + p3 : Nat) : Int) * U + 6 * D ∧ 765 * F - ((p1 + p2 + p3 : Nat) : Int) * F + ((p1 + p2 + p3 : Nat) : Int) * U ≤ ((q1 + q2 + q3 : Nat) : Int) * U + 3 * U + 6 * D) := by
  obtain ⟨q1, a1, a2, a3, a4⟩ := light_near hF h h1
  obtain ⟨q2, b1, b2, b3, b4⟩ := light_near hF h h2
  obtain ⟨q3, c1, c2, c3, c4⟩ := light_near hF h h3
  refine ⟨q1, q2, q3, a1, b1, c1, a2, b2, c2, fun hn => ?_, fun hn => ?_⟩
  · have := a3 hn; have := b3 hn; have := c3 hn
    rw [sum3, sum3, sum3]
    omega
  · have := a4 hn; have := b4 hn; have := c4 hn
    rw [sum3, sum3, sum3]
    omega
theorem t765 {tg : Nat} {t : Int} (hv : Va tg t) (h0 : 0 ≤ t) (h1 : t ≤ U) : ∃ t1 t2 c, double.mul tg c255 = some t1 ∧ double.mul t1 three = some t2 ∧ Va t2 c ∧ 0 ≤ c ∧ c ≤ 765 * U ∧ c ≤ 765 * t + 4 * D ∧ 765 * t ≤ c + 4 * D := by
  have hDU := DU
  have hD0 := D_nn
  have hU0 := U_nn
  have va255 : Va c255 (((255 : Nat) : Int) * U) := by have := fl_va (n := 255) (by decide); rw [c255_fl] at this; exact this
  have va3 : Va three (((3 : Nat) : Int) * U) := by have := fl_va (n := 3) (by decide); rw [three_fl] at this; exact this
  obtain ⟨t1, c1, e1, v1, n1⟩ := mul_int' 255 hv va255 (by omega)
  have c1a := n1.pos (by omega)
  have c1b := n1.upto 255 (by decide) (by omega)
  have n1l := n1.le
  have n1g := n1.ge
  obtain ⟨t2, c2, e2, v2, n2⟩ := mul_int' 3 v1 va3 (by omega)
  have c2a := n2.pos (by omega)
  have c2b := n2.upto 765 (by decide) (by omega)
  have n2l := n2.le
  have n2g := n2.ge
  exact ⟨t1, t2, c2, e1, e2, v2, c2a, c2b, by omega, by omega⟩
/-- Made lighter, up to t. -/
theorem upTo {tg : Nat} {t b : Int} (hv : Va tg t) (h0 : 0 ≤ t) (h1 : t ≤ U) {p1 p2 p3 : Nat} (g1 : p1 ≤ 255) (g2 : p2 ≤ 255) (g3 : p3 ≤ 255) (hb : Va (Br (p1 + p2 + p3)) b) (hlt : b < t) :
    ∃ t1 t2 t3 f q1 q2 q3, double.mul tg c255 = some t1 ∧ double.mul t1 three = some t2 ∧ double.sub t2 (fl (p1 + p2 + p3)) = some t3 ∧ double.div t3 (fl (765 - (p1 + p2 + p3))) = some f ∧ p1 + p2 + p3 ≤ 764 ∧
    lightV p1 f = some ((q1 : Nat) : Int) ∧ lightV p2 f = some ((q2 : Nat) : Int) ∧ lightV p3 f = some ((q3 : Nat) : Int) ∧ q1 ≤ 255 ∧ q2 ≤ 255 ∧ q3 ≤ 255 ∧ Held t (q1 + q2 + q3) := by
  have hDU := DU
  have hD0 := D_nn
  have hU0 := U_nn
  obtain ⟨b', hb', k1, k2, k3⟩ := br_va (p1 + p2 + p3) (by omega)
  obtain rfl := va_uniq hb' hb
  obtain ⟨t1, t2, c2, e1, e2, v2, c2a, c2b, c2l, c2g⟩ := t765 hv h0 h1
  have hS0 : (0 : Int) ≤ ((p1 + p2 + p3 : Nat) : Int) * U := Int.mul_nonneg (by omega) (by omega)
  have hS1 : ((p1 + p2 + p3 : Nat) : Int) * U ≤ 765 * U := Int.mul_le_mul_of_nonneg_right (by omega) (by omega)
  have hS : p1 + p2 + p3 ≤ 764 := by
    rcases Nat.lt_or_ge (p1 + p2 + p3) 765 with h | h
    · omega
    · exfalso
      have e : p1 + p2 + p3 = 765 := by omega
      have hb1 : Va (Br 765) U := by
        have : Br 765 = one := by decide +kernel
        rw [this]; exact one_va
      rw [e] at hb
      have := va_uniq hb hb1
      omega
  obtain ⟨t3, c3, e3, v3, n3⟩ := sub_near v2 (fl_va (n := p1 + p2 + p3) (by omega)) (by omega)
  have n3l := n3.le
  have n3g := n3.ge
  have hkU : ((765 - (p1 + p2 + p3) : Nat) : Int) * U = 765 * U - ((p1 + p2 + p3 : Nat) : Int) * U := by rw [show ((765 - (p1 + p2 + p3) : Nat) : Int) = 765 - ((p1 + p2 + p3 : Nat) : Int) by omega, Int.sub_mul]
  have hk1 : (U : Int) ≤ ((765 - (p1 + p2 + p3) : Nat) : Int) * U := by
    have := Int.mul_le_mul_of_nonneg_right (show (1 : Int) ≤ ((765 - (p1 + p2 + p3) : Nat) : Int) by omega) (show (0 : Int) ≤ U by omega)
    omega
  have c3u := n3.upto (765 - (p1 + p2 + p3)) (by omega) (by omega)
  have hab : (c3.natAbs : Int) ≤ ((765 - (p1 + p2 + p3) : Nat) : Int) * U := by omega
  obtain ⟨f, F, e4, v4, n4, n5, n6, n7⟩ := div_int (765 - (p1 + p2 + p3)) (by omega) v3 (fl_va (by omega)) (by omega)
  have hF := n7 hab
  obtain ⟨q1, q2, q3, a1, a2, a3, a4, a5, a6, a7, a8⟩ := lights v4 hF g1 g2 g3
  refine ⟨t1, t2, t3, f, q1, q2, q3, e1, e2, e3, e4, hS, a1, a2, a3, a4, a5, a6, ?_⟩
  have hkF : F * ((765 - (p1 + p2 + p3) : Nat) : Int) = 765 * F - ((p1 + p2 + p3 : Nat) : Int) * F := by rw [Int.mul_comm, show ((765 - (p1 + p2 + p3) : Nat) : Int) = 765 - ((p1 + p2 + p3 : Nat) : Int) by omega, Int.sub_mul]
  have hkD : 2 * (D : Int) * ((765 - (p1 + p2 + p3) : Nat) : Int) ≤ 1530 * D := by
    have := Int.mul_le_mul_of_nonneg_left (show ((765 - (p1 + p2 + p3) : Nat) : Int) ≤ 765 by omega) (show (0 : Int) ≤ 2 * (D : Int) by omega)
    omega
  rw [hkF] at n4 n5
  have hE : ((E : Nat) : Int) * D = 4000000 * D := rfl
  by_cases hn : F < 0
  · obtain ⟨w1, w2⟩ := a7 hn
    have s1 : 765 * F ≤ ((p1 + p2 + p3 : Nat) : Int) * F := Int.mul_le_mul_of_nonpos_right (by omega) (by omega)
    have s2 : ((p1 + p2 + p3 : Nat) : Int) * F ≤ 0 := Int.mul_nonpos_of_nonneg_of_nonpos (by omega) (by omega)
    have s3 : 764 * F ≤ ((p1 + p2 + p3 : Nat) : Int) * F := Int.mul_le_mul_of_nonpos_right (by omega) (by omega)
    constructor <;> (rw [hE]; omega)
  · obtain ⟨w1, w2⟩ := a8 (by omega)
    constructor <;> (rw [hE]; omega)
/-- Made darker, down to t. -/
theorem downTo {tg : Nat} {t b : Int} (hv : Va tg t) (h0 : 0 ≤ t) (h1 : t ≤ U) {p1 p2 p3 : Nat} (g1 : p1 ≤ 255) (g2 : p2 ≤ 255) (g3 : p3 ≤ 255) (hb : Va (Br (p1 + p2 + p3)) b) (hlt : t < b) :
    ∃ t1 t2 t3 f q1 q2 q3, double.mul tg c255 = some t1 ∧ double.mul t1 three = some t2 ∧ double.div t2 (fl (p1 + p2 + p3)) = some t3 ∧ double.sub t3 one = some f ∧ 1 ≤ p1 + p2 + p3 ∧
    lightV p1 f = some ((q1 : Nat) : Int) ∧ lightV p2 f = some ((q2 : Nat) : Int) ∧ lightV p3 f = some ((q3 : Nat) : Int) ∧ q1 ≤ 255 ∧ q2 ≤ 255 ∧ q3 ≤ 255 ∧ Held t (q1 + q2 + q3) := by
  have hDU := DU
  have hD0 := D_nn
  have hU0 := U_nn
  obtain ⟨b', hb', k1, k2, k3⟩ := br_va (p1 + p2 + p3) (by omega)
  obtain rfl := va_uniq hb' hb
  obtain ⟨t1, t2, c2, e1, e2, v2, c2a, c2b, c2l, c2g⟩ := t765 hv h0 h1
  have hS1 : ((p1 + p2 + p3 : Nat) : Int) * U ≤ 765 * U := Int.mul_le_mul_of_nonneg_right (by omega) (by omega)
  have hS : 1 ≤ p1 + p2 + p3 := by
    rcases Nat.lt_or_ge 0 (p1 + p2 + p3) with h | h
    · omega
    · exfalso
      have e : p1 + p2 + p3 = 0 := by omega
      have hb1 : Va (Br 0) 0 := by
        have : Br 0 = 0 := by decide +kernel
        rw [this]; exact zero_va
      rw [e] at hb
      have := va_uniq hb hb1
      omega
  have hS0 : (U : Int) ≤ ((p1 + p2 + p3 : Nat) : Int) * U := by
    have := Int.mul_le_mul_of_nonneg_right (show (1 : Int) ≤ ((p1 + p2 + p3 : Nat) : Int) by omega) (show (0 : Int) ≤ U by omega)
    omega
  obtain ⟨t3, F1, e3, v3, n4, n5, n6, n7⟩ := div_int (p1 + p2 + p3) (by omega) v2 (fl_va (by omega)) (by omega)
  have F1a := n6 c2a
  have hkD : 2 * (D : Int) * ((p1 + p2 + p3 : Nat) : Int) ≤ 1530 * D := by
    have := Int.mul_le_mul_of_nonneg_left (show ((p1 + p2 + p3 : Nat) : Int) ≤ 765 by omega) (show (0 : Int) ≤ 2 * (D : Int) by omega)
    omega
  have F1b : F1 ≤ 2 * U := by
    refine Int.le_of_mul_le_mul_right (?_ : _ * ((p1 + p2 + p3 : Nat) : Int) ≤ _ * ((p1 + p2 + p3 : Nat) : Int)) (show (0 : Int) < ((p1 + p2 + p3 : Nat) : Int) by omega)
    rw [Int.mul_assoc, Int.mul_comm (U : Int)]
    omega
  obtain ⟨f, F, e4, v4, n8⟩ := sub_near v3 one_va (by omega)
  have n8l := n8.le
  have n8g := n8.ge
  have n8u := n8.upto 1 (by decide) (by omega)
  have n8d := n8.down 1 (by decide) (by omega)
  obtain ⟨q1, q2, q3, a1, a2, a3, a4, a5, a6, a7, a8⟩ := lights v4 (by omega) g1 g2 g3
  refine ⟨t1, t2, t3, f, q1, q2, q3, e1, e2, e3, e4, hS, a1, a2, a3, a4, a5, a6, ?_⟩
  have hSD : ((p1 + p2 + p3 : Nat) : Int) * D ≤ 765 * D := Int.mul_le_mul_of_nonneg_right (by omega) (by omega)
  have x1 : ((p1 + p2 + p3 : Nat) : Int) * F ≤ ((p1 + p2 + p3 : Nat) : Int) * F1 - ((p1 + p2 + p3 : Nat) : Int) * U + ((p1 + p2 + p3 : Nat) : Int) * D := by
    have := Int.mul_le_mul_of_nonneg_left n8l (show (0 : Int) ≤ ((p1 + p2 + p3 : Nat) : Int) by omega)
    rw [Int.mul_add, Int.mul_sub] at this
    exact this
  have x2 : ((p1 + p2 + p3 : Nat) : Int) * F1 - ((p1 + p2 + p3 : Nat) : Int) * U ≤ ((p1 + p2 + p3 : Nat) : Int) * F + ((p1 + p2 + p3 : Nat) : Int) * D := by
    have := Int.mul_le_mul_of_nonneg_left n8g (show (0 : Int) ≤ ((p1 + p2 + p3 : Nat) : Int) by omega)
    rw [Int.mul_add, Int.mul_sub] at this
    exact this
  rw [Int.mul_comm F1] at n4 n5
  have hE : ((E : Nat) : Int) * D = 4000000 * D := rfl
  by_cases hn : F < 0
  · obtain ⟨w1, w2⟩ := a7 hn
    constructor <;> (rw [hE]; omega)
  · obtain ⟨w1, w2⟩ := a8 (by omega)
    have s1 : ((p1 + p2 + p3 : Nat) : Int) * F ≤ 765 * F := Int.mul_le_mul_of_nonneg_right (by omega) (by omega)
    have s2 : 1 * F ≤ ((p1 + p2 + p3 : Nat) : Int) * F := Int.mul_le_mul_of_nonneg_right (by omega) (by omega)
    constructor <;> (rw [hE]; omega)
/-- 0.004. -/
def c004 : Nat := 4571261708172110332
theorem c004_va : ∃ c : Int, Va c004 c ∧ 399 * (U : Int) ≤ 100000 * c ∧ c ≤ U := by
  refine ⟨((4611686018427388 * 2 ^ 1014 : Nat) : Int), va_pos ⟨4611686018427388, -60, by decide +kernel, by omega, by decide +kernel⟩, ?_, ?_⟩
  · have h : 399 * U ≤ 100000 * (4611686018427388 * 2 ^ 1014) := by unfold U; decide +kernel
    have h' := Int.ofNat_le.2 h
    rw [Int.natCast_mul, Int.natCast_mul 100000] at h'
    exact h'
  · have h : 4611686018427388 * 2 ^ 1014 ≤ U := by unfold U; decide +kernel
    exact Int.ofNat_le.2 h
theorem gt_eq {x y : Nat} {a b : Int} (hx : Va x a) (hy : Va y b) (h : b ≤ a) : (double.order x y == some .gt || double.order x y == some .eq) = true := by
  rw [order_va hx hy]
  rcases Int.lt_or_eq_of_le h with h | h
  · rw [Int.compare_eq_gt.2 h]; rfl
  · subst h; rw [Int.compare_eq_eq.2 rfl]; rfl
theorem lt_eq {x y : Nat} {a b : Int} (hx : Va x a) (hy : Va y b) (h : a ≤ b) : (double.order x y == some .lt || double.order x y == some .eq) = true := by
  rw [order_va hx hy]
  rcases Int.lt_or_eq_of_le h with h | h
  · rw [Int.compare_eq_lt.2 h]; rfl
  · subst h; rw [Int.compare_eq_eq.2 rfl]; rfl
theorem ge_of {x y : Nat} {a b : Int} (hx : Va x a) (hy : Va y b) (h : (double.order x y == some .gt || double.order x y == some .eq) = true) : b ≤ a := by
  rw [order_va hx hy] at h
  exact cmp_ge h
theorem le_of {x y : Nat} {a b : Int} (hx : Va x a) (hy : Va y b) (h : (double.order x y == some .lt || double.order x y == some .eq) = true) : a ≤ b := by
  rw [order_va hx hy] at h
  exact cmp_le h
theorem unit_va {f : Nat} (h1 : (double.order f 0 == some .gt || double.order f 0 == some .eq) = true) (h2 : (double.order f one == some .lt || double.order f one == some .eq) = true) : ∃ v, Va f v ∧ 0 ≤ v ∧ v ≤ U := by
  cases hr : double.read f with
  | nan s q => unfold Format.order at h1; rw [hr, read_zero] at h1; cases h1
  | infinity s =>
    unfold Format.order at h1 h2
    rw [hr, read_zero] at h1
    rw [hr, read_one] at h2
    cases s
    · cases h2
    · cases h1
  | number s m i =>
    have hv : Va f (if s then -((m * 2 ^ (i + 1074).toNat : Nat) : Int) else ((m * 2 ^ (i + 1074).toNat : Nat) : Int)) := ⟨s, _, sm_of hr, rfl⟩
    exact ⟨_, hv, ge_of hv zero_va h1, le_of hv one_va h2⟩
theorem isZ_va {s : Bool} {m : Nat} {i : Int} : (Datum.number s m i).isZero = true → m = 0 := by
  intro h
  unfold Datum.isZero at h
  split at h
  · rename_i h2; cases h2; rfl
  · cases h
theorem max_va {x y : Nat} {a b : Int} (hx : Va x a) (hy : Va y b) : ∃ r, Go.Extern.MathDim.pick "math.archMax" false .gt #[.float .f64 x, .float .f64 y] = pure (.float .f64 r) ∧ Va r (max a b) := by
  obtain ⟨s, m, i, h1, hi, ha⟩ := hx.datum
  obtain ⟨t, n, j, h2, hj, hb⟩ := hy.datum
  have ho := order_va hx hy
  unfold Format.order at ho
  have e1 : FloatKind.f64.decode x = .number s m i := h1
  have e2 : FloatKind.f64.decode y = .number t n j := h2
  rw [h1, h2] at ho
  refine ⟨_, rfl, ?_⟩
  simp only [e1, e2, ho]
  rw [if_neg (by simp), if_neg (by simp [Datum.isNaN])]
  split
  · rename_i hz
    rw [Bool.and_eq_true] at hz
    have hm := isZ_va hz.1
    have hn := isZ_va hz.2
    subst hm hn
    have ea : a = 0 := by rw [ha]; simp [signed]
    have eb : b = 0 := by rw [hb]; simp [signed]
    subst ea eb
    split
    · exact hx
    · exact hy
  · split
    · rename_i hg
      have hg : compare a b = .gt := by simpa using hg
      have := Int.compare_eq_gt.1 hg
      rw [Int.max_eq_left (by omega)]; exact hx
    · rename_i hg
      have hg : ¬ compare a b = .gt := by simpa using hg
      have : ¬ b < a := fun h => hg (Int.compare_eq_gt.2 h)
      rw [Int.max_eq_right (by omega)]; exact hy
theorem min_va {x y : Nat} {a b : Int} (hx : Va x a) (hy : Va y b) : ∃ r, Go.Extern.MathDim.pick "math.archMin" true .lt #[.float .f64 x, .float .f64 y] = pure (.float .f64 r) ∧ Va r (min a b) := by
  obtain ⟨s, m, i, h1, hi, ha⟩ := hx.datum
  obtain ⟨t, n, j, h2, hj, hb⟩ := hy.datum
  have ho := order_va hx hy
  unfold Format.order at ho
  have e1 : FloatKind.f64.decode x = .number s m i := h1
  have e2 : FloatKind.f64.decode y = .number t n j := h2
  rw [h1, h2] at ho
  refine ⟨_, rfl, ?_⟩
  simp only [e1, e2, ho]
  rw [if_neg (by simp), if_neg (by simp [Datum.isNaN])]
  split
  · rename_i hz
    rw [Bool.and_eq_true] at hz
    have hm := isZ_va hz.1
    have hn := isZ_va hz.2
    subst hm hn
    have ea : a = 0 := by rw [ha]; simp [signed]
    have eb : b = 0 := by rw [hb]; simp [signed]
    subst ea eb
    split
    · exact hx
    · exact hy
  · split
    · rename_i hg
      have hg : compare a b = .lt := by simpa using hg
      have := Int.compare_eq_lt.1 hg
      rw [Int.min_eq_left (by omega)]; exact hx
    · rename_i hg
      have hg : ¬ compare a b = .lt := by simpa using hg
      have : ¬ a < b := fun h => hg (Int.compare_eq_lt.2 h)
      rw [Int.min_eq_right (by omega)]; exact hy
theorem held_self {S : Nat} {b : Int} (h : S ≤ 765) (hb : Va (Br S) b) : Held b S := by
  obtain ⟨b', hb', k1, k2, k3⟩ := br_va S h
  obtain rfl := va_uniq hb' hb
  have hD0 := D_nn
  have hU0 := U_nn
  have hE : ((E : Nat) : Int) * D = 4000000 * D := rfl
  constructor <;> (rw [hE]; omega)
theorem held_tests {lo hi : Nat} {l h t : Int} (vl : Va lo l) (vh : Va hi h) (l0 : 0 ≤ l) (hlt : l ≤ t) (hth : t ≤ h) (hU : h ≤ U) {Q : Nat} (hQ : Q ≤ 765) (hH : Held t Q) :
    ∃ lo' hi', double.sub lo c004 = some lo' ∧ double.add hi c004 = some hi' ∧ (double.order (Br Q) lo' == some .gt || double.order (Br Q) lo' == some .eq) = true ∧ (double.order (Br Q) hi' == some .lt || double.order (Br Q) hi' == some .eq) = true := by
  have hDU := DU
  have hD0 := D_nn
  have hU0 := U_nn
  obtain ⟨b, hb, k1, k2, k3⟩ := br_va Q hQ
  obtain ⟨c, vc, c1, c2⟩ := c004_va
  obtain ⟨lo', l', e1, v1, n1⟩ := sub_near vl vc (by omega)
  obtain ⟨hi', h', e2, v2, n2⟩ := add_near vh vc (by omega)
  have n1l := n1.le
  have n2g := n2.ge
  have w1 := hH.le
  have w2 := hH.ge
  have hE : ((E : Nat) : Int) * D = 4000000 * D := rfl
  rw [hE] at w1 w2
  refine ⟨lo', hi', e1, e2, gt_eq hb v1 (by omega), lt_eq hb v2 (by omega)⟩
theorem sub765 : ∀ p : Nat, p ≤ 765 → double.sub 4649940226980970496 (fl p) = some (fl (765 - p)) := by decide +kernel
end Go.Proofs.YtfpmnkmclbembaaDoorIeee
