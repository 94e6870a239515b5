/- Colours and floats: Brighten as the thin package and the reference have it; the law FnColourBrighten. By walks. -/
import Derived.Test.YtfpmnkmclbembaaDoorFlt
import Derived.Test.YtfpmnkmclbembaaDoorMx1
import Derived.Test.YtfpmnkmclbembaaDoorColPure
set_option linter.unusedVariables false
set_option linter.unusedSimpArgs false
namespace Go.Proofs.YtfpmnkmclbembaaDoorFlt
open Go.RowKit Go.Proofs.YtfpmnkmclbembaaDoorW.PrintWords Go.Proofs.YtfpmnkmclbembaaDoorIeee Go.Proofs.YtfpmnkmclbembaaDoor

def unitB (f lo hi : Nat) : Bool := (Ieee.double.order f lo == some Ordering.gt || Ieee.double.order f lo == some Ordering.eq) && (Ieee.double.order f hi == some Ordering.lt || Ieee.double.order f hi == some Ordering.eq)
open Ieee in
theorem unit_good {f : Nat} (h : unitB f mone one = true) : Go.Proofs.YtfpmnkmclbembaaDoorIeee.Good f := by
  unfold unitB at h
  rw [Bool.and_eq_true] at h
  exact good_of h.1 h.2
set_option maxHeartbeats 4000000 in
theorem unit_c (fb : Int) (lo hi : Nat) (w : World) : Calls Tryd.prog 5 #[.int .u64 fb, .float .f64 lo, .float .f64 hi] w fun e w' => e = .returned (.bool (unitB fb.toNat lo hi)) ∧ w' = w := by
  have hb := run_frombits fb
  have hu : unitB fb.toNat lo hi = ((FloatKind.f64.format.order fb.toNat lo == some Ordering.gt || FloatKind.f64.format.order fb.toNat lo == some Ordering.eq) && (FloatKind.f64.format.order fb.toNat hi == some Ordering.lt || FloatKind.f64.format.order fb.toNat hi == some Ordering.eq)) := rfl
  have hu' := Aside0.mk hu
  clear hu
  go_enter Tryd.func5, Tryd.ntmps5
  go_wp2_with fail
  all_goals go_ret
  all_goals exact ⟨by rw [hu'.out]; simp_all, rfl⟩
theorem plain_c (c : Int) (w : World) : Calls Tryd.prog 4 #[.int .i32 c] w fun e w' => e = .returned (.bool (decide (1 ≤ c) && decide (c ≤ 16777216))) ∧ Drawn0 w w' := by
  refine M.laws_plain.calls c _ w ?_
  unfold M.laws_plain.f
  by_cases h : c ≥ 1
  · rw [if_pos h, decide_eq_true (show 1 ≤ c from h), Bool.true_and]
  · rw [if_neg h, decide_eq_false (show ¬ 1 ≤ c from h), Bool.false_and]
theorem nc_wrap (m : Nat) (h : m < 2147483647) : wrap32 ((m : Int) + 1) = ((m + 1 : Nat) : Int) := by unfold wrap32; omega
theorem coloured_c (w : World) (hV : Go.Proofs.YtfpmnkmclbembaaDoorFmt.VarsOK w) : Calls Tryd.prog 10 #[] w fun e w' => e = .returned (.bool true) ∧ Below w.heap.size w w' := M.laws_coloured.calls true w hV ColPure.coloured_f
theorem lit3 (f : Nat) (hf : Go.Proofs.YtfpmnkmclbembaaDoorIeee.Good f) (n : Nat) (hn : n < 16777216) : ∃ q1 q2 q3, Lit3 f (n / 65536) (n / 256 % 256) (n % 256) q1 q2 q3 ∧ (neg0 f = true → q1 ≤ n / 65536 ∧ q2 ≤ n / 256 % 256 ∧ q3 ≤ n % 256) ∧ (neg0 f = false → n / 65536 ≤ q1 ∧ n / 256 % 256 ≤ q2 ∧ n % 256 ≤ q3) := by
  have b1 : n / 65536 ≤ 255 := by omega
  have b2 : n / 256 % 256 ≤ 255 := by omega
  have b3 : n % 256 ≤ 255 := by omega
  obtain ⟨q1, a1, a2, a3, a4⟩ := light_ok hf b1
  obtain ⟨q2, c1, c2, c3, c4⟩ := light_ok hf b2
  obtain ⟨q3, d1, d2, d3, d4⟩ := light_ok hf b3
  exact ⟨q1, q2, q3, ⟨a1, c1, d1, b1, b2, b3, a2, c2, d2⟩, fun h => ⟨a3 h, c3 h, d3 h⟩, fun h => ⟨a4 h, c4 h, d4 h⟩⟩
end Go.Proofs.YtfpmnkmclbembaaDoorFlt
