/- Plain laws: brightness rises strictly, from 0 to 1. No program in sight. -/
import Derived.Test.YtohlppcboiiaaaaDoorTurn
import Derived.Test.YtohlppcboiiaaaaDoorSqrt
set_option linter.unusedVariables false
set_option linter.unusedSimpArgs false
set_option exponentiation.threshold 3000
namespace Go.Proofs.YtohlppcboiiaaaaDoorIeee
open Ieee
theorem Vr_lt (r : Nat) : Vr r < Vr (r + 1) := by
  unfold Vr
  rcases Nat.lt_or_ge (r + 1) (2 ^ 52) with h | h
  · rw [if_pos h, if_pos (by omega)]; omega
  · rcases Nat.lt_or_ge r (2 ^ 52) with h' | h'
    · obtain rfl : r = 2 ^ 52 - 1 := by omega
      decide
    · rw [if_neg (by omega), if_neg (by omega)]
      rcases Nat.lt_or_ge (r % 2 ^ 52 + 1) (2 ^ 52) with h2 | h2
      · have e1 : (r + 1) % 2 ^ 52 = r % 2 ^ 52 + 1 := by omega
        have e2 : (r + 1) / 2 ^ 52 = r / 2 ^ 52 := by omega
        rw [e1, e2]
        exact (Nat.mul_lt_mul_right (Nat.two_pow_pos _)).2 (by omega)
      · have e1 : (r + 1) % 2 ^ 52 = 0 := by omega
        have e2 : (r + 1) / 2 ^ 52 - 1 = (r / 2 ^ 52 - 1) + 1 := by omega
        rw [e1, e2]
        have h3 : r % 2 ^ 52 < 2 ^ 52 := Nat.mod_lt _ (by decide)
        generalize r % 2 ^ 52 = q at h3
        generalize r / 2 ^ 52 - 1 = k
        have e3 : 2 ^ (k + 1) = 2 * 2 ^ k := by rw [Nat.pow_succ, Nat.mul_comm]
        rw [e3, ← Nat.mul_assoc]
        exact (Nat.mul_lt_mul_right (Nat.two_pow_pos _)).2 (by omega)
theorem Vr_strict {a b : Nat} (h : a < b) : Vr a < Vr b := Nat.lt_of_lt_of_le (Vr_lt a) (Vr_mono h)
theorem ord_lt {x y : Nat} (hx : x < y) (hy : y < top) : double.order x y = some Ordering.lt := by
  obtain ⟨m, i, rx, hi, hX⟩ := read_rung (Nat.lt_trans hx hy)
  obtain ⟨n, j, ry, hj, hY⟩ := read_rung hy
  have h := Vr_strict hx
  have hb1 : min i j ≤ i := Int.min_le_left _ _
  have hb2 : min i j ≤ j := Int.min_le_right _ _
  have hb0 : -1074 ≤ min i j := by clear hX hY h; omega
  have key : m * 2 ^ (i - min i j).toNat < n * 2 ^ (j - min i j).toNat := by
    generalize min i j = b at hb1 hb2 hb0
    have e1 : m * 2 ^ (i - b).toNat * 2 ^ (b + 1074).toNat = Vr x := by
      rw [← hX, Nat.mul_assoc, ← Nat.pow_add, show (i - b).toNat + (b + 1074).toNat = (i + 1074).toNat by clear hX hY h; omega]
    have e2 : n * 2 ^ (j - b).toNat * 2 ^ (b + 1074).toNat = Vr y := by
      rw [← hY, Nat.mul_assoc, ← Nat.pow_add, show (j - b).toNat + (b + 1074).toNat = (j + 1074).toNat by clear hX hY h e1; omega]
    exact Nat.lt_of_mul_lt_mul_right (a := 2 ^ (b + 1074).toNat) (by rw [e1, e2]; exact h)
  unfold Format.order
  rw [rx, ry]
  unfold Datum.order
  simp only [signed, Nat.shiftLeft_eq]
  have := Int.compare_eq_lt.2 (show ((m * 2 ^ (i - min i j).toNat : Nat) : Int) < ((n * 2 ^ (j - min i j).toNat : Nat) : Int) by omega)
  exact congrArg some this
theorem br_step : ∀ s : Nat, s < 765 → Br s < Br (s + 1) := by decide +kernel
theorem br_zero : Br 0 = 0 := by decide +kernel
theorem br_one : Br 765 = 4607182418800017408 := by decide +kernel
theorem br_lt {s t : Nat} (h : s < t) (ht : t ≤ 765) : Br s < Br t := by
  induction t with
  | zero => omega
  | succ t ih =>
    rcases Nat.lt_or_eq_of_le (Nat.le_of_lt_succ h) with h1 | h1
    · exact Nat.lt_trans (ih h1 (by omega)) (br_step t (by omega))
    · subst h1; exact br_step s (by omega)
theorem br_top {s : Nat} (h : s ≤ 765) : Br s < top := by
  have : Br s ≤ Br 765 := by
    rcases Nat.lt_or_eq_of_le h with h1 | h1
    · exact Nat.le_of_lt (br_lt h1 (Nat.le_refl _))
    · rw [h1]; exact Nat.le_refl _
  rw [br_one] at this
  exact Nat.lt_of_le_of_lt this (by decide)
theorem br_ord {s t : Nat} (h : s < t) (ht : t ≤ 765) : double.order (Br s) (Br t) = some Ordering.lt := ord_lt (br_lt h ht) (br_top ht)
theorem br_unit {s : Nat} (h : s ≤ 765) : (double.order (Br s) 0 == some Ordering.gt || double.order (Br s) 0 == some Ordering.eq) = true ∧ (double.order (Br s) 4607182418800017408 == some Ordering.lt || double.order (Br s) 4607182418800017408 == some Ordering.eq) = true := by
  have hs := read_rung (br_top h)
  have h0 : Sm 0 false 0 := ⟨0, -1074, read_zero, by omega, by simp⟩
  have h1 : Sm (Br 765) false (Vr (Br 765)) := read_rung (br_top (Nat.le_refl _))
  have hle : Vr (Br s) ≤ Vr (Br 765) := by
    rcases Nat.lt_or_eq_of_le h with h2 | h2
    · exact Vr_mono (Nat.le_of_lt (br_lt h2 (Nat.le_refl _)))
    · rw [h2]; exact Nat.le_refl _
  rw [br_one] at h1 hle
  exact ⟨(ord_le h0 hs (Nat.zero_le _)).2, (ord_le hs h1 hle).1⟩
end Go.Proofs.YtohlppcboiiaaaaDoorIeee
