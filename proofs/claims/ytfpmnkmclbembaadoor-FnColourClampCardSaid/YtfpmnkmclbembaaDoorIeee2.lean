/- Plain laws on doubles: what is read of a word, sums and products within bounds, cut to a whole number. No program in sight. -/
import Derived.Test.YtfpmnkmclbembaaDoorIeee
set_option linter.unusedVariables false
set_option linter.unusedSimpArgs false
set_option exponentiation.threshold 3000
namespace Go.Proofs.YtfpmnkmclbembaaDoorIeee
open Ieee

def Vr (r : Nat) : Nat := if r < 2 ^ 52 then r else (2 ^ 52 + r % 2 ^ 52) * 2 ^ (r / 2 ^ 52 - 1)
theorem Vr_step (r : Nat) : Vr r ≤ Vr (r + 1) := by
  unfold Vr
  rcases Nat.lt_or_ge (r + 1) (2 ^ 52) with h | h
  · rw [if_pos h, if_pos (by omega)]; omega
  · rcases Nat.lt_or_ge r (2 ^ 52) with h' | h'
    · obtain rfl : r = 2 ^ 52 - 1 := by omega
      decide
    · rw [if_neg (by omega), if_neg (by omega)]
      rcases Nat.lt_or_ge (r % 2 ^ 52 + 1) (2 ^ 52) with h2 | h2
      · have e1 : (r + 1) % 2 ^ 52 = r % 2 ^ 52 + 1 := by omega
        have e2 : (r + 1) / 2 ^ 52 = r / 2 ^ 52 := by omega
        rw [e1, e2]
        exact Nat.mul_le_mul_right _ (by omega)
      · have e1 : (r + 1) % 2 ^ 52 = 0 := by omega
        have e2 : (r + 1) / 2 ^ 52 - 1 = (r / 2 ^ 52 - 1) + 1 := by omega
        rw [e1, e2]
        have h3 : r % 2 ^ 52 < 2 ^ 52 := Nat.mod_lt _ (by decide)
        generalize r % 2 ^ 52 = q at h3
        generalize r / 2 ^ 52 - 1 = k
        have e3 : 2 ^ (k + 1) = 2 * 2 ^ k := by rw [Nat.pow_succ, Nat.mul_comm]
        rw [e3, ← Nat.mul_assoc]
        exact Nat.mul_le_mul_right _ (by omega)
theorem Vr_mono {a b : Nat} (h : a ≤ b) : Vr a ≤ Vr b := by
  induction h with
  | refl => exact Nat.le_refl _
  | step _ ih => exact Nat.le_trans ih (Vr_step _)
/-- The word x stands for the number V / 2^1074, with the sign s. -/
def Sm (x : Nat) (s : Bool) (V : Nat) : Prop := ∃ m i, double.read x = .number s m i ∧ -1074 ≤ i ∧ m * 2 ^ (i + 1074).toNat = V
theorem read_rung {r : Nat} (h : r < top) : Sm r false (Vr r) := by
  have h63 : r < 2 ^ 63 := Nat.lt_trans h (by decide)
  have hs : double.signWeight = 2 ^ 63 := rfl
  have hb : double.binade = 2 ^ 52 := rfl
  have hi : double.infRung = top := rfl
  have hl : double.leastPlace = -1074 := by decide
  have hneg : (r / double.signWeight % 2 == 1) = false := by rw [hs, Nat.div_eq_of_lt h63]; rfl
  have hm : r % double.signWeight = r := by rw [hs]; exact Nat.mod_eq_of_lt h63
  unfold Sm Format.read Vr
  simp only [hneg, hm, hb, hi, hl]
  by_cases h1 : r < 2 ^ 52
  · rw [if_pos h1, if_pos h1]
    exact ⟨_, _, rfl, by omega, by simp⟩
  · rw [if_neg h1, if_pos h, if_neg h1]
    refine ⟨_, _, rfl, by omega, ?_⟩
    congr 2
    omega
def fl (n : Nat) : Nat := rg n 0
theorem fl_top : ∀ n : Nat, n ≤ 1000 → fl n < top := by decide +kernel
theorem fl_val : ∀ n : Nat, n ≤ 1000 → Vr (fl n) = n * 2 ^ 1074 := by decide +kernel
theorem fl_sm {n : Nat} (h : n ≤ 1000) : Sm (fl n) false (n * 2 ^ 1074) := by rw [← fl_val n h]; exact read_rung (fl_top n h)
theorem small_le {z K : Nat} (hK : K ≤ 1000) (h : z ≤ fl K) : Sm z false (Vr z) ∧ Vr z ≤ K * 2 ^ 1074 :=
  ⟨read_rung (Nat.lt_of_le_of_lt h (fl_top K hK)), by rw [← fl_val K hK]; exact Vr_mono h⟩
theorem small_ge {z L : Nat} (hL : L ≤ 1000) (h : fl L ≤ z) : L * 2 ^ 1074 ≤ Vr z := by rw [← fl_val L hL]; exact Vr_mono h
theorem rg_le_fl {m K b : Nat} {p : Int} (h1 : -(b : Int) ≤ p) (h : m * 2 ^ (p + b).toNat ≤ K * 2 ^ b) : rg m p ≤ fl K := by
  refine rg_le (b := -(b : Int)) h1 (by omega) ?_
  rw [show (p - -(b : Int)).toNat = (p + b).toNat by omega, show ((0 : Int) - -(b : Int)).toNat = b by omega]
  exact h
theorem fl_le_rg {m L b : Nat} {p : Int} (h1 : -(b : Int) ≤ p) (h : L * 2 ^ b ≤ m * 2 ^ (p + b).toNat) : fl L ≤ rg m p := by
  refine rg_le (b := -(b : Int)) (by omega) h1 ?_
  rw [show (p - -(b : Int)).toNat = (p + b).toNat by omega, show ((0 : Int) - -(b : Int)).toNat = b by omega]
  exact h
theorem write_eq (s : Bool) (m : Nat) (p : Int) : double.write (.number s m p) = double.word s (min (rg m p) top) := nearest_eq s m p
theorem word_false (r : Nat) : double.word false r = r := rfl
theorem mul_le {m n X Y K : Nat} {i j : Int} (hi : -1074 ≤ i) (hj : -1074 ≤ j) (S : Nat) (hS : S = 2148) (h1 : m * 2 ^ (i + 1074).toNat = X) (h2 : n * 2 ^ (j + 1074).toNat = Y) (hK : X * Y ≤ K * 2 ^ S) : rg (m * n) (i + j) ≤ fl K := by
  have e1 : -(S : Int) ≤ i + j := by clear h1 h2 hK; omega
  have e2 : (i + j + (S : Int)).toNat = (i + 1074).toNat + (j + 1074).toNat := by clear h1 h2 hK; omega
  refine rg_le_fl (b := S) e1 (Nat.le_trans (Nat.le_of_eq ?_) hK)
  rw [e2, Nat.pow_add, ← h1, ← h2]
  rw [Nat.mul_assoc, Nat.mul_assoc, ← Nat.mul_assoc n, ← Nat.mul_assoc (2 ^ (i + 1074).toNat), Nat.mul_comm n, Nat.mul_assoc]
theorem mul_eq {x y m n : Nat} {i j : Int} (rx : double.read x = .number false m i) (ry : double.read y = .number false n j) : double.mul x y = some (min (rg (m * n) (i + j)) top) := by
  unfold Format.mul
  rw [rx, ry]
  show some (double.write (.number false (m * n) (i + j))) = _
  rw [write_eq, word_false]
theorem mul_sm {x y X Y : Nat} (hx : Sm x false X) (hy : Sm y false Y) : ∃ z, double.mul x y = some z ∧ ∀ S K, S = 2148 → X * Y ≤ K * 2 ^ S → z ≤ fl K := by
  obtain ⟨m, i, rx, hi, h1⟩ := hx
  obtain ⟨n, j, ry, hj, h2⟩ := hy
  exact ⟨_, mul_eq rx ry, fun S K hS hK => Nat.le_trans (Nat.min_le_left _ _) (mul_le hi hj S hS h1 h2 hK)⟩
theorem mul_zero {x y X : Nat} (hx : Sm x false X) (hy : Sm y true 0) : double.mul x y = some (2 ^ 63) := by
  obtain ⟨m, i, rx, hi, rfl⟩ := hx
  obtain ⟨n, j, ry, hj, h0⟩ := hy
  have hn : n = 0 := by
    rcases Nat.mul_eq_zero.1 h0 with h | h
    · exact h
    · exact absurd h (Nat.pos_iff_ne_zero.1 (Nat.two_pow_pos _))
  subst hn
  unfold Format.mul
  rw [rx, ry]
  show some (double.write (.number true (m * 0) (i + j))) = _
  have h0' : rg 0 (i + j) = 0 := by unfold rg; rw [if_pos rfl]
  rw [write_eq, Nat.mul_zero, h0', Nat.zero_min]
  rfl
theorem negZero : Sm (2 ^ 63) true 0 := ⟨0, -1074, by decide +kernel, by omega, by simp⟩
/-- A sum that is not below 0. -/
theorem add_sm {x y X Y : Nat} {s : Bool} (hx : Sm x s X) (hy : Sm y false Y) (hle : s = true → X ≤ Y) :
    ∃ z, double.add x y = some z ∧ (∀ K, (if s then Y - X else X + Y) ≤ K * 2 ^ 1074 → z ≤ fl K) ∧ (∀ L, L ≤ 1000 → L * 2 ^ 1074 ≤ (if s then Y - X else X + Y) → fl L ≤ z) := by
  obtain ⟨m, i, rx, hi, rfl⟩ := hx
  obtain ⟨n, j, ry, hj, rfl⟩ := hy
  have hb1 : min i j ≤ i := Int.min_le_left _ _
  have hb2 : min i j ≤ j := Int.min_le_right _ _
  have hb0 : -1074 ≤ min i j := by omega
  generalize hb : min i j = b at hb1 hb2 hb0
  have e1 : m * 2 ^ (i + 1074).toNat = m * 2 ^ (i - b).toNat * 2 ^ (b + 1074).toNat := by
    rw [Nat.mul_assoc, ← Nat.pow_add]; congr 2; omega
  have e2 : n * 2 ^ (j + 1074).toNat = n * 2 ^ (j - b).toNat * 2 ^ (b + 1074).toNat := by
    rw [Nat.mul_assoc, ← Nat.pow_add]; congr 2; omega
  obtain ⟨T, hT, hV⟩ : ∃ T : Nat, double.add x y = some (min (rg T b) top) ∧ T * 2 ^ (b + 1074).toNat = (if s then n * 2 ^ (j + 1074).toNat - m * 2 ^ (i + 1074).toNat else m * 2 ^ (i + 1074).toNat + n * 2 ^ (j + 1074).toNat) := by
    cases s with
    | false =>
      refine ⟨m * 2 ^ (i - b).toNat + n * 2 ^ (j - b).toNat, ?_, ?_⟩
      · unfold Format.add
        rw [rx, ry]
        unfold Datum.sum
        simp only [hb, signed, Nat.shiftLeft_eq]
        show some (double.write (.number (if (((m * 2 ^ (i - b).toNat : Nat) : Int) + ((n * 2 ^ (j - b).toNat : Nat) : Int)) = 0 then false else decide ((((m * 2 ^ (i - b).toNat : Nat) : Int) + ((n * 2 ^ (j - b).toNat : Nat) : Int)) < 0)) (((m * 2 ^ (i - b).toNat : Nat) : Int) + ((n * 2 ^ (j - b).toNat : Nat) : Int)).natAbs b)) = _
        have hs : (if (((m * 2 ^ (i - b).toNat : Nat) : Int) + ((n * 2 ^ (j - b).toNat : Nat) : Int)) = 0 then false else decide ((((m * 2 ^ (i - b).toNat : Nat) : Int) + ((n * 2 ^ (j - b).toNat : Nat) : Int)) < 0)) = false := by
          split
          · rfl
          · exact decide_eq_false (by omega)
        rw [hs, write_eq, word_false]
        congr 3
      · rw [Nat.add_mul, ← e1, ← e2]; rfl
    | true =>
      have hle' := hle rfl
      rw [e1, e2] at hle'
      have hmn : m * 2 ^ (i - b).toNat ≤ n * 2 ^ (j - b).toNat := Nat.le_of_mul_le_mul_right hle' (Nat.two_pow_pos _)
      refine ⟨n * 2 ^ (j - b).toNat - m * 2 ^ (i - b).toNat, ?_, ?_⟩
      · unfold Format.add
        rw [rx, ry]
        unfold Datum.sum
        simp only [hb, signed, Nat.shiftLeft_eq]
        show some (double.write (.number (if (-((m * 2 ^ (i - b).toNat : Nat) : Int) + ((n * 2 ^ (j - b).toNat : Nat) : Int)) = 0 then false else decide ((-((m * 2 ^ (i - b).toNat : Nat) : Int) + ((n * 2 ^ (j - b).toNat : Nat) : Int)) < 0)) (-((m * 2 ^ (i - b).toNat : Nat) : Int) + ((n * 2 ^ (j - b).toNat : Nat) : Int)).natAbs b)) = _
        have hs : (if (-((m * 2 ^ (i - b).toNat : Nat) : Int) + ((n * 2 ^ (j - b).toNat : Nat) : Int)) = 0 then false else decide ((-((m * 2 ^ (i - b).toNat : Nat) : Int) + ((n * 2 ^ (j - b).toNat : Nat) : Int)) < 0)) = false := by
          split
          · rfl
          · exact decide_eq_false (by omega)
        rw [hs, write_eq, word_false]
        congr 3
        omega
      · rw [Nat.sub_mul, ← e1, ← e2]; rfl
  refine ⟨_, hT, fun K hK => ?_, fun L hL hLe => ?_⟩
  · refine Nat.le_trans (Nat.min_le_left _ _) (rg_le_fl (b := 1074) (by omega) ?_)
    exact Nat.le_trans (Nat.le_of_eq hV) hK
  · refine Nat.le_min.2 ⟨fl_le_rg (b := 1074) (by omega) ?_, Nat.le_of_lt (fl_top L hL)⟩
    exact Nat.le_trans hLe (Nat.le_of_eq hV.symm)
theorem cut_zero (neg : Bool) (n d : Nat) : Toward.zero.cut neg n d = n / 2 ^ d := by
  unfold Toward.cut
  simp only [Nat.one_shiftLeft, Bool.toNat_false, Nat.add_zero]
  rcases Nat.lt_or_ge (n.log2 + 2) d with hd | hd
  · rw [Nat.min_eq_right (by omega)]
    have h1 : n < 2 ^ (n.log2 + 1) := Nat.lt_log2_self
    have h2 : 2 ^ (n.log2 + 1) ≤ 2 ^ (n.log2 + 2) := Nat.pow_le_pow_right (by omega) (by omega)
    have h3 : 2 ^ (n.log2 + 2) ≤ 2 ^ d := Nat.pow_le_pow_right (by omega) (by omega)
    rw [Nat.div_eq_of_lt (by omega), Nat.div_eq_of_lt (by omega)]
  · rw [Nat.min_eq_left hd]
/-- A number below 256, cut to a byte. -/
theorem to_byte {z Z : Nat} (hz : Sm z false Z) (hZ : Z < 256 * 2 ^ 1074) : floatToIntVal .f64 z .u8 = some ((Z / 2 ^ 1074 : Nat) : Int) := by
  obtain ⟨m, i, rz, hi, rfl⟩ := hz
  have e : (m * 2 ^ i.toNat) / 2 ^ (-i).toNat = m * 2 ^ (i + 1074).toNat / 2 ^ 1074 := by
    have h1 : (m * 2 ^ i.toNat) * 2 ^ 1074 = m * 2 ^ (i + 1074).toNat * 2 ^ (-i).toNat := by
      rw [Nat.mul_assoc, Nat.mul_assoc, ← Nat.pow_add, ← Nat.pow_add]; congr 2; omega
    rw [← Nat.mul_div_mul_right (m * 2 ^ i.toNat) (2 ^ (-i).toNat) (Nat.two_pow_pos 1074), h1, Nat.mul_comm (2 ^ (-i).toNat) (2 ^ 1074), Nat.mul_div_mul_right _ _ (Nat.two_pow_pos _)]
  have ht : (FloatKind.f64.decode z).toInt .zero = some ((m * 2 ^ (i + 1074).toNat / 2 ^ 1074 : Nat) : Int) := by
    show (double.read z).toInt .zero = _
    rw [rz]
    unfold Datum.toInt Datum.integral
    simp only [cut_zero, Nat.shiftLeft_eq, signed, e]
    simp
  unfold floatToIntVal
  rw [ht]
  simp only
  rw [if_pos]
  refine ⟨Int.natCast_nonneg _, ?_⟩
  have : m * 2 ^ (i + 1074).toNat / 2 ^ 1074 < 256 := (Nat.div_lt_iff_lt_mul (Nat.two_pow_pos _)).2 hZ
  show ((m * 2 ^ (i + 1074).toNat / 2 ^ 1074 : Nat) : Int) ≤ 255
  omega
end Go.Proofs.YtfpmnkmclbembaaDoorIeee
