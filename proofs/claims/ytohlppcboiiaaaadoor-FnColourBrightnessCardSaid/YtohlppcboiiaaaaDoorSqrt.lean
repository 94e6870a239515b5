/- Plain laws on the square root of a whole number as a double. No program in sight. -/
import Derived.Test.YtohlppcboiiaaaaDoorLight
set_option linter.unusedVariables false
set_option linter.unusedSimpArgs false
set_option exponentiation.threshold 3000
namespace Go.Proofs.YtohlppcboiiaaaaDoorIeee
open Ieee
theorem root_inv (n : Nat) : ∀ (t r : Nat), r * r ≤ n → n < (r + 2 ^ t) * (r + 2 ^ t) → Datum.rootFrom n t r * Datum.rootFrom n t r ≤ n ∧ n < (Datum.rootFrom n t r + 1) * (Datum.rootFrom n t r + 1)
  | 0, r, h1, h2 => ⟨h1, h2⟩
  | t + 1, r, h1, h2 => by
    unfold Datum.rootFrom
    simp only [Nat.one_shiftLeft]
    by_cases h : (r + 2 ^ t) * (r + 2 ^ t) ≤ n
    · rw [if_pos h]
      refine root_inv n t (r + 2 ^ t) h ?_
      have e : r + 2 ^ (t + 1) = r + 2 ^ t + 2 ^ t := by rw [Nat.pow_succ]; omega
      rw [← e]; exact h2
    · rw [if_neg h]
      exact root_inv n t r h1 (by omega)
theorem root_ok (n : Nat) : (Datum.rootFrom n (n.log2 / 2 + 1) 0) * (Datum.rootFrom n (n.log2 / 2 + 1) 0) ≤ n ∧ n < (Datum.rootFrom n (n.log2 / 2 + 1) 0 + 1) * (Datum.rootFrom n (n.log2 / 2 + 1) 0 + 1) := by
  refine root_inv n _ 0 (by omega) ?_
  rw [Nat.zero_add, ← Nat.pow_add]
  exact Nat.lt_of_lt_of_le Nat.lt_log2_self (Nat.pow_le_pow_right (by omega) (by omega))
theorem read_small {x m : Nat} {s : Bool} {i : Int} (h : double.read x = .number s m i) : m < 2 ^ 53 := by
  have hb : double.binade = 2 ^ 52 := rfl
  unfold Format.read at h
  simp only [hb] at h
  split at h
  · rename_i h1; cases h; exact Nat.lt_trans h1 (by decide)
  · split at h
    · cases h
      have : x % double.signWeight % 2 ^ 52 < 2 ^ 52 := Nat.mod_lt _ (by decide)
      have e : (2 : Nat) ^ 53 = 2 ^ 52 + 2 ^ 52 := by decide
      omega
    · split at h <;> cases h
/-- The root of a number from 0 to 765 * 765 is one from 0 to 1000. -/
theorem sqrt_sm {x N : Nat} (hx : Sm x false (N * 2 ^ 1074)) (hN : N ≤ 765 * 765) : ∃ z, double.sqrt x = some z ∧ z ≤ fl 1000 := by
  obtain ⟨m, i, hr, hi, hV⟩ := hx
  have hm53 := read_small hr
  by_cases h0 : m = 0
  · subst h0
    refine ⟨min (rg 0 i) top, ?_, ?_⟩
    · unfold Format.sqrt
      rw [hr]
      show some (double.write (.number false 0 i)) = _
      rw [write_eq, word_false]
    · have : rg 0 i = 0 := by unfold rg; rw [if_pos rfl]
      rw [this, Nat.zero_min]; exact Nat.zero_le _
  · have hl : m.log2 < 53 := (Nat.log2_lt h0).2 hm53
    obtain ⟨k, hk, hk1, hk2⟩ : ∃ k : Nat, 2 * (double.fractionBits + 2) - m.log2 + ((i - ((2 * (double.fractionBits + 2) - m.log2 : Nat) : Int)) % 2).toNat = k ∧ 2 ≤ m.log2 + k ∧ (i - (k : Int)) % 2 = 0 := by
      refine ⟨_, rfl, ?_, ?_⟩
      · have : double.fractionBits = 52 := rfl
        omega
      · have : double.fractionBits = 52 := rfl
        omega
    obtain ⟨hw1, hw2⟩ := root_ok (m <<< k)
    generalize hw : Datum.rootFrom (m <<< k) ((m <<< k).log2 / 2 + 1) 0 = w at hw1 hw2
    have hs : double.sqrt x = some (double.write (.number false (2 * w + (w * w != m <<< k).toNat) ((i - (k : Int)) / 2 - 1))) := by
      unfold Format.sqrt
      rw [hr]
      unfold Datum.root
      dsimp only
      rw [if_neg h0, if_neg (by decide)]
      simp only [hk, hw]
      rfl
    have hd : (w * w != m <<< k).toNat ≤ 1 := Bool.toNat_le _
    generalize (w * w != m <<< k).toNat = d at hs hd
    refine ⟨min (rg (2 * w + d) ((i - (k : Int)) / 2 - 1)) top, ?_, ?_⟩
    · rw [hs, write_eq, word_false]
    · refine Nat.le_trans (Nat.min_le_left _ _) ?_
      rw [Nat.shiftLeft_eq] at hw1 hw2
      have hge : 4 ≤ m * 2 ^ k := by
        have a1 := Nat.log2_self_le h0
        have a2 : 2 ^ m.log2 * 2 ^ k ≤ m * 2 ^ k := Nat.mul_le_mul_right _ a1
        rw [← Nat.pow_add] at a2
        have a3 : 2 ^ 2 ≤ 2 ^ (m.log2 + k) := Nat.pow_le_pow_right (by omega) hk1
        omega
      have hw0 : 2 ≤ w := by
        rcases Nat.lt_or_ge w 2 with h | h
        · exfalso
          have : (w + 1) * (w + 1) ≤ 2 * 2 := Nat.mul_le_mul (by omega) (by omega)
          omega
        · exact h
      obtain ⟨e, he⟩ : ∃ e : Int, i - (k : Int) = 2 * e := ⟨(i - k) / 2, by omega⟩
      have he2 : (i - (k : Int)) / 2 - 1 = e - 1 := by omega
      rw [he2]
      have hkk : k ≤ 120 := by
        have : double.fractionBits = 52 := rfl
        omega
      obtain ⟨b, hb⟩ : ∃ b : Nat, b = 4000 := ⟨_, rfl⟩
      have g1 : -(b : Int) ≤ e - 1 := by clear hw1 hw2 hV hge hN hm53; omega
      obtain ⟨t, ht⟩ : ∃ t : Nat, (e - 1 + (b : Int)).toNat = t := ⟨_, rfl⟩
      have ht2 : k + (2 * t + 2) = (i + 1074).toNat + (2 * b - 1074) := by clear hw1 hw2 hV hge hN hm53; omega
      have hb2 : 1074 + (2 * b - 1074) = b + b := by clear hw1 hw2 hV hge hN hm53; omega
      clear hb
      have hX : (w * 2 ^ (t + 1)) * (w * 2 ^ (t + 1)) ≤ (765 * 2 ^ b) * (765 * 2 ^ b) := by
        have s1 : (w * 2 ^ (t + 1)) * (w * 2 ^ (t + 1)) = w * w * 2 ^ (2 * t + 2) := by
          generalize hq : t + 1 = q
          rw [show 2 * t + 2 = q + q by omega, Nat.pow_add 2 q q, Nat.mul_mul_mul_comm]
        have s2 : w * w * 2 ^ (2 * t + 2) ≤ m * 2 ^ k * 2 ^ (2 * t + 2) := Nat.mul_le_mul_right _ hw1
        have s3 : m * 2 ^ k * 2 ^ (2 * t + 2) = N * 2 ^ (b + b) := by
          rw [Nat.mul_assoc, ← Nat.pow_add, ht2, Nat.pow_add, ← Nat.mul_assoc, hV, Nat.mul_assoc, ← Nat.pow_add, hb2]
        have s4 : N * 2 ^ (b + b) ≤ 765 * 765 * 2 ^ (b + b) := Nat.mul_le_mul_right _ hN
        have s5 : 765 * 2 ^ b * (765 * 2 ^ b) = 765 * 765 * 2 ^ (b + b) := by rw [Nat.mul_mul_mul_comm, ← Nat.pow_add]
        rw [s1, s5]
        exact Nat.le_trans s2 (Nat.le_trans (Nat.le_of_eq s3) s4)
      have hX1 : w * 2 ^ (t + 1) ≤ 765 * 2 ^ b := Nat.mul_self_le_mul_self_iff.1 hX
      refine rg_le_fl (b := b) g1 ?_
      rw [ht]
      have p1 : 2 ^ (t + 1) = 2 * 2 ^ t := by rw [Nat.pow_succ, Nat.mul_comm]
      have q1 : (2 * w + d) * 2 ≤ 5 * w := by omega
      have q2 : (2 * w + d) * 2 * 2 ^ (t + 1) ≤ 5 * w * 2 ^ (t + 1) := Nat.mul_le_mul_right _ q1
      have q3 : 5 * w * 2 ^ (t + 1) = 5 * (w * 2 ^ (t + 1)) := Nat.mul_assoc _ _ _
      have q4 : (2 * w + d) * 2 * 2 ^ (t + 1) = 4 * ((2 * w + d) * 2 ^ t) := by
        rw [p1]
        generalize 2 * w + d = y
        generalize 2 ^ t = z
        have c1 : y * 2 * (2 * z) = y * (2 * (2 * z)) := Nat.mul_assoc _ _ _
        have c2 : 2 * (2 * z) = z * 4 := by omega
        have c3 : y * (z * 4) = y * z * 4 := (Nat.mul_assoc _ _ _).symm
        rw [c1, c2, c3, Nat.mul_comm]
      generalize 2 ^ b = U at hX1 ⊢
      generalize (2 * w + d) * 2 ^ t = Y at q4 ⊢
      generalize w * 2 ^ (t + 1) = Z at hX1 q3
      omega
/-- A whole number below 2^53 as a double. -/
theorem int_sm {N : Nat} (h : N < 2 ^ 53) : floatOfInt .f64 (N : Int) < top ∧ Sm (floatOfInt .f64 (N : Int)) false (N * 2 ^ 1074) := by
  have hf : floatOfInt .f64 (N : Int) = min (rg N 0) top := by
    show double.write (.number (decide ((N : Int) < 0)) (N : Int).natAbs 0) = _
    rw [decide_eq_false (by omega), write_eq, word_false, Int.natAbs_natCast]
  rw [hf]
  by_cases h0 : N = 0
  · subst h0
    have : rg 0 0 = 0 := by unfold rg; rw [if_pos rfl]
    rw [this, Nat.zero_min, Nat.zero_mul]
    exact ⟨by decide, ⟨0, -1074, by decide +kernel, by omega, by simp⟩⟩
  · have hl : N.log2 < 53 := (Nat.log2_lt h0).2 h
    obtain ⟨l, hl'⟩ : ∃ l, N.log2 = l := ⟨_, rfl⟩
    have a1 := Nat.log2_self_le h0
    have a2 : N < 2 ^ (N.log2 + 1) := Nat.lt_log2_self
    rw [hl'] at hl a1 a2
    have hlast : lastP 0 l = (l : Int) - 52 := by unfold lastP; omega
    have r1 : ∀ n, rhe n 1 = n := by
      intro n; unfold rhe; rw [Nat.div_one, Nat.mod_one, if_neg (by omega)]; rfl
    obtain ⟨k, hk⟩ : ∃ k, l + k = 52 := ⟨52 - l, by omega⟩
    have hrg : rg N 0 = (l + 1022) * 2 ^ 52 + N * 2 ^ k := by
      unfold rg
      rw [if_neg h0, hl', hlast, show ((l : Int) - 52 + 1074).toNat = l + 1022 by omega, show ((0 : Int) - ((l : Int) - 52)).toNat = k by omega, show ((l : Int) - 52 - 0).toNat = 0 by omega, Nat.pow_zero, r1]
    have b1 : 2 ^ 52 ≤ N * 2 ^ k := by
      rw [← hk, Nat.pow_add]; exact Nat.mul_le_mul_right _ a1
    have b2 : N * 2 ^ k < 2 ^ 53 := by
      rw [show 53 = (l + 1) + k by omega, Nat.pow_add]; exact (Nat.mul_lt_mul_right (Nat.two_pow_pos _)).2 a2
    obtain ⟨q, hq⟩ : ∃ q, N * 2 ^ k = 2 ^ 52 + q := ⟨N * 2 ^ k - 2 ^ 52, by omega⟩
    have hq1 : q < 2 ^ 52 := by
      have e : (2 : Nat) ^ 53 = 2 ^ 52 + 2 ^ 52 := by decide
      omega
    have hr : rg N 0 = (l + 1023) * 2 ^ 52 + q := by
      rw [hrg, hq, show l + 1023 = l + 1022 + 1 by omega, Nat.succ_mul]; omega
    have hlt : rg N 0 < top := by
      rw [hr]
      have : (l + 1023 + 1) * 2 ^ 52 ≤ 2047 * 2 ^ 52 := Nat.mul_le_mul_right _ (by omega)
      rw [Nat.succ_mul] at this
      show _ < 2047 * 2 ^ 52
      omega
    have hmin : min (rg N 0) top = rg N 0 := Nat.min_eq_left (Nat.le_of_lt hlt)
    rw [hmin]
    refine ⟨hlt, ?_⟩
    have hV : Vr (rg N 0) = N * 2 ^ 1074 := by
      unfold Vr
      have hge : ¬ rg N 0 < 2 ^ 52 := by
        rw [hr]
        have : 1 * 2 ^ 52 ≤ (l + 1023) * 2 ^ 52 := Nat.mul_le_mul_right _ (by omega)
        rw [Nat.one_mul] at this
        omega
      have hmod : rg N 0 % 2 ^ 52 = q := by rw [hr, Nat.mul_comm, Nat.mul_add_mod, Nat.mod_eq_of_lt hq1]
      have hdiv : rg N 0 / 2 ^ 52 = l + 1023 := by
        rw [hr, Nat.mul_comm, Nat.mul_add_div (Nat.two_pow_pos _), Nat.div_eq_of_lt hq1, Nat.add_zero]
      rw [if_neg hge, hmod, hdiv, ← hq, show l + 1023 - 1 = l + 1022 by omega, Nat.mul_assoc, ← Nat.pow_add, show k + (l + 1022) = 1074 by omega]
    rw [← hV]
    exact read_rung hlt
def k1000 : Nat := 4652007308841189376
theorem k1000_fl : fl 1000 = k1000 := by decide +kernel
theorem ord_le {x y X Y : Nat} (hx : Sm x false X) (hy : Sm y false Y) (h : X ≤ Y) : (double.order x y == some Ordering.lt || double.order x y == some Ordering.eq) = true ∧ (double.order y x == some Ordering.gt || double.order y x == some Ordering.eq) = true := by
  obtain ⟨m, i, rx, hi, hX⟩ := hx
  obtain ⟨n, j, ry, hj, hY⟩ := hy
  have hb1 : min i j ≤ i := Int.min_le_left _ _
  have hb2 : min i j ≤ j := Int.min_le_right _ _
  have hmin : min j i = min i j := Int.min_comm _ _
  have hb0 : -1074 ≤ min i j := by clear hX hY h; omega
  have key : m * 2 ^ (i - min i j).toNat ≤ n * 2 ^ (j - min i j).toNat := by
    generalize min i j = b at hb1 hb2 hb0
    have e1 : m * 2 ^ (i - b).toNat * 2 ^ (b + 1074).toNat = X := by
      rw [← hX, Nat.mul_assoc, ← Nat.pow_add, show (i - b).toNat + (b + 1074).toNat = (i + 1074).toNat by clear hX hY h; omega]
    have e2 : n * 2 ^ (j - b).toNat * 2 ^ (b + 1074).toNat = Y := by
      rw [← hY, Nat.mul_assoc, ← Nat.pow_add, show (j - b).toNat + (b + 1074).toNat = (j + 1074).toNat by clear hX hY h e1; omega]
    exact Nat.le_of_mul_le_mul_right (by rw [e1, e2]; exact h) (Nat.two_pow_pos (b + 1074).toNat)
  have o1 : double.order x y = some (compare ((m * 2 ^ (i - min i j).toNat : Nat) : Int) ((n * 2 ^ (j - min i j).toNat : Nat) : Int)) := by
    unfold Format.order
    rw [rx, ry]
    unfold Datum.order
    simp only [signed, Nat.shiftLeft_eq]
    rfl
  have o2 : double.order y x = some (compare ((n * 2 ^ (j - min i j).toNat : Nat) : Int) ((m * 2 ^ (i - min i j).toNat : Nat) : Int)) := by
    unfold Format.order
    rw [rx, ry]
    unfold Datum.order
    simp only [signed, Nat.shiftLeft_eq, hmin]
    rfl
  rw [o1, o2]
  generalize m * 2 ^ (i - min i j).toNat = a at key
  generalize n * 2 ^ (j - min i j).toNat = c at key
  rcases Nat.lt_or_eq_of_le key with hlt | heq
  · rw [Int.compare_eq_lt.2 (by omega), Int.compare_eq_gt.2 (by omega)]; exact ⟨rfl, rfl⟩
  · rw [Int.compare_eq_eq.2 (by omega), Int.compare_eq_eq.2 (by omega)]; exact ⟨rfl, rfl⟩
/-- The root, as the law asks of it. -/
theorem dist_ok {N : Nat} (hN : N ≤ 765 * 765) : ∃ z, double.sqrt (floatOfInt .f64 (N : Int)) = some z ∧ (double.order z 0 == some Ordering.gt || double.order z 0 == some Ordering.eq) = true ∧ (double.order z 4652007308841189376 == some Ordering.lt || double.order z 4652007308841189376 == some Ordering.eq) = true := by
  obtain ⟨_, hs⟩ := int_sm (N := N) (Nat.lt_of_le_of_lt hN (by decide))
  obtain ⟨z, hz, hle⟩ := sqrt_sm hs hN
  obtain ⟨h1, h2⟩ := small_le (K := 1000) (by decide) hle
  have h3 := fl_sm (n := 1000) (by decide)
  rw [k1000_fl] at h3
  have h4 : Sm 0 false 0 := ⟨0, -1074, read_zero, by omega, by simp⟩
  exact ⟨z, hz, (ord_le h4 h1 (Nat.zero_le _)).2, (ord_le h1 h3 h2).1⟩
theorem dist_zero : double.sqrt (floatOfInt .f64 0) = some 0 := by decide +kernel
end Go.Proofs.YtohlppcboiiaaaaDoorIeee
