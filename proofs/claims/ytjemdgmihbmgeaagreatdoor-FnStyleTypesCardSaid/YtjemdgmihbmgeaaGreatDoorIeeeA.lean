/- Rounding of doubles; parts made lighter and darker; brightness (merged). -/
import Derived.Laws.FloatArith
set_option linter.unusedVariables false
set_option linter.unusedSimpArgs false
namespace Go.Proofs.YtjemdgmihbmgeaaGreatDoorIeee
open Ieee

/-- A quotient, to the nearest whole number, between two the even one. -/
def rhe (n g : Nat) : Nat := n / g + if g < 2 * (n % g) ∨ (g = 2 * (n % g) ∧ n / g % 2 = 1) then 1 else 0
theorem rhe_le (n g : Nat) : rhe n g ≤ n / g + 1 := by unfold rhe; split <;> omega
theorem le_rhe (n g : Nat) : n / g ≤ rhe n g := by unfold rhe; omega
theorem rhe_mono {n1 g1 n2 g2 : Nat} (h1 : 0 < g1) (h2 : 0 < g2) (h : n1 * g2 ≤ n2 * g1) : rhe n1 g1 ≤ rhe n2 g2 := by
  unfold rhe
  have d1 := Nat.div_add_mod n1 g1
  have d2 := Nat.div_add_mod n2 g2
  have m1 := Nat.mod_lt n1 h1
  have m2 := Nat.mod_lt n2 h2
  generalize n1 / g1 = a1 at *
  generalize n1 % g1 = r1 at *
  generalize n2 / g2 = a2 at *
  generalize n2 % g2 = r2 at *
  subst d1 d2
  have e1 : (g1 * a1 + r1) * g2 = a1 * (g1 * g2) + r1 * g2 := by rw [Nat.add_mul, Nat.mul_comm g1 a1, Nat.mul_assoc]
  have e2 : (g2 * a2 + r2) * g1 = a2 * (g1 * g2) + r2 * g1 := by rw [Nat.add_mul, Nat.mul_comm g2 a2, Nat.mul_assoc, Nat.mul_comm g2 g1]
  rw [e1, e2] at h
  have b2 : r2 * g1 < g1 * g2 := by rw [Nat.mul_comm g1 g2]; exact (Nat.mul_lt_mul_right h1).2 m2
  have ha : a1 ≤ a2 := by
    rcases Nat.lt_or_ge a2 a1 with hlt | hge
    · exfalso
      have := Nat.mul_le_mul_right (g1 * g2) hlt
      rw [Nat.succ_mul] at this
      omega
    · exact hge
  rcases Nat.lt_or_ge a1 a2 with hlt | hge
  · split <;> omega
  · obtain rfl : a1 = a2 := by omega
    have hr : r1 * g2 ≤ r2 * g1 := by omega
    have key : ∀ x y : Nat, 2 * x * y = 2 * (x * y) := fun x y => Nat.mul_assoc 2 x y
    by_cases c1 : g1 < 2 * r1 ∨ (g1 = 2 * r1 ∧ a1 % 2 = 1)
    · rw [if_pos c1]
      have c2 : g2 < 2 * r2 ∨ (g2 = 2 * r2 ∧ a1 % 2 = 1) := by
        rcases c1 with c1 | ⟨c1, ho⟩
        · left
          have s1 : g1 * g2 < 2 * r1 * g2 := (Nat.mul_lt_mul_right h2).2 c1
          rw [key] at s1
          rcases Nat.lt_or_ge g2 (2 * r2) with hh | hh
          · exact hh
          · exfalso
            have s2 : 2 * r2 * g1 ≤ g2 * g1 := Nat.mul_le_mul_right g1 hh
            rw [key, Nat.mul_comm g2 g1] at s2
            omega
        · have s1 : g1 * g2 = 2 * r1 * g2 := congrArg (· * g2) c1
          rw [key] at s1
          rcases Nat.lt_trichotomy g2 (2 * r2) with hh | hh | hh
          · exact .inl hh
          · exact .inr ⟨hh, ho⟩
          · exfalso
            have s2 : 2 * r2 * g1 < g2 * g1 := (Nat.mul_lt_mul_right h1).2 hh
            rw [key, Nat.mul_comm g2 g1] at s2
            omega
      rw [if_pos c2]
      exact Nat.le_refl _
    · rw [if_neg c1]; omega
theorem toNat_more (a b c : Prop) [Decidable a] [Decidable b] [Decidable c] : (decide a || (decide b && decide c)).toNat = if a ∨ (b ∧ c) then 1 else 0 := by
  by_cases a <;> by_cases b <;> by_cases c <;> simp_all
theorem cut_even (neg : Bool) (n d : Nat) : Toward.even.cut neg n d = rhe n (2 ^ d) := by
  have hform : ∀ g, (n / g + (decide (g < 2 * (n % g)) || (g == 2 * (n % g) && n / g % 2 == 1)).toNat) = rhe n g := by
    intro g
    unfold rhe
    rw [← toNat_more]
    rfl
  unfold Toward.cut
  simp only [Nat.one_shiftLeft]
  rw [hform]
  rcases Nat.lt_or_ge (n.log2 + 2) d with hd | hd
  · rw [Nat.min_eq_right (by omega)]
    have h1 : n < 2 ^ (n.log2 + 1) := Nat.lt_log2_self
    have h2 : 2 ^ (n.log2 + 2) = 2 * 2 ^ (n.log2 + 1) := by rw [Nat.pow_succ, Nat.mul_comm]
    have h3 : 2 ^ (n.log2 + 2) ≤ 2 ^ d := Nat.pow_le_pow_right (by omega) (by omega)
    have z : ∀ g, 2 * n < g → rhe n g = 0 := by
      intro g hg
      unfold rhe
      rw [Nat.div_eq_of_lt (by omega), Nat.mod_eq_of_lt (by omega), if_neg (by omega)]
    rw [z _ (by omega), z _ (by omega)]
  · rw [Nat.min_eq_left hd]
def lastP (b : Int) (l : Nat) : Int := max (b + l - 52) (-1074)
def rg (N : Nat) (b : Int) : Nat :=
  if N = 0 then 0 else (lastP b N.log2 + 1074).toNat * 2 ^ 52 + rhe (N * 2 ^ (b - lastP b N.log2).toNat) (2 ^ (lastP b N.log2 - b).toNat)
def top : Nat := 2047 * 2 ^ 52
theorem nearest_eq (neg : Bool) (m : Nat) (p : Int) : double.nearest neg m p = double.word neg (min (rg m p) top) := by
  unfold Format.nearest rg
  by_cases hm : m = 0
  · rw [if_pos hm, if_pos hm]; rfl
  · rw [if_neg hm, if_neg hm]
    simp only [cut_even, Nat.shiftLeft_eq]
    rfl
theorem rg_mono {N1 N2 : Nat} (b : Int) (h : N1 ≤ N2) : rg N1 b ≤ rg N2 b := by
  by_cases h1 : N1 = 0
  · unfold rg; rw [if_pos h1]; omega
  have h2 : N2 ≠ 0 := by omega
  have hl : N1.log2 ≤ N2.log2 := (Nat.le_log2 h2).2 (Nat.le_trans (Nat.log2_self_le h1) h)
  have hk : lastP b N1.log2 ≤ lastP b N2.log2 := by unfold lastP; omega
  unfold rg
  rw [if_neg h1, if_neg h2]
  rcases Int.lt_or_eq_of_le hk with hlt | heq
  · have f2 : lastP b N2.log2 = b + N2.log2 - 52 := by unfold lastP at hlt ⊢; omega
    have f1 : b + N1.log2 - 52 ≤ lastP b N1.log2 := by unfold lastP; omega
    have f0 : -1074 ≤ lastP b N1.log2 := by unfold lastP; omega
    have u1 : rhe (N1 * 2 ^ (b - lastP b N1.log2).toNat) (2 ^ (lastP b N1.log2 - b).toNat) ≤ 2 ^ 53 := by
      refine Nat.le_trans (rhe_le _ _) ?_
      have hlt1 : N1 < 2 ^ (N1.log2 + 1) := Nat.lt_log2_self
      refine Nat.succ_le_of_lt ((Nat.div_lt_iff_lt_mul (Nat.two_pow_pos _)).2 ?_)
      refine Nat.lt_of_lt_of_le ((Nat.mul_lt_mul_right (Nat.two_pow_pos _)).2 hlt1) ?_
      rw [← Nat.pow_add, ← Nat.pow_add]
      exact Nat.pow_le_pow_right (by omega) (by omega)
    have u2 : 2 ^ 52 ≤ rhe (N2 * 2 ^ (b - lastP b N2.log2).toNat) (2 ^ (lastP b N2.log2 - b).toNat) := by
      refine Nat.le_trans ?_ (le_rhe _ _)
      have hge2 : 2 ^ N2.log2 ≤ N2 := Nat.log2_self_le h2
      refine (Nat.le_div_iff_mul_le (Nat.two_pow_pos _)).2 ?_
      refine Nat.le_trans ?_ (Nat.mul_le_mul_right _ hge2)
      rw [← Nat.pow_add, ← Nat.pow_add]
      exact Nat.pow_le_pow_right (by omega) (by omega)
    have e : (lastP b N1.log2 + 1074).toNat + 1 ≤ (lastP b N2.log2 + 1074).toNat := by omega
    have := Nat.mul_le_mul_right (2 ^ 52) e
    rw [Nat.succ_mul] at this
    have e53 : (2 : Nat) ^ 53 = 2 ^ 52 + 2 ^ 52 := by decide
    omega
  · rw [← heq]
    refine Nat.add_le_add_left (rhe_mono (Nat.two_pow_pos _) (Nat.two_pow_pos _) ?_) _
    exact Nat.mul_le_mul_right _ (Nat.mul_le_mul_right _ h)
theorem log2_shift {N : Nat} (h : N ≠ 0) (k : Nat) : (N * 2 ^ k).log2 = N.log2 + k := by
  have hp : N * 2 ^ k ≠ 0 := Nat.mul_ne_zero h (Nat.pos_iff_ne_zero.1 (Nat.two_pow_pos k))
  have a1 := Nat.log2_self_le h
  have a2 : N < 2 ^ (N.log2 + 1) := Nat.lt_log2_self
  apply Nat.le_antisymm
  · have : (N * 2 ^ k).log2 < N.log2 + 1 + k := (Nat.log2_lt hp).2 (by rw [Nat.pow_add]; exact (Nat.mul_lt_mul_right (Nat.two_pow_pos _)).2 a2)
    omega
  · exact (Nat.le_log2 hp).2 (by rw [Nat.pow_add]; exact Nat.mul_le_mul_right _ a1)
theorem rg_shift (N k : Nat) (b : Int) : rg (N * 2 ^ k) (b - k) = rg N b := by
  by_cases h : N = 0
  · subst h; simp [rg]
  have hp : N * 2 ^ k ≠ 0 := Nat.mul_ne_zero h (Nat.pos_iff_ne_zero.1 (Nat.two_pow_pos k))
  have hl : lastP (b - k) (N * 2 ^ k).log2 = lastP b N.log2 := by rw [log2_shift h]; unfold lastP; omega
  unfold rg
  rw [if_neg h, if_neg hp, hl]
  congr 1
  generalize lastP b N.log2 = t
  have e : N * 2 ^ k * 2 ^ (b - k - t).toNat * 2 ^ (t - b).toNat = N * 2 ^ (b - t).toNat * 2 ^ (t - (b - k)).toNat := by
    rw [Nat.mul_assoc, Nat.mul_assoc, Nat.mul_assoc, ← Nat.pow_add, ← Nat.pow_add, ← Nat.pow_add]
    congr 2
    omega
  exact Nat.le_antisymm (rhe_mono (Nat.two_pow_pos _) (Nat.two_pow_pos _) (by rw [e]; exact Nat.le_refl _)) (rhe_mono (Nat.two_pow_pos _) (Nat.two_pow_pos _) (by rw [e]; exact Nat.le_refl _))
theorem rg_base (m : Nat) {p b : Int} (h : b ≤ p) : rg (m * 2 ^ (p - b).toNat) b = rg m p := by
  have := rg_shift m (p - b).toNat p
  rw [show p - ((p - b).toNat : Int) = b by omega] at this
  exact this
/-- Rounding is monotone: of two numbers, scaled to a base. -/
theorem rg_le {m1 m2 : Nat} {p1 p2 b : Int} (h1 : b ≤ p1) (h2 : b ≤ p2) (h : m1 * 2 ^ (p1 - b).toNat ≤ m2 * 2 ^ (p2 - b).toNat) : rg m1 p1 ≤ rg m2 p2 := by
  rw [← rg_base m1 h1, ← rg_base m2 h2]
  exact rg_mono b h
theorem rg_eq {m1 m2 : Nat} {p1 p2 b : Int} (h1 : b ≤ p1) (h2 : b ≤ p2) (h : m1 * 2 ^ (p1 - b).toNat = m2 * 2 ^ (p2 - b).toNat) : rg m1 p1 = rg m2 p2 :=
  Nat.le_antisymm (rg_le h1 h2 (Nat.le_of_eq h)) (rg_le h2 h1 (Nat.le_of_eq h.symm))
end Go.Proofs.YtjemdgmihbmgeaaGreatDoorIeee
set_option linter.unusedVariables false
set_option linter.unusedSimpArgs false
set_option exponentiation.threshold 3000
namespace Go.Proofs.YtjemdgmihbmgeaaGreatDoorIeee
open Ieee

def Vr (r : Nat) : Nat := if r < 2 ^ 52 then r else (2 ^ 52 + r % 2 ^ 52) * 2 ^ (r / 2 ^ 52 - 1)
theorem Vr_step (r : Nat) : Vr r ≤ Vr (r + 1) := by
  unfold Vr
  rcases Nat.lt_or_ge (r + 1) (2 ^ 52) with h | h
  · rw [if_pos h, if_pos (by omega)]; omega
  · rcases Nat.lt_or_ge r (2 ^ 52) with h' | h'
    · obtain rfl : r = 2 ^ 52 - 1 := by omega
      decide
    · rw [if_neg (by omega), if_neg (by omega)]
      rcases Nat.lt_or_ge (r % 2 ^ 52 + 1) (2 ^ 52) with h2 | h2
      · have e1 : (r + 1) % 2 ^ 52 = r % 2 ^ 52 + 1 := by omega
        have e2 : (r + 1) / 2 ^ 52 = r / 2 ^ 52 := by omega
        rw [e1, e2]
        exact Nat.mul_le_mul_right _ (by omega)
      · have e1 : (r + 1) % 2 ^ 52 = 0 := by omega
        have e2 : (r + 1) / 2 ^ 52 - 1 = (r / 2 ^ 52 - 1) + 1 := by omega
        rw [e1, e2]
        have h3 : r % 2 ^ 52 < 2 ^ 52 := Nat.mod_lt _ (by decide)
        generalize r % 2 ^ 52 = q at h3
        generalize r / 2 ^ 52 - 1 = k
        have e3 : 2 ^ (k + 1) = 2 * 2 ^ k := by rw [Nat.pow_succ, Nat.mul_comm]
        rw [e3, ← Nat.mul_assoc]
        exact Nat.mul_le_mul_right _ (by omega)
theorem Vr_mono {a b : Nat} (h : a ≤ b) : Vr a ≤ Vr b := by
  induction h with
  | refl => exact Nat.le_refl _
  | step _ ih => exact Nat.le_trans ih (Vr_step _)
/-- The word x stands for the number V / 2^1074, with the sign s. -/
def Sm (x : Nat) (s : Bool) (V : Nat) : Prop := ∃ m i, double.read x = .number s m i ∧ -1074 ≤ i ∧ m * 2 ^ (i + 1074).toNat = V
theorem read_rung {r : Nat} (h : r < top) : Sm r false (Vr r) := by
  have h63 : r < 2 ^ 63 := Nat.lt_trans h (by decide)
  have hs : double.signWeight = 2 ^ 63 := rfl
  have hb : double.binade = 2 ^ 52 := rfl
  have hi : double.infRung = top := rfl
  have hl : double.leastPlace = -1074 := by decide
  have hneg : (r / double.signWeight % 2 == 1) = false := by rw [hs, Nat.div_eq_of_lt h63]; rfl
  have hm : r % double.signWeight = r := by rw [hs]; exact Nat.mod_eq_of_lt h63
  unfold Sm Format.read Vr
  simp only [hneg, hm, hb, hi, hl]
  by_cases h1 : r < 2 ^ 52
  · rw [if_pos h1, if_pos h1]
    exact ⟨_, _, rfl, by omega, by simp⟩
  · rw [if_neg h1, if_pos h, if_neg h1]
    refine ⟨_, _, rfl, by omega, ?_⟩
    congr 2
    omega
def fl (n : Nat) : Nat := rg n 0
theorem fl_top : ∀ n : Nat, n ≤ 1000 → fl n < top := by decide +kernel
theorem fl_val : ∀ n : Nat, n ≤ 1000 → Vr (fl n) = n * 2 ^ 1074 := by decide +kernel
theorem fl_sm {n : Nat} (h : n ≤ 1000) : Sm (fl n) false (n * 2 ^ 1074) := by rw [← fl_val n h]; exact read_rung (fl_top n h)
theorem small_le {z K : Nat} (hK : K ≤ 1000) (h : z ≤ fl K) : Sm z false (Vr z) ∧ Vr z ≤ K * 2 ^ 1074 :=
  ⟨read_rung (Nat.lt_of_le_of_lt h (fl_top K hK)), by rw [← fl_val K hK]; exact Vr_mono h⟩
theorem small_ge {z L : Nat} (hL : L ≤ 1000) (h : fl L ≤ z) : L * 2 ^ 1074 ≤ Vr z := by rw [← fl_val L hL]; exact Vr_mono h
theorem rg_le_fl {m K b : Nat} {p : Int} (h1 : -(b : Int) ≤ p) (h : m * 2 ^ (p + b).toNat ≤ K * 2 ^ b) : rg m p ≤ fl K := by
  refine rg_le (b := -(b : Int)) h1 (by omega) ?_
  rw [show (p - -(b : Int)).toNat = (p + b).toNat by omega, show ((0 : Int) - -(b : Int)).toNat = b by omega]
  exact h
theorem fl_le_rg {m L b : Nat} {p : Int} (h1 : -(b : Int) ≤ p) (h : L * 2 ^ b ≤ m * 2 ^ (p + b).toNat) : fl L ≤ rg m p := by
  refine rg_le (b := -(b : Int)) (by omega) h1 ?_
  rw [show (p - -(b : Int)).toNat = (p + b).toNat by omega, show ((0 : Int) - -(b : Int)).toNat = b by omega]
  exact h
theorem write_eq (s : Bool) (m : Nat) (p : Int) : double.write (.number s m p) = double.word s (min (rg m p) top) := nearest_eq s m p
theorem word_false (r : Nat) : double.word false r = r := rfl
theorem mul_le {m n X Y K : Nat} {i j : Int} (hi : -1074 ≤ i) (hj : -1074 ≤ j) (S : Nat) (hS : S = 2148) (h1 : m * 2 ^ (i + 1074).toNat = X) (h2 : n * 2 ^ (j + 1074).toNat = Y) (hK : X * Y ≤ K * 2 ^ S) : rg (m * n) (i + j) ≤ fl K := by
  have e1 : -(S : Int) ≤ i + j := by clear h1 h2 hK; omega
  have e2 : (i + j + (S : Int)).toNat = (i + 1074).toNat + (j + 1074).toNat := by clear h1 h2 hK; omega
  refine rg_le_fl (b := S) e1 (Nat.le_trans (Nat.le_of_eq ?_) hK)
  rw [e2, Nat.pow_add, ← h1, ← h2]
  rw [Nat.mul_assoc, Nat.mul_assoc, ← Nat.mul_assoc n, ← Nat.mul_assoc (2 ^ (i + 1074).toNat), Nat.mul_comm n, Nat.mul_assoc]
theorem mul_eq {x y m n : Nat} {i j : Int} (rx : double.read x = .number false m i) (ry : double.read y = .number false n j) : double.mul x y = some (min (rg (m * n) (i + j)) top) := by
  unfold Format.mul
  rw [rx, ry]
  show some (double.write (.number false (m * n) (i + j))) = _
  rw [write_eq, word_false]
theorem mul_sm {x y X Y : Nat} (hx : Sm x false X) (hy : Sm y false Y) : ∃ z, double.mul x y = some z ∧ ∀ S K, S = 2148 → X * Y ≤ K * 2 ^ S → z ≤ fl K := by
  obtain ⟨m, i, rx, hi, h1⟩ := hx
  obtain ⟨n, j, ry, hj, h2⟩ := hy
  exact ⟨_, mul_eq rx ry, fun S K hS hK => Nat.le_trans (Nat.min_le_left _ _) (mul_le hi hj S hS h1 h2 hK)⟩
theorem mul_zero {x y X : Nat} (hx : Sm x false X) (hy : Sm y true 0) : double.mul x y = some (2 ^ 63) := by
  obtain ⟨m, i, rx, hi, rfl⟩ := hx
  obtain ⟨n, j, ry, hj, h0⟩ := hy
  have hn : n = 0 := by
    rcases Nat.mul_eq_zero.1 h0 with h | h
    · exact h
    · exact absurd h (Nat.pos_iff_ne_zero.1 (Nat.two_pow_pos _))
  subst hn
  unfold Format.mul
  rw [rx, ry]
  show some (double.write (.number true (m * 0) (i + j))) = _
  have h0' : rg 0 (i + j) = 0 := by unfold rg; rw [if_pos rfl]
  rw [write_eq, Nat.mul_zero, h0', Nat.zero_min]
  rfl
theorem negZero : Sm (2 ^ 63) true 0 := ⟨0, -1074, by decide +kernel, by omega, by simp⟩
/-- A sum that is not below 0. -/
theorem add_sm {x y X Y : Nat} {s : Bool} (hx : Sm x s X) (hy : Sm y false Y) (hle : s = true → X ≤ Y) :
    ∃ z, double.add x y = some z ∧ (∀ K, (if s then Y - X else X + Y) ≤ K * 2 ^ 1074 → z ≤ fl K) ∧ (∀ L, L ≤ 1000 → L * 2 ^ 1074 ≤ (if s then Y - X else X + Y) → fl L ≤ z) := by
  obtain ⟨m, i, rx, hi, rfl⟩ := hx
  obtain ⟨n, j, ry, hj, rfl⟩ := hy
  have hb1 : min i j ≤ i := Int.min_le_left _ _
  have hb2 : min i j ≤ j := Int.min_le_right _ _
  have hb0 : -1074 ≤ min i j := by omega
  generalize hb : min i j = b at hb1 hb2 hb0
  have e1 : m * 2 ^ (i + 1074).toNat = m * 2 ^ (i - b).toNat * 2 ^ (b + 1074).toNat := by
    rw [Nat.mul_assoc, ← Nat.pow_add]; congr 2; omega
  have e2 : n * 2 ^ (j + 1074).toNat = n * 2 ^ (j - b).toNat * 2 ^ (b + 1074).toNat := by
    rw [Nat.mul_assoc, ← Nat.pow_add]; congr 2; omega
  obtain ⟨T, hT, hV⟩ : ∃ T : Nat, double.add x y = some (min (rg T b) top) ∧ T * 2 ^ (b + 1074).toNat = (if s then n * 2 ^ (j + 1074).toNat - m * 2 ^ (i + 1074).toNat else m * 2 ^ (i + 1074).toNat + n * 2 ^ (j + 1074).toNat) := by
    cases s with
    | false =>
      refine ⟨m * 2 ^ (i - b).toNat + n * 2 ^ (j - b).toNat, ?_, ?_⟩
      · unfold Format.add
        rw [rx, ry]
        unfold Datum.sum
        simp only [hb, signed, Nat.shiftLeft_eq]
        show some (double.write (.number (if (((m * 2 ^ (i - b).toNat : Nat) : Int) + ((n * 2 ^ (j - b).toNat : Nat) : Int)) = 0 then false else decide ((((m * 2 ^ (i - b).toNat : Nat) : Int) + ((n * 2 ^ (j - b).toNat : Nat) : Int)) < 0)) (((m * 2 ^ (i - b).toNat : Nat) : Int) + ((n * 2 ^ (j - b).toNat : Nat) : Int)).natAbs b)) = _
        have hs : (if (((m * 2 ^ (i - b).toNat : Nat) : Int) + ((n * 2 ^ (j - b).toNat : Nat) : Int)) = 0 then false else decide ((((m * 2 ^ (i - b).toNat : Nat) : Int) + ((n * 2 ^ (j - b).toNat : Nat) : Int)) < 0)) = false := by
          split
          · rfl
          · exact decide_eq_false (by omega)
        rw [hs, write_eq, word_false]
        congr 3
      · rw [Nat.add_mul, ← e1, ← e2]; rfl
    | true =>
      have hle' := hle rfl
      rw [e1, e2] at hle'
      have hmn : m * 2 ^ (i - b).toNat ≤ n * 2 ^ (j - b).toNat := Nat.le_of_mul_le_mul_right hle' (Nat.two_pow_pos _)
      refine ⟨n * 2 ^ (j - b).toNat - m * 2 ^ (i - b).toNat, ?_, ?_⟩
      · unfold Format.add
        rw [rx, ry]
        unfold Datum.sum
        simp only [hb, signed, Nat.shiftLeft_eq]
        show some (double.write (.number (if (-((m * 2 ^ (i - b).toNat : Nat) : Int) + ((n * 2 ^ (j - b).toNat : Nat) : Int)) = 0 then false else decide ((-((m * 2 ^ (i - b).toNat : Nat) : Int) + ((n * 2 ^ (j - b).toNat : Nat) : Int)) < 0)) (-((m * 2 ^ (i - b).toNat : Nat) : Int) + ((n * 2 ^ (j - b).toNat : Nat) : Int)).natAbs b)) = _
        have hs : (if (-((m * 2 ^ (i - b).toNat : Nat) : Int) + ((n * 2 ^ (j - b).toNat : Nat) : Int)) = 0 then false else decide ((-((m * 2 ^ (i - b).toNat : Nat) : Int) + ((n * 2 ^ (j - b).toNat : Nat) : Int)) < 0)) = false := by
          split
          · rfl
          · exact decide_eq_false (by omega)
        rw [hs, write_eq, word_false]
        congr 3
        omega
      · rw [Nat.sub_mul, ← e1, ← e2]; rfl
  refine ⟨_, hT, fun K hK => ?_, fun L hL hLe => ?_⟩
  · refine Nat.le_trans (Nat.min_le_left _ _) (rg_le_fl (b := 1074) (by omega) ?_)
    exact Nat.le_trans (Nat.le_of_eq hV) hK
  · refine Nat.le_min.2 ⟨fl_le_rg (b := 1074) (by omega) ?_, Nat.le_of_lt (fl_top L hL)⟩
    exact Nat.le_trans hLe (Nat.le_of_eq hV.symm)
theorem cut_zero (neg : Bool) (n d : Nat) : Toward.zero.cut neg n d = n / 2 ^ d := by
  unfold Toward.cut
  simp only [Nat.one_shiftLeft, Bool.toNat_false, Nat.add_zero]
  rcases Nat.lt_or_ge (n.log2 + 2) d with hd | hd
  · rw [Nat.min_eq_right (by omega)]
    have h1 : n < 2 ^ (n.log2 + 1) := Nat.lt_log2_self
    have h2 : 2 ^ (n.log2 + 1) ≤ 2 ^ (n.log2 + 2) := Nat.pow_le_pow_right (by omega) (by omega)
    have h3 : 2 ^ (n.log2 + 2) ≤ 2 ^ d := Nat.pow_le_pow_right (by omega) (by omega)
    rw [Nat.div_eq_of_lt (by omega), Nat.div_eq_of_lt (by omega)]
  · rw [Nat.min_eq_left hd]
/-- A number below 256, cut to a byte. -/
theorem to_byte {z Z : Nat} (hz : Sm z false Z) (hZ : Z < 256 * 2 ^ 1074) : floatToIntVal .f64 z .u8 = some ((Z / 2 ^ 1074 : Nat) : Int) := by
  obtain ⟨m, i, rz, hi, rfl⟩ := hz
  have e : (m * 2 ^ i.toNat) / 2 ^ (-i).toNat = m * 2 ^ (i + 1074).toNat / 2 ^ 1074 := by
    have h1 : (m * 2 ^ i.toNat) * 2 ^ 1074 = m * 2 ^ (i + 1074).toNat * 2 ^ (-i).toNat := by
      rw [Nat.mul_assoc, Nat.mul_assoc, ← Nat.pow_add, ← Nat.pow_add]; congr 2; omega
    rw [← Nat.mul_div_mul_right (m * 2 ^ i.toNat) (2 ^ (-i).toNat) (Nat.two_pow_pos 1074), h1, Nat.mul_comm (2 ^ (-i).toNat) (2 ^ 1074), Nat.mul_div_mul_right _ _ (Nat.two_pow_pos _)]
  have ht : (FloatKind.f64.decode z).toInt .zero = some ((m * 2 ^ (i + 1074).toNat / 2 ^ 1074 : Nat) : Int) := by
    show (double.read z).toInt .zero = _
    rw [rz]
    unfold Datum.toInt Datum.integral
    simp only [cut_zero, Nat.shiftLeft_eq, signed, e]
    simp
  unfold floatToIntVal
  rw [ht]
  simp only
  rw [if_pos]
  refine ⟨Int.natCast_nonneg _, ?_⟩
  have : m * 2 ^ (i + 1074).toNat / 2 ^ 1074 < 256 := (Nat.div_lt_iff_lt_mul (Nat.two_pow_pos _)).2 hZ
  show ((m * 2 ^ (i + 1074).toNat / 2 ^ 1074 : Nat) : Int) ≤ 255
  omega
end Go.Proofs.YtjemdgmihbmgeaaGreatDoorIeee
set_option linter.unusedVariables false
set_option linter.unusedSimpArgs false
set_option exponentiation.threshold 3000
namespace Go.Proofs.YtjemdgmihbmgeaaGreatDoorIeee
open Ieee

def one : Nat := 4607182418800017408
def mone : Nat := 13830554455654793216
def c255 : Nat := 4643176031446892544
theorem one_fl : fl 1 = one := by decide +kernel
theorem c255_fl : fl 255 = c255 := by decide +kernel
theorem read_one : double.read one = .number false (2 ^ 52) (-52) := by decide +kernel
theorem read_mone : double.read mone = .number true (2 ^ 52) (-52) := by decide +kernel
theorem read_zero : double.read 0 = .number false 0 (-1074) := by decide +kernel
theorem one_sm : Sm one false (2 ^ 1074) := by
  have := fl_sm (n := 1) (by decide)
  rw [one_fl, Nat.one_mul] at this; exact this
theorem read_place {x m : Nat} {s : Bool} {i : Int} (h : double.read x = .number s m i) : -1074 ≤ i := by
  have hl : double.leastPlace = -1074 := by decide
  unfold Format.read at h
  simp only [hl] at h
  split at h
  · cases h; omega
  · split at h
    · cases h; omega
    · split at h <;> cases h
theorem sm_of {x m : Nat} {s : Bool} {i : Int} (h : double.read x = .number s m i) : Sm x s (m * 2 ^ (i + 1074).toNat) := ⟨m, i, h, read_place h, rfl⟩
theorem scale {m n : Nat} {i j b : Int} (hb : -1074 ≤ b) (h1 : b ≤ i) (h2 : b ≤ j) (h : m * 2 ^ (i - b).toNat ≤ n * 2 ^ (j - b).toNat) : m * 2 ^ (i + 1074).toNat ≤ n * 2 ^ (j + 1074).toNat := by
  have e1 : m * 2 ^ (i + 1074).toNat = m * 2 ^ (i - b).toNat * 2 ^ (b + 1074).toNat := by
    rw [Nat.mul_assoc, ← Nat.pow_add]; congr 2; omega
  have e2 : n * 2 ^ (j + 1074).toNat = n * 2 ^ (j - b).toNat * 2 ^ (b + 1074).toNat := by
    rw [Nat.mul_assoc, ← Nat.pow_add]; congr 2; omega
  rw [e1, e2]
  exact Nat.mul_le_mul_right _ h
theorem one_pow : 2 ^ 52 * 2 ^ ((-52 : Int) + 1074).toNat = 2 ^ 1074 := by decide +kernel
def neg0 (f : Nat) : Bool := double.order f 0 == some .lt
/-- A factor from -1 to 1. -/
inductive Good (f : Nat) : Prop
  | neg (F : Nat) (h0 : neg0 f = true) (hF : F ≤ 2 ^ 1074) (h : Sm f true F)
  | pos (F : Nat) (h0 : neg0 f = false) (hF : F ≤ 2 ^ 1074) (h : Sm f false F)
  | zero (h0 : neg0 f = false) (h : Sm f true 0)
theorem cmp_le {a b : Int} (h : (some (compare a b) == some Ordering.lt || some (compare a b) == some Ordering.eq) = true) : a ≤ b := by
  rcases Int.lt_trichotomy a b with h1 | h1 | h1
  · omega
  · omega
  · exfalso
    have : compare a b = .gt := Int.compare_eq_gt.2 h1
    rw [this] at h; cases h
theorem cmp_ge {a b : Int} (h : (some (compare a b) == some Ordering.gt || some (compare a b) == some Ordering.eq) = true) : b ≤ a := by
  rcases Int.lt_trichotomy a b with h1 | h1 | h1
  · exfalso
    have : compare a b = .lt := Int.compare_eq_lt.2 h1
    rw [this] at h; cases h
  · omega
  · omega
theorem good_of {f : Nat} (h1 : (double.order f mone == some .gt || double.order f mone == some .eq) = true) (h2 : (double.order f one == some .lt || double.order f one == some .eq) = true) : Good f := by
  unfold Format.order at h1 h2
  rw [read_mone] at h1
  rw [read_one] at h2
  cases hr : double.read f with
  | nan s q => rw [hr] at h1; cases h1
  | infinity s =>
    rw [hr] at h1 h2
    cases s
    · cases h2
    · cases h1
  | number s m i =>
    rw [hr] at h1 h2
    have hi := read_place hr
    have hb1 : min i (-52) ≤ i := Int.min_le_left _ _
    have hb2 : min i (-52) ≤ -52 := Int.min_le_right _ _
    have hb0 : -1074 ≤ min i (-52) := by omega
    unfold Datum.order at h1 h2
    simp only at h1 h2
    generalize min i (-52) = b at *
    have g1 := cmp_ge h1
    have g2 := cmp_le h2
    have hz : neg0 f = (some (compare (signed s m (i - min i (-1074)).toNat) (signed false 0 (-1074 - min i (-1074)).toNat)) == some Ordering.lt) := by
      unfold neg0 Format.order
      rw [hr, read_zero]; rfl
    have e0 : signed false 0 (-1074 - min i (-1074)).toNat = 0 := by simp [signed]
    rw [e0] at hz
    cases s with
    | false =>
      have hF : m * 2 ^ (i + 1074).toNat ≤ 2 ^ 1074 := by
        have := scale hb0 hb1 hb2 (m := m) (n := 2 ^ 52) (by
          simp only [signed, Nat.shiftLeft_eq] at g2
          exact Int.ofNat_le.1 g2)
        rw [one_pow] at this; exact this
      refine .pos _ ?_ hF (sm_of hr)
      rw [hz]
      have : ¬ compare (signed false m (i - min i (-1074)).toNat) 0 = .lt := by
        intro hc
        have := Int.compare_eq_lt.1 hc
        simp only [signed, Nat.shiftLeft_eq] at this
        rw [if_neg (by decide)] at this
        omega
      cases hc : compare (signed false m (i - min i (-1074)).toNat) 0 with
      | lt => exact absurd hc this
      | eq => rfl
      | gt => rfl
    | true =>
      by_cases hm : m = 0
      · subst hm
        refine .zero ?_ ?_
        · rw [hz]
          simp [signed]
        · have := sm_of hr
          rw [Nat.zero_mul] at this; exact this
      · have hF : m * 2 ^ (i + 1074).toNat ≤ 2 ^ 1074 := by
          have := scale hb0 hb1 hb2 (m := m) (n := 2 ^ 52) (by
            simp only [signed, Nat.shiftLeft_eq] at g1
            have g3 : ((m * 2 ^ (i - b).toNat : Nat) : Int) ≤ ((2 ^ 52 * 2 ^ (-52 - b).toNat : Nat) : Int) := by
              have := g1
              simp only [if_true] at this
              omega
            exact Int.ofNat_le.1 g3)
          rw [one_pow] at this; exact this
        refine .neg _ ?_ hF (sm_of hr)
        rw [hz]
        have hp : 0 < m * 2 ^ (i - min i (-1074)).toNat := Nat.mul_pos (Nat.pos_of_ne_zero hm) (Nat.two_pow_pos _)
        have : compare (signed true m (i - min i (-1074)).toNat) 0 = .lt := by
          apply Int.compare_eq_lt.2
          simp only [signed, Nat.shiftLeft_eq, if_true]
          omega
        rw [this]; rfl
def lightV (p f : Nat) : Option Int :=
  if neg0 f = true then (double.add f one).bind fun g => (double.mul (fl p) g).bind fun z => floatToIntVal .f64 z .u8
  else (double.sub c255 (fl p)).bind fun u => (double.mul u f).bind fun v => (double.add v (fl p)).bind fun z => floatToIntVal .f64 z .u8
theorem sub255 : ∀ p : Nat, p ≤ 255 → double.sub c255 (fl p) = some (fl (255 - p)) := by decide +kernel
theorem byte_of {z K : Nat} (hK : K ≤ 255) (h : z ≤ fl K) : ∃ q : Nat, floatToIntVal .f64 z .u8 = some (q : Int) ∧ q ≤ K ∧ ∀ L, L ≤ 255 → fl L ≤ z → L ≤ q := by
  obtain ⟨h1, h2⟩ := small_le (by omega) h
  have h3 : Vr z < 256 * 2 ^ 1074 := Nat.lt_of_le_of_lt h2 ((Nat.mul_lt_mul_right (Nat.two_pow_pos _)).2 (by omega))
  refine ⟨_, to_byte h1 h3, ?_, fun L hL hz => ?_⟩
  · exact Nat.le_of_lt_succ ((Nat.div_lt_iff_lt_mul (Nat.two_pow_pos _)).2 (Nat.lt_of_le_of_lt h2 ((Nat.mul_lt_mul_right (Nat.two_pow_pos _)).2 (Nat.lt_succ_self _))))
  · exact (Nat.le_div_iff_mul_le (Nat.two_pow_pos _)).2 (small_ge (by omega) hz)
theorem pow2148 (a b : Nat) : a * 2 ^ 1074 * (b * 2 ^ 1074) = a * b * 2 ^ (1074 + 1074) := by
  rw [Nat.pow_add, Nat.mul_assoc, Nat.mul_assoc, ← Nat.mul_assoc (2 ^ 1074), Nat.mul_comm (2 ^ 1074) b, Nat.mul_assoc]
theorem light_ok {f : Nat} (hf : Good f) {p : Nat} (hp : p ≤ 255) : ∃ q : Nat, lightV p f = some (q : Int) ∧ q ≤ 255 ∧ (neg0 f = true → q ≤ p) ∧ (neg0 f = false → p ≤ q) := by
  cases hf with
  | neg F h0 hF h =>
    obtain ⟨g, hg, hgu, _⟩ := add_sm h one_sm (fun _ => hF)
    have hg1 : g ≤ fl 1 := hgu 1 (by rw [if_pos rfl, Nat.one_mul]; exact Nat.sub_le _ _)
    obtain ⟨gs, gv⟩ := small_le (by omega) hg1
    obtain ⟨z, hz, hzu⟩ := mul_sm (fl_sm (n := p) (by omega)) gs
    have hzp : z ≤ fl p := hzu (1074 + 1074) p rfl (by
      refine Nat.le_trans (Nat.mul_le_mul_left _ gv) (Nat.le_of_eq ?_)
      rw [pow2148, Nat.mul_one])
    obtain ⟨q, hq, hqp, _⟩ := byte_of hp hzp
    refine ⟨q, ?_, by omega, fun _ => hqp, fun h => by rw [h0] at h; cases h⟩
    unfold lightV
    rw [if_pos h0, hg, Option.bind_some, hz, Option.bind_some, hq]
  | pos F h0 hF h =>
    obtain ⟨v, hv, hvu⟩ := mul_sm (fl_sm (n := 255 - p) (by omega)) h
    have hvp : v ≤ fl (255 - p) := hvu (1074 + 1074) (255 - p) rfl (by
      refine Nat.le_trans (Nat.mul_le_mul_left _ hF) (Nat.le_of_eq ?_)
      have := pow2148 (255 - p) 1
      rw [Nat.one_mul, Nat.mul_one] at this; exact this)
    obtain ⟨vs, vv⟩ := small_le (by omega) hvp
    obtain ⟨z, hz, hzu, hzl⟩ := add_sm vs (fl_sm (n := p) (by omega)) (fun h => by cases h)
    have hz1 : z ≤ fl 255 := hzu 255 (by
      rw [if_neg (by decide)]
      refine Nat.le_trans (Nat.add_le_add_right vv _) (Nat.le_of_eq ?_)
      rw [← Nat.add_mul, show 255 - p + p = 255 by omega])
    have hz2 : fl p ≤ z := hzl p (by omega) (by rw [if_neg (by decide)]; exact Nat.le_add_left _ _)
    obtain ⟨q, hq, hqp, hql⟩ := byte_of (Nat.le_refl _) hz1
    refine ⟨q, ?_, hqp, (fun h => by rw [h0] at h; cases h), fun _ => hql p hp hz2⟩
    unfold lightV
    rw [if_neg (by rw [h0]; decide), sub255 p hp, Option.bind_some, hv, Option.bind_some, hz, Option.bind_some, hq]
  | zero h0 h =>
    have hv := mul_zero (fl_sm (n := 255 - p) (by omega)) h
    obtain ⟨z, hz, hzu, hzl⟩ := add_sm negZero (fl_sm (n := p) (by omega)) (fun _ => Nat.zero_le _)
    have hz1 : z ≤ fl p := hzu p (by rw [if_pos rfl]; exact Nat.sub_le _ _)
    have hz2 : fl p ≤ z := hzl p (by omega) (by rw [if_pos rfl, Nat.sub_zero]; exact Nat.le_refl _)
    obtain ⟨q, hq, hqp, hql⟩ := byte_of hp hz1
    refine ⟨q, ?_, by omega, (fun h => by rw [h0] at h; cases h), fun _ => hql p hp hz2⟩
    unfold lightV
    rw [if_neg (by rw [h0]; decide), sub255 p hp, Option.bind_some, hv, Option.bind_some, hz, Option.bind_some, hq]
theorem fl_int : ∀ p : Nat, p ≤ 255 → floatOfInt .f64 (p : Int) = fl p := by decide +kernel
end Go.Proofs.YtjemdgmihbmgeaaGreatDoorIeee
set_option linter.unusedVariables false
set_option linter.unusedSimpArgs false
set_option exponentiation.threshold 3000
namespace Go.Proofs.YtjemdgmihbmgeaaGreatDoorIeee
open Ieee
theorem neg0_sm {f F : Nat} {s : Bool} (h : Sm f s F) : neg0 f = (s && decide (0 < F)) := by
  obtain ⟨m, i, hr, hi, hF⟩ := h
  have hz : neg0 f = (some (compare (signed s m (i - min i (-1074)).toNat) (signed false 0 (-1074 - min i (-1074)).toNat)) == some Ordering.lt) := by
    unfold neg0 Format.order
    rw [hr, read_zero]; rfl
  have e0 : signed false 0 (-1074 - min i (-1074)).toNat = 0 := by simp [signed]
  have hmin : min i (-1074) = -1074 := by omega
  rw [e0, hmin] at hz
  have e1 : m * 2 ^ (i - -1074).toNat = F := by rw [← hF]; congr 2
  rw [hz]
  simp only [signed, Nat.shiftLeft_eq, e1]
  cases s with
  | false =>
    rw [if_neg (by decide), Bool.false_and]
    rcases Int.lt_trichotomy (F : Int) 0 with h | h | h
    · omega
    · rw [Int.compare_eq_eq.2 h]; rfl
    · rw [Int.compare_eq_gt.2 h]; rfl
  | true =>
    rw [if_pos rfl, Bool.true_and]
    by_cases h : 0 < F
    · rw [Int.compare_eq_lt.2 (show -(F : Int) < 0 by omega), decide_eq_true h]; rfl
    · rw [Int.compare_eq_eq.2 (show -(F : Int) = 0 by omega), decide_eq_false h]; rfl
theorem good_sm {f F : Nat} {s : Bool} (h : Sm f s F) (hF : F ≤ 2 ^ 1074) : Good f := by
  have hn := neg0_sm h
  cases s with
  | false => exact .pos F (by rw [hn]; rfl) hF h
  | true =>
    by_cases h0 : 0 < F
    · exact .neg F (by rw [hn, decide_eq_true h0]; rfl) hF h
    · obtain rfl : F = 0 := by omega
      exact .zero (by rw [hn]; rfl) h
theorem sm_good {f : Nat} (h : Good f) : ∃ s F, Sm f s F ∧ F ≤ 2 ^ 1074 := by
  cases h with
  | neg F h0 hF h => exact ⟨_, F, h, hF⟩
  | pos F h0 hF h => exact ⟨_, F, h, hF⟩
  | zero h0 h => exact ⟨_, 0, h, Nat.zero_le _⟩
theorem xor_lo {b : Nat} (h : b < 2 ^ 63) : b ^^^ 2 ^ 63 = 2 ^ 63 + b := by
  apply Nat.eq_of_testBit_eq
  intro j
  rw [Nat.testBit_xor, Nat.testBit_two_pow]
  rcases Nat.lt_trichotomy j 63 with hj | hj | hj
  · rw [Nat.testBit_two_pow_add_gt hj, decide_eq_false (by omega), Bool.xor_false]
  · subst hj
    rw [Nat.testBit_two_pow_add_eq, decide_eq_true rfl, Nat.testBit_lt_two_pow h]; rfl
  · have h1 : b < 2 ^ j := Nat.lt_of_lt_of_le h (Nat.pow_le_pow_right (by omega) (by omega))
    have h2 : 2 ^ 63 + b < 2 ^ j := Nat.lt_of_lt_of_le (show 2 ^ 63 + b < 2 ^ 64 by omega) (Nat.pow_le_pow_right (by omega) (by omega))
    rw [Nat.testBit_lt_two_pow h1, Nat.testBit_lt_two_pow h2, decide_eq_false (by omega)]; rfl
theorem read_neg {b m : Nat} {s : Bool} {i : Int} (hb : b < 2 ^ 64) (h : double.read b = .number s m i) : double.read (b ^^^ 2 ^ 63) = .number (!s) m i := by
  have hs : double.signWeight = 2 ^ 63 := rfl
  have key : (b ^^^ 2 ^ 63) % 2 ^ 63 = b % 2 ^ 63 ∧ ((b ^^^ 2 ^ 63) / 2 ^ 63 % 2 == 1) = !(b / 2 ^ 63 % 2 == 1) := by
    rcases Nat.lt_or_ge b (2 ^ 63) with hlt | hge
    · rw [xor_lo hlt]
      refine ⟨by omega, ?_⟩
      rw [show (2 ^ 63 + b) / 2 ^ 63 = 1 by omega, show b / 2 ^ 63 = 0 by omega]; rfl
    · obtain ⟨a, rfl⟩ : ∃ a, b = 2 ^ 63 + a := ⟨b - 2 ^ 63, by omega⟩
      have ha : a < 2 ^ 63 := by omega
      rw [← xor_lo ha, Nat.xor_assoc, Nat.xor_self, Nat.xor_zero, xor_lo ha]
      refine ⟨by omega, ?_⟩
      rw [show (2 ^ 63 + a) / 2 ^ 63 = 1 by omega, show a / 2 ^ 63 = 0 by omega]; rfl
  unfold Format.read at h ⊢
  rw [hs] at h ⊢
  simp only [key.1, key.2]
  simp only at h
  split at h
  · rename_i h1; rw [if_pos h1]; cases h; rfl
  · rename_i h1
    rw [if_neg h1]
    split at h
    · rename_i h2; rw [if_pos h2]; cases h; rfl
    · split at h <;> cases h
theorem good_neg {b : Nat} (hb : b < 2 ^ 64) (h : Good b) : Good (b ^^^ 2 ^ 63) := by
  obtain ⟨s, F, ⟨m, i, hr, hi, hF⟩, hle⟩ := sm_good h
  exact good_sm ⟨m, i, read_neg hb hr, hi, hF⟩ hle
theorem add_fl {a b : Nat} (h : a + b ≤ 1000) : double.add (fl a) (fl b) = some (fl (a + b)) := by
  obtain ⟨z, hz, hu, hl⟩ := add_sm (fl_sm (n := a) (by omega)) (fl_sm (n := b) (by omega)) (fun h => by cases h)
  rw [if_neg (by decide)] at hu hl
  have h1 := hu (a + b) (by rw [Nat.add_mul]; exact Nat.le_refl _)
  have h2 := hl (a + b) h (by rw [Nat.add_mul]; exact Nat.le_refl _)
  rw [hz, Nat.le_antisymm h1 h2]
def half : Nat := 4602678819172646912
def Br (s : Nat) : Nat := ((double.div (fl s) 4643176031446892544).bind fun q => double.div q 4613937818241073152).getD 0
theorem br_ok : ∀ s : Nat, s ≤ 765 → (match double.div (fl s) 4643176031446892544 with | some q => double.div q 4613937818241073152 == some (Br s) && (double.order (Br s) 4602678819172646912).isSome | none => false) = true := by decide +kernel
theorem br (s : Nat) (h : s ≤ 765) : ∃ q o, double.div (fl s) 4643176031446892544 = some q ∧ double.div q 4613937818241073152 = some (Br s) ∧ double.order (Br s) 4602678819172646912 = some o := by
  have := br_ok s h
  split at this
  · rename_i q hq
    rw [Bool.and_eq_true] at this
    obtain ⟨o, ho⟩ := Option.isSome_iff_exists.1 this.2
    exact ⟨q, o, hq, eq_of_beq this.1, ho⟩
  · cases this
end Go.Proofs.YtjemdgmihbmgeaaGreatDoorIeee
