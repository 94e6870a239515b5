/- Plain laws on rounding to the nearest double: it is monotone. No program in sight. -/
import Derived.Laws.FloatArith
set_option linter.unusedVariables false
set_option linter.unusedSimpArgs false
namespace Go.Proofs.YtfpmnkmclbembaaDoorIeee
open Ieee

/-- A quotient, to the nearest whole number, between two the even one. -/
def rhe (n g : Nat) : Nat := n / g + if g < 2 * (n % g) ∨ (g = 2 * (n % g) ∧ n / g % 2 = 1) then 1 else 0
theorem rhe_le (n g : Nat) : rhe n g ≤ n / g + 1 := by unfold rhe; split <;> omega
theorem le_rhe (n g : Nat) : n / g ≤ rhe n g := by unfold rhe; omega
theorem rhe_mono {n1 g1 n2 g2 : Nat} (h1 : 0 < g1) (h2 : 0 < g2) (h : n1 * g2 ≤ n2 * g1) : rhe n1 g1 ≤ rhe n2 g2 := by
  unfold rhe
  have d1 := Nat.div_add_mod n1 g1
  have d2 := Nat.div_add_mod n2 g2
  have m1 := Nat.mod_lt n1 h1
  have m2 := Nat.mod_lt n2 h2
  generalize n1 / g1 = a1 at *
  generalize n1 % g1 = r1 at *
  generalize n2 / g2 = a2 at *
  generalize n2 % g2 = r2 at *
  subst d1 d2
  have e1 : (g1 * a1 + r1) * g2 = a1 * (g1 * g2) + r1 * g2 := by rw [Nat.add_mul, Nat.mul_comm g1 a1, Nat.mul_assoc]
  have e2 : (g2 * a2 + r2) * g1 = a2 * (g1 * g2) + r2 * g1 := by rw [Nat.add_mul, Nat.mul_comm g2 a2, Nat.mul_assoc, Nat.mul_comm g2 g1]
  rw [e1, e2] at h
  have b2 : r2 * g1 < g1 * g2 := by rw [Nat.mul_comm g1 g2]; exact (Nat.mul_lt_mul_right h1).2 m2
  have ha : a1 ≤ a2 := by
    rcases Nat.lt_or_ge a2 a1 with hlt | hge
    · exfalso
      have := Nat.mul_le_mul_right (g1 * g2) hlt
      rw [Nat.succ_mul] at this
      omega
    · exact hge
  rcases Nat.lt_or_ge a1 a2 with hlt | hge
  · split <;> omega
  · obtain rfl : a1 = a2 := by omega
    have hr : r1 * g2 ≤ r2 * g1 := by omega
    have key : ∀ x y : Nat, 2 * x * y = 2 * (x * y) := fun x y => Nat.mul_assoc 2 x y
    by_cases c1 : g1 < 2 * r1 ∨ (g1 = 2 * r1 ∧ a1 % 2 = 1)
    · rw [if_pos c1]
      have c2 : g2 < 2 * r2 ∨ (g2 = 2 * r2 ∧ a1 % 2 = 1) := by
        rcases c1 with c1 | ⟨c1, ho⟩
        · left
          have s1 : g1 * g2 < 2 * r1 * g2 := (Nat.mul_lt_mul_right h2).2 c1
          rw [key] at s1
          rcases Nat.lt_or_ge g2 (2 * r2) with hh | hh
          · exact hh
          · exfalso
            have s2 : 2 * r2 * g1 ≤ g2 * g1 := Nat.mul_le_mul_right g1 hh
            rw [key, Nat.mul_comm g2 g1] at s2
            omega
        · have s1 : g1 * g2 = 2 * r1 * g2 := congrArg (· * g2) c1
          rw [key] at s1
          rcases Nat.lt_trichotomy g2 (2 * r2) with hh | hh | hh
          · exact .inl hh
          · exact .inr ⟨hh, ho⟩
          · exfalso
            have s2 : 2 * r2 * g1 < g2 * g1 := (Nat.mul_lt_mul_right h1).2 hh
            rw [key, Nat.mul_comm g2 g1] at s2
            omega
      rw [if_pos c2]
      exact Nat.le_refl _
    · rw [if_neg c1]; omega
theorem toNat_more (a b c : Prop) [Decidable a] [Decidable b] [Decidable c] : (decide a || (decide b && decide c)).toNat = if a ∨ (b ∧ c) then 1 else 0 := by
  by_cases a <;> by_cases b <;> by_cases c <;> simp_all
theorem cut_even (neg : Bool) (n d : Nat) : Toward.even.cut neg n d = rhe n (2 ^ d) := by
  have hform : ∀ g, (n / g + (decide (g < 2 * (n % g)) || (g == 2 * (n % g) && n / g % 2 == 1)).toNat) = rhe n g := by
    intro g
    unfold rhe
    rw [← toNat_more]
    rfl
  unfold Toward.cut
  simp only [Nat.one_shiftLeft]
  rw [hform]
  rcases Nat.lt_or_ge (n.log2 + 2) d with hd | hd
  · rw [Nat.min_eq_right (by omega)]
    have h1 : n < 2 ^ (n.log2 + 1) := Nat.lt_log2_self
    have h2 : 2 ^ (n.log2 + 2) = 2 * 2 ^ (n.log2 + 1) := by rw [Nat.pow_succ, Nat.mul_comm]
    have h3 : 2 ^ (n.log2 + 2) ≤ 2 ^ d := Nat.pow_le_pow_right (by omega) (by omega)
    have z : ∀ g, 2 * n < g → rhe n g = 0 := by
      intro g hg
      unfold rhe
      rw [Nat.div_eq_of_lt (by omega), Nat.mod_eq_of_lt (by omega), if_neg (by omega)]
    rw [z _ (by omega), z _ (by omega)]
  · rw [Nat.min_eq_left hd]
def lastP (b : Int) (l : Nat) : Int := max (b + l - 52) (-1074)
def rg (N : Nat) (b : Int) : Nat :=
  if N = 0 then 0 else (lastP b N.log2 + 1074).toNat * 2 ^ 52 + rhe (N * 2 ^ (b - lastP b N.log2).toNat) (2 ^ (lastP b N.log2 - b).toNat)
def top : Nat := 2047 * 2 ^ 52
theorem nearest_eq (neg : Bool) (m : Nat) (p : Int) : double.nearest neg m p = double.word neg (min (rg m p) top) := by
  unfold Format.nearest rg
  by_cases hm : m = 0
  · rw [if_pos hm, if_pos hm]; rfl
  · rw [if_neg hm, if_neg hm]
    simp only [cut_even, Nat.shiftLeft_eq]
    rfl
theorem rg_mono {N1 N2 : Nat} (b : Int) (h : N1 ≤ N2) : rg N1 b ≤ rg N2 b := by
  by_cases h1 : N1 = 0
  · unfold rg; rw [if_pos h1]; omega
  have h2 : N2 ≠ 0 := by omega
  have hl : N1.log2 ≤ N2.log2 := (Nat.le_log2 h2).2 (Nat.le_trans (Nat.log2_self_le h1) h)
  have hk : lastP b N1.log2 ≤ lastP b N2.log2 := by unfold lastP; omega
  unfold rg
  rw [if_neg h1, if_neg h2]
  rcases Int.lt_or_eq_of_le hk with hlt | heq
  · have f2 : lastP b N2.log2 = b + N2.log2 - 52 := by unfold lastP at hlt ⊢; omega
    have f1 : b + N1.log2 - 52 ≤ lastP b N1.log2 := by unfold lastP; omega
    have f0 : -1074 ≤ lastP b N1.log2 := by unfold lastP; omega
    have u1 : rhe (N1 * 2 ^ (b - lastP b N1.log2).toNat) (2 ^ (lastP b N1.log2 - b).toNat) ≤ 2 ^ 53 := by
      refine Nat.le_trans (rhe_le _ _) ?_
      have hlt1 : N1 < 2 ^ (N1.log2 + 1) := Nat.lt_log2_self
      refine Nat.succ_le_of_lt ((Nat.div_lt_iff_lt_mul (Nat.two_pow_pos _)).2 ?_)
      refine Nat.lt_of_lt_of_le ((Nat.mul_lt_mul_right (Nat.two_pow_pos _)).2 hlt1) ?_
      rw [← Nat.pow_add, ← Nat.pow_add]
      exact Nat.pow_le_pow_right (by omega) (by omega)
    have u2 : 2 ^ 52 ≤ rhe (N2 * 2 ^ (b - lastP b N2.log2).toNat) (2 ^ (lastP b N2.log2 - b).toNat) := by
      refine Nat.le_trans ?_ (le_rhe _ _)
      have hge2 : 2 ^ N2.log2 ≤ N2 := Nat.log2_self_le h2
      refine (Nat.le_div_iff_mul_le (Nat.two_pow_pos _)).2 ?_
      refine Nat.le_trans ?_ (Nat.mul_le_mul_right _ hge2)
      rw [← Nat.pow_add, ← Nat.pow_add]
      exact Nat.pow_le_pow_right (by omega) (by omega)
    have e : (lastP b N1.log2 + 1074).toNat + 1 ≤ (lastP b N2.log2 + 1074).toNat := by omega
    have := Nat.mul_le_mul_right (2 ^ 52) e
    rw [Nat.succ_mul] at this
    have e53 : (2 : Nat) ^ 53 = 2 ^ 52 + 2 ^ 52 := by decide
    omega
  · rw [← heq]
    refine Nat.add_le_add_left (rhe_mono (Nat.two_pow_pos _) (Nat.two_pow_pos _) ?_) _
    exact Nat.mul_le_mul_right _ (Nat.mul_le_mul_right _ h)
theorem log2_shift {N : Nat} (h : N ≠ 0) (k : Nat) : (N * 2 ^ k).log2 = N.log2 + k := by
  have hp : N * 2 ^ k ≠ 0 := Nat.mul_ne_zero h (Nat.pos_iff_ne_zero.1 (Nat.two_pow_pos k))
  have a1 := Nat.log2_self_le h
  have a2 : N < 2 ^ (N.log2 + 1) := Nat.lt_log2_self
  apply Nat.le_antisymm
  · have : (N * 2 ^ k).log2 < N.log2 + 1 + k := (Nat.log2_lt hp).2 (by rw [Nat.pow_add]; exact (Nat.mul_lt_mul_right (Nat.two_pow_pos _)).2 a2)
    omega
  · exact (Nat.le_log2 hp).2 (by rw [Nat.pow_add]; exact Nat.mul_le_mul_right _ a1)
theorem rg_shift (N k : Nat) (b : Int) : rg (N * 2 ^ k) (b - k) = rg N b := by
  by_cases h : N = 0
  · subst h; simp [rg]
  have hp : N * 2 ^ k ≠ 0 := Nat.mul_ne_zero h (Nat.pos_iff_ne_zero.1 (Nat.two_pow_pos k))
  have hl : lastP (b - k) (N * 2 ^ k).log2 = lastP b N.log2 := by rw [log2_shift h]; unfold lastP; omega
  unfold rg
  rw [if_neg h, if_neg hp, hl]
  congr 1
  generalize lastP b N.log2 = t
  have e : N * 2 ^ k * 2 ^ (b - k - t).toNat * 2 ^ (t - b).toNat = N * 2 ^ (b - t).toNat * 2 ^ (t - (b - k)).toNat := by
    rw [Nat.mul_assoc, Nat.mul_assoc, Nat.mul_assoc, ← Nat.pow_add, ← Nat.pow_add, ← Nat.pow_add]
    congr 2
    omega
  exact Nat.le_antisymm (rhe_mono (Nat.two_pow_pos _) (Nat.two_pow_pos _) (by rw [e]; exact Nat.le_refl _)) (rhe_mono (Nat.two_pow_pos _) (Nat.two_pow_pos _) (by rw [e]; exact Nat.le_refl _))
theorem rg_base (m : Nat) {p b : Int} (h : b ≤ p) : rg (m * 2 ^ (p - b).toNat) b = rg m p := by
  have := rg_shift m (p - b).toNat p
  rw [show p - ((p - b).toNat : Int) = b by omega] at this
  exact this
/-- Rounding is monotone: of two numbers, scaled to a base. -/
theorem rg_le {m1 m2 : Nat} {p1 p2 b : Int} (h1 : b ≤ p1) (h2 : b ≤ p2) (h : m1 * 2 ^ (p1 - b).toNat ≤ m2 * 2 ^ (p2 - b).toNat) : rg m1 p1 ≤ rg m2 p2 := by
  rw [← rg_base m1 h1, ← rg_base m2 h2]
  exact rg_mono b h
theorem rg_eq {m1 m2 : Nat} {p1 p2 b : Int} (h1 : b ≤ p1) (h2 : b ≤ p2) (h : m1 * 2 ^ (p1 - b).toNat = m2 * 2 ^ (p2 - b).toNat) : rg m1 p1 = rg m2 p2 :=
  Nat.le_antisymm (rg_le h1 h2 (Nat.le_of_eq h)) (rg_le h2 h1 (Nat.le_of_eq h.symm))
end Go.Proofs.YtfpmnkmclbembaaDoorIeee
