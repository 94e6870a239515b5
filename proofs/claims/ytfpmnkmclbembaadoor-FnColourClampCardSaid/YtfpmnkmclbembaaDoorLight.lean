/- Plain laws on a part of a colour that is made lighter or darker, in doubles. No program in sight. -/
import Derived.Test.YtfpmnkmclbembaaDoorIeee2
set_option linter.unusedVariables false
set_option linter.unusedSimpArgs false
set_option exponentiation.threshold 3000
namespace Go.Proofs.YtfpmnkmclbembaaDoorIeee
open Ieee

def one : Nat := 4607182418800017408
def mone : Nat := 13830554455654793216
def c255 : Nat := 4643176031446892544
theorem one_fl : fl 1 = one := by decide +kernel
theorem c255_fl : fl 255 = c255 := by decide +kernel
theorem read_one : double.read one = .number false (2 ^ 52) (-52) := by decide +kernel
theorem read_mone : double.read mone = .number true (2 ^ 52) (-52) := by decide +kernel
theorem read_zero : double.read 0 = .number false 0 (-1074) := by decide +kernel
theorem one_sm : Sm one false (2 ^ 1074) := by
  have := fl_sm (n := 1) (by decide)
  rw [one_fl, Nat.one_mul] at this; exact this
theorem read_place {x m : Nat} {s : Bool} {i : Int} (h : double.read x = .number s m i) : -1074 ≤ i := by
  have hl : double.leastPlace = -1074 := by decide
  unfold Format.read at h
  simp only [hl] at h
  split at h
  · cases h; omega
  · split at h
    · cases h; omega
    · split at h <;> cases h
theorem sm_of {x m : Nat} {s : Bool} {i : Int} (h : double.read x = .number s m i) : Sm x s (m * 2 ^ (i + 1074).toNat) := ⟨m, i, h, read_place h, rfl⟩
theorem scale {m n : Nat} {i j b : Int} (hb : -1074 ≤ b) (h1 : b ≤ i) (h2 : b ≤ j) (h : m * 2 ^ (i - b).toNat ≤ n * 2 ^ (j - b).toNat) : m * 2 ^ (i + 1074).toNat ≤ n * 2 ^ (j + 1074).toNat := by
  have e1 : m * 2 ^ (i + 1074).toNat = m * 2 ^ (i - b).toNat * 2 ^ (b + 1074).toNat := by
    rw [Nat.mul_assoc, ← Nat.pow_add]; congr 2; omega
  have e2 : n * 2 ^ (j + 1074).toNat = n * 2 ^ (j - b).toNat * 2 ^ (b + 1074).toNat := by
    rw [Nat.mul_assoc, ← Nat.pow_add]; congr 2; omega
  rw [e1, e2]
  exact Nat.mul_le_mul_right _ h
theorem one_pow : 2 ^ 52 * 2 ^ ((-52 : Int) + 1074).toNat = 2 ^ 1074 := by decide +kernel
def neg0 (f : Nat) : Bool := double.order f 0 == some .lt
/-- A factor from -1 to 1. -/
inductive Good (f : Nat) : Prop
  | neg (F : Nat) (h0 : neg0 f = true) (hF : F ≤ 2 ^ 1074) (h : Sm f true F)
  | pos (F : Nat) (h0 : neg0 f = false) (hF : F ≤ 2 ^ 1074) (h : Sm f false F)
  | zero (h0 : neg0 f = false) (h : Sm f true 0)
theorem cmp_le {a b : Int} (h : (some (compare a b) == some Ordering.lt || some (compare a b) == some Ordering.eq) = true) : a ≤ b := by
  rcases Int.lt_trichotomy a b with h1 | h1 | h1
  · omega
  · omega
  · exfalso
    have : compare a b = .gt := Int.compare_eq_gt.2 h1
    rw [this] at h; cases h
theorem cmp_ge {a b : Int} (h : (some (compare a b) == some Ordering.gt || some (compare a b) == some Ordering.eq) = true) : b ≤ a := by
  rcases Int.lt_trichotomy a b with h1 | h1 | h1
  · exfalso
    have : compare a b = .lt := Int.compare_eq_lt.2 h1
    rw [this] at h; cases h
  · omega
  · omega
theorem good_of {f : Nat} (h1 : (double.order f mone == some .gt || double.order f mone == some .eq) = true) (h2 : (double.order f one == some .lt || double.order f one == some .eq) = true) : Good f := by
  unfold Format.order at h1 h2
  rw [read_mone] at h1
  rw [read_one] at h2
  cases hr : double.read f with
  | nan s q => rw [hr] at h1; cases h1
  | infinity s =>
    rw [hr] at h1 h2
    cases s
    · cases h2
    · cases h1
  | number s m i =>
    rw [hr] at h1 h2
    have hi := read_place hr
    have hb1 : min i (-52) ≤ i := Int.min_le_left _ _
    have hb2 : min i (-52) ≤ -52 := Int.min_le_right _ _
    have hb0 : -1074 ≤ min i (-52) := by omega
    unfold Datum.order at h1 h2
    simp only at h1 h2
    generalize min i (-52) = b at *
    have g1 := cmp_ge h1
    have g2 := cmp_le h2
    have hz : neg0 f = (some (compare (signed s m (i - min i (-1074)).toNat) (signed false 0 (-1074 - min i (-1074)).toNat)) == some Ordering.lt) := by
      unfold neg0 Format.order
      rw [hr, read_zero]; rfl
    have e0 : signed false 0 (-1074 - min i (-1074)).toNat = 0 := by simp [signed]
    rw [e0] at hz
    cases s with
    | false =>
      have hF : m * 2 ^ (i + 1074).toNat ≤ 2 ^ 1074 := by
        have := scale hb0 hb1 hb2 (m := m) (n := 2 ^ 52) (by
          simp only [signed, Nat.shiftLeft_eq] at g2
          exact Int.ofNat_le.1 g2)
        rw [one_pow] at this; exact this
      refine .pos _ ?_ hF (sm_of hr)
      rw [hz]
      have : ¬ compare (signed false m (i - min i (-1074)).toNat) 0 = .lt := by
        intro hc
        have := Int.compare_eq_lt.1 hc
        simp only [signed, Nat.shiftLeft_eq] at this
        rw [if_neg (by decide)] at this
        omega
      cases hc : compare (signed false m (i - min i (-1074)).toNat) 0 with
      | lt => exact absurd hc this
      | eq => rfl
      | gt => rfl
    | true =>
      by_cases hm : m = 0
      · subst hm
        refine .zero ?_ ?_
        · rw [hz]
          simp [signed]
        · have := sm_of hr
          rw [Nat.zero_mul] at this; exact this
      · have hF : m * 2 ^ (i + 1074).toNat ≤ 2 ^ 1074 := by
          have := scale hb0 hb1 hb2 (m := m) (n := 2 ^ 52) (by
            simp only [signed, Nat.shiftLeft_eq] at g1
            have g3 : ((m * 2 ^ (i - b).toNat : Nat) : Int) ≤ ((2 ^ 52 * 2 ^ (-52 - b).toNat : Nat) : Int) := by
              have := g1
              simp only [if_true] at this
              omega
            exact Int.ofNat_le.1 g3)
          rw [one_pow] at this; exact this
        refine .neg _ ?_ hF (sm_of hr)
        rw [hz]
        have hp : 0 < m * 2 ^ (i - min i (-1074)).toNat := Nat.mul_pos (Nat.pos_of_ne_zero hm) (Nat.two_pow_pos _)
        have : compare (signed true m (i - min i (-1074)).toNat) 0 = .lt := by
          apply Int.compare_eq_lt.2
          simp only [signed, Nat.shiftLeft_eq, if_true]
          omega
        rw [this]; rfl
def lightV (p f : Nat) : Option Int :=
  if neg0 f = true then (double.add f one).bind fun g => (double.mul (fl p) g).bind fun z => floatToIntVal .f64 z .u8
  else (double.sub c255 (fl p)).bind fun u => (double.mul u f).bind fun v => (double.add v (fl p)).bind fun z => floatToIntVal .f64 z .u8
theorem sub255 : ∀ p : Nat, p ≤ 255 → double.sub c255 (fl p) = some (fl (255 - p)) := by decide +kernel
theorem byte_of {z K : Nat} (hK : K ≤ 255) (h : z ≤ fl K) : ∃ q : Nat, floatToIntVal .f64 z .u8 = some (q : Int) ∧ q ≤ K ∧ ∀ L, L ≤ 255 → fl L ≤ z → L ≤ q := by
  obtain ⟨h1, h2⟩ := small_le (by omega) h
  have h3 : Vr z < 256 * 2 ^ 1074 := Nat.lt_of_le_of_lt h2 ((Nat.mul_lt_mul_right (Nat.two_pow_pos _)).2 (by omega))
  refine ⟨_, to_byte h1 h3, ?_, fun L hL hz => ?_⟩
  · exact Nat.le_of_lt_succ ((Nat.div_lt_iff_lt_mul (Nat.two_pow_pos _)).2 (Nat.lt_of_le_of_lt h2 ((Nat.mul_lt_mul_right (Nat.two_pow_pos _)).2 (Nat.lt_succ_self _))))
  · exact (Nat.le_div_iff_mul_le (Nat.two_pow_pos _)).2 (small_ge (by omega) hz)
theorem pow2148 (a b : Nat) : a * 2 ^ 1074 * (b * 2 ^ 1074) = a * b * 2 ^ (1074 + 1074) := by
  rw [Nat.pow_add, Nat.mul_assoc, Nat.mul_assoc, ← Nat.mul_assoc (2 ^ 1074), Nat.mul_comm (2 ^ 1074) b, Nat.mul_assoc]
theorem light_ok {f : Nat} (hf : Good f) {p : Nat} (hp : p ≤ 255) : ∃ q : Nat, lightV p f = some (q : Int) ∧ q ≤ 255 ∧ (neg0 f = true → q ≤ p) ∧ (neg0 f = false → p ≤ q) := by
  cases hf with
  | neg F h0 hF h =>
    obtain ⟨g, hg, hgu, _⟩ := add_sm h one_sm (fun _ => hF)
    have hg1 : g ≤ fl 1 := hgu 1 (by rw [if_pos rfl, Nat.one_mul]; exact Nat.sub_le _ _)
    obtain ⟨gs, gv⟩ := small_le (by omega) hg1
    obtain ⟨z, hz, hzu⟩ := mul_sm (fl_sm (n := p) (by omega)) gs
    have hzp : z ≤ fl p := hzu (1074 + 1074) p rfl (by
      refine Nat.le_trans (Nat.mul_le_mul_left _ gv) (Nat.le_of_eq ?_)
      rw [pow2148, Nat.mul_one])
    obtain ⟨q, hq, hqp, _⟩ := byte_of hp hzp
    refine ⟨q, ?_, by omega, fun _ => hqp, fun h => by rw [h0] at h; cases h⟩
    unfold lightV
    rw [if_pos h0, hg, Option.bind_some, hz, Option.bind_some, hq]
  | pos F h0 hF h =>
    obtain ⟨v, hv, hvu⟩ := mul_sm (fl_sm (n := 255 - p) (by omega)) h
    have hvp : v ≤ fl (255 - p) := hvu (1074 + 1074) (255 - p) rfl (by
      refine Nat.le_trans (Nat.mul_le_mul_left _ hF) (Nat.le_of_eq ?_)
      have := pow2148 (255 - p) 1
      rw [Nat.one_mul, Nat.mul_one] at this; exact this)
    obtain ⟨vs, vv⟩ := small_le (by omega) hvp
    obtain ⟨z, hz, hzu, hzl⟩ := add_sm vs (fl_sm (n := p) (by omega)) (fun h => by cases h)
    have hz1 : z ≤ fl 255 := hzu 255 (by
      rw [if_neg (by decide)]
      refine Nat.le_trans (Nat.add_le_add_right vv _) (Nat.le_of_eq ?_)
      rw [← Nat.add_mul, show 255 - p + p = 255 by omega])
    have hz2 : fl p ≤ z := hzl p (by omega) (by rw [if_neg (by decide)]; exact Nat.le_add_left _ _)
    obtain ⟨q, hq, hqp, hql⟩ := byte_of (Nat.le_refl _) hz1
    refine ⟨q, ?_, hqp, (fun h => by rw [h0] at h; cases h), fun _ => hql p hp hz2⟩
    unfold lightV
    rw [if_neg (by rw [h0]; decide), sub255 p hp, Option.bind_some, hv, Option.bind_some, hz, Option.bind_some, hq]
  | zero h0 h =>
    have hv := mul_zero (fl_sm (n := 255 - p) (by omega)) h
    obtain ⟨z, hz, hzu, hzl⟩ := add_sm negZero (fl_sm (n := p) (by omega)) (fun _ => Nat.zero_le _)
    have hz1 : z ≤ fl p := hzu p (by rw [if_pos rfl]; exact Nat.sub_le _ _)
    have hz2 : fl p ≤ z := hzl p (by omega) (by rw [if_pos rfl, Nat.sub_zero]; exact Nat.le_refl _)
    obtain ⟨q, hq, hqp, hql⟩ := byte_of hp hz1
    refine ⟨q, ?_, by omega, (fun h => by rw [h0] at h; cases h), fun _ => hql p hp hz2⟩
    unfold lightV
    rw [if_neg (by rw [h0]; decide), sub255 p hp, Option.bind_some, hv, Option.bind_some, hz, Option.bind_some, hq]
theorem fl_int : ∀ p : Nat, p ≤ 255 → floatOfInt .f64 (p : Int) = fl p := by decide +kernel
end Go.Proofs.YtfpmnkmclbembaaDoorIeee
