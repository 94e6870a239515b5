/- Plain laws on doubles: how far what an operation gives is from the exact number (numbers up to 1000). No program in sight. -/
import Derived.Test.YtfpmnkmclbembaaDoorTurn
set_option linter.unusedVariables false
set_option linter.unusedSimpArgs false
set_option exponentiation.threshold 3000
namespace Go.Proofs.YtfpmnkmclbembaaDoorIeee
open Ieee

theorem Vr_parts (A q : Nat) (hq : q ≤ 2 ^ 53) (h : A = 0 ∨ 2 ^ 52 ≤ q) : Vr (A * 2 ^ 52 + q) = q * 2 ^ A := by
  unfold Vr
  by_cases h1 : A * 2 ^ 52 + q < 2 ^ 52
  · have hA : A = 0 := by omega
    subst hA
    rw [if_pos h1]; simp
  · rw [if_neg h1]
    have hq2 : 2 ^ 52 ≤ q := by omega
    rcases Nat.lt_or_ge q (2 ^ 53) with hlt | hge
    · have e1 : 2 ^ 52 + (A * 2 ^ 52 + q) % 2 ^ 52 = q := by omega
      have e2 : (A * 2 ^ 52 + q) / 2 ^ 52 - 1 = A := by omega
      rw [e1, e2]
    · have e1 : 2 ^ 52 + (A * 2 ^ 52 + q) % 2 ^ 52 = 2 ^ 52 := by omega
      have e2 : (A * 2 ^ 52 + q) / 2 ^ 52 - 1 = A + 1 := by omega
      have e3 : q = 2 ^ 52 * 2 := by omega
      rw [e1, e2, e3, Nat.mul_assoc, show 2 ^ (A + 1) = 2 * 2 ^ A from Nat.pow_succ']
theorem rhe_near (n g : Nat) (hg : 0 < g) : rhe n g * g ≤ n + g ∧ n ≤ rhe n g * g + g := by
  have h1 := Nat.mul_le_mul_right g (rhe_le n g)
  have h2 := Nat.mul_le_mul_right g (le_rhe n g)
  have h3 := Nat.div_add_mod n g
  have h4 := Nat.mod_lt n hg
  rw [Nat.add_mul, Nat.one_mul] at h1
  rw [Nat.mul_comm] at h3
  generalize rhe n g * g = a at *
  generalize n / g * g = b at *
  omega
def U : Nat := 2 ^ 1074
def D : Nat := 2 ^ 1034
theorem rg_near (N e : Nat) (h : N ≤ 1000 * 2 ^ (1074 + e)) : Vr (rg N (-((1074 + e : Nat) : Int))) * 2 ^ e ≤ N + D * 2 ^ e ∧ N ≤ Vr (rg N (-((1074 + e : Nat) : Int))) * 2 ^ e + D * 2 ^ e := by
  by_cases hN : N = 0
  · subst hN
    have : rg 0 (-((1074 + e : Nat) : Int)) = 0 := by unfold rg; rw [if_pos rfl]
    rw [this]
    have : Vr 0 = 0 := by unfold Vr; rw [if_pos (by decide)]
    rw [this]
    omega
  · have a1 := Nat.log2_self_le hN
    have a2 : N < 2 ^ (N.log2 + 1) := Nat.lt_log2_self
    have hL : N.log2 ≤ 1083 + e := by
      have : N.log2 < 1084 + e := (Nat.log2_lt hN).2 (Nat.lt_of_le_of_lt h (by
        rw [show 1084 + e = 10 + (1074 + e) by omega, Nat.pow_add 2 10]
        exact (Nat.mul_lt_mul_right (Nat.two_pow_pos _)).2 (by decide)))
      omega
    unfold rg
    rw [if_neg hN]
    generalize hl : N.log2 = L at *
    obtain ⟨A, hA, hp, hA3⟩ : ∃ A : Nat, lastP (-((1074 + e : Nat) : Int)) L = (A : Int) - 1074 ∧ L ≤ A + e + 52 ∧ (A = 0 ∨ L = A + e + 52) := by
      refine ⟨(lastP (-((1074 + e : Nat) : Int)) L + 1074).toNat, ?_, ?_, ?_⟩ <;> unfold lastP <;> omega
    have hA1 : A ≤ 1034 := by omega
    rw [hA, show ((A : Int) - 1074 + 1074).toNat = A by omega, show (-((1074 + e : Nat) : Int) - ((A : Int) - 1074)).toNat = 0 by omega, show ((A : Int) - 1074 - -((1074 + e : Nat) : Int)).toNat = A + e by omega, Nat.pow_zero, Nat.mul_one]
    have hg : 0 < 2 ^ (A + e) := Nat.two_pow_pos _
    have q1 : rhe N (2 ^ (A + e)) ≤ 2 ^ 53 := by
      refine Nat.le_trans (rhe_le _ _) (Nat.succ_le_of_lt ((Nat.div_lt_iff_lt_mul hg).2 (Nat.lt_of_lt_of_le a2 ?_)))
      rw [← Nat.pow_add]
      exact Nat.pow_le_pow_right (by omega) (by omega)
    have q2 : A = 0 ∨ 2 ^ 52 ≤ rhe N (2 ^ (A + e)) := by
      rcases hA3 with h0 | h0
      · exact .inl h0
      · refine .inr (Nat.le_trans ((Nat.le_div_iff_mul_le hg).2 (Nat.le_trans ?_ a1)) (le_rhe _ _))
        rw [← Nat.pow_add]
        exact Nat.pow_le_pow_right (by omega) (by omega)
    obtain ⟨n1, n2⟩ := rhe_near N (2 ^ (A + e)) hg
    rw [Vr_parts A _ q1 q2, Nat.mul_assoc, ← Nat.pow_add]
    have hD : 2 ^ (A + e) ≤ D * 2 ^ e := by
      unfold D
      rw [← Nat.pow_add]
      exact Nat.pow_le_pow_right (by omega) (by omega)
    generalize rhe N (2 ^ (A + e)) * 2 ^ (A + e) = x at *
    omega
theorem word_sm {s : Bool} {r : Nat} (h : r < top) : Sm (double.word s r) s (Vr r) := by
  cases s with
  | false => exact read_rung h
  | true =>
    have h63 : r < 2 ^ 63 := Nat.lt_trans h (by decide)
    obtain ⟨m, i, hr, hi, hV⟩ := read_rung h
    refine ⟨m, i, ?_, hi, hV⟩
    have e : double.word true r = r ^^^ 2 ^ 63 := by rw [xor_lo h63]; rfl
    rw [e]
    exact read_neg (Nat.lt_trans h63 (by decide)) hr
/-- V is a double's magnitude near to X / 2^e, in units of 2^-1074. -/
structure Mag (V X e : Nat) : Prop where
  le : V * 2 ^ e ≤ X + D * 2 ^ e
  ge : X ≤ V * 2 ^ e + D * 2 ^ e
  zero : X = 0 → V = 0
  upto : ∀ K, K ≤ 1000 → X ≤ K * 2 ^ (1074 + e) → V ≤ K * U
/-- What is written of a number up to 1000: a double near to it. -/
theorem write_near (s : Bool) (m : Nat) (p : Int) (e : Nat) (hp : -((1074 + e : Nat) : Int) ≤ p) (h : m * 2 ^ (p + ((1074 + e : Nat) : Int)).toNat ≤ 1000 * 2 ^ (1074 + e)) :
    ∃ V, Sm (double.write (.number s m p)) s V ∧ Mag V (m * 2 ^ (p + ((1074 + e : Nat) : Int)).toNat) e := by
  have hb := rg_base m hp
  rw [show p - -((1074 + e : Nat) : Int) = p + ((1074 + e : Nat) : Int) by omega] at hb
  have ht : rg m p < top := Nat.lt_of_le_of_lt (rg_le_fl (K := 1000) hp h) (fl_top 1000 (Nat.le_refl _))
  obtain ⟨n1, n2⟩ := rg_near _ e h
  rw [hb] at n1 n2
  refine ⟨Vr (rg m p), ?_, n1, n2, fun h0 => ?_, fun K hK hX => ?_⟩
  · rw [write_eq, Nat.min_eq_left (Nat.le_of_lt ht)]
    exact word_sm ht
  · have hm : m = 0 := by
      rcases Nat.mul_eq_zero.1 h0 with h | h
      · exact h
      · exact absurd h (Nat.pos_iff_ne_zero.1 (Nat.two_pow_pos _))
    rw [hm]
    unfold rg Vr
    rw [if_pos rfl, if_pos (by decide)]
  · exact (small_le hK (rg_le_fl (K := K) hp hX)).2
/-- The word x stands for v / 2^1074. -/
def Va (x : Nat) (v : Int) : Prop := ∃ s V, Sm x s V ∧ v = if s then -(V : Int) else (V : Int)
theorem va_pos {x V : Nat} (h : Sm x false V) : Va x (V : Int) := ⟨_, _, h, rfl⟩
/-- The datum stands for v / 2^1074. -/
def DVa (d : Datum) (v : Int) : Prop := ∃ s m i, d = .number s m i ∧ -1074 ≤ i ∧ v = signed s m (i + 1074).toNat
theorem Va.datum {x : Nat} {v : Int} (h : Va x v) : DVa (double.read x) v := by
  obtain ⟨s, V, ⟨m, i, hr, hi, hV⟩, hv⟩ := h
  refine ⟨s, m, i, hr, hi, ?_⟩
  unfold signed
  rw [Nat.shiftLeft_eq, hV]
  exact hv
theorem DVa.neg {d : Datum} {v : Int} (h : DVa d v) : DVa d.opposite (-v) := by
  obtain ⟨s, m, i, rfl, hi, hv⟩ := h
  refine ⟨!s, m, i, rfl, hi, ?_⟩
  rw [hv]
  unfold signed
  cases s <;> simp
theorem signed_scale (s : Bool) (m a b : Nat) : signed s m (a + b) = signed s m a * ((2 ^ b : Nat) : Int) := by
  unfold signed
  rw [Nat.shiftLeft_eq, Nat.shiftLeft_eq, Nat.pow_add, ← Nat.mul_assoc]
  cases s with
  | false => rw [if_neg (by decide), if_neg (by decide), Int.natCast_mul]
  | true => rw [if_pos rfl, if_pos rfl, Int.natCast_mul, Int.neg_mul]
def sg (s : Bool) (V : Nat) : Int := if s then -(V : Int) else (V : Int)
/-- c is near to x. -/
structure Near (c x : Int) : Prop where
  le : c ≤ x + D
  ge : x ≤ c + D
  pos : 0 ≤ x → 0 ≤ c
  neg : x ≤ 0 → c ≤ 0
  upto : ∀ K : Nat, K ≤ 1000 → x ≤ K * U → c ≤ K * U
  down : ∀ K : Nat, K ≤ 1000 → -(K * U : Int) ≤ x → -(K * U : Int) ≤ c
theorem near_of (s : Bool) {V X : Nat} (h : Mag V X 0) : Near (sg s V) (sg s X) := by
  obtain ⟨h1, h2, h3, h4⟩ := h
  rw [Nat.pow_zero, Nat.mul_one, Nat.mul_one] at h1 h2
  have h4' : ∀ K : Nat, K ≤ 1000 → (X : Int) ≤ K * U → (V : Int) ≤ K * U := fun K hK hX => by
    have := h4 K hK (by rw [Nat.add_zero]; exact Int.ofNat_le.1 (by rw [Int.natCast_mul]; exact hX))
    have := Int.ofNat_le.2 this
    rw [Int.natCast_mul] at this
    exact this
  have hKU : ∀ K : Nat, (0 : Int) ≤ K * U := fun K => by rw [← Int.natCast_mul]; exact Int.natCast_nonneg _
  clear h4
  generalize hd : D = d at *
  have e1 : X = 0 → V = 0 := h3
  cases s with
  | false =>
    unfold sg
    rw [if_neg (by decide), if_neg (by decide)]
    refine ⟨by rw [hd]; omega, by rw [hd]; omega, fun _ => by omega, fun h => by omega, h4', fun K _ _ => by have := hKU K; omega⟩
  | true =>
    unfold sg
    rw [if_pos rfl, if_pos rfl]
    refine ⟨by rw [hd]; omega, by rw [hd]; omega, fun h => by omega, fun _ => by omega, fun K _ _ => by have := hKU K; omega, fun K hK hX => ?_⟩
    have := h4' K hK (by omega)
    omega
theorem sg_mul (s t : Bool) (A B : Nat) : sg s A * sg t B = sg (s ^^ t) (A * B) := by
  unfold sg
  rw [Int.natCast_mul]
  cases s <;> cases t
  · rfl
  · exact Int.mul_neg _ _
  · exact Int.neg_mul _ _
  · exact Int.neg_mul_neg _ _
theorem sg_natAbs (s : Bool) (A : Nat) : (sg s A).natAbs = A := by
  unfold sg
  split
  · rw [Int.natAbs_neg, Int.natAbs_natCast]
  · rw [Int.natAbs_natCast]
theorem sg_of (x : Int) (s : Bool) (h : x ≠ 0 → s = decide (x < 0)) : x = sg s x.natAbs := by
  unfold sg
  rcases Int.lt_trichotomy x 0 with h0 | h0 | h0
  · rw [h (by omega), decide_eq_true h0, if_pos rfl]; omega
  · subst h0; split <;> rfl
  · rw [h (by omega), decide_eq_false (by omega), if_neg (by decide)]; omega
theorem sum_near {d1 d2 : Datum} {a b : Int} (h1 : DVa d1 a) (h2 : DVa d2 b) (h : (a + b).natAbs ≤ 1000 * U) :
    ∃ z c, (d1.sum d2).map double.write = some z ∧ Va z c ∧ Near c (a + b) := by
  obtain ⟨s, m, i, rfl, hi, ha⟩ := h1
  obtain ⟨t, n, j, rfl, hj, hb⟩ := h2
  have hb1 : min i j ≤ i := Int.min_le_left _ _
  have hb2 : min i j ≤ j := Int.min_le_right _ _
  have hb0 : -1074 ≤ min i j := by omega
  unfold Datum.sum
  simp only [Option.map_some]
  generalize min i j = q at *
  have ea : a = signed s m (i - q).toNat * ((2 ^ (q + 1074).toNat : Nat) : Int) := by
    rw [ha, ← signed_scale, show (i - q).toNat + (q + 1074).toNat = (i + 1074).toNat by omega]
  have eb : b = signed t n (j - q).toNat * ((2 ^ (q + 1074).toNat : Nat) : Int) := by
    rw [hb, ← signed_scale, show (j - q).toNat + (q + 1074).toNat = (j + 1074).toNat by omega]
  have eT : a + b = (signed s m (i - q).toNat + signed t n (j - q).toNat) * ((2 ^ (q + 1074).toNat : Nat) : Int) := by rw [Int.add_mul, ← ea, ← eb]
  generalize signed s m (i - q).toNat + signed t n (j - q).toNat = T at *
  have hp : (0 : Int) < ((2 ^ (q + 1074).toNat : Nat) : Int) := Int.natCast_pos.2 (Nat.two_pow_pos _)
  have hN : T.natAbs * 2 ^ (q + ((1074 + 0 : Nat) : Int)).toNat = (a + b).natAbs := by
    rw [eT, Int.natAbs_mul, Int.natAbs_natCast]; rfl
  have hsg : a + b = sg (if T = 0 then s && t else decide (T < 0)) (a + b).natAbs := by
    refine sg_of _ _ (fun hne => ?_)
    have hT : T ≠ 0 := fun e => hne (by rw [eT, e, Int.zero_mul])
    rw [if_neg hT]
    rcases Int.lt_trichotomy T 0 with h0 | h0 | h0
    · have hs : a + b < 0 := by rw [eT]; exact Int.mul_neg_of_neg_of_pos h0 hp
      rw [decide_eq_true h0, decide_eq_true hs]
    · exact absurd h0 hT
    · have hs : 0 < a + b := by rw [eT]; exact Int.mul_pos h0 hp
      rw [decide_eq_false (by omega), decide_eq_false (by omega)]
  obtain ⟨V, v1, v2⟩ := write_near (if T = 0 then s && t else decide (T < 0)) T.natAbs q 0 (by omega) (by rw [hN]; exact h)
  rw [hN] at v2
  refine ⟨_, _, rfl, ⟨_, V, v1, rfl⟩, ?_⟩
  have := near_of (if T = 0 then s && t else decide (T < 0)) v2
  rw [← hsg] at this
  exact this
theorem add_near {x y : Nat} {a b : Int} (hx : Va x a) (hy : Va y b) (h : (a + b).natAbs ≤ 1000 * U) : ∃ z c, double.add x y = some z ∧ Va z c ∧ Near c (a + b) :=
  sum_near hx.datum hy.datum h
theorem sub_near {x y : Nat} {a b : Int} (hx : Va x a) (hy : Va y b) (h : (a - b).natAbs ≤ 1000 * U) : ∃ z c, double.sub x y = some z ∧ Va z c ∧ Near c (a - b) :=
  sum_near hx.datum hy.datum.neg h
theorem pow_two (m n : Nat) (x y : Nat) : m * 2 ^ x * (n * 2 ^ y) = m * n * 2 ^ (x + y) := by
  rw [Nat.pow_add, Nat.mul_assoc, Nat.mul_assoc, ← Nat.mul_assoc n, ← Nat.mul_assoc (2 ^ x), Nat.mul_comm n]
theorem U_pos : 0 < U := Nat.two_pow_pos _
/-- A product that is a whole number of units. -/
theorem mul_near {x y : Nat} {a b e : Int} (hx : Va x a) (hy : Va y b) (he : a * b = e * U) (h : e.natAbs ≤ 1000 * U) : ∃ z c, double.mul x y = some z ∧ Va z c ∧ Near c e := by
  obtain ⟨s, A, ⟨m, i, rx, hi, hA⟩, ha⟩ := hx
  obtain ⟨t, B, ⟨n, j, ry, hj, hB⟩, hb⟩ := hy
  have hab : a * b = sg (s ^^ t) (A * B) := by rw [ha, hb]; exact sg_mul s t A B
  have hAB : A * B = e.natAbs * U := by
    have := congrArg Int.natAbs (hab.symm.trans he)
    rw [sg_natAbs, Int.natAbs_mul, Int.natAbs_natCast] at this
    exact this
  have hN : m * n * 2 ^ (i + j + ((1074 + 1074 : Nat) : Int)).toNat = e.natAbs * U := by
    rw [← hAB, ← hA, ← hB, pow_two m n]
    congr 2
    omega
  have hm : double.mul x y = some (double.write (.number (s ^^ t) (m * n) (i + j))) := by
    unfold Format.mul
    rw [rx, ry]
    rfl
  have hUU : (2 : Nat) ^ (1074 + 1074) = U * U := by rw [Nat.pow_add]; rfl
  obtain ⟨V, v1, v2, v3, v4, v5⟩ := write_near (s ^^ t) (m * n) (i + j) 1074 (by omega) (by rw [hN, hUU, ← Nat.mul_assoc]; exact Nat.mul_le_mul_right _ h)
  rw [hN] at v2 v3 v4 v5
  have eU : (2 : Nat) ^ 1074 = U := rfl
  rw [eU, ← Nat.add_mul] at v2 v3
  have hM : Mag V e.natAbs 0 := by
    refine ⟨?_, ?_, fun h0 => v4 (by rw [h0, Nat.zero_mul]), fun K hK hX => v5 K hK ?_⟩
    · rw [Nat.pow_zero, Nat.mul_one, Nat.mul_one]; exact Nat.le_of_mul_le_mul_right v2 U_pos
    · rw [Nat.pow_zero, Nat.mul_one, Nat.mul_one]; exact Nat.le_of_mul_le_mul_right v3 U_pos
    · rw [hUU, ← Nat.mul_assoc]; exact Nat.mul_le_mul_right _ hX
  refine ⟨_, _, hm, ⟨_, V, v1, rfl⟩, ?_⟩
  have hs : e = sg (s ^^ t) e.natAbs := by
    have h1 : e * U = sg (s ^^ t) e.natAbs * U := by
      rw [← he, hab, hAB]
      unfold sg
      split
      · rw [Int.natCast_mul, Int.neg_mul]
      · rw [Int.natCast_mul]
    exact Int.eq_of_mul_eq_mul_right (Int.ne_of_gt (Int.natCast_pos.2 U_pos)) h1
  have := near_of (s ^^ t) hM
  rw [← hs] at this
  exact this
theorem va_uniq {x : Nat} {a b : Int} (h1 : Va x a) (h2 : Va x b) : a = b := by
  obtain ⟨s, V, ⟨m, i, hr, hi, hV⟩, rfl⟩ := h1
  obtain ⟨t, W, ⟨n, j, hr', hj, hW⟩, rfl⟩ := h2
  rw [hr] at hr'
  injection hr' with e1 e2 e3
  subst e1 e2 e3
  rw [← hV, ← hW]
theorem compare_scale (x y k : Int) (hk : 0 < k) : compare (x * k) (y * k) = compare x y := by
  rcases Int.lt_trichotomy x y with h | h | h
  · rw [Int.compare_eq_lt.2 h, Int.compare_eq_lt.2 (Int.mul_lt_mul_of_pos_right h hk)]
  · rw [h, Int.compare_eq_eq.2 rfl, Int.compare_eq_eq.2 rfl]
  · rw [Int.compare_eq_gt.2 h, Int.compare_eq_gt.2 (Int.mul_lt_mul_of_pos_right h hk)]
theorem order_va {x y : Nat} {a b : Int} (hx : Va x a) (hy : Va y b) : double.order x y = some (compare a b) := by
  obtain ⟨s, m, i, h1, hi, ha⟩ := hx.datum
  obtain ⟨t, n, j, h2, hj, hb⟩ := hy.datum
  unfold Format.order
  rw [h1, h2]
  have hb1 : min i j ≤ i := Int.min_le_left _ _
  have hb2 : min i j ≤ j := Int.min_le_right _ _
  have hb0 : -1074 ≤ min i j := by omega
  unfold Datum.order
  simp only
  generalize min i j = q at *
  have ea : a = signed s m (i - q).toNat * ((2 ^ (q + 1074).toNat : Nat) : Int) := by
    rw [ha, ← signed_scale, show (i - q).toNat + (q + 1074).toNat = (i + 1074).toNat by omega]
  have eb : b = signed t n (j - q).toNat * ((2 ^ (q + 1074).toNat : Nat) : Int) := by
    rw [hb, ← signed_scale, show (j - q).toNat + (q + 1074).toNat = (j + 1074).toNat by omega]
  have hp : (0 : Int) < ((2 ^ (q + 1074).toNat : Nat) : Int) := Int.natCast_pos.2 (Nat.two_pow_pos _)
  rw [ea, eb, compare_scale _ _ _ hp]
theorem quot_near (dv n : Nat) (hn : 0 < n) : (2 * (dv / n) + (dv % n != 0).toNat) * n ≤ 2 * dv + n ∧ 2 * dv ≤ (2 * (dv / n) + (dv % n != 0).toNat) * n + n := by
  have h1 := Nat.div_add_mod dv n
  have h2 := Nat.mod_lt dv hn
  rw [Nat.add_mul, Nat.mul_assoc, Nat.mul_comm (dv / n) n]
  generalize n * (dv / n) = q at *
  by_cases h : dv % n = 0
  · have : (dv % n != 0).toNat = 0 := by rw [h]; rfl
    rw [this, Nat.zero_mul]
    omega
  · have : (dv % n != 0).toNat = 1 := by
      have hb : (dv % n != 0) = true := bne_iff_ne.2 h
      rw [hb]; rfl
    rw [this, Nat.one_mul]
    omega
theorem quot_le (dv n M : Nat) (hn : 0 < n) (h : dv ≤ n * M) : 2 * (dv / n) + (dv % n != 0).toNat ≤ 2 * M := by
  by_cases h0 : dv % n = 0
  · have : (dv % n != 0).toNat = 0 := by rw [h0]; rfl
    rw [this]
    have : dv / n ≤ M := Nat.div_le_of_le_mul h
    omega
  · have hb : (dv % n != 0) = true := bne_iff_ne.2 h0
    have : (dv % n != 0).toNat = 1 := by rw [hb]; rfl
    rw [this]
    have : dv / n < M := (Nat.div_lt_iff_lt_mul hn).2 (by
      rw [Nat.mul_comm]
      refine Nat.lt_of_le_of_ne h (fun e => h0 ?_)
      rw [e, Nat.mul_mod_right])
    omega
/-- A quotient of numbers that is not above 8. -/
theorem quot_mag {m n : Nat} {i j : Int} {A B : Nat} (hi : -1074 ≤ i) (hj : -1074 ≤ j) (hA : m * 2 ^ (i + 1074).toNat = A) (hB : n * 2 ^ (j + 1074).toNat = B) (hB0 : 0 < B) (h : A ≤ 8 * B) (s : Bool) :
    ∃ V, Sm (double.write (.number s (2 * (m <<< (54 + n.log2 - m.log2) / n) + (m <<< (54 + n.log2 - m.log2) % n != 0).toNat) (i - j - ((54 + n.log2 - m.log2 : Nat) : Int) - 1))) s V ∧ V * B ≤ A * U + 2 * D * B ∧ A * U ≤ V * B + 2 * D * B ∧ (A ≤ B → V ≤ U) ∧ (A = 0 → V = 0) := by
  have hn : n ≠ 0 := fun e => by rw [e, Nat.zero_mul] at hB; omega
  by_cases hm : m = 0
  · subst hm
    rw [Nat.zero_mul] at hA
    subst hA
    refine ⟨0, ?_, by omega, by omega, fun _ => Nat.zero_le _, fun _ => rfl⟩
    rw [Nat.shiftLeft_eq, Nat.zero_mul, Nat.zero_div, Nat.zero_mod]
    have h0 : rg 0 (i - j - ((54 + n.log2 - (0 : Nat).log2 : Nat) : Int) - 1) = 0 := by unfold rg; rw [if_pos rfl]
    show Sm (double.write (.number s 0 _)) s 0
    rw [write_eq, h0, Nat.zero_min]
    have hV : Vr 0 = 0 := by unfold Vr; rw [if_pos (by decide)]
    have := word_sm (s := s) (r := 0) (by decide)
    rw [hV] at this
    exact this
  · have a1 := Nat.log2_self_le hm
    have a2 : n < 2 ^ (n.log2 + 1) := Nat.lt_log2_self
    have hlog : (m.log2 : Int) + i < n.log2 + 4 + j := by
      have c1 : 2 ^ (m.log2 + (i + 1074).toNat) ≤ A := by rw [← hA, Nat.pow_add]; exact Nat.mul_le_mul_right _ a1
      have c2 : 8 * B < 2 ^ (n.log2 + 4 + (j + 1074).toNat) := by
        rw [← hB, Nat.pow_add, show n.log2 + 4 = (n.log2 + 1) + 3 from rfl, Nat.pow_add 2 (n.log2 + 1) 3, Nat.mul_comm (2 ^ (n.log2 + 1)) (2 ^ 3), Nat.mul_assoc]
        exact Nat.mul_lt_mul_of_pos_left ((Nat.mul_lt_mul_right (Nat.two_pow_pos _)).2 a2) (by decide)
      have c3 := (Nat.pow_lt_pow_iff_right (a := 2) (by decide)).1 (Nat.lt_of_le_of_lt (Nat.le_trans c1 h) c2)
      omega
    generalize hmo : 54 + n.log2 - m.log2 = more at *
    obtain ⟨p, hp⟩ : ∃ p : Int, p = i - j - (more : Int) - 1 := ⟨_, rfl⟩
    have hp41 : p ≤ -41 := by omega
    rw [← hp]
    rw [Nat.shiftLeft_eq]
    obtain ⟨q1, q2⟩ := quot_near (m * 2 ^ more) n (by omega)
    have q3 := fun M h => quot_le (m * 2 ^ more) n M (by omega) h
    generalize 2 * (m * 2 ^ more / n) + (m * 2 ^ more % n != 0).toNat = Q at *
    obtain ⟨e, he⟩ : ∃ e : Nat, -(e : Int) ≤ p := ⟨(-p).toNat, by omega⟩
    have hY : 2 ^ (p + ((1074 + e : Nat) : Int)).toNat ≤ D * 2 ^ e := by
      unfold D
      rw [← Nat.pow_add]
      exact Nat.pow_le_pow_right (by decide) (by omega)
    have hK : Q * 2 ^ (p + ((1074 + e : Nat) : Int)).toNat * B = Q * n * 2 ^ ((p + ((1074 + e : Nat) : Int)).toNat + (j + 1074).toNat) := by rw [← hB, pow_two Q n]
    have hK2 : B * 2 ^ (p + ((1074 + e : Nat) : Int)).toNat = n * 2 ^ ((p + ((1074 + e : Nat) : Int)).toNat + (j + 1074).toNat) := by rw [← hB, Nat.mul_assoc, ← Nat.pow_add, Nat.add_comm]
    have hK3 : A * U * 2 ^ e = 2 * (m * 2 ^ more) * 2 ^ ((p + ((1074 + e : Nat) : Int)).toNat + (j + 1074).toNat) := by
      unfold U
      rw [← hA, Nat.mul_comm 2, Nat.mul_assoc m, Nat.mul_assoc m, Nat.mul_assoc m, Nat.mul_assoc m, ← Nat.pow_add, ← Nat.pow_add, ← Nat.pow_succ, ← Nat.pow_add]
      congr 2
      omega
    have x1 : Q * 2 ^ (p + ((1074 + e : Nat) : Int)).toNat * B ≤ A * U * 2 ^ e + B * (D * 2 ^ e) := by
      refine Nat.le_trans ?_ (Nat.add_le_add_left (Nat.mul_le_mul_left B hY) _)
      rw [hK, hK3, hK2, ← Nat.add_mul]
      exact Nat.mul_le_mul_right _ q1
    have x2 : A * U * 2 ^ e ≤ Q * 2 ^ (p + ((1074 + e : Nat) : Int)).toNat * B + B * (D * 2 ^ e) := by
      refine Nat.le_trans ?_ (Nat.add_le_add_left (Nat.mul_le_mul_left B hY) _)
      rw [hK, hK3, hK2, ← Nat.add_mul]
      exact Nat.mul_le_mul_right _ q2
    have hDU : D ≤ U := by unfold D U; exact Nat.pow_le_pow_right (by decide) (by decide)
    have hX : Q * 2 ^ (p + ((1074 + e : Nat) : Int)).toNat ≤ 1000 * 2 ^ (1074 + e) := by
      refine Nat.le_of_mul_le_mul_right (Nat.le_trans x1 ?_) hB0
      have g1 : A * U * 2 ^ e ≤ 8 * B * U * 2 ^ e := Nat.mul_le_mul_right _ (Nat.mul_le_mul_right _ h)
      have g2 : B * (D * 2 ^ e) ≤ B * (U * 2 ^ e) := Nat.mul_le_mul_left _ (Nat.mul_le_mul_right _ hDU)
      have g3 : 8 * B * U * 2 ^ e = 8 * (B * (U * 2 ^ e)) := by rw [Nat.mul_assoc, Nat.mul_assoc]
      have g4 : 1000 * 2 ^ (1074 + e) * B = 1000 * (B * (U * 2 ^ e)) := by rw [Nat.pow_add, Nat.mul_assoc, Nat.mul_comm _ B]; rfl
      rw [g4]
      rw [g3] at g1
      omega
    obtain ⟨V, v1, v2, v3, v4, v5⟩ := write_near s Q p e (by omega) hX
    refine ⟨V, v1, ?_, ?_, fun hle => ?_, fun h0 => ?_⟩
    · refine Nat.le_of_mul_le_mul_right (?_ : V * B * 2 ^ e ≤ (A * U + 2 * D * B) * 2 ^ e) (Nat.two_pow_pos e)
      have g := Nat.mul_le_mul_right B v2
      rw [Nat.add_mul] at g ⊢
      have e1 : V * 2 ^ e * B = V * B * 2 ^ e := by rw [Nat.mul_assoc, Nat.mul_comm (2 ^ e), ← Nat.mul_assoc]
      have e2 : D * 2 ^ e * B = B * (D * 2 ^ e) := Nat.mul_comm _ _
      have e3 : 2 * D * B * 2 ^ e = 2 * (B * (D * 2 ^ e)) := by rw [Nat.mul_assoc 2, Nat.mul_comm D, Nat.mul_assoc, Nat.mul_assoc]
      rw [e1, e2] at g
      rw [e3]
      omega
    · refine Nat.le_of_mul_le_mul_right (?_ : A * U * 2 ^ e ≤ (V * B + 2 * D * B) * 2 ^ e) (Nat.two_pow_pos e)
      have g := Nat.mul_le_mul_right B v3
      rw [Nat.add_mul] at g ⊢
      have e1 : V * 2 ^ e * B = V * B * 2 ^ e := by rw [Nat.mul_assoc, Nat.mul_comm (2 ^ e), ← Nat.mul_assoc]
      have e2 : D * 2 ^ e * B = B * (D * 2 ^ e) := Nat.mul_comm _ _
      have e3 : 2 * D * B * 2 ^ e = 2 * (B * (D * 2 ^ e)) := by rw [Nat.mul_assoc 2, Nat.mul_comm D, Nat.mul_assoc, Nat.mul_assoc]
      rw [e1, e2] at g
      rw [e3]
      omega
    · have hV := v5 1 (by decide) ?_
      · rw [Nat.one_mul] at hV; exact hV
      · have hM : m * 2 ^ more ≤ n * 2 ^ (-p - 1).toNat := by
          refine Nat.le_of_mul_le_mul_left (?_ : 2 * 2 ^ ((p + ((1074 + e : Nat) : Int)).toNat + (j + 1074).toNat) * _ ≤ 2 * 2 ^ ((p + ((1074 + e : Nat) : Int)).toNat + (j + 1074).toNat) * _) (Nat.mul_pos (by decide) (Nat.two_pow_pos _))
          have g1 : A * U * 2 ^ e ≤ B * U * 2 ^ e := Nat.mul_le_mul_right _ (Nat.mul_le_mul_right _ hle)
          rw [hK3] at g1
          have g2 : B * U * 2 ^ e = 2 * (n * 2 ^ (-p - 1).toNat) * 2 ^ ((p + ((1074 + e : Nat) : Int)).toNat + (j + 1074).toNat) := by
            unfold U
            rw [← hB, Nat.mul_comm 2, Nat.mul_assoc n, Nat.mul_assoc n, Nat.mul_assoc n, Nat.mul_assoc n, ← Nat.pow_add, ← Nat.pow_add, ← Nat.pow_succ, ← Nat.pow_add]
            congr 2
            omega
          rw [g2] at g1
          generalize m * 2 ^ more = x1 at *
          generalize n * 2 ^ (-p - 1).toNat = x2 at *
          generalize 2 ^ ((p + ((1074 + e : Nat) : Int)).toNat + (j + 1074).toNat) = x3 at *
          rw [Nat.mul_assoc, Nat.mul_comm x3, Nat.mul_assoc 2 x3, Nat.mul_comm x3]
          rw [Nat.mul_assoc, Nat.mul_assoc] at g1
          exact g1
        have g := q3 _ hM
        rw [Nat.one_mul]
        refine Nat.le_trans (Nat.mul_le_mul_right _ g) (Nat.le_of_eq ?_)
        rw [Nat.mul_comm 2, ← Nat.pow_succ, ← Nat.pow_add]
        congr 1
        omega
    · exfalso
      rw [h0] at hA
      rcases Nat.mul_eq_zero.1 hA with h | h
      · exact hm h
      · exact absurd h (Nat.pos_iff_ne_zero.1 (Nat.two_pow_pos _))
theorem div_near {x y : Nat} {a b : Int} (hx : Va x a) (hy : Va y b) (hb0 : 0 < b) (h : (a.natAbs : Int) ≤ 8 * b) :
    ∃ z c, double.div x y = some z ∧ Va z c ∧ c * b ≤ a * U + 2 * D * b ∧ a * U ≤ c * b + 2 * D * b ∧ (0 ≤ a → 0 ≤ c) ∧ ((a.natAbs : Int) ≤ b → c.natAbs ≤ U) := by
  obtain ⟨s, A, ⟨m, i, rx, hi, hA⟩, ha⟩ := hx
  obtain ⟨t, B, ⟨n, j, ry, hj, hB⟩, hb⟩ := hy
  have ht : t = false := by
    cases t with
    | false => rfl
    | true => rw [if_pos rfl] at hb; omega
  subst ht
  rw [if_neg (by decide)] at hb
  have hB0 : 0 < B := by omega
  have hAB : A ≤ 8 * B := by
    have : a.natAbs = A := by rw [ha]; split <;> omega
    omega
  obtain ⟨V, v1, v2, v3, v4, w4⟩ := quot_mag hi hj hA hB hB0 hAB s
  have hn : n ≠ 0 := fun e => by rw [e, Nat.zero_mul] at hB; omega
  have hm : double.div x y = some (double.write (.number s (2 * (m <<< (54 + n.log2 - m.log2) / n) + (m <<< (54 + n.log2 - m.log2) % n != 0).toNat) (i - j - ((54 + n.log2 - m.log2 : Nat) : Int) - 1))) := by
    unfold Format.div
    rw [rx, ry]
    unfold Datum.quotient
    simp only
    rw [if_neg hn, Bool.xor_false]
    rfl
  refine ⟨_, _, hm, ⟨_, V, v1, rfl⟩, ?_⟩
  rw [hb, ha]
  clear v1 hm hA hB rx ry
  have w2 : (V : Int) * B ≤ A * U + 2 * D * B := by
    have := Int.ofNat_le.2 v2
    rw [Int.natCast_add, Int.natCast_mul, Int.natCast_mul, Int.natCast_mul, Int.natCast_mul] at this
    exact this
  have w3 : (A : Int) * U ≤ V * B + 2 * D * B := by
    have := Int.ofNat_le.2 v3
    rw [Int.natCast_add, Int.natCast_mul, Int.natCast_mul, Int.natCast_mul, Int.natCast_mul] at this
    exact this
  clear v2 v3
  generalize 2 * ((D : Nat) : Int) * (B : Int) = du at *
  cases s with
  | false =>
    rw [if_neg (by decide), if_neg (by decide)]
    exact ⟨w2, w3, fun _ => Int.natCast_nonneg _, fun h => by rw [Int.natAbs_natCast] at h ⊢; exact v4 (by omega)⟩
  | true =>
    rw [if_pos rfl, if_pos rfl, Int.neg_mul, Int.neg_mul]
    generalize (V : Int) * (B : Nat) = vu at *
    generalize (A : Int) * (U : Nat) = au at *
    exact ⟨by omega, by omega, fun h => by have := w4 (by omega); omega, fun h => by rw [Int.natAbs_neg, Int.natAbs_natCast] at h ⊢; exact v4 (by omega)⟩
theorem byte_va {z : Nat} {c : Int} (h : Va z c) (h0 : 0 ≤ c) (h1 : c < 256 * U) : ∃ q : Nat, floatToIntVal .f64 z .u8 = some (q : Int) ∧ q ≤ 255 ∧ (q : Int) * U ≤ c ∧ c ≤ (q + 1) * U := by
  obtain ⟨s, V, hs, rfl⟩ := h
  cases s with
  | true =>
    rw [if_pos rfl] at h0 ⊢
    obtain rfl : V = 0 := by omega
    obtain ⟨m, i, hr, hi, hV⟩ := hs
    have hm : m = 0 := by
      rcases Nat.mul_eq_zero.1 hV with h | h
      · exact h
      · exact absurd h (Nat.pos_iff_ne_zero.1 (Nat.two_pow_pos _))
    subst hm
    have ht : (FloatKind.f64.decode z).toInt .zero = some 0 := by
      show (double.read z).toInt .zero = _
      rw [hr]
      unfold Datum.toInt Datum.integral
      simp only [cut_zero, Nat.shiftLeft_eq, signed]
      simp
    refine ⟨0, ?_, by decide, by simp, ?_⟩
    · unfold floatToIntVal
      rw [ht]
      rfl
    · have := Int.natCast_nonneg U
      simp
  | false =>
    rw [if_neg (by decide)] at h1 ⊢
    have hV : V < 256 * U := by
      have : (V : Int) < ((256 * U : Nat) : Int) := by rw [Int.natCast_mul]; exact h1
      exact Int.ofNat_lt.1 this
    have hq := to_byte hs hV
    have hlt : V / U < 256 := (Nat.div_lt_iff_lt_mul U_pos).2 hV
    have e1 := Nat.div_mul_le_self V U
    have e2 := Nat.lt_div_mul_add U_pos (a := V)
    refine ⟨V / U, hq, by omega, ?_, ?_⟩
    · rw [← Int.natCast_mul]; exact Int.ofNat_le.2 e1
    · rw [Int.add_mul, Int.one_mul, ← Int.natCast_mul, ← Int.natCast_add]; exact Int.ofNat_le.2 (Nat.le_of_lt e2)
end Go.Proofs.YtfpmnkmclbembaaDoorIeee
