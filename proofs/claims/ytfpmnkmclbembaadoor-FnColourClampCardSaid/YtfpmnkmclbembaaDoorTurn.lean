/- Plain laws: a factor's opposite; brightness as a double. No program in sight. -/
import Derived.Test.YtfpmnkmclbembaaDoorLight
set_option linter.unusedVariables false
set_option linter.unusedSimpArgs false
set_option exponentiation.threshold 3000
namespace Go.Proofs.YtfpmnkmclbembaaDoorIeee
open Ieee
theorem neg0_sm {f F : Nat} {s : Bool} (h : Sm f s F) : neg0 f = (s && decide (0 < F)) := by
  obtain ⟨m, i, hr, hi, hF⟩ := h
  have hz : neg0 f = (some (compare (signed s m (i - min i (-1074)).toNat) (signed false 0 (-1074 - min i (-1074)).toNat)) == some Ordering.lt) := by
    unfold neg0 Format.order
    rw [hr, read_zero]; rfl
  have e0 : signed false 0 (-1074 - min i (-1074)).toNat = 0 := by simp [signed]
  have hmin : min i (-1074) = -1074 := by omega
  rw [e0, hmin] at hz
  have e1 : m * 2 ^ (i - -1074).toNat = F := by rw [← hF]; congr 2
  rw [hz]
  simp only [signed, Nat.shiftLeft_eq, e1]
  cases s with
  | false =>
    rw [if_neg (by decide), Bool.false_and]
    rcases Int.lt_trichotomy (F : Int) 0 with h | h | h
    · omega
    · rw [Int.compare_eq_eq.2 h]; rfl
    · rw [Int.compare_eq_gt.2 h]; rfl
  | true =>
    rw [if_pos rfl, Bool.true_and]
    by_cases h : 0 < F
    · rw [Int.compare_eq_lt.2 (show -(F : Int) < 0 by omega), decide_eq_true h]; rfl
    · rw [Int.compare_eq_eq.2 (show -(F : Int) = 0 by omega), decide_eq_false h]; rfl
theorem good_sm {f F : Nat} {s : Bool} (h : Sm f s F) (hF : F ≤ 2 ^ 1074) : Good f := by
  have hn := neg0_sm h
  cases s with
  | false => exact .pos F (by rw [hn]; rfl) hF h
  | true =>
    by_cases h0 : 0 < F
    · exact .neg F (by rw [hn, decide_eq_true h0]; rfl) hF h
    · obtain rfl : F = 0 := by omega
      exact .zero (by rw [hn]; rfl) h
theorem sm_good {f : Nat} (h : Good f) : ∃ s F, Sm f s F ∧ F ≤ 2 ^ 1074 := by
  cases h with
  | neg F h0 hF h => exact ⟨_, F, h, hF⟩
  | pos F h0 hF h => exact ⟨_, F, h, hF⟩
  | zero h0 h => exact ⟨_, 0, h, Nat.zero_le _⟩
theorem xor_lo {b : Nat} (h : b < 2 ^ 63) : b ^^^ 2 ^ 63 = 2 ^ 63 + b := by
  apply Nat.eq_of_testBit_eq
  intro j
  rw [Nat.testBit_xor, Nat.testBit_two_pow]
  rcases Nat.lt_trichotomy j 63 with hj | hj | hj
  · rw [Nat.testBit_two_pow_add_gt hj, decide_eq_false (by omega), Bool.xor_false]
  · subst hj
    rw [Nat.testBit_two_pow_add_eq, decide_eq_true rfl, Nat.testBit_lt_two_pow h]; rfl
  · have h1 : b < 2 ^ j := Nat.lt_of_lt_of_le h (Nat.pow_le_pow_right (by omega) (by omega))
    have h2 : 2 ^ 63 + b < 2 ^ j := Nat.lt_of_lt_of_le (show 2 ^ 63 + b < 2 ^ 64 by omega) (Nat.pow_le_pow_right (by omega) (by omega))
    rw [Nat.testBit_lt_two_pow h1, Nat.testBit_lt_two_pow h2, decide_eq_false (by omega)]; rfl
theorem read_neg {b m : Nat} {s : Bool} {i : Int} (hb : b < 2 ^ 64) (h : double.read b = .number s m i) : double.read (b ^^^ 2 ^ 63) = .number (!s) m i := by
  have hs : double.signWeight = 2 ^ 63 := rfl
  have key : (b ^^^ 2 ^ 63) % 2 ^ 63 = b % 2 ^ 63 ∧ ((b ^^^ 2 ^ 63) / 2 ^ 63 % 2 == 1) = !(b / 2 ^ 63 % 2 == 1) := by
    rcases Nat.lt_or_ge b (2 ^ 63) with hlt | hge
    · rw [xor_lo hlt]
      refine ⟨by omega, ?_⟩
      rw [show (2 ^ 63 + b) / 2 ^ 63 = 1 by omega, show b / 2 ^ 63 = 0 by omega]; rfl
    · obtain ⟨a, rfl⟩ : ∃ a, b = 2 ^ 63 + a := ⟨b - 2 ^ 63, by omega⟩
      have ha : a < 2 ^ 63 := by omega
      rw [← xor_lo ha, Nat.xor_assoc, Nat.xor_self, Nat.xor_zero, xor_lo ha]
      refine ⟨by omega, ?_⟩
      rw [show (2 ^ 63 + a) / 2 ^ 63 = 1 by omega, show a / 2 ^ 63 = 0 by omega]; rfl
  unfold Format.read at h ⊢
  rw [hs] at h ⊢
  simp only [key.1, key.2]
  simp only at h
  split at h
  · rename_i h1; rw [if_pos h1]; cases h; rfl
  · rename_i h1
    rw [if_neg h1]
    split at h
    · rename_i h2; rw [if_pos h2]; cases h; rfl
    · split at h <;> cases h
theorem good_neg {b : Nat} (hb : b < 2 ^ 64) (h : Good b) : Good (b ^^^ 2 ^ 63) := by
  obtain ⟨s, F, ⟨m, i, hr, hi, hF⟩, hle⟩ := sm_good h
  exact good_sm ⟨m, i, read_neg hb hr, hi, hF⟩ hle
theorem add_fl {a b : Nat} (h : a + b ≤ 1000) : double.add (fl a) (fl b) = some (fl (a + b)) := by
  obtain ⟨z, hz, hu, hl⟩ := add_sm (fl_sm (n := a) (by omega)) (fl_sm (n := b) (by omega)) (fun h => by cases h)
  rw [if_neg (by decide)] at hu hl
  have h1 := hu (a + b) (by rw [Nat.add_mul]; exact Nat.le_refl _)
  have h2 := hl (a + b) h (by rw [Nat.add_mul]; exact Nat.le_refl _)
  rw [hz, Nat.le_antisymm h1 h2]
def half : Nat := 4602678819172646912
def Br (s : Nat) : Nat := ((double.div (fl s) 4643176031446892544).bind fun q => double.div q 4613937818241073152).getD 0
theorem br_ok : ∀ s : Nat, s ≤ 765 → (match double.div (fl s) 4643176031446892544 with | some q => double.div q 4613937818241073152 == some (Br s) && (double.order (Br s) 4602678819172646912).isSome | none => false) = true := by decide +kernel
theorem br (s : Nat) (h : s ≤ 765) : ∃ q o, double.div (fl s) 4643176031446892544 = some q ∧ double.div q 4613937818241073152 = some (Br s) ∧ double.order (Br s) 4602678819172646912 = some o := by
  have := br_ok s h
  split at this
  · rename_i q hq
    rw [Bool.and_eq_true] at this
    obtain ⟨o, ho⟩ := Option.isSome_iff_exists.1 this.2
    exact ⟨q, o, hq, eq_of_beq this.1, ho⟩
  · cases this
end Go.Proofs.YtfpmnkmclbembaaDoorIeee
