/- Plain lemmas for the pure statements: functions with a number of rounds, 64 bit sums, bytes. No program in sight. -/
import Derived.Test.YtibjlefenodhaaaDoorWWords
import Derived.Laws.Strings
import Derived.Lib.Strings
set_option linter.unusedVariables false
set_option linter.unusedSimpArgs false
namespace Go.Proofs.YtibjlefenodhaaaDoorEvt
open Go.RowKit Go.Proofs.YtibjlefenodhaaaDoorW.PrintWords

/-- From some number of rounds on, g answers r. -/
def Evt {α : Type} (g : Nat → Option α) (r : α) : Prop := ∃ N, ∀ k, N ≤ k → g k = some r
theorem Evt.of {α : Type} {g : Nat → Option α} {r : α} (h : ∀ k, g k = some r) : Evt g r := ⟨0, fun k _ => h k⟩
theorem Evt.pure {α : Type} (r : α) : Evt (fun _ => some r) r := ⟨0, fun k _ => rfl⟩
theorem Evt.step {α : Type} {g h : Nat → Option α} {r : α} (hg : ∀ k, g (k + 1) = h k) (hh : Evt h r) : Evt g r := by
  obtain ⟨N, hN⟩ := hh
  refine ⟨N + 1, fun k hk => ?_⟩
  obtain ⟨m, rfl⟩ : ∃ m, k = m + 1 := ⟨k - 1, by omega⟩
  rw [hg]; exact hN m (by omega)
theorem Evt.congr {α : Type} {g h : Nat → Option α} {r : α} (hg : ∀ k, g k = h k) (hh : Evt h r) : Evt g r := by
  obtain ⟨N, hN⟩ := hh
  exact ⟨N, fun k hk => (hg k).trans (hN k hk)⟩
theorem Evt.bind {α β : Type} {f : Nat → Option α} {g : Nat → α → Option β} {a : α} {r : β} (hf : Evt f a) (hg : Evt (fun k => g k a) r) : Evt (fun k => (f k).bind (g k)) r := by
  obtain ⟨N, hN⟩ := hf
  obtain ⟨M, hM⟩ := hg
  refine ⟨N + M, fun k hk => ?_⟩
  show (f k).bind (g k) = some r
  rw [hN k (by omega)]
  exact hM k (by omega)
theorem Evt.bind' {α β : Type} {f : Option α} {g : Nat → α → Option β} {a : α} {r : β} (hf : f = some a) (hg : Evt (fun k => g k a) r) : Evt (fun k => f.bind (g k)) r := by
  subst hf; exact hg
theorem Evt.pos {α : Type} {c : Prop} [Decidable c] {f g : Nat → Option α} {r : α} (h : c) (hf : Evt f r) : Evt (fun k => if c then f k else g k) r := by
  simp only [if_pos h]; exact hf
theorem Evt.neg {α : Type} {c : Prop} [Decidable c] {f g : Nat → Option α} {r : α} (h : ¬ c) (hg : Evt g r) : Evt (fun k => if c then f k else g k) r := by
  simp only [if_neg h]; exact hg
theorem Evt.ite {α : Type} {c : Prop} [Decidable c] {f g : Nat → Option α} {r : α} (hf : c → Evt f r) (hg : ¬ c → Evt g r) : Evt (fun k => if c then f k else g k) r := by
  by_cases h : c
  · exact Evt.pos h (hf h)
  · exact Evt.neg h (hg h)
theorem Evt.get {α : Type} {g : Nat → Option α} {r : α} (h : Evt g r) : ∃ k, g k = some r := by
  obtain ⟨N, hN⟩ := h
  exact ⟨N, hN N (Nat.le_refl _)⟩

theorem wrap_in {x : Int} (h0 : -9223372036854775808 ≤ x) (h1 : x ≤ 9223372036854775807) : wrap64 x = x := by unfold wrap64; omega
theorem wrap_nat {i : Nat} (h : i + 1 ≤ 9223372036854775807) : wrap64 ((i : Int) + 1) = ((i + 1 : Nat) : Int) := by unfold wrap64; omega

/-- A byte string's list of bytes. -/
abbrev dat (s : ByteArray) : List UInt8 := s.data.toList
theorem toList_dat (s : ByteArray) : s.toList = dat s := Go.ByteArray.toList_eq s
theorem size_dat (s : ByteArray) : s.size = (dat s).length := by
  show s.data.size = s.data.toList.length
  rw [Array.length_toList]
theorem dat_inj {a b : ByteArray} (h : dat a = dat b) : a = b := by
  cases a; cases b
  simp only [dat] at h
  congr
  exact Array.toList_inj.1 h
theorem dat_ext {a b : ByteArray} : a = b ↔ dat a = dat b := ⟨fun h => h ▸ rfl, dat_inj⟩
/-- The byte string of a list. -/
abbrev B (l : List UInt8) : ByteArray := ⟨l.toArray⟩
@[simp] theorem dat_B (l : List UInt8) : dat (B l) = l := by simp [dat, B]
theorem B_dat (s : ByteArray) : B (dat s) = s := dat_inj (by simp)
theorem dat_extract (s : ByteArray) (a b : Nat) : dat (s.extract a b) = ((dat s).drop a).take (b - a) := Lib.extract_data s a b
theorem dat_take (s : ByteArray) (b : Nat) : dat (s.extract 0 b) = (dat s).take b := by rw [dat_extract]; simp
theorem dat_drop (s : ByteArray) (a : Nat) : dat (s.extract a s.size) = (dat s).drop a := by
  rw [dat_extract, List.take_of_length_le]
  rw [List.length_drop, size_dat]; exact Nat.le_refl _
theorem bytesOf_dat (s : ByteArray) : bytesOf s = (dat s).map fun b => (b.toNat : Int) := rfl
theorem strOfNums_bytes (l : List UInt8) : dat (strOfNums (l.map fun b => (b.toNat : Int))) = l := by
  simp only [dat, strOfNums, List.map_map]
  have : ((fun n : Int => UInt8.ofNat n.toNat) ∘ fun b : UInt8 => (b.toNat : Int)) = id := by
    funext b; simp
  rw [this]; simp
theorem bt_dat (s : ByteArray) (i : Nat) (h : i < (dat s).length) : bt s (i : Int) = (((dat s)[i]'h).toNat : Int) := by
  have h' : i < s.size := by rw [size_dat]; exact h
  have := bt_at s (i : Int) (by simpa using h')
  rw [← this]
  rfl
theorem u8_eq_iff (a b : UInt8) : (a.toNat : Int) = (b.toNat : Int) ↔ a = b := by
  constructor
  · intro h; exact UInt8.toNat_inj.1 (by omega)
  · intro h; rw [h]
end Go.Proofs.YtibjlefenodhaaaDoorEvt
