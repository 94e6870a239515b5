/- Plain laws on colours: the parts in one number, six digits and back. No program in sight. -/
import Derived.Test.YtjemdgmihbmgeaaGreatDoorCol
import Derived.Laws.Bits64b
set_option linter.unusedVariables false
set_option linter.unusedSimpArgs false
namespace Go.Proofs.YtjemdgmihbmgeaaGreatDoorFmt
open Go.RowKit Go.Proofs.YtjemdgmihbmgeaaGreatDoorW.PrintWords

theorem bits_or_i32 (a b : Nat) (ha : a < 2147483648) (hb : b < 2147483648) : bits .or .i32 (a : Int) (b : Int) = ((a ||| b : Nat) : Int) := by
  have hx : a ||| b < 2 ^ 31 := Nat.or_lt_two_pow (by omega) (by omega)
  have h1 : (BitVec.ofInt 32 (a : Int)).toNat = a := by
    rw [BitVec.ofInt_natCast, BitVec.toNat_ofNat]; exact Nat.mod_eq_of_lt (by omega)
  have h2 : (BitVec.ofInt 32 (b : Int)).toNat = b := by
    rw [BitVec.ofInt_natCast, BitVec.toNat_ofNat]; exact Nat.mod_eq_of_lt (by omega)
  show IntKind.i32.wrap ((BitVec.ofInt 32 (a : Int) ||| BitVec.ofInt 32 (b : Int)).toNat : Int) = _
  rw [BitVec.toNat_or, h1, h2, IntKind.wrap_i32]
  omega
theorem bits_and_i32 (a b : Nat) (ha : a < 2147483648) (hb : b < 2147483648) : bits .and .i32 (a : Int) (b : Int) = ((a &&& b : Nat) : Int) := by
  have hx : a &&& b < 2 ^ 31 := Nat.and_lt_two_pow _ (by omega)
  have h1 : (BitVec.ofInt 32 (a : Int)).toNat = a := by
    rw [BitVec.ofInt_natCast, BitVec.toNat_ofNat]; exact Nat.mod_eq_of_lt (by omega)
  have h2 : (BitVec.ofInt 32 (b : Int)).toNat = b := by
    rw [BitVec.ofInt_natCast, BitVec.toNat_ofNat]; exact Nat.mod_eq_of_lt (by omega)
  show IntKind.i32.wrap ((BitVec.ofInt 32 (a : Int) &&& BitVec.ofInt 32 (b : Int)).toNat : Int) = _
  rw [BitVec.toNat_and, h1, h2, IntKind.wrap_i32]
  omega
theorem wf_u8 {a : Int} (h : (Lit.int .u8 a).wf = true) : ∃ n : Nat, a = n ∧ n < 256 := by
  simp only [Lit.wf, Bool.and_eq_true, decide_eq_true_eq] at h
  obtain ⟨h1, h2⟩ := h
  have h1' : (0 : Int) ≤ a := h1
  have h2' : a ≤ 255 := h2
  exact ⟨a.toNat, by omega, by omega⟩
theorem wf_i32 {a : Int} (h : (Lit.int .i32 a).wf = true) : -2147483648 ≤ a ∧ a ≤ 2147483647 := by
  simp only [Lit.wf, Bool.and_eq_true, decide_eq_true_eq] at h
  exact h
/-- NewColour's number. -/
theorem newCol (r g b : Nat) (hr : r < 256) (hg : g < 256) (hb : b < 256) :
    wrap32 (bits .or .i32 (bits .or .i32 (wrap32 (wrap32 (r : Int) * 65536)) (wrap32 (wrap32 (g : Int) * 256))) (wrap32 (b : Int)) + 1) = ((r * 65536 + g * 256 + b + 1 : Nat) : Int) := by
  have e1 : wrap32 (wrap32 (r : Int) * 65536) = ((r * 65536 : Nat) : Int) := by unfold wrap32; omega
  have e2 : wrap32 (wrap32 (g : Int) * 256) = ((g * 256 : Nat) : Int) := by unfold wrap32; omega
  have e3 : wrap32 (b : Int) = ((b : Nat) : Int) := by unfold wrap32; omega
  have o1 : r * 65536 ||| g * 256 = r * 65536 + g * 256 := by
    have := Nat.shiftLeft_add_eq_or_of_lt (a := r) (i := 16) (b := g * 256) (by omega)
    rw [Nat.shiftLeft_eq] at this
    simpa using this.symm
  have o2 : (r * 65536 + g * 256) ||| b = r * 65536 + g * 256 + b := by
    have := Nat.shiftLeft_add_eq_or_of_lt (a := r * 256 + g) (i := 8) (b := b) (by omega)
    rw [Nat.shiftLeft_eq] at this
    have e : (r * 256 + g) * 2 ^ 8 = r * 65536 + g * 256 := by rw [Nat.add_mul, Nat.mul_assoc]
    rw [e] at this
    exact this.symm
  rw [e1, e2, e3, bits_or_i32 _ _ (by omega) (by omega), o1, bits_or_i32 _ _ (by omega) (by omega), o2]
  unfold wrap32
  omega
theorem part (n : Nat) (hn : n < 2147483648) : bits .and .i32 (n : Int) 255 = ((n % 256 : Nat) : Int) := by
  have := bits_and_i32 n 255 hn (by decide)
  rw [show ((255 : Nat) : Int) = 255 from rfl] at this
  rw [this]
  congr 1
  exact Nat.and_two_pow_sub_one_eq_mod n 8
theorem redOf (c : Nat) (h1 : 1 ≤ c) (h2 : c ≤ 2147483647) : bits .and .i32 (wrap32 ((c : Int) - 1) / 65536) 255 % 256 = (((c - 1) / 65536 % 256 : Nat) : Int) := by
  have e : wrap32 ((c : Int) - 1) / 65536 = (((c - 1) / 65536 : Nat) : Int) := by unfold wrap32; omega
  rw [e, part _ (by omega)]; omega
theorem greenOf (c : Nat) (h1 : 1 ≤ c) (h2 : c ≤ 2147483647) : bits .and .i32 (wrap32 ((c : Int) - 1) / 256) 255 % 256 = (((c - 1) / 256 % 256 : Nat) : Int) := by
  have e : wrap32 ((c : Int) - 1) / 256 = (((c - 1) / 256 : Nat) : Int) := by unfold wrap32; omega
  rw [e, part _ (by omega)]; omega
theorem blueOf (c : Nat) (h1 : 1 ≤ c) (h2 : c ≤ 2147483647) : bits .and .i32 (wrap32 ((c : Int) - 1)) 255 % 256 = (((c - 1) % 256 : Nat) : Int) := by
  have e : wrap32 ((c : Int) - 1) = ((c - 1 : Nat) : Int) := by unfold wrap32; omega
  rw [e, part _ (by omega)]; omega

/-- The last k digits. -/
def digs : Nat → Nat → List UInt8
  | 0, _ => []
  | k + 1, n => digs k (n / 16) ++ [hexD (n % 16)]
theorem digs_len : ∀ k n, (digs k n).length = k
  | 0, _ => rfl
  | k + 1, n => by rw [digs, List.length_append, digs_len]; rfl
theorem digs_zero : ∀ k, digs k 0 = List.replicate k 48
  | 0 => rfl
  | k + 1 => by rw [digs, Nat.zero_div, digs_zero, List.replicate_succ']; rfl
theorem padL_snoc (k : Nat) (l : List UInt8) (x : UInt8) : padL (k + 1) (l ++ [x]) = padL k l ++ [x] := by
  unfold padL
  rw [List.length_append, List.length_singleton, Nat.add_sub_add_right, List.append_assoc]
theorem pad_digs : ∀ k n, n < 16 ^ k → 1 ≤ k → padL k (hexL n) = digs k n
  | 0, _, _, h => by omega
  | 1, n, hn, _ => by
    have h1 : n < 16 := by simpa using hn
    rw [hexL_small h1, digs, digs, Nat.mod_eq_of_lt h1]; rfl
  | k + 2, n, hn, _ => by
    rcases Nat.lt_or_ge n 16 with h1 | h1
    · rw [hexL_small h1, show [hexD n] = [] ++ [hexD n] from rfl, padL_snoc, digs, Nat.mod_eq_of_lt h1, Nat.div_eq_of_lt h1, digs_zero]
      simp [padL]
    · rw [hexL_big h1, padL_snoc, digs, pad_digs (k + 1) (n / 16) (by rw [Nat.pow_succ] at hn; omega) (by omega)]
theorem hex6_eq (n : Nat) (hn : n < 16777216) : hex6 (n : Int) = ⟨(digs 6 n).toArray⟩ := by
  rw [hex6, if_neg (by omega)]
  rw [show ((n : Int)).toNat = n by omega, pad_digs 6 n (by simpa using hn) (by decide)]
theorem dig16_hexD : ∀ d, d < 16 → dig16 ((hexD d).toNat : Int) = some (d : Int) := by decide +kernel
theorem pu16_digs : ∀ (k n : Nat) (rest : List Int) (m : Nat), n < 16 ^ k → m * 16 ^ k + n ≤ 4294967295 →
    pu16 ((digs k n).map (fun b => (b.toNat : Int)) ++ rest) (m : Int) = pu16 rest ((m * 16 ^ k + n : Nat) : Int)
  | 0, n, rest, m, hn, hm => by
    have : n = 0 := by simpa using hn
    subst this; simp [digs]
  | k + 1, n, rest, m, hn, hm => by
    have h1 : n / 16 < 16 ^ k := by rw [Nat.pow_succ] at hn; omega
    have h2 : (m * 16 ^ k + n / 16) * 16 + n % 16 = m * 16 ^ (k + 1) + n := by
      rw [Nat.pow_succ, Nat.add_mul, Nat.mul_assoc]; omega
    rw [digs, List.map_append, List.append_assoc, pu16_digs k (n / 16) _ m h1 (by omega)]
    show pu16 (((hexD (n % 16)).toNat : Int) :: rest) _ = _
    rw [pu16_more (dig16_hexD (n % 16) (by omega)) (by omega)]
    congr 1
    rw [← h2]; omega
def isHex (b : UInt8) : Bool := b == 35 || (dig16 (b.toNat : Int)).isSome
theorem ansi_nohex : ∀ x ∈ ansiL, (x.1.data.toList.all isHex) = false := by decide +kernel
theorem ml_none : ∀ {l : List (ByteArray × ByteArray)} {s : ByteArray}, (∀ x ∈ l, s ≠ x.1) → ml l s = none
  | [], _, _ => rfl
  | (k, v) :: l, s, h => by
    unfold ml
    rw [if_neg (h (k, v) (by simp))]
    exact ml_none fun x hx => h x (by simp [hx])
theorem ansi_none {s : ByteArray} (h : s.data.toList.all isHex = true) : ml ansiL s = none :=
  ml_none fun x hx e => by have := ansi_nohex x hx; rw [← e, h] at this; cases this
theorem hexD_hex : ∀ d, d < 16 → isHex (hexD d) = true := by decide +kernel
theorem digs_hex : ∀ k n, (digs k n).all isHex = true
  | 0, _ => rfl
  | k + 1, n => by
    rw [digs, List.all_append, digs_hex, Bool.true_and, List.all_cons, hexD_hex _ (Nat.mod_lt _ (by decide))]; rfl
theorem norm_digs (n : Nat) : norm ⟨(35 :: digs 6 n).toArray⟩ = ⟨(digs 6 n).toArray⟩ := by
  have h1 : (⟨(35 :: digs 6 n).toArray⟩ : ByteArray).data.toList.all isHex = true := by
    show ((35 : UInt8) :: digs 6 n).all isHex = true
    rw [List.all_cons, digs_hex]; rfl
  unfold norm
  rw [ansi_none h1]
  exact norm35 (s := ⟨(35 :: digs 6 n).toArray⟩) (l := digs 6 n) rfl (by rw [digs_len]; decide)
theorem empty_of {s : ByteArray} (h : s.toList.isEmpty = true) : s.data.toList = [] := by
  have h1 : s = ByteArray.empty := of_decide_eq_true ((decide_eq_emptyBytes s).trans h)
  rw [h1]; rfl
theorem empty_ne {s : ByteArray} {x : UInt8} {l : List UInt8} (h : s.data.toList = x :: l) : s.toList.isEmpty = false := by
  cases hh : s.toList.isEmpty with
  | false => rfl
  | true => rw [empty_of hh] at h; cases h
theorem puS_digs (n : Nat) (hn : n < 16777216) : puS ⟨(digs 6 n).toArray⟩ = some (n : Int) := by
  have h1 : (⟨(digs 6 n).toArray⟩ : ByteArray).toList.isEmpty = false := by
    match hd : digs 6 n, digs_len 6 n with
    | x :: l, _ => exact empty_ne (x := x) (l := l) rfl
  unfold puS
  rw [h1]
  show pu16 ((digs 6 n).map fun b => (b.toNat : Int)) ((0 : Nat) : Int) = _
  have := pu16_digs 6 n [] 0 (by simpa using hn) (by omega)
  rw [List.append_nil] at this
  rw [this]
  simp [pu16]
/-- '#' and six digits are read as the colour. -/
theorem pcol_digs (n : Nat) (hn : n < 16777216) : pcol ⟨(35 :: digs 6 n).toArray⟩ = (n : Int) + 1 := by
  unfold pcol
  rw [norm_digs, puS_digs n hn]
  show wrap32 ((n : Int) + 1) = _
  unfold wrap32; omega
end Go.Proofs.YtjemdgmihbmgeaaGreatDoorFmt
