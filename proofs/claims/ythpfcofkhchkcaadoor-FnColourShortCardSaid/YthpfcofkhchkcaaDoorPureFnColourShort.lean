import Derived.Test.YthpfcofkhchkcaaDoorColPure
set_option linter.unusedVariables false
namespace Go.Proofs.YthpfcofkhchkcaaDoor.Pure
open Go.RowKit Go.Proofs.YthpfcofkhchkcaaDoorW.PrintWords Go.Proofs.YthpfcofkhchkcaaDoor.M Go.Proofs.YthpfcofkhchkcaaDoorFmt Go.Proofs.YthpfcofkhchkcaaDoor.ColPure
def hexc (d : Nat) (u : Bool) : UInt8 := if d < 10 then UInt8.ofNat (48 + d) else if u then UInt8.ofNat (55 + d) else UInt8.ofNat (87 + d)
theorem digit_f : ∀ r : Nat, r < 256 → ∀ u : Bool, laws_digit.f (r : Int) u = some ((hexc (r % 16) u).toNat : Int) := by decide +kernel
theorem low4 : ∀ r : Nat, r < 256 → (bits .and .u8 (r : Int) 15 * 17) % 256 = ((r % 16 * 17 : Nat) : Int) := by decide +kernel
theorem dig16_hexc : ∀ d : Nat, d < 16 → ∀ u : Bool, dig16 ((hexc d u).toNat : Int) = some (d : Int) := by decide +kernel
theorem hexc_hex : ∀ d : Nat, d < 16 → ∀ u : Bool, isHex (hexc d u) = true := by decide +kernel
theorem norm3 (x y z : UInt8) (hx : isHex x = true) (hy : isHex y = true) (hz : isHex z = true) : norm ⟨#[35, x, y, z]⟩ = ⟨#[x, x, y, y, z, z]⟩ := by
  have h1 : (⟨#[35, x, y, z]⟩ : ByteArray).data.toList.all isHex = true := by
    show ([35, x, y, z] : List UInt8).all isHex = true
    simp only [List.all_cons, hx, hy, hz, List.all_nil, Bool.and_true]; rfl
  unfold norm
  rw [ansi_none h1]
  rfl
theorem norm6 (x y z : UInt8) (hx : isHex x = true) (hy : isHex y = true) (hz : isHex z = true) : norm ⟨#[35, x, x, y, y, z, z]⟩ = ⟨#[x, x, y, y, z, z]⟩ := by
  have h1 : (⟨#[35, x, x, y, y, z, z]⟩ : ByteArray).data.toList.all isHex = true := by
    show ([35, x, x, y, y, z, z] : List UInt8).all isHex = true
    simp only [List.all_cons, hx, hy, hz, List.all_nil, Bool.and_true]; rfl
  unfold norm
  rw [ansi_none h1]
  rfl
theorem six {x y z : UInt8} {a b c : Nat} (ha : a < 16) (hb : b < 16) (hc : c < 16) (hx : dig16 (x.toNat : Int) = some (a : Int)) (hy : dig16 (y.toNat : Int) = some (b : Int)) (hz : dig16 (z.toNat : Int) = some (c : Int)) :
    puS ⟨#[x, x, y, y, z, z]⟩ = some ((a * 17 * 65536 + b * 17 * 256 + c * 17 : Nat) : Int) := by
  have h1 : (⟨#[x, x, y, y, z, z]⟩ : ByteArray).toList.isEmpty = false := empty_ne (x := x) (l := [x, y, y, z, z]) rfl
  unfold puS
  rw [h1]
  show pu16 [(x.toNat : Int), (x.toNat : Int), (y.toNat : Int), (y.toNat : Int), (z.toNat : Int), (z.toNat : Int)] 0 = _
  rw [pu16_more hx (by omega), pu16_more hx (by omega), pu16_more hy (by omega), pu16_more hy (by omega), pu16_more hz (by omega), pu16_more hz (by omega)]
  show some _ = some _
  congr 1
  omega
theorem FnColourShort : laws_FnColourShort.Pure := by
  intro a0 a1 a2 u w0 w1 w2
  obtain ⟨r, rfl, hr⟩ := wf_u8 w0
  obtain ⟨g, rfl, hg⟩ := wf_u8 w1
  obtain ⟨b, rfl, hb⟩ := wf_u8 w2
  have ha : r % 16 < 16 := Nat.mod_lt _ (by decide)
  have hb' : g % 16 < 16 := Nat.mod_lt _ (by decide)
  have hc : b % 16 < 16 := Nat.mod_lt _ (by decide)
  unfold laws_FnColourShort.f
  rw [digit_f r hr u, digit_f g hg u, digit_f b hb u, low4 r hr, low4 g hg, low4 b hb]
  simp only [Option.bind_some]
  have s3 : strOfNums ([35, ((hexc (r % 16) u).toNat : Int), ((hexc (g % 16) u).toNat : Int), ((hexc (b % 16) u).toNat : Int)] : List Int) = ⟨#[35, hexc (r % 16) u, hexc (g % 16) u, hexc (b % 16) u]⟩ := strOfNums_map [35, hexc (r % 16) u, hexc (g % 16) u, hexc (b % 16) u]
  have s6 : strOfNums ([35, ((hexc (r % 16) u).toNat : Int), ((hexc (r % 16) u).toNat : Int), ((hexc (g % 16) u).toNat : Int), ((hexc (g % 16) u).toNat : Int), ((hexc (b % 16) u).toNat : Int), ((hexc (b % 16) u).toNat : Int)] : List Int) = ⟨#[35, hexc (r % 16) u, hexc (r % 16) u, hexc (g % 16) u, hexc (g % 16) u, hexc (b % 16) u, hexc (b % 16) u]⟩ := strOfNums_map [35, hexc (r % 16) u, hexc (r % 16) u, hexc (g % 16) u, hexc (g % 16) u, hexc (b % 16) u, hexc (b % 16) u]
  rw [s3, s6, parse_f _ (show (4 : Nat) ≤ _ by decide), parse_f _ (show (7 : Nat) ≤ _ by decide)]
  have hp := six ha hb' hc (dig16_hexc _ ha u) (dig16_hexc _ hb' u) (dig16_hexc _ hc u)
  have p3 : pcol ⟨#[35, hexc (r % 16) u, hexc (g % 16) u, hexc (b % 16) u]⟩ = ((r % 16 * 17 * 65536 + g % 16 * 17 * 256 + b % 16 * 17 : Nat) : Int) + 1 := by
    unfold pcol
    rw [norm3 _ _ _ (hexc_hex _ ha u) (hexc_hex _ hb' u) (hexc_hex _ hc u), hp]
    show wrap32 _ = _
    unfold wrap32; omega
  have p6 : pcol ⟨#[35, hexc (r % 16) u, hexc (r % 16) u, hexc (g % 16) u, hexc (g % 16) u, hexc (b % 16) u, hexc (b % 16) u]⟩ = ((r % 16 * 17 * 65536 + g % 16 * 17 * 256 + b % 16 * 17 : Nat) : Int) + 1 := by
    unfold pcol
    rw [norm6 _ _ _ (hexc_hex _ ha u) (hexc_hex _ hb' u) (hexc_hex _ hc u), hp]
    show wrap32 _ = _
    unfold wrap32; omega
  rw [Option.bind_some, Option.bind_some, p3, p6, if_pos rfl, new_f _ _ _ (by omega) (by omega) (by omega), Option.bind_some, if_pos rfl, coloured_f]
  rfl
end Go.Proofs.YthpfcofkhchkcaaDoor.Pure
