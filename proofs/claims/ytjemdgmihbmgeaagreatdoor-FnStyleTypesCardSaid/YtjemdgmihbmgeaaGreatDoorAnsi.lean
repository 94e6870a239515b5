/- A map of strings by strings that a call makes; chroma.ANSI2RGB and normaliseColour by a walk. -/
import Derived.Test.YtjemdgmihbmgeaaGreatDoorFmt
import Derived.Test.YtjemdgmihbmgeaaGreatDoorShelf
import Derived.Maps.OwnSet
import Derived.Maps.OwnIn
import Derived.Maps.Views
import Derived.Deep.RegionHeld3
import Derived.OrdersHeld
set_option linter.unusedVariables false
set_option linter.unusedSimpArgs false
namespace Go.Proofs.YtjemdgmihbmgeaaGreatDoorFmt
open Go.RowKit Go.Proofs.YtjemdgmihbmgeaaGreatDoorW.PrintWords
open Go.ChangeMaps Go.MapKept Go.WideShapes
open Go.Maps (Keyed IsMap Tidy)

def ml : List (ByteArray × ByteArray) → ByteArray → Option ByteArray
  | [], _ => none
  | (k, v) :: l, s => if s = k then some v else ml l s
/-- Block b holds a map of strings that reads as the list (the newest entry first). -/
def MapOK (w : World) (b n : Nat) (l : List (ByteArray × ByteArray)) : Prop :=
  ∃ D : DataW Unit, w.ownsMap Tryz.prog 9 (plainElem Tryz.prog 9) b n D ∧ IsMap D ∧ ∀ s : ByteArray, Maps.has D (.string s.data.toList) = (ml l s).isSome ∧ ∀ v, ml l s = some v → ∀ z, D.atKey (.string s.data.toList) z = .lit (.string v.data.toList)
theorem key_str {s : ByteArray} (hs : s.size ≤ maxLen) : keyOf Tryz.prog 9 (.string s) = some (.string s.data.toList) := by
  simp [keyOf, Tryz.underlying9, mapKey, hs]
theorem str_inj {a b : ByteArray} (h : a.data.toList = b.data.toList) : a = b := bytes_eq h
theorem MapOK.made (w : World) : MapOK (w.alloc (.map #[] 0)) w.heap.size 0 [] :=
  ⟨.map [], World.ownsMap_made w _ _ _, ⟨_, rfl⟩, fun s => ⟨rfl, fun v h => by cases h⟩⟩
theorem MapOK.store {w : World} {b n : Nat} {l : List (ByteArray × ByteArray)} (h : MapOK w b n l) (hn : n < maxLen) {k v : ByteArray} (hk : k.size ≤ maxLen) (hv : v.size ≤ maxLen) :
    ∃ w', (Instr.mapUpdate 217 (.map (some b)) (.string k) (.string v)).run Tryz.prog w = .ok () w' ∧ MapOK w' b (n + 1) ((k, v) :: l) ∧ w.grownBy w' (some b) := by
  obtain ⟨D, hown, hm, hl⟩ := h
  have hK : WideAt.IsKeyLit (.string k.data.toList) := trivial
  obtain ⟨w', hrun, h', hg⟩ := hown.update (t := 217) (Maps.string_keyed Tryz.underlying9) Tryz.underlying217 hn (key_str hk) (plainElem_string Tryz.underlying9 hv)
  refine ⟨w', hrun, ⟨_, h', h'.isMap, fun s => ?_⟩, hg⟩
  by_cases hs : s = k
  · subst hs
    refine ⟨?_, ?_⟩
    · rw [Maps.has_put_same hm hK, ml, if_pos rfl]; rfl
    · intro v' hv' z
      rw [ml, if_pos rfl] at hv'
      obtain rfl := Option.some.inj hv'
      exact Maps.atKey_put_same hm hK _ _
  · have hne : (Lit.string s.data.toList) ≠ .string k.data.toList := fun e => hs (str_inj (by injection e))
    refine ⟨?_, ?_⟩
    · rw [Maps.has_put_other hne, ml, if_neg hs]; exact (hl s).1
    · intro v' hv' z
      rw [ml, if_neg hs] at hv'
      rw [Maps.atKey_put_other hne]
      exact (hl s).2 v' hv' z
theorem elem_str_inv {P : Program} {e : TypeId} (he : P.underlying e = some .string) {v : Value} {z : DataW Unit × List MemPlace} (h : plainElem P e v = some z) : ∃ x : ByteArray, v = .string x ∧ z = (.lit (.string x.data.toList), []) := by
  unfold plainElem at h
  rw [he] at h
  cases v <;> simp at h
  obtain ⟨_, rfl⟩ := h
  exact ⟨_, rfl, rfl⟩
theorem MapOK.look {w : World} {b n : Nat} {l : List (ByteArray × ByteArray)} (h : MapOK w b n l) (s : ByteArray) (hs : s.size ≤ maxLen) :
    ∃ v : ByteArray, (Instr.lookup 217 (.map (some b)) (.string s) true).run Tryz.prog w = .ok (.tuple #[.string v, .bool (ml l s).isSome]) w ∧ ∀ v', ml l s = some v' → v = v' := by
  obtain ⟨D, hown, hm, hl⟩ := h
  obtain ⟨x, ps, hrun, hR⟩ := hown.look_ok (t := 217) (Maps.string_keyed Tryz.underlying9) Tryz.underlying217 (z := .string ⟨#[]⟩) (zd := .lit (.string [])) (zp := []) (by kernel_rfl) (plainElem_string Tryz.underlying9 (by decide)) (key_str hs)
  rw [(hl s).1] at hrun
  obtain ⟨v, rfl, hv⟩ := elem_str_inv Tryz.underlying9 hR
  refine ⟨v, hrun, fun v' hv' => ?_⟩
  rw [(hl s).2 v' hv'] at hv
  simp only [Prod.mk.injEq, DataW.lit.injEq, Lit.string.injEq] at hv
  exact (str_inj hv.1).symm
def ansiL : List (ByteArray × ByteArray) := [(⟨#[35, 119, 104, 105, 116, 101]⟩, ⟨#[102, 102, 102, 102, 102, 102]⟩),
  (⟨#[35, 116, 117, 114, 113, 117, 111, 105, 115, 101]⟩, ⟨#[48, 48, 102, 102, 102, 102]⟩),
  (⟨#[35, 102, 117, 99, 104, 115, 105, 97]⟩, ⟨#[102, 102, 48, 48, 102, 102]⟩),
  (⟨#[35, 98, 108, 117, 101]⟩, ⟨#[48, 48, 48, 48, 102, 102]⟩),
  (⟨#[35, 121, 101, 108, 108, 111, 119]⟩, ⟨#[102, 102, 102, 102, 48, 48]⟩),
  (⟨#[35, 103, 114, 101, 101, 110]⟩, ⟨#[48, 48, 102, 102, 48, 48]⟩),
  (⟨#[35, 114, 101, 100]⟩, ⟨#[102, 102, 48, 48, 48, 48]⟩),
  (⟨#[35, 100, 97, 114, 107, 103, 114, 97, 121]⟩, ⟨#[53, 53, 53, 53, 53, 53]⟩),
  (⟨#[35, 108, 105, 103, 104, 116, 103, 114, 97, 121]⟩, ⟨#[101, 53, 101, 53, 101, 53]⟩),
  (⟨#[35, 116, 101, 97, 108]⟩, ⟨#[48, 48, 55, 102, 55, 102]⟩),
  (⟨#[35, 112, 117, 114, 112, 108, 101]⟩, ⟨#[55, 102, 48, 48, 55, 102]⟩),
  (⟨#[35, 100, 97, 114, 107, 98, 108, 117, 101]⟩, ⟨#[48, 48, 48, 48, 55, 102]⟩),
  (⟨#[35, 98, 114, 111, 119, 110]⟩, ⟨#[55, 102, 55, 102, 101, 48]⟩),
  (⟨#[35, 100, 97, 114, 107, 103, 114, 101, 101, 110]⟩, ⟨#[48, 48, 55, 102, 48, 48]⟩),
  (⟨#[35, 100, 97, 114, 107, 114, 101, 100]⟩, ⟨#[55, 102, 48, 48, 48, 48]⟩),
  (⟨#[35, 98, 108, 97, 99, 107]⟩, ⟨#[48, 48, 48, 48, 48, 48]⟩),
  (⟨#[35, 97, 110, 115, 105, 119, 104, 105, 116, 101]⟩, ⟨#[102, 102, 102, 102, 102, 102]⟩),
  (⟨#[35, 97, 110, 115, 105, 116, 117, 114, 113, 117, 111, 105, 115, 101]⟩, ⟨#[48, 48, 102, 102, 102, 102]⟩),
  (⟨#[35, 97, 110, 115, 105, 102, 117, 99, 104, 115, 105, 97]⟩, ⟨#[102, 102, 48, 48, 102, 102]⟩),
  (⟨#[35, 97, 110, 115, 105, 98, 108, 117, 101]⟩, ⟨#[48, 48, 48, 48, 102, 102]⟩),
  (⟨#[35, 97, 110, 115, 105, 121, 101, 108, 108, 111, 119]⟩, ⟨#[102, 102, 102, 102, 48, 48]⟩),
  (⟨#[35, 97, 110, 115, 105, 103, 114, 101, 101, 110]⟩, ⟨#[48, 48, 102, 102, 48, 48]⟩),
  (⟨#[35, 97, 110, 115, 105, 114, 101, 100]⟩, ⟨#[102, 102, 48, 48, 48, 48]⟩),
  (⟨#[35, 97, 110, 115, 105, 100, 97, 114, 107, 103, 114, 97, 121]⟩, ⟨#[53, 53, 53, 53, 53, 53]⟩),
  (⟨#[35, 97, 110, 115, 105, 108, 105, 103, 104, 116, 103, 114, 97, 121]⟩, ⟨#[101, 53, 101, 53, 101, 53]⟩),
  (⟨#[35, 97, 110, 115, 105, 116, 101, 97, 108]⟩, ⟨#[48, 48, 55, 102, 55, 102]⟩),
  (⟨#[35, 97, 110, 115, 105, 112, 117, 114, 112, 108, 101]⟩, ⟨#[55, 102, 48, 48, 55, 102]⟩),
  (⟨#[35, 97, 110, 115, 105, 100, 97, 114, 107, 98, 108, 117, 101]⟩, ⟨#[48, 48, 48, 48, 55, 102]⟩),
  (⟨#[35, 97, 110, 115, 105, 98, 114, 111, 119, 110]⟩, ⟨#[55, 102, 55, 102, 101, 48]⟩),
  (⟨#[35, 97, 110, 115, 105, 100, 97, 114, 107, 103, 114, 101, 101, 110]⟩, ⟨#[48, 48, 55, 102, 48, 48]⟩),
  (⟨#[35, 97, 110, 115, 105, 100, 97, 114, 107, 114, 101, 100]⟩, ⟨#[55, 102, 48, 48, 48, 48]⟩),
  (⟨#[35, 97, 110, 115, 105, 98, 108, 97, 99, 107]⟩, ⟨#[48, 48, 48, 48, 48, 48]⟩)]
set_option maxRecDepth 100000 in
set_option maxHeartbeats 4000000 in
theorem ansi (w : World) : Calls Tryz.prog 137 #[] w fun e w' => ∃ b, e = .returned (.map (some b)) ∧ MapOK w' b 32 ansiL ∧ Below w.heap.size w w' := by
  have hmk := run_makeMap (P := Tryz.prog) 217 w
  have m0 := MapOK.made w
  have b0 : Below w.heap.size w (w.alloc (.map #[] 0)) := (Below.refl _ _).alloc (Nat.le_refl _) _
  obtain ⟨w1, r1, m1, g1⟩ := m0.store (by decide) (k := ⟨#[35, 97, 110, 115, 105, 98, 108, 97, 99, 107]⟩) (v := ⟨#[48, 48, 48, 48, 48, 48]⟩) (by decide) (by decide)
  have b1 := b0.grown g1 b0.size (by rintro k ⟨⟩; exact Nat.le_refl _)
  clear g1
  obtain ⟨w2, r2, m2, g2⟩ := m1.store (by decide) (k := ⟨#[35, 97, 110, 115, 105, 100, 97, 114, 107, 114, 101, 100]⟩) (v := ⟨#[55, 102, 48, 48, 48, 48]⟩) (by decide) (by decide)
  have b2 := b1.grown g2 b1.size (by rintro k ⟨⟩; exact Nat.le_refl _)
  clear g2
  obtain ⟨w3, r3, m3, g3⟩ := m2.store (by decide) (k := ⟨#[35, 97, 110, 115, 105, 100, 97, 114, 107, 103, 114, 101, 101, 110]⟩) (v := ⟨#[48, 48, 55, 102, 48, 48]⟩) (by decide) (by decide)
  have b3 := b2.grown g3 b2.size (by rintro k ⟨⟩; exact Nat.le_refl _)
  clear g3
  obtain ⟨w4, r4, m4, g4⟩ := m3.store (by decide) (k := ⟨#[35, 97, 110, 115, 105, 98, 114, 111, 119, 110]⟩) (v := ⟨#[55, 102, 55, 102, 101, 48]⟩) (by decide) (by decide)
  have b4 := b3.grown g4 b3.size (by rintro k ⟨⟩; exact Nat.le_refl _)
  clear g4
  obtain ⟨w5, r5, m5, g5⟩ := m4.store (by decide) (k := ⟨#[35, 97, 110, 115, 105, 100, 97, 114, 107, 98, 108, 117, 101]⟩) (v := ⟨#[48, 48, 48, 48, 55, 102]⟩) (by decide) (by decide)
  have b5 := b4.grown g5 b4.size (by rintro k ⟨⟩; exact Nat.le_refl _)
  clear g5
  obtain ⟨w6, r6, m6, g6⟩ := m5.store (by decide) (k := ⟨#[35, 97, 110, 115, 105, 112, 117, 114, 112, 108, 101]⟩) (v := ⟨#[55, 102, 48, 48, 55, 102]⟩) (by decide) (by decide)
  have b6 := b5.grown g6 b5.size (by rintro k ⟨⟩; exact Nat.le_refl _)
  clear g6
  obtain ⟨w7, r7, m7, g7⟩ := m6.store (by decide) (k := ⟨#[35, 97, 110, 115, 105, 116, 101, 97, 108]⟩) (v := ⟨#[48, 48, 55, 102, 55, 102]⟩) (by decide) (by decide)
  have b7 := b6.grown g7 b6.size (by rintro k ⟨⟩; exact Nat.le_refl _)
  clear g7
  obtain ⟨w8, r8, m8, g8⟩ := m7.store (by decide) (k := ⟨#[35, 97, 110, 115, 105, 108, 105, 103, 104, 116, 103, 114, 97, 121]⟩) (v := ⟨#[101, 53, 101, 53, 101, 53]⟩) (by decide) (by decide)
  have b8 := b7.grown g8 b7.size (by rintro k ⟨⟩; exact Nat.le_refl _)
  clear g8
  obtain ⟨w9, r9, m9, g9⟩ := m8.store (by decide) (k := ⟨#[35, 97, 110, 115, 105, 100, 97, 114, 107, 103, 114, 97, 121]⟩) (v := ⟨#[53, 53, 53, 53, 53, 53]⟩) (by decide) (by decide)
  have b9 := b8.grown g9 b8.size (by rintro k ⟨⟩; exact Nat.le_refl _)
  clear g9
  obtain ⟨w10, r10, m10, g10⟩ := m9.store (by decide) (k := ⟨#[35, 97, 110, 115, 105, 114, 101, 100]⟩) (v := ⟨#[102, 102, 48, 48, 48, 48]⟩) (by decide) (by decide)
  have b10 := b9.grown g10 b9.size (by rintro k ⟨⟩; exact Nat.le_refl _)
  clear g10
  obtain ⟨w11, r11, m11, g11⟩ := m10.store (by decide) (k := ⟨#[35, 97, 110, 115, 105, 103, 114, 101, 101, 110]⟩) (v := ⟨#[48, 48, 102, 102, 48, 48]⟩) (by decide) (by decide)
  have b11 := b10.grown g11 b10.size (by rintro k ⟨⟩; exact Nat.le_refl _)
  clear g11
  obtain ⟨w12, r12, m12, g12⟩ := m11.store (by decide) (k := ⟨#[35, 97, 110, 115, 105, 121, 101, 108, 108, 111, 119]⟩) (v := ⟨#[102, 102, 102, 102, 48, 48]⟩) (by decide) (by decide)
  have b12 := b11.grown g12 b11.size (by rintro k ⟨⟩; exact Nat.le_refl _)
  clear g12
  obtain ⟨w13, r13, m13, g13⟩ := m12.store (by decide) (k := ⟨#[35, 97, 110, 115, 105, 98, 108, 117, 101]⟩) (v := ⟨#[48, 48, 48, 48, 102, 102]⟩) (by decide) (by decide)
  have b13 := b12.grown g13 b12.size (by rintro k ⟨⟩; exact Nat.le_refl _)
  clear g13
  obtain ⟨w14, r14, m14, g14⟩ := m13.store (by decide) (k := ⟨#[35, 97, 110, 115, 105, 102, 117, 99, 104, 115, 105, 97]⟩) (v := ⟨#[102, 102, 48, 48, 102, 102]⟩) (by decide) (by decide)
  have b14 := b13.grown g14 b13.size (by rintro k ⟨⟩; exact Nat.le_refl _)
  clear g14
  obtain ⟨w15, r15, m15, g15⟩ := m14.store (by decide) (k := ⟨#[35, 97, 110, 115, 105, 116, 117, 114, 113, 117, 111, 105, 115, 101]⟩) (v := ⟨#[48, 48, 102, 102, 102, 102]⟩) (by decide) (by decide)
  have b15 := b14.grown g15 b14.size (by rintro k ⟨⟩; exact Nat.le_refl _)
  clear g15
  obtain ⟨w16, r16, m16, g16⟩ := m15.store (by decide) (k := ⟨#[35, 97, 110, 115, 105, 119, 104, 105, 116, 101]⟩) (v := ⟨#[102, 102, 102, 102, 102, 102]⟩) (by decide) (by decide)
  have b16 := b15.grown g16 b15.size (by rintro k ⟨⟩; exact Nat.le_refl _)
  clear g16
  obtain ⟨w17, r17, m17, g17⟩ := m16.store (by decide) (k := ⟨#[35, 98, 108, 97, 99, 107]⟩) (v := ⟨#[48, 48, 48, 48, 48, 48]⟩) (by decide) (by decide)
  have b17 := b16.grown g17 b16.size (by rintro k ⟨⟩; exact Nat.le_refl _)
  clear g17
  obtain ⟨w18, r18, m18, g18⟩ := m17.store (by decide) (k := ⟨#[35, 100, 97, 114, 107, 114, 101, 100]⟩) (v := ⟨#[55, 102, 48, 48, 48, 48]⟩) (by decide) (by decide)
  have b18 := b17.grown g18 b17.size (by rintro k ⟨⟩; exact Nat.le_refl _)
  clear g18
  obtain ⟨w19, r19, m19, g19⟩ := m18.store (by decide) (k := ⟨#[35, 100, 97, 114, 107, 103, 114, 101, 101, 110]⟩) (v := ⟨#[48, 48, 55, 102, 48, 48]⟩) (by decide) (by decide)
  have b19 := b18.grown g19 b18.size (by rintro k ⟨⟩; exact Nat.le_refl _)
  clear g19
  obtain ⟨w20, r20, m20, g20⟩ := m19.store (by decide) (k := ⟨#[35, 98, 114, 111, 119, 110]⟩) (v := ⟨#[55, 102, 55, 102, 101, 48]⟩) (by decide) (by decide)
  have b20 := b19.grown g20 b19.size (by rintro k ⟨⟩; exact Nat.le_refl _)
  clear g20
  obtain ⟨w21, r21, m21, g21⟩ := m20.store (by decide) (k := ⟨#[35, 100, 97, 114, 107, 98, 108, 117, 101]⟩) (v := ⟨#[48, 48, 48, 48, 55, 102]⟩) (by decide) (by decide)
  have b21 := b20.grown g21 b20.size (by rintro k ⟨⟩; exact Nat.le_refl _)
  clear g21
  obtain ⟨w22, r22, m22, g22⟩ := m21.store (by decide) (k := ⟨#[35, 112, 117, 114, 112, 108, 101]⟩) (v := ⟨#[55, 102, 48, 48, 55, 102]⟩) (by decide) (by decide)
  have b22 := b21.grown g22 b21.size (by rintro k ⟨⟩; exact Nat.le_refl _)
  clear g22
  obtain ⟨w23, r23, m23, g23⟩ := m22.store (by decide) (k := ⟨#[35, 116, 101, 97, 108]⟩) (v := ⟨#[48, 48, 55, 102, 55, 102]⟩) (by decide) (by decide)
  have b23 := b22.grown g23 b22.size (by rintro k ⟨⟩; exact Nat.le_refl _)
  clear g23
  obtain ⟨w24, r24, m24, g24⟩ := m23.store (by decide) (k := ⟨#[35, 108, 105, 103, 104, 116, 103, 114, 97, 121]⟩) (v := ⟨#[101, 53, 101, 53, 101, 53]⟩) (by decide) (by decide)
  have b24 := b23.grown g24 b23.size (by rintro k ⟨⟩; exact Nat.le_refl _)
  clear g24
  obtain ⟨w25, r25, m25, g25⟩ := m24.store (by decide) (k := ⟨#[35, 100, 97, 114, 107, 103, 114, 97, 121]⟩) (v := ⟨#[53, 53, 53, 53, 53, 53]⟩) (by decide) (by decide)
  have b25 := b24.grown g25 b24.size (by rintro k ⟨⟩; exact Nat.le_refl _)
  clear g25
  obtain ⟨w26, r26, m26, g26⟩ := m25.store (by decide) (k := ⟨#[35, 114, 101, 100]⟩) (v := ⟨#[102, 102, 48, 48, 48, 48]⟩) (by decide) (by decide)
  have b26 := b25.grown g26 b25.size (by rintro k ⟨⟩; exact Nat.le_refl _)
  clear g26
  obtain ⟨w27, r27, m27, g27⟩ := m26.store (by decide) (k := ⟨#[35, 103, 114, 101, 101, 110]⟩) (v := ⟨#[48, 48, 102, 102, 48, 48]⟩) (by decide) (by decide)
  have b27 := b26.grown g27 b26.size (by rintro k ⟨⟩; exact Nat.le_refl _)
  clear g27
  obtain ⟨w28, r28, m28, g28⟩ := m27.store (by decide) (k := ⟨#[35, 121, 101, 108, 108, 111, 119]⟩) (v := ⟨#[102, 102, 102, 102, 48, 48]⟩) (by decide) (by decide)
  have b28 := b27.grown g28 b27.size (by rintro k ⟨⟩; exact Nat.le_refl _)
  clear g28
  obtain ⟨w29, r29, m29, g29⟩ := m28.store (by decide) (k := ⟨#[35, 98, 108, 117, 101]⟩) (v := ⟨#[48, 48, 48, 48, 102, 102]⟩) (by decide) (by decide)
  have b29 := b28.grown g29 b28.size (by rintro k ⟨⟩; exact Nat.le_refl _)
  clear g29
  obtain ⟨w30, r30, m30, g30⟩ := m29.store (by decide) (k := ⟨#[35, 102, 117, 99, 104, 115, 105, 97]⟩) (v := ⟨#[102, 102, 48, 48, 102, 102]⟩) (by decide) (by decide)
  have b30 := b29.grown g30 b29.size (by rintro k ⟨⟩; exact Nat.le_refl _)
  clear g30
  obtain ⟨w31, r31, m31, g31⟩ := m30.store (by decide) (k := ⟨#[35, 116, 117, 114, 113, 117, 111, 105, 115, 101]⟩) (v := ⟨#[48, 48, 102, 102, 102, 102]⟩) (by decide) (by decide)
  have b31 := b30.grown g31 b30.size (by rintro k ⟨⟩; exact Nat.le_refl _)
  clear g31
  obtain ⟨w32, r32, m32, g32⟩ := m31.store (by decide) (k := ⟨#[35, 119, 104, 105, 116, 101]⟩) (v := ⟨#[102, 102, 102, 102, 102, 102]⟩) (by decide) (by decide)
  have b32 := b31.grown g32 b31.size (by rintro k ⟨⟩; exact Nat.le_refl _)
  clear g32
  have M := Aside0.mk m32
  have B := Aside0.mk b32
  clear m0 b0 m1 b1 m2 b2 m3 b3 m4 b4 m5 b5 m6 b6 m7 b7 m8 b8 m9 b9 m10 b10 m11 b11 m12 b12 m13 b13 m14 b14 m15 b15 m16 b16 m17 b17 m18 b18 m19 b19 m20 b20 m21 b21 m22 b22 m23 b23 m24 b24 m25 b25 m26 b26 m27 b27 m28 b28 m29 b29 m30 b30 m31 b31 m32 b32
  go_enter Tryz.func137, Tryz.ntmps137
  go_wp2_with fail
  go_ret
  exact ⟨_, rfl, M.out, B.out⟩
end Go.Proofs.YtjemdgmihbmgeaaGreatDoorFmt
