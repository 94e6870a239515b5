/- Maps keyed by strings whose elements are any values; lookups of two values at both makes of maps. -/
import Derived.Test.YtibjlefenodhaaaDoorMapI
import Derived.StringKeys
set_option linter.unusedVariables false
set_option linter.unusedSimpArgs false
namespace Go.Proofs.YtibjlefenodhaaaDoorMapI
open Go.RowKit
open Go.ChangeMaps Go.MapKept Go.WideShapes
open Go.Maps (Keyed IsMap Tidy)
variable {P : Program} {kt : TypeId}
theorem MapI.lookOk {w : World} {b n : Nat} {f : Int → Option Value} (h : MapI P kt w b n f) {mt et : TypeId} (hk : P.underlying kt = some (.int .i64)) (hm : P.underlying mt = some (.map kt et)) {z : Value} (hz : (zeroValue et).run P w = .ok z w) {k : Int} (ok : Ok k) :
    (Instr.lookup mt (.map (some b)) (.int .i64 k) true).run P w = .ok (.tuple #[(f k).getD z, .bool (f k).isSome]) w := by
  obtain ⟨D, hown, hD, hs⟩ := h
  obtain ⟨v, ps, hrun, hv⟩ := hown.look_ok (Maps.int_keyed hk) hm hz (zd := .held z) (zp := []) rfl (Maps.keyOf_int_mk hk ok)
  rw [has_says hs ok] at hrun
  rw [hs k ok] at hv
  cases hf : f k with
  | none => rw [hf] at hv hrun; simp [hld] at hv; rw [hrun, hv.1]; rfl
  | some u => rw [hf] at hv hrun; simp [hld] at hv; rw [hrun, hv.1]; rfl
/-- What a map's datum says of a string. -/
def SaysS (D : DataW Value) (f : ByteArray → Option Value) : Prop :=
  ∀ s : ByteArray, s.size ≤ maxLen → ∀ z, D.atKey (.string s.data.toList) z = match f s with | some v => .held v | none => z
def MapS (P : Program) (kt : TypeId) (w : World) (b n : Nat) (f : ByteArray → Option Value) : Prop :=
  ∃ D : DataW Value, w.ownsMap P kt hld b n D ∧ IsMap D ∧ SaysS D f
theorem MapS.lt {w : World} {b n : Nat} {f : ByteArray → Option Value} (h : MapS P kt w b n f) : b < w.heap.size := by
  obtain ⟨D, h, _⟩ := h; exact h.lt
theorem MapS.same {w w' : World} {b n : Nat} {f : ByteArray → Option Value} (h : MapS P kt w b n f) (hb : w'.heap[b]? = w.heap[b]?) : MapS P kt w' b n f := by
  obtain ⟨D, ⟨es, c, h1, h2⟩, h3⟩ := h
  exact ⟨D, ⟨es, c, hb.trans h1, h2⟩, h3⟩
theorem MapS.below {w w' : World} {b n m : Nat} {f : ByteArray → Option Value} (h : MapS P kt w b n f) (hb : Below m w w') (hlt : b < m) : MapS P kt w' b n f := h.same (hb.block b hlt)
theorem MapS.made (w : World) : MapS P kt (w.alloc (.map #[] 0)) w.heap.size 0 (fun _ => none) :=
  ⟨.map [], World.ownsMap_made w _ _ _, ⟨_, rfl⟩, fun _ _ _ => rfl⟩
theorem str_ne {x y : ByteArray} (h : x ≠ y) : Lit.string x.data.toList ≠ .string y.data.toList := fun e => h (by
  injection e with e
  obtain ⟨⟨x⟩⟩ := x
  obtain ⟨⟨y⟩⟩ := y
  simp only at e
  rw [e])
def updS (f : ByteArray → Option Value) (k : ByteArray) (v : Value) : ByteArray → Option Value := fun y => if y = k then some v else f y
theorem MapS.store {w : World} {b n : Nat} {f : ByteArray → Option Value} (h : MapS P kt w b n f) {mt et : TypeId} (hk : P.underlying kt = some .string) (hm : P.underlying mt = some (.map kt et)) (hn : n < maxLen) {k : ByteArray} (ok : k.size ≤ maxLen) (v : Value) :
    ∃ w', (Instr.mapUpdate mt (.map (some b)) (.string k) v).run P w = .ok () w' ∧ MapS P kt w' b (n + 1) (updS f k v) ∧ w.grownBy w' (some b) := by
  obtain ⟨D, hown, hD, hs⟩ := h
  have hK : WideAt.IsKeyLit (.string k.data.toList) := (Maps.string_keyed hk).key (WideMaps.keyOf_string_mk hk ok)
  obtain ⟨w', hrun, h', hg⟩ := hown.update (t := mt) (val := v) (d := .held v) (ps := []) (Maps.string_keyed hk) hm hn (WideMaps.keyOf_string_mk hk ok) rfl
  refine ⟨w', hrun, ⟨_, h', h'.isMap, fun x hx z => ?_⟩, hg⟩
  by_cases e : x = k
  · subst e
    simp only [updS, if_pos]
    exact Maps.atKey_put_same hD hK _ _
  · rw [Maps.atKey_put_other (str_ne e), hs x hx z]
    simp only [updS, if_neg e]
theorem has_saysS {D : DataW Value} {f : ByteArray → Option Value} (hs : SaysS D f) {x : ByteArray} (hx : x.size ≤ maxLen) : Maps.has D (.string x.data.toList) = (f x).isSome := by
  have h := hs x hx
  cases hf : f x with
  | none => rw [hf] at h; exact Maps.has_false_of_atKey h
  | some v => rw [hf] at h; exact Maps.has_true_of_atKey h
theorem MapS.lookOk {w : World} {b n : Nat} {f : ByteArray → Option Value} (h : MapS P kt w b n f) {mt et : TypeId} (hk : P.underlying kt = some .string) (hm : P.underlying mt = some (.map kt et)) {z : Value} (hz : (zeroValue et).run P w = .ok z w) {k : ByteArray} (ok : k.size ≤ maxLen) :
    (Instr.lookup mt (.map (some b)) (.string k) true).run P w = .ok (.tuple #[(f k).getD z, .bool (f k).isSome]) w := by
  obtain ⟨D, hown, hD, hs⟩ := h
  obtain ⟨v, ps, hrun, hv⟩ := hown.look_ok (Maps.string_keyed hk) hm hz (zd := .held z) (zp := []) rfl (WideMaps.keyOf_string_mk hk ok)
  rw [has_saysS hs ok] at hrun
  rw [hs k ok] at hv
  cases hf : f k with
  | none => rw [hf] at hv hrun; simp [hld] at hv; rw [hrun, hv.1]; rfl
  | some u => rw [hf] at hv hrun; simp [hld] at hv; rw [hrun, hv.1]; rfl
end Go.Proofs.YtibjlefenodhaaaDoorMapI
