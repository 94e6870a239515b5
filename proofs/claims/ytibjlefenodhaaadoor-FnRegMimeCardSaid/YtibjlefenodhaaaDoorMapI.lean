/- Maps keyed by whole numbers whose elements are any values. -/
import Derived.Maps.OwnSet
import Derived.Maps.OwnIn
import Derived.Maps.Views
import Derived.Maps.Range
import Derived.Maps.RangeWalk
set_option linter.unusedVariables false
set_option linter.unusedSimpArgs false
namespace Go.Proofs.YtibjlefenodhaaaDoorMapI
open Go.RowKit
open Go.ChangeMaps Go.MapKept Go.WideShapes
open Go.Maps (Keyed IsMap Tidy)

def hld (v : Value) : Option (DataW Value × List MemPlace) := some (.held v, [])
def Ok (x : Int) : Prop := (Lit.int .i64 x).wf = true
theorem ok_of {x : Int} (h0 : -9223372036854775808 ≤ x) (h1 : x ≤ 9223372036854775807) : Ok x := by
  simp only [Ok, Lit.wf, Bool.and_eq_true, decide_eq_true_eq]
  exact ⟨h0, h1⟩
/-- What a map's datum says of a key. -/
def Says (D : DataW Value) (f : Int → Option Value) : Prop :=
  ∀ x, Ok x → ∀ z, D.atKey (.int .i64 x) z = match f x with | some v => .held v | none => z
variable {P : Program} {kt : TypeId}
/-- Block b holds a map that has at each whole number what f says. -/
def MapI (P : Program) (kt : TypeId) (w : World) (b n : Nat) (f : Int → Option Value) : Prop :=
  ∃ D : DataW Value, w.ownsMap P kt hld b n D ∧ IsMap D ∧ Says D f
theorem MapI.lt {w : World} {b n : Nat} {f : Int → Option Value} (h : MapI P kt w b n f) : b < w.heap.size := by
  obtain ⟨D, h, _⟩ := h; exact h.lt
theorem MapI.block {w : World} {b n : Nat} {f : Int → Option Value} (h : MapI P kt w b n f) : ∃ es c, w.heap[b]? = some (.map es c) := by
  obtain ⟨D, ⟨es, c, hb, _⟩, _⟩ := h; exact ⟨es, c, hb⟩
theorem MapI.same {w w' : World} {b n : Nat} {f : Int → Option Value} (h : MapI P kt w b n f) (hb : w'.heap[b]? = w.heap[b]?) : MapI P kt w' b n f := by
  obtain ⟨D, ⟨es, c, h1, h2⟩, h3⟩ := h
  exact ⟨D, ⟨es, c, hb.trans h1, h2⟩, h3⟩
theorem MapI.below {w w' : World} {b n m : Nat} {f : Int → Option Value} (h : MapI P kt w b n f) (hb : Below m w w') (hlt : b < m) : MapI P kt w' b n f := h.same (hb.block b hlt)
theorem MapI.mono {w : World} {b n n' : Nat} {f : Int → Option Value} (h : MapI P kt w b n f) (hn : n ≤ n') : MapI P kt w b n' f := by
  obtain ⟨D, h, h2⟩ := h; exact ⟨D, h.mono hn, h2⟩
theorem MapI.made (w : World) : MapI P kt (w.alloc (.map #[] 0)) w.heap.size 0 (fun _ => none) :=
  ⟨.map [], World.ownsMap_made w _ _ _, ⟨_, rfl⟩, fun _ _ _ => rfl⟩
theorem lit_ne {x y : Int} (h : x ≠ y) : Lit.int .i64 x ≠ .int .i64 y := fun e => h (by injection e)
def upd (f : Int → Option Value) (k : Int) (v : Value) : Int → Option Value := fun y => if y = k then some v else f y
theorem MapI.store {w : World} {b n : Nat} {f : Int → Option Value} (h : MapI P kt w b n f) {mt et : TypeId} (hk : P.underlying kt = some (.int .i64)) (hm : P.underlying mt = some (.map kt et)) (hn : n < maxLen) {k : Int} (ok : Ok k) (v : Value) :
    ∃ w', (Instr.mapUpdate mt (.map (some b)) (.int .i64 k) v).run P w = .ok () w' ∧ MapI P kt w' b (n + 1) (upd f k v) ∧ w.grownBy w' (some b) := by
  obtain ⟨D, hown, hD, hs⟩ := h
  have hK : WideAt.IsKeyLit (.int .i64 k) := (Maps.int_keyed hk).key (Maps.keyOf_int_mk hk ok)
  obtain ⟨w', hrun, h', hg⟩ := hown.update (t := mt) (val := v) (d := .held v) (ps := []) (Maps.int_keyed hk) hm hn (Maps.keyOf_int_mk hk ok) rfl
  refine ⟨w', hrun, ⟨_, h', h'.isMap, fun x hx z => ?_⟩, hg⟩
  by_cases e : x = k
  · subst e
    simp only [upd, if_pos]
    exact Maps.atKey_put_same hD hK _ _
  · rw [Maps.atKey_put_other (lit_ne e), hs x hx z]
    simp only [upd, if_neg e]
theorem MapI.look {w : World} {b n : Nat} {f : Int → Option Value} (h : MapI P kt w b n f) {mt et : TypeId} (hk : P.underlying kt = some (.int .i64)) (hm : P.underlying mt = some (.map kt et)) {z : Value} (hz : (zeroValue et).run P w = .ok z w) {k : Int} (ok : Ok k) :
    (Instr.lookup mt (.map (some b)) (.int .i64 k) false).run P w = .ok ((f k).getD z) w := by
  obtain ⟨D, hown, hD, hs⟩ := h
  obtain ⟨v, ps, hrun, hv⟩ := hown.lookup (Maps.int_keyed hk) hm hz (zd := .held z) (zp := []) rfl (Maps.keyOf_int_mk hk ok)
  rw [hs k ok] at hv
  cases hf : f k with
  | none => rw [hf] at hv; simp [hld] at hv; rw [hrun, hv.1]; rfl
  | some u => rw [hf] at hv; simp [hld] at hv; rw [hrun, hv.1]; rfl
/-- A range over such a map under way: left says which keys are to come. -/
def MapR (P : Program) (kt : TypeId) (w : World) (b r n : Nat) (f : Int → Option Value) (left : Int → Bool) (cnt : Nat) : Prop :=
  ∃ (D : DataW Value) (lf : Lit → Bool), w.ranges P kt hld b r n D lf cnt ∧ Says D f ∧ ∀ x, Ok x → lf (.int .i64 x) = left x
theorem MapR.lt {w : World} {b r n cnt : Nat} {f : Int → Option Value} {left : Int → Bool} (h : MapR P kt w b r n f left cnt) : r < w.heap.size := by
  obtain ⟨D, lf, h, _⟩ := h; exact h.lt
theorem MapR.ltb {w : World} {b r n cnt : Nat} {f : Int → Option Value} {left : Int → Bool} (h : MapR P kt w b r n f left cnt) : b < w.heap.size := by
  obtain ⟨D, lf, h, _⟩ := h; exact h.owns.lt
theorem MapR.ne {w : World} {b r n cnt : Nat} {f : Int → Option Value} {left : Int → Bool} (h : MapR P kt w b r n f left cnt) : r ≠ b := by
  obtain ⟨D, lf, h, _⟩ := h; exact h.ne
theorem MapR.measure {w : World} {b r n cnt : Nat} {f : Int → Option Value} {left : Int → Bool} (h : MapR P kt w b r n f left cnt) : w.rangeLeft b r = cnt := by
  obtain ⟨D, lf, h, _⟩ := h; exact h.left_eq
theorem MapR.same {w w' : World} {b r n cnt : Nat} {f : Int → Option Value} {left : Int → Bool} (h : MapR P kt w b r n f left cnt) (hb : w'.heap[b]? = w.heap[b]?) (hr : w'.heap[r]? = w.heap[r]?) : MapR P kt w' b r n f left cnt := by
  obtain ⟨D, lf, ⟨es, clock, since, seen, c0, h1, h2, h3, h4, h5, h6⟩, h7⟩ := h
  exact ⟨D, lf, ⟨es, clock, since, seen, c0, hb.trans h1, h2, h3, h4, hr.trans h5, h6⟩, h7⟩
theorem MapR.map {w : World} {b r n cnt : Nat} {f : Int → Option Value} {left : Int → Bool} (h : MapR P kt w b r n f left cnt) : MapI P kt w b n f := by
  obtain ⟨D, lf, h, hs, _⟩ := h; exact ⟨D, h.owns, h.owns.isMap, hs⟩
theorem has_says {D : DataW Value} {f : Int → Option Value} (hs : Says D f) {x : Int} (hx : Ok x) : Maps.has D (.int .i64 x) = (f x).isSome := by
  have h := hs x hx
  cases hf : f x with
  | none => rw [hf] at h; exact Maps.has_false_of_atKey h
  | some v => rw [hf] at h; exact Maps.has_true_of_atKey h
theorem MapI.range {w : World} {b n : Nat} {f : Int → Option Value} (h : MapI P kt w b n f) {mt et : TypeId} (hk : P.underlying kt = some (.int .i64)) (hm : P.underlying mt = some (.map kt et)) :
    ∃ w' cnt, (Instr.range mt (.map (some b))).run P w = .ok (.pointer (some ⟨w.heap.size, 0, none⟩)) w' ∧ MapR P kt w' b w.heap.size n f (fun x => (f x).isSome) cnt ∧ w.grownBy w' none ∧ w'.heap.size = w.heap.size + 1 := by
  obtain ⟨D, hown, hD, hs⟩ := h
  obtain ⟨w', h1, h2, h3, h4⟩ := hown.range (Maps.int_keyed hk) hm
  exact ⟨w', _, h1, ⟨D, _, h2, hs, fun x hx => has_says hs hx⟩, h3, h4⟩
theorem MapR.next {w : World} {b r n cnt : Nat} {f : Int → Option Value} {left : Int → Bool} (h : MapR P kt w b r n f left cnt) (hk : P.underlying kt = some (.int .i64)) (ty : TypeId) :
    (cnt = 0 ∧ (∀ x, Ok x → left x = false) ∧ (Instr.next (.pointer (some ⟨r, 0, none⟩)) false ty).run P w = .ok (.tuple #[.bool false]) w) ∨
    ∃ x v w' cnt', Ok x ∧ left x = true ∧ f x = some v ∧ (Instr.next (.pointer (some ⟨r, 0, none⟩)) false ty).run P w = .ok (.tuple #[.bool true, .int .i64 x, v]) w' ∧
      MapR P kt w' b r n f (fun y => left y && decide (y ≠ x)) cnt' ∧ cnt' < cnt ∧ w.grownBy w' (some r) ∧ w'.heap.size = w.heap.size ∧ (Instr.entry (.pointer (some ⟨r, 0, none⟩))).run P w' = .ok (.tuple #[.int .i64 x, v]) w' := by
  obtain ⟨D, lf, h, hs, hl⟩ := h
  rcases h.next (Maps.int_keyed hk) ty with ⟨h1, h2, h3⟩ | ⟨key, v, kl, y, w', cnt', h1, h2, h3, h4, h5, h6, h7, h8, h9, h10⟩
  · exact .inl ⟨h1, fun x hx => by rw [← hl x hx]; exact h2 _, h3⟩
  · obtain ⟨x, rfl, rfl, hx⟩ := Maps.keyOf_int_inv hk h1
    obtain rfl := Option.some.inj h3
    refine .inr ⟨x, v, w', cnt', hx, by rw [← hl x hx]; exact h2, ?_, h5, ⟨D, _, h6, hs, fun z hz => ?_⟩, h7, h8, h9, h10⟩
    · have e1 := h4 .nil
      rw [hs x hx] at e1
      cases hf : f x with
      | none => rw [hf] at e1; cases e1
      | some u => rw [hf] at e1; injection e1 with e1; rw [e1]
    · show (lf (.int .i64 z) && !(Lit.int .i64 z).sameKey (.int .i64 x)) = _
      rw [hl z hz]
      congr 1
      by_cases e : z = x
      · subst e; rw [WideAt.sameKey_self ((Maps.int_keyed hk).key (Maps.keyOf_int_mk hk hx))]; simp
      · cases hsk : (Lit.int .i64 z).sameKey (.int .i64 x) with
        | true => exact absurd (WideAt.sameKey_eq hsk) (lit_ne e)
        | false => simp [e]
end Go.Proofs.YtibjlefenodhaaaDoorMapI
