/- Arguments of any readable kind (whole numbers, bools, strings, structs of these, slices of all of these), opened into the printed words' kinds. No program in sight. -/
import Derived.Test.YtibjlefenodhaaaDoorWWords
import Derived.Deep.Slices
import Derived.ChangeArms
import Derived.ChangeShapes
set_option linter.unusedVariables false
set_option linter.unusedSimpArgs false
namespace Go.Proofs.YtibjlefenodhaaaDoorOpen
open Go.ChangeShapes Go.WideShapes Go.Deep Go.RowKit Go.Proofs.YtibjlefenodhaaaDoorW.PrintWords

section
variable {H : Type} (enc : TypeId × Value → H) (P : Program) (w : World) (base : Nat) (spare : Nat → Bool) (held : Bool)

/-- Whatever reads at type t is a value of the kind d, and meets wf. -/
def Opens {α : Type} (d : Kd α) (t : TypeId) (wf : α → Prop) : Prop :=
  ∀ (fuel : Nat) (cs : List Value) (x : DataW H × List MemPlace), DataW.trod enc P w base spare held fuel t cs = some x → ∃ a, d.K w a cs ∧ wf a
/-- The fields from off on. -/
def FieldsOpen {α : Type} (fs : List Field) (off : Nat) (d : Kd α) (wf : α → Prop) : Prop :=
  ∀ (cs : List Value) (n : Nat), (∀ (i : Nat) (f : Field), fs[i]? = some f → ∃ y, DataW.trod enc P w base spare held n f.type ((cs.drop f.offset).take (P.cellsOf f.type)) = some y) → off + d.sz ≤ cs.length → ∃ a, d.K w a ((cs.drop off).take d.sz) ∧ wf a
end

section
variable {H : Type} {enc : TypeId × Value → H} {P : Program} {w : World} {base : Nat} {spare : Nat → Bool} {held : Bool}

theorem opens_int {t : TypeId} {k : IntKind} (ht : P.underlying t = some (.int k)) : Opens enc P w base spare held (Kd.int k) t (fun n => k.min ≤ n ∧ n ≤ k.max) := by
  intro fuel cs x h
  obtain ⟨n, rfl, _, hw⟩ := DataW.trod_int ht h
  exact ⟨n, rfl, by simpa [Lit.wf] using hw⟩
theorem opens_bool {t : TypeId} (ht : P.underlying t = some .bool) : Opens enc P w base spare held Kd.bool t (fun _ => True) := by
  intro fuel cs x h
  obtain ⟨n, rfl, _⟩ := DataW.trod_bool ht h
  exact ⟨n, rfl, trivial⟩
theorem opens_string {t : TypeId} (ht : P.underlying t = some .string) : Opens enc P w base spare held Kd.string t (fun s => s.size ≤ maxLen) := by
  intro fuel cs x h
  obtain ⟨s, rfl, _, hs⟩ := DataW.trod_string ht h
  exact ⟨s, rfl, hs⟩
theorem opens_iso {α β : Type} {d : Kd α} {t : TypeId} {wf : α → Prop} (f : β → α) (g : α → β) (hg : ∀ a, f (g a) = a) (h : Opens enc P w base spare held d t wf) :
    Opens enc P w base spare held (Kd.iso d f) t (fun b => wf (f b)) := by
  intro fuel cs x hx
  obtain ⟨a, ha, hw⟩ := h fuel cs x hx
  refine ⟨g a, ?_, ?_⟩
  · show d.K w (f (g a)) cs
    rw [hg]; exact ha
  · show wf (f (g a))
    rw [hg]; exact hw
theorem fields_one {α : Type} {d : Kd α} {f : Field} {off : Nat} {wf : α → Prop} (ho : f.offset = off) (hc : P.cellsOf f.type = d.sz) (h : Opens enc P w base spare held d f.type wf) :
    FieldsOpen enc P w base spare held [f] off d wf := by
  intro cs n hf hl
  obtain ⟨y, hy⟩ := hf 0 f rfl
  rw [ho, hc] at hy
  exact h n _ y hy
theorem fields_cons {α β : Type} {d : Kd α} {d2 : Kd β} {f : Field} {fs : List Field} {off : Nat} {wf : α → Prop} {wf2 : β → Prop} (ho : f.offset = off) (hc : P.cellsOf f.type = d.sz) (h : Opens enc P w base spare held d f.type wf)
    (h2 : FieldsOpen enc P w base spare held fs (off + d.sz) d2 wf2) : FieldsOpen enc P w base spare held (f :: fs) off (Kd.pair d d2) (fun x => wf x.1 ∧ wf2 x.2) := by
  intro cs n hf hl
  have hsz : (Kd.pair d d2).sz = d.sz + d2.sz := rfl
  rw [hsz] at hl ⊢
  obtain ⟨y, hy⟩ := hf 0 f rfl
  rw [ho, hc] at hy
  obtain ⟨a, ha, hwa⟩ := h n _ y hy
  obtain ⟨b, hb, hwb⟩ := h2 cs n (fun i f' hi => hf (i + 1) f' (by simpa using hi)) (by omega)
  refine ⟨(a, b), ⟨(cs.drop off).take d.sz, (cs.drop (off + d.sz)).take d2.sz, ?_, ha, hb⟩, hwa, hwb⟩
  rw [List.take_add, List.drop_drop]
theorem opens_struct {α : Type} {d : Kd α} {t : TypeId} {fs : Array Field} {wf : α → Prop} (ht : P.underlying t = some (.struct fs)) (hc : P.cellsOf t = d.sz) (h : FieldsOpen enc P w base spare held fs.toList 0 d wf) :
    Opens enc P w base spare held d t wf := by
  intro fuel cs x hx
  obtain ⟨xs, n, _, _, hlen, hxl, hf⟩ := DataW.trod_struct ht hx
  rw [hc] at hlen
  obtain ⟨a, ha, hw⟩ := h cs n (fun i f hi => by
    have hi' : fs[i]? = some f := by simpa using hi
    have hlt : i < fs.size := (Array.getElem?_eq_some_iff.1 hi').1
    exact ⟨xs[i]'(by omega), (hf i f hi').trans (List.getElem?_eq_getElem (by omega))⟩) (by omega)
  refine ⟨a, ?_, hw⟩
  rw [List.drop_zero, List.take_of_length_le (by omega)] at ha
  exact ha
theorem opens_slice {α : Type} {d : Kd α} {t e : TypeId} {wf : α → Prop} (ht : P.underlying t = some (.slice e)) (hc : P.cellsOf e = d.sz) (h : Opens enc P w base spare held d e wf) :
    Opens enc P w base spare held (Kd.slice e d) t (fun xs => xs.length ≤ 9223372036854775807 ∧ ∀ x ∈ xs, wf x) := by
  intro fuel cs x hx
  rcases open_slice ht hx with ⟨rfl, _⟩ | ⟨a, len, cap, m, n, D, Pl, rfl, hb, hl, hm, hmm, _, hi⟩
  · exact ⟨[], ⟨none, 0, rfl, Nat.le_refl _, ⟨rfl, by simp, fun h0 => absurd h0 (by simp)⟩⟩, by simp, fun x hx => absurd hx (by simp)⟩
  · have hlm : len ≤ m := by rw [hmm]; split <;> omega
    have hall : ∀ i : Fin len, ∃ z : α, wf z ∧ ∃ cs', w.cells? base (a.add (i.val * P.cellsOf e)) (P.cellsOf e) = some cs' ∧ d.K w z cs' := by
      intro i
      obtain ⟨cs', h1, h2⟩ := hi i.val (by have := i.isLt; omega)
      obtain ⟨z, hz, hwz⟩ := h n cs' _ h2
      exact ⟨z, hwz, cs', h1, hz⟩
    refine ⟨List.ofFn (fun i => Classical.choose (hall i)), ?_, ?_⟩
    · refine ⟨some a, cap, by simp, by simpa using hl, ⟨rfl, by simp only [List.length_ofFn]; unfold maxLen at hm; omega, fun _ => ⟨a, rfl, ?_⟩⟩⟩
      intro j p hp
      have hjl : j < len := by
        have := (List.getElem?_eq_some_iff.1 hp).1
        simpa using this
      obtain ⟨hwz, cs', h1, h2⟩ := Classical.choose_spec (hall ⟨j, hjl⟩)
      have hpe : p = Classical.choose (hall ⟨j, hjl⟩) := by
        rw [List.getElem?_ofFn] at hp
        simpa [hjl] using hp.symm
      subst hpe
      obtain ⟨_, hcl, hat⟩ := World.cells?_some h1
      refine ⟨cs', by rw [hcl, hc], h2, ?_⟩
      intro i u hu
      have hic : i < P.cellsOf e := by
        have := (List.getElem?_eq_some_iff.1 hu).1
        omega
      have := hat i hic
      rw [Go.Deep.add_add, hc] at this
      rw [this, hu]
    · refine ⟨by simp only [List.length_ofFn]; unfold maxLen at hm; omega, ?_⟩
      intro x hx
      obtain ⟨i, rfl⟩ := (List.mem_ofFn).1 hx
      exact (Classical.choose_spec (hall i)).1
end
end Go.Proofs.YtibjlefenodhaaaDoorOpen
