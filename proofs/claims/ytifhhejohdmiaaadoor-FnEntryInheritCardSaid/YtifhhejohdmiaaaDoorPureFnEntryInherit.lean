/- The law FnEntryInherit: the printed statement. -/
import Derived.Test.YtifhhejohdmiaaaDoorTx4
import Derived.Test.YtifhhejohdmiaaaDoorLen
set_option linter.unusedVariables false
set_option linter.unusedSimpArgs false
namespace Go.Proofs.YtifhhejohdmiaaaDoor.Pure
open Go.RowKit Go.Proofs.YtifhhejohdmiaaaDoorW.PrintWords Go.Proofs.YtifhhejohdmiaaaDoorFmt Go.Proofs.YtifhhejohdmiaaaDoorEnt Go.Proofs.YtifhhejohdmiaaaDoor.T
def s23 (e : Ent) : S23 := ⟨e.c, e.b, e.o, e.bo, e.it, e.un, e.ni⟩
def s26 (e : Ent) : S26 := ⟨e.c, e.b, e.o, e.bo, e.it, e.un, e.ni⟩
/-! ### usual and lines -/
def okc (c : Int) : Prop := c = 0 ∨ 1 ≤ c ∧ c ≤ 16777216
instance (c : Int) : Decidable (okc c) := inferInstanceAs (Decidable (_ ∨ _))
def usB (e : Ent) : Bool := decide (okc e.c ∧ okc e.b ∧ okc e.o ∧ e.bo ≤ 2 ∧ e.it ≤ 2 ∧ e.un ≤ 2)
def linB (es : List Ent) : Bool := es.all usB && decide (es.length ≤ 20)
theorem us_step (l : List Int) (i : Nat) (hi : i < l.length) (hl : l.length ≤ 10) (k : Nat) (e : Ent) :
    laws_usual.l0 (k + 1) l (l.length : Int) (i : Int) e.c e.b e.o e.bo e.it e.un e.ni = if okc l[i] then laws_usual.l0 k l (l.length : Int) ((i + 1 : Nat) : Int) e.c e.b e.o e.bo e.it e.un e.ni else some false := by
  have ei : wrap64 ((i : Int) + 1) = ((i + 1 : Nat) : Int) := by unfold wrap64; omega
  have hr : rd l (i : Int) = l[i] := by
    show l.getD ((i : Int)).toNat 0 = _
    rw [Int.toNat_natCast, List.getD_eq_getElem?_getD, List.getElem?_eq_getElem hi]; rfl
  rw [laws_usual.l0, if_pos (by omega), if_pos (by omega), if_pos (by omega), hr, ei]
  generalize l[i] = c
  by_cases h0 : c = 0
  · rw [if_pos h0, if_pos (show okc c from Or.inl h0)]
  · rw [if_neg h0, laws_plain.f]
    by_cases h1 : 1 ≤ c
    · rw [if_pos h1, Option.bind_some]
      by_cases h2 : c ≤ 16777216
      · rw [if_pos (by simpa using h2), if_pos (show okc c from Or.inr ⟨h1, h2⟩)]
      · rw [if_neg (by simpa using h2), if_neg (show ¬ okc c by rintro (h | h) <;> omega)]
    · rw [if_neg h1, Option.bind_some, if_neg (by decide), if_neg (show ¬ okc c by rintro (h | h) <;> omega)]
theorem us_end (l : List Int) (k : Nat) (e : Ent) :
    laws_usual.l0 (k + 1) l (l.length : Int) (l.length : Int) e.c e.b e.o e.bo e.it e.un e.ni = some (decide (e.bo ≤ 2 ∧ e.it ≤ 2 ∧ e.un ≤ 2)) := by
  rw [laws_usual.l0, if_neg (by omega)]
  by_cases h1 : e.bo ≤ 2 <;> by_cases h2 : e.it ≤ 2 <;> simp [h1, h2]
theorem usual_f (e : Ent) (k : Nat) : laws_usual.f (k + 4) e.c e.b e.o e.bo e.it e.un e.ni = some (usB e) := by
  have h0 := us_step [e.c, e.b, e.o] 0 (by simp) (by simp) (k + 3) e
  have h1 := us_step [e.c, e.b, e.o] 1 (by simp) (by simp) (k + 2) e
  have h2 := us_step [e.c, e.b, e.o] 2 (by simp) (by simp) (k + 1) e
  have h3 := us_end [e.c, e.b, e.o] k e
  unfold laws_usual.f
  rw [Option.bind_some]
  refine h0.trans ?_
  rw [show ((0 + 1 : Nat) : Int) = ((1 : Nat) : Int) from rfl, h1, show ((1 + 1 : Nat) : Int) = ((2 : Nat) : Int) from rfl, h2, show ((2 + 1 : Nat) : Int) = (([e.c, e.b, e.o] : List Int).length : Int) from rfl, h3]
  simp only [List.getElem_cons_zero, List.getElem_cons_succ, usB]
  by_cases q0 : okc e.c <;> by_cases q1 : okc e.b <;> by_cases q2 : okc e.o <;> simp [q0, q1, q2]
theorem lines_l (es : List Ent) (hl : es.length ≤ 2147483647) : ∀ (m i K : Nat), i + m = es.length →
    laws_lines.l0 (m + 1 + (K + 4)) (es.map s23) (es.map s23) (es.length : Int) (i : Int) = some ((es.drop i).all usB && decide (es.length ≤ 20))
  | 0, i, K, h => by
    rw [show 0 + 1 + (K + 4) = K + 4 + 1 by omega, laws_lines.l0, if_neg (by omega), List.drop_eq_nil_of_le (by omega), List.length_map]
    simp only [List.all_nil, Bool.true_and]
    congr 2
    exact propext (by omega)
  | m + 1, i, K, h => by
    have hi : i < es.length := by omega
    have ei : wrap64 ((i : Int) + 1) = ((i + 1 : Nat) : Int) := by unfold wrap64; omega
    have hr : rd_T23 (es.map s23) (i : Int) = s23 es[i] := by
      unfold rd_T23
      rw [Int.toNat_natCast, List.getD_eq_getElem?_getD, List.getElem?_map, List.getElem?_eq_getElem hi]; rfl
    rw [show m + 1 + 1 + (K + 4) = (m + 1 + (K + 4)) + 1 by omega, laws_lines.l0, if_pos (by omega), if_pos (by omega), if_pos (by rw [List.length_map]; omega), hr, ei, List.drop_eq_getElem_cons hi]
    simp only [s23]
    rw [show m + 1 + (K + 4) = (m + 1 + K) + 4 by omega, usual_f, Option.bind_some, show (m + 1 + K) + 4 = m + 1 + (K + 4) by omega, lines_l es hl m (i + 1) K (by omega), List.all_cons]
    cases usB es[i] <;> simp
/-! ### spec.EntryInherit -/
def tup (e : Ent) : Int × Int × Int × Int × Int × Int × Bool := (e.c, e.b, e.o, e.bo, e.it, e.un, e.ni)
theorem j_eq (k : Nat) (l : List (S26)) (i : Int) (e0 e1 e2 e3 e4 e5 : Int) (e6 : Bool) (a0 a1 a2 a3 a4 a5 : Int) (a6 : Bool) :
    spec_EntryInherit.j1 (k + 4) l i e0 e1 e2 e3 e4 e5 e6 a0 a1 a2 a3 a4 a5 a6 = spec_EntryInherit.l0 k l (wrap64 (i - 1)) e0 (if e1 = 0 then a1 else e1) (if e2 = 0 then a2 else e2) (if e3 = 0 then a3 else e3) (if e4 = 0 then a4 else e4) (if e5 = 0 then a5 else e5) e6 := by
  have h4 : ∀ f0 f1 f2 f3, spec_EntryInherit.j4 (k + 1) l i f0 f1 f2 f3 e4 e5 e6 a0 a1 a2 a3 a4 a5 a6 = spec_EntryInherit.l0 k l (wrap64 (i - 1)) f0 f1 f2 f3 (if e4 = 0 then a4 else e4) (if e5 = 0 then a5 else e5) e6 := by
    intro f0 f1 f2 f3
    rw [spec_EntryInherit.j4]
    by_cases q4 : e4 = 0 <;> by_cases q5 : e5 = 0 <;> simp only [q4, q5, if_true, if_false]
  have h3 : ∀ f0 f1 f2, spec_EntryInherit.j3 (k + 2) l i f0 f1 f2 e3 e4 e5 e6 a0 a1 a2 a3 a4 a5 a6 = spec_EntryInherit.l0 k l (wrap64 (i - 1)) f0 f1 f2 (if e3 = 0 then a3 else e3) (if e4 = 0 then a4 else e4) (if e5 = 0 then a5 else e5) e6 := by
    intro f0 f1 f2
    rw [spec_EntryInherit.j3, h4, h4]
    by_cases q : e3 = 0 <;> simp only [q, if_true, if_false]
  have h2 : ∀ f0 f1, spec_EntryInherit.j2 (k + 3) l i f0 f1 e2 e3 e4 e5 e6 a0 a1 a2 a3 a4 a5 a6 = spec_EntryInherit.l0 k l (wrap64 (i - 1)) f0 f1 (if e2 = 0 then a2 else e2) (if e3 = 0 then a3 else e3) (if e4 = 0 then a4 else e4) (if e5 = 0 then a5 else e5) e6 := by
    intro f0 f1
    rw [spec_EntryInherit.j2, h3, h3]
    by_cases q : e2 = 0 <;> simp only [q, if_true, if_false]
  rw [spec_EntryInherit.j1, h2, h2]
  by_cases q : e1 = 0 <;> simp only [q, if_true, if_false]
theorem inh_l (es : List Ent) (hl : es.length ≤ 2147483647) : ∀ (m K : Nat) (e : Ent), m ≤ es.length → e.ni = false →
    spec_EntryInherit.l0 (5 * m + 1 + K) (es.map s26) ((m : Int) - 1) e.c e.b e.o e.bo e.it e.un e.ni = some (tup ((es.take m).reverse.foldl inh1 e))
  | 0, K, e, hm, hn => by
    rw [show 5 * 0 + 1 + K = K + 1 by omega, spec_EntryInherit.l0, if_neg (by omega)]
    rfl
  | m + 1, K, e, hm, hn => by
    have hi : m < es.length := by omega
    have ei : wrap64 ((m : Int) - 1) = (m : Int) - 1 := by unfold wrap64; omega
    have em : ((m + 1 : Nat) : Int) - 1 = (m : Int) := by omega
    have hr : rd_T26 (es.map s26) (m : Int) = s26 es[m] := by
      unfold rd_T26
      rw [Int.toNat_natCast, List.getD_eq_getElem?_getD, List.getElem?_map, List.getElem?_eq_getElem hi]; rfl
    have ih := inh_l es hl m K (inh1 e es[m]) (by omega) (by rw [inh1_ni]; exact hn)
    rw [em, show 5 * (m + 1) + 1 + K = (5 * m + 1 + K + 4) + 1 by omega, spec_EntryInherit.l0, if_pos (by omega), if_pos (by omega), if_pos (by rw [List.length_map]; omega), hr]
    rw [List.take_succ_eq_append_getElem hi, List.reverse_append, List.reverse_singleton, List.singleton_append, List.foldl_cons, ← ih]
    simp only [s26]
    rw [j_eq, j_eq, ei]
    have hi1 : inh1 e es[m] = ⟨if e.c = 0 then es[m].c else e.c, if e.b = 0 then es[m].b else e.b, if e.o = 0 then es[m].o else e.o, if e.bo = 0 then es[m].bo else e.bo, if e.it = 0 then es[m].it else e.it, if e.un = 0 then es[m].un else e.un, false⟩ := by
      unfold inh1
      rw [if_neg (by rw [hn]; decide)]
    rw [hi1, hn]
    by_cases q : e.c = 0 <;> simp only [q, if_true, if_false]
theorem inh_f (e : Ent) (es : List Ent) (hl : es.length ≤ 2147483647) (K : Nat) : spec_EntryInherit.f (5 * es.length + 1 + K) e.c e.b e.o e.bo e.it e.un e.ni (es.map s26) = some (tup (inhL e es)) := by
  unfold spec_EntryInherit.f
  by_cases hn : e.ni = true
  · rw [if_pos hn, inhL, fold_stop _ _ hn]
    simp only [tup, hn]
  · have hn' : e.ni = false := by simpa using hn
    have ew : wrap64 (((es.map s26).length : Int) - 1) = (es.length : Int) - 1 := by rw [List.length_map]; unfold wrap64; omega
    have := inh_l es hl es.length K e (Nat.le_refl _) hn'
    rw [List.take_length] at this
    rw [if_neg hn, ew]
    exact this
theorem FnEntryInherit : laws_FnEntryInherit.Pure := by
  intro c b o bo it un ni l _ hl
  by_cases h : (l.length : Int) > 2147483647
  · exact ⟨0, by unfold laws_FnEntryInherit.f; rw [if_pos h]⟩
  have hl2 : l.length ≤ 2147483647 := by omega
  have hes : l = (l.map impl_EntryInherit.toE).map s23 := by
    rw [List.map_map]
    exact (List.map_id l).symm
  generalize l.map impl_EntryInherit.toE = es at hes
  subst hes
  rw [List.length_map] at hl2
  refine ⟨6 * es.length + 20, ?_⟩
  have hj : ∀ k, laws_FnEntryInherit.j0 (k + 1) (es.map s23) true c b o bo it un ni = some true := fun k => by rw [laws_FnEntryInherit.j0, if_pos rfl]
  unfold laws_FnEntryInherit.f
  rw [if_neg h, show 6 * es.length + 20 = (6 * es.length + 16) + 4 by omega, usual_f ⟨c, b, o, bo, it, un, ni⟩, Option.bind_some]
  cases usB ⟨c, b, o, bo, it, un, ni⟩ with
  | false => rw [if_neg (by decide)]; exact hj (6 * es.length + 16 + 3)
  | true =>
    have h2 : laws_lines.f (6 * es.length + 16 + 4) (es.map s23) = some (linB es) := by
      unfold laws_lines.f
      have := lines_l es hl2 es.length 0 (5 * es.length + 15) (by omega)
      rw [List.drop_zero] at this
      rw [List.length_map, show 6 * es.length + 16 + 4 = es.length + 1 + ((5 * es.length + 15) + 4) by omega]
      exact this
    rw [if_pos rfl, h2, Option.bind_some]
    cases hli : linB es with
    | false => exact hj (6 * es.length + 16 + 3)
    | true =>
      have h20 : es.length ≤ 20 := by
        unfold linB at hli
        rw [Bool.and_eq_true] at hli
        exact of_decide_eq_true hli.2
      have h3 : impl_EntryInherit.f c b o bo it un ni (es.map s23) = some (tup (inhL ⟨c, b, o, bo, it, un, ni⟩ es)) := by
        unfold impl_EntryInherit.f
        rw [if_pos (by rw [List.length_map]; omega), List.map_map]
        have : List.map (impl_EntryInherit.toE ∘ s23) es = es := List.map_id es
        rw [this]
        rfl
      have h4 : laws_entries.f (es.map s23) = some (es.map s26) := by
        unfold laws_entries.f
        rw [if_pos (by rw [List.length_map]; omega), List.map_map]
        rfl
      have h5 := inh_f ⟨c, b, o, bo, it, un, ni⟩ es hl2 (es.length + 18)
      rw [show 6 * es.length + 16 + 4 = (5 * es.length + 1 + (es.length + 18)) + 1 by omega, laws_FnEntryInherit.j0, if_neg (by decide), h3, Option.bind_some, h4, Option.bind_some, h5, Option.bind_some, if_pos (by simp)]
      rfl
end Go.Proofs.YtifhhejohdmiaaaDoor.Pure
