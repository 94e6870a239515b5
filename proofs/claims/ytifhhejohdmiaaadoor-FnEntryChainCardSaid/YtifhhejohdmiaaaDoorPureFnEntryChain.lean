/- The law FnEntryChain: the printed statement. -/
import Derived.Test.YtifhhejohdmiaaaDoorKx3
import Derived.Test.YtifhhejohdmiaaaDoorLen
set_option linter.unusedVariables false
set_option linter.unusedSimpArgs false
namespace Go.Proofs.YtifhhejohdmiaaaDoor.Pure
open Go.RowKit Go.Proofs.YtifhhejohdmiaaaDoorW.PrintWords Go.Proofs.YtifhhejohdmiaaaDoorFmt Go.Proofs.YtifhhejohdmiaaaDoorEnt Go.Proofs.YtifhhejohdmiaaaDoor.K
def s23 (e : Ent) : S23 := ⟨e.c, e.b, e.o, e.bo, e.it, e.un, e.ni⟩
/-! ### usual and lines -/
def okc (c : Int) : Prop := c = 0 ∨ 1 ≤ c ∧ c ≤ 16777216
instance (c : Int) : Decidable (okc c) := inferInstanceAs (Decidable (_ ∨ _))
def usB (e : Ent) : Bool := decide (okc e.c ∧ okc e.b ∧ okc e.o ∧ e.bo ≤ 2 ∧ e.it ≤ 2 ∧ e.un ≤ 2)
def linB (es : List Ent) : Bool := es.all usB && decide (es.length ≤ 20)
theorem us_step (l : List Int) (i : Nat) (hi : i < l.length) (hl : l.length ≤ 10) (k : Nat) (e : Ent) :
    laws_usual.l0 (k + 1) l (l.length : Int) (i : Int) e.c e.b e.o e.bo e.it e.un e.ni = if okc l[i] then laws_usual.l0 k l (l.length : Int) ((i + 1 : Nat) : Int) e.c e.b e.o e.bo e.it e.un e.ni else some false := by
  have ei : wrap64 ((i : Int) + 1) = ((i + 1 : Nat) : Int) := by unfold wrap64; omega
  have hr : rd l (i : Int) = l[i] := by
    show l.getD ((i : Int)).toNat 0 = _
    rw [Int.toNat_natCast, List.getD_eq_getElem?_getD, List.getElem?_eq_getElem hi]; rfl
  rw [laws_usual.l0, if_pos (by omega), if_pos (by omega), if_pos (by omega), hr, ei]
  generalize l[i] = c
  by_cases h0 : c = 0
  · rw [if_pos h0, if_pos (show okc c from Or.inl h0)]
  · rw [if_neg h0, laws_plain.f]
    by_cases h1 : 1 ≤ c
    · rw [if_pos h1, Option.bind_some]
      by_cases h2 : c ≤ 16777216
      · rw [if_pos (by simpa using h2), if_pos (show okc c from Or.inr ⟨h1, h2⟩)]
      · rw [if_neg (by simpa using h2), if_neg (show ¬ okc c by rintro (h | h) <;> omega)]
    · rw [if_neg h1, Option.bind_some, if_neg (by decide), if_neg (show ¬ okc c by rintro (h | h) <;> omega)]
theorem us_end (l : List Int) (k : Nat) (e : Ent) :
    laws_usual.l0 (k + 1) l (l.length : Int) (l.length : Int) e.c e.b e.o e.bo e.it e.un e.ni = some (decide (e.bo ≤ 2 ∧ e.it ≤ 2 ∧ e.un ≤ 2)) := by
  rw [laws_usual.l0, if_neg (by omega)]
  by_cases h1 : e.bo ≤ 2 <;> by_cases h2 : e.it ≤ 2 <;> simp [h1, h2]
theorem usual_f (e : Ent) (k : Nat) : laws_usual.f (k + 4) e.c e.b e.o e.bo e.it e.un e.ni = some (usB e) := by
  have h0 := us_step [e.c, e.b, e.o] 0 (by simp) (by simp) (k + 3) e
  have h1 := us_step [e.c, e.b, e.o] 1 (by simp) (by simp) (k + 2) e
  have h2 := us_step [e.c, e.b, e.o] 2 (by simp) (by simp) (k + 1) e
  have h3 := us_end [e.c, e.b, e.o] k e
  unfold laws_usual.f
  rw [Option.bind_some]
  refine h0.trans ?_
  rw [show ((0 + 1 : Nat) : Int) = ((1 : Nat) : Int) from rfl, h1, show ((1 + 1 : Nat) : Int) = ((2 : Nat) : Int) from rfl, h2, show ((2 + 1 : Nat) : Int) = (([e.c, e.b, e.o] : List Int).length : Int) from rfl, h3]
  simp only [List.getElem_cons_zero, List.getElem_cons_succ, usB]
  by_cases q0 : okc e.c <;> by_cases q1 : okc e.b <;> by_cases q2 : okc e.o <;> simp [q0, q1, q2]
theorem lines_l (es : List Ent) (hl : es.length ≤ 2147483647) : ∀ (m i K : Nat), i + m = es.length →
    laws_lines.l0 (m + 1 + (K + 4)) (es.map s23) (es.map s23) (es.length : Int) (i : Int) = some ((es.drop i).all usB && decide (es.length ≤ 20))
  | 0, i, K, h => by
    rw [show 0 + 1 + (K + 4) = K + 4 + 1 by omega, laws_lines.l0, if_neg (by omega), List.drop_eq_nil_of_le (by omega), List.length_map]
    simp only [List.all_nil, Bool.true_and]
    congr 2
    exact propext (by omega)
  | m + 1, i, K, h => by
    have hi : i < es.length := by omega
    have ei : wrap64 ((i : Int) + 1) = ((i + 1 : Nat) : Int) := by unfold wrap64; omega
    have hr : rd_T23 (es.map s23) (i : Int) = s23 es[i] := by
      unfold rd_T23
      rw [Int.toNat_natCast, List.getD_eq_getElem?_getD, List.getElem?_map, List.getElem?_eq_getElem hi]; rfl
    rw [show m + 1 + 1 + (K + 4) = (m + 1 + (K + 4)) + 1 by omega, laws_lines.l0, if_pos (by omega), if_pos (by omega), if_pos (by rw [List.length_map]; omega), hr, ei, List.drop_eq_getElem_cons hi]
    simp only [s23]
    rw [show m + 1 + (K + 4) = (m + 1 + K) + 4 by omega, usual_f, Option.bind_some, show (m + 1 + K) + 4 = m + 1 + (K + 4) by omega, lines_l es hl m (i + 1) K (by omega), List.all_cons]
    cases usB es[i] <;> simp
theorem inhL_snoc (e x : Ent) (es : List Ent) : inhL e (es ++ [x]) = inhL (inhL e [x]) es := by
  unfold inhL
  rw [List.reverse_append]
  rfl
theorem inherit_f (e : Ent) (l : List (S23)) (hl : l.length ≤ 1000000) : impl_EntryInherit.f e.c e.b e.o e.bo e.it e.un e.ni l = some (impl_EntryInherit.out (inhL e (l.map impl_EntryInherit.toE))) := by
  unfold impl_EntryInherit.f
  rw [if_pos hl]
theorem FnEntryChain : laws_FnEntryChain.Pure := by
  intro c b o bo it un ni l c2 b2 o2 bo2 it2 un2 ni2 _ hl _
  by_cases h : (l.length : Int) > 2147483647
  · exact ⟨0, by unfold laws_FnEntryChain.f; rw [if_pos h]⟩
  have hl2 : l.length ≤ 2147483647 := by omega
  have hes : l = (l.map impl_EntryInherit.toE).map s23 := by
    rw [List.map_map]
    exact (List.map_id l).symm
  generalize l.map impl_EntryInherit.toE = es at hes
  subst hes
  rw [List.length_map] at hl2
  refine ⟨6 * es.length + 20, ?_⟩
  have hj : ∀ k, laws_FnEntryChain.j0 (k + 1) (es.map s23) true c b o bo it un ni c2 b2 o2 bo2 it2 un2 ni2 = some true := fun k => by rw [laws_FnEntryChain.j0, if_pos rfl]
  unfold laws_FnEntryChain.f
  rw [if_neg h, show 6 * es.length + 20 = (6 * es.length + 16) + 4 by omega, usual_f ⟨c, b, o, bo, it, un, ni⟩, Option.bind_some]
  cases usB ⟨c, b, o, bo, it, un, ni⟩ with
  | false => rw [if_neg (by decide)]; exact hj (6 * es.length + 16 + 3)
  | true =>
    rw [if_pos rfl, usual_f ⟨c2, b2, o2, bo2, it2, un2, ni2⟩, Option.bind_some]
    cases usB ⟨c2, b2, o2, bo2, it2, un2, ni2⟩ with
    | false => rw [if_neg (by decide)]; exact hj (6 * es.length + 16 + 3)
    | true =>
      have h2 : laws_lines.f (6 * es.length + 16 + 4) (es.map s23) = some (linB es) := by
        unfold laws_lines.f
        have := lines_l es hl2 es.length 0 (5 * es.length + 15) (by omega)
        rw [List.drop_zero] at this
        rw [List.length_map, show 6 * es.length + 16 + 4 = es.length + 1 + ((5 * es.length + 15) + 4) by omega]
        exact this
      rw [if_pos rfl, h2, Option.bind_some]
      cases hli : linB es with
      | false => exact hj (6 * es.length + 16 + 3)
      | true =>
        have h20 : es.length ≤ 20 := by
          unfold linB at hli
          rw [Bool.and_eq_true] at hli
          exact of_decide_eq_true hli.2
        have hm : List.map impl_EntryInherit.toE (es.map s23) = es := by
          rw [List.map_map]
          exact List.map_id es
        have h3 := inherit_f ⟨c, b, o, bo, it, un, ni⟩ (es.map s23 ++ [(⟨c2, b2, o2, bo2, it2, un2, ni2⟩ : S23)]) (by simp; omega)
        have h4 := inherit_f ⟨c, b, o, bo, it, un, ni⟩ [(⟨c2, b2, o2, bo2, it2, un2, ni2⟩ : S23)] (by simp)
        rw [List.map_append, hm] at h3
        have he : List.map impl_EntryInherit.toE [(⟨c2, b2, o2, bo2, it2, un2, ni2⟩ : S23)] = [⟨c2, b2, o2, bo2, it2, un2, ni2⟩] := rfl
        rw [he] at h3 h4
        rw [inhL_snoc] at h3
        generalize inhL ⟨c, b, o, bo, it, un, ni⟩ [⟨c2, b2, o2, bo2, it2, un2, ni2⟩] = y at h3 h4
        have h5 := inherit_f y (es.map s23) (by simp; omega)
        rw [hm] at h5
        rw [show 6 * es.length + 16 + 4 = (6 * es.length + 19) + 1 by omega, laws_FnEntryChain.j0, if_neg (by decide), if_pos (by simp; omega), Option.bind_some, Option.bind_some, if_pos (by simp; omega), List.nil_append]
        simp only [impl_EntryInherit.out] at h3 h4 h5

        rw [h3, Option.bind_some, h4, Option.bind_some, h5, Option.bind_some, if_pos (by simp)]
        rfl
end Go.Proofs.YtifhhejohdmiaaaDoor.Pure
