/- The law FnEntrySub: the printed statement. -/
import Derived.Test.YtifhhejohdmiaaaDoorUx3
import Derived.Test.YtifhhejohdmiaaaDoorLen
set_option linter.unusedVariables false
set_option linter.unusedSimpArgs false
namespace Go.Proofs.YtifhhejohdmiaaaDoor.Pure
open Go.RowKit Go.Proofs.YtifhhejohdmiaaaDoorW.PrintWords Go.Proofs.YtifhhejohdmiaaaDoorFmt Go.Proofs.YtifhhejohdmiaaaDoorEnt Go.Proofs.YtifhhejohdmiaaaDoor.U
/-! ### usual and lines -/
def okc (c : Int) : Prop := c = 0 ∨ 1 ≤ c ∧ c ≤ 16777216
instance (c : Int) : Decidable (okc c) := inferInstanceAs (Decidable (_ ∨ _))
def usB (e : Ent) : Bool := decide (okc e.c ∧ okc e.b ∧ okc e.o ∧ e.bo ≤ 2 ∧ e.it ≤ 2 ∧ e.un ≤ 2)
theorem us_step (l : List Int) (i : Nat) (hi : i < l.length) (hl : l.length ≤ 10) (k : Nat) (e : Ent) :
    laws_usual.l0 (k + 1) l (l.length : Int) (i : Int) e.c e.b e.o e.bo e.it e.un e.ni = if okc l[i] then laws_usual.l0 k l (l.length : Int) ((i + 1 : Nat) : Int) e.c e.b e.o e.bo e.it e.un e.ni else some false := by
  have ei : wrap64 ((i : Int) + 1) = ((i + 1 : Nat) : Int) := by unfold wrap64; omega
  have hr : rd l (i : Int) = l[i] := by
    show l.getD ((i : Int)).toNat 0 = _
    rw [Int.toNat_natCast, List.getD_eq_getElem?_getD, List.getElem?_eq_getElem hi]; rfl
  rw [laws_usual.l0, if_pos (by omega), if_pos (by omega), if_pos (by omega), hr, ei]
  generalize l[i] = c
  by_cases h0 : c = 0
  · rw [if_pos h0, if_pos (show okc c from Or.inl h0)]
  · rw [if_neg h0, laws_plain.f]
    by_cases h1 : 1 ≤ c
    · rw [if_pos h1, Option.bind_some]
      by_cases h2 : c ≤ 16777216
      · rw [if_pos (by simpa using h2), if_pos (show okc c from Or.inr ⟨h1, h2⟩)]
      · rw [if_neg (by simpa using h2), if_neg (show ¬ okc c by rintro (h | h) <;> omega)]
    · rw [if_neg h1, Option.bind_some, if_neg (by decide), if_neg (show ¬ okc c by rintro (h | h) <;> omega)]
theorem us_end (l : List Int) (k : Nat) (e : Ent) :
    laws_usual.l0 (k + 1) l (l.length : Int) (l.length : Int) e.c e.b e.o e.bo e.it e.un e.ni = some (decide (e.bo ≤ 2 ∧ e.it ≤ 2 ∧ e.un ≤ 2)) := by
  rw [laws_usual.l0, if_neg (by omega)]
  by_cases h1 : e.bo ≤ 2 <;> by_cases h2 : e.it ≤ 2 <;> simp [h1, h2]
theorem usual_f (e : Ent) (k : Nat) : laws_usual.f (k + 4) e.c e.b e.o e.bo e.it e.un e.ni = some (usB e) := by
  have h0 := us_step [e.c, e.b, e.o] 0 (by simp) (by simp) (k + 3) e
  have h1 := us_step [e.c, e.b, e.o] 1 (by simp) (by simp) (k + 2) e
  have h2 := us_step [e.c, e.b, e.o] 2 (by simp) (by simp) (k + 1) e
  have h3 := us_end [e.c, e.b, e.o] k e
  unfold laws_usual.f
  rw [Option.bind_some]
  refine h0.trans ?_
  rw [show ((0 + 1 : Nat) : Int) = ((1 : Nat) : Int) from rfl, h1, show ((1 + 1 : Nat) : Int) = ((2 : Nat) : Int) from rfl, h2, show ((2 + 1 : Nat) : Int) = (([e.c, e.b, e.o] : List Int).length : Int) from rfl, h3]
  simp only [List.getElem_cons_zero, List.getElem_cons_succ, usB]
  by_cases q0 : okc e.c <;> by_cases q1 : okc e.b <;> by_cases q2 : okc e.o <;> simp [q0, q1, q2]

def tup (e : Ent) : Int × Int × Int × Int × Int × Int × Bool := (e.c, e.b, e.o, e.bo, e.it, e.un, e.ni)
def subE (a b : Ent) : Ent := ⟨if b.c = a.c then 0 else a.c, if b.b = a.b then 0 else a.b, if b.o = a.o then 0 else a.o, if b.bo = a.bo then 0 else a.bo, if b.it = a.it then 0 else a.it, if b.un = a.un then 0 else a.un, false⟩
theorem ite_sym (x y z : Int) : (if x = y then (0 : Int) else z) = if y = x then 0 else z := by
  by_cases h : x = y
  · rw [if_pos h, if_pos h.symm]
  · rw [if_neg h, if_neg (fun e => h e.symm)]
theorem csub_f (a b : Ent) : chroma_StyleEntry_Sub.f a.c a.b a.o a.bo a.it a.un a.ni b.c b.b b.o b.bo b.it b.un b.ni = some (tup (subE a b)) := rfl
theorem ssub_f (a b : Ent) : spec_EntrySub.f a.c a.b a.o a.bo a.it a.un a.ni b.c b.b b.o b.bo b.it b.un b.ni = some (tup (subE a b)) := by
  unfold spec_EntrySub.f
  rw [ite_sym a.c b.c, ite_sym a.b b.b, ite_sym a.o b.o, ite_sym a.bo b.bo, ite_sym a.it b.it, ite_sym a.un b.un]
  rfl
theorem isub_f (a b : Ent) : impl_EntrySub.f a.c a.b a.o a.bo a.it a.un a.ni b.c b.b b.o b.bo b.it b.un b.ni = some (tup (subE a b)) := by
  unfold impl_EntrySub.f
  simp only [impl_entered.f, Option.bind_some]
  rw [csub_f]
  rfl
theorem iinh_f (a b : Ent) : impl_EntryInherit.f a.c a.b a.o a.bo a.it a.un a.ni [(⟨b.c, b.b, b.o, b.bo, b.it, b.un, b.ni⟩ : S23)] = some (tup (inh1 a b)) := by
  unfold impl_EntryInherit.f
  rw [if_pos (by simp)]
  rfl
theorem fld (x y : Int) : (if (if y = (if x = 0 then y else x) then (0 : Int) else (if x = 0 then y else x)) = 0 then y else (if y = (if x = 0 then y else x) then (0 : Int) else (if x = 0 then y else x))) = (if x = 0 then y else x) := by
  by_cases h : x = 0
  · simp [h]
  · by_cases h2 : y = x
    · simp [h, h2]
    · simp [h, h2]
theorem full_eq (a b : Ent) (ha : a.ni = false) : inh1 (subE (inh1 a b) b) b = inh1 a b := by
  have h : inh1 a b = ⟨if a.c = 0 then b.c else a.c, if a.b = 0 then b.b else a.b, if a.o = 0 then b.o else a.o, if a.bo = 0 then b.bo else a.bo, if a.it = 0 then b.it else a.it, if a.un = 0 then b.un else a.un, false⟩ := by
    unfold inh1
    rw [if_neg (by rw [ha]; decide)]
  rw [h]
  unfold subE inh1
  rw [if_neg Bool.false_ne_true]
  simp only [fld]
theorem sub_self (a : Ent) : subE a a = ⟨0, 0, 0, 0, 0, 0, false⟩ := by
  unfold subE
  simp
theorem FnEntrySub : laws_FnEntrySub.Pure := by
  intro a0 a1 a2 a3 a4 a5 a6 b0 b1 b2 b3 b4 b5 b6 _ _
  refine ⟨5, ?_⟩
  have hj : laws_FnEntrySub.j0 5 true a0 a1 a2 a3 a4 a5 a6 b0 b1 b2 b3 b4 b5 b6 = some true := by rw [laws_FnEntrySub.j0, if_pos rfl]
  unfold laws_FnEntrySub.f
  rw [usual_f ⟨a0, a1, a2, a3, a4, a5, a6⟩ 1, Option.bind_some]
  cases usB ⟨a0, a1, a2, a3, a4, a5, a6⟩ with
  | false => rw [if_neg (by decide)]; exact hj
  | true =>
    rw [if_pos rfl, usual_f ⟨b0, b1, b2, b3, b4, b5, b6⟩ 1, Option.bind_some]
    cases usB ⟨b0, b1, b2, b3, b4, b5, b6⟩ with
    | false => exact hj
    | true =>
      have s1 := isub_f ⟨a0, a1, a2, a3, a4, a5, a6⟩ ⟨b0, b1, b2, b3, b4, b5, b6⟩
      have s2 := iinh_f ⟨a0, a1, a2, a3, a4, a5, false⟩ ⟨b0, b1, b2, b3, b4, b5, b6⟩
      have s3 := ssub_f ⟨a0, a1, a2, a3, a4, a5, false⟩ ⟨b0, b1, b2, b3, b4, b5, b6⟩
      have s4 := isub_f (inh1 ⟨a0, a1, a2, a3, a4, a5, false⟩ ⟨b0, b1, b2, b3, b4, b5, b6⟩) ⟨b0, b1, b2, b3, b4, b5, b6⟩
      have s5 := iinh_f (subE (inh1 ⟨a0, a1, a2, a3, a4, a5, false⟩ ⟨b0, b1, b2, b3, b4, b5, b6⟩) ⟨b0, b1, b2, b3, b4, b5, b6⟩) ⟨b0, b1, b2, b3, b4, b5, b6⟩
      have s6 := isub_f ⟨a0, a1, a2, a3, a4, a5, false⟩ ⟨a0, a1, a2, a3, a4, a5, false⟩
      have hs : subE ⟨a0, a1, a2, a3, a4, a5, a6⟩ ⟨b0, b1, b2, b3, b4, b5, b6⟩ = subE ⟨a0, a1, a2, a3, a4, a5, false⟩ ⟨b0, b1, b2, b3, b4, b5, b6⟩ := rfl
      rw [full_eq _ _ rfl] at s5
      rw [sub_self] at s6
      rw [hs] at s1
      generalize subE ⟨a0, a1, a2, a3, a4, a5, false⟩ ⟨b0, b1, b2, b3, b4, b5, b6⟩ = x at s1 s3
      generalize inh1 ⟨a0, a1, a2, a3, a4, a5, false⟩ ⟨b0, b1, b2, b3, b4, b5, b6⟩ = y at s2 s4 s5
      generalize subE y ⟨b0, b1, b2, b3, b4, b5, b6⟩ = z at s4 s5
      simp only [tup, Nat.zero_add] at s1 s2 s3 s4 s5 s6
      show laws_FnEntrySub.j0 (4 + 1) (!true) a0 a1 a2 a3 a4 a5 a6 b0 b1 b2 b3 b4 b5 b6 = some true
      rw [laws_FnEntrySub.j0, if_neg (by decide), s1, Option.bind_some, s2, Option.bind_some, s3, Option.bind_some, if_pos (by simp), s4, Option.bind_some, s5, Option.bind_some, if_pos (by simp), s6, Option.bind_some]
      rfl
end Go.Proofs.YtifhhejohdmiaaaDoor.Pure
