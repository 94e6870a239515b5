/- Runs of tokens, as Coalesce gives them one by one: plain. -/
import Derived.Test.YtmldahejeobohaaDoorNext
set_option linter.unusedVariables false
set_option linter.unusedSimpArgs false
namespace Go.Proofs.YtmldahejeobohaaDoorTake
open Go.RowKit Go.Proofs.YtmldahejeobohaaDoorW.PrintWords Go.Proofs.YtmldahejeobohaaDoor.A Go.Proofs.YtmldahejeobohaaDoorFmt
/-- No token has been kept. -/
def isE (p : C) : Bool := p.f0 == 0 && p.f1.size == 0
/-- What a call gives: a token, the one that is kept then, and what is left. -/
def coalN : C → List C → C × C × List C
  | p, [] => (p, eof, [])
  | p, t :: r => if t.f1.size = 0 then coalN p r else if isE p = true then coalN t r else if p.f0 = t.f0 then coalN ⟨p.f0, p.f1 ++ t.f1⟩ r else (p, t, r)
/-- All that the calls give. -/
def runsL : C → List C → List C
  | p, [] => if isE p = true then [] else [p]
  | p, t :: r => if t.f1.size = 0 then runsL p r else if isE p = true then runsL t r else if p.f0 = t.f0 then runsL ⟨p.f0, p.f1 ++ t.f1⟩ r else p :: runsL t r
theorem bytes0 {s : ByteArray} (h : s.size = 0) : s = ⟨#[]⟩ := by
  obtain ⟨⟨l⟩⟩ := s
  have : l.length = 0 := h
  rw [List.eq_nil_of_length_eq_zero this]
theorem isE_eof {p : C} (h : isE p = true) : p = eof := by
  obtain ⟨a, b⟩ := p
  unfold isE at h
  rw [Bool.and_eq_true, beq_iff_eq, beq_iff_eq] at h
  obtain ⟨h1, h2⟩ := h
  have h1 : a = 0 := h1
  have h2 : b.size = 0 := h2
  rw [h1, bytes0 h2]
  rfl
theorem coalN_hd : ∀ (l : List C) (p : C), (coalN p l).1 = hd (runsL p l)
  | [], p => by
    unfold coalN runsL
    by_cases h : isE p = true
    · rw [if_pos h]; exact isE_eof h
    · rw [if_neg h]; rfl
  | t :: r, p => by
    unfold coalN runsL
    by_cases h1 : t.f1.size = 0
    · rw [if_pos h1, if_pos h1]; exact coalN_hd r p
    · rw [if_neg h1, if_neg h1]
      by_cases h2 : isE p = true
      · rw [if_pos h2, if_pos h2]; exact coalN_hd r t
      · rw [if_neg h2, if_neg h2]
        by_cases h3 : p.f0 = t.f0
        · rw [if_pos h3, if_pos h3]; exact coalN_hd r _
        · rw [if_neg h3, if_neg h3]; rfl
theorem coalN_tail : ∀ (l : List C) (p : C), runsL (coalN p l).2.1 (coalN p l).2.2 = (runsL p l).tail
  | [], p => by
    have e : runsL eof [] = [] := by unfold runsL; rw [if_pos (by rfl)]
    unfold coalN
    show runsL eof [] = _
    rw [e]
    unfold runsL
    split <;> rfl
  | t :: r, p => by
    unfold coalN
    conv => rhs; unfold runsL
    by_cases h1 : t.f1.size = 0
    · rw [if_pos h1, if_pos h1]; exact coalN_tail r p
    · rw [if_neg h1, if_neg h1]
      by_cases h2 : isE p = true
      · rw [if_pos h2, if_pos h2]; exact coalN_tail r t
      · rw [if_neg h2, if_neg h2]
        by_cases h3 : p.f0 = t.f0
        · rw [if_pos h3, if_pos h3]; exact coalN_tail r _
        · rw [if_neg h3, if_neg h3]; rfl
/-- How many bytes tokens have. -/
def szL (l : List C) : Nat := (l.map fun x => x.f1.size).sum
theorem szL_cons (x : C) (l : List C) : szL (x :: l) = x.f1.size + szL l := rfl
theorem size_cat (a b : ByteArray) : (a ++ b).size = a.size + b.size := ByteArray.size_append
theorem coalN_sz : ∀ (l : List C) (p : C), (coalN p l).2.1.f1.size + szL (coalN p l).2.2 ≤ p.f1.size + szL l ∧ (coalN p l).2.2.length ≤ l.length ∧ ((∀ x ∈ l, x.f0 ≠ 0) → (∀ x ∈ (coalN p l).2.2, x.f0 ≠ 0) ∧ ((isE (coalN p l).2.1 = true) ∨ (coalN p l).2.1.f0 ≠ 0))
  | [], p => by
    unfold coalN
    exact ⟨Nat.zero_le _, Nat.le_refl _, fun _ => ⟨fun x hx => (by cases hx), .inl rfl⟩⟩
  | t :: r, p => by
    have k := szL_cons t r
    have hmem : (∀ x ∈ t :: r, x.f0 ≠ 0) → ∀ x ∈ r, x.f0 ≠ 0 := fun h x hx => h x (List.mem_cons_of_mem _ hx)
    unfold coalN
    by_cases h1 : t.f1.size = 0
    · rw [if_pos h1]
      obtain ⟨a, b, c⟩ := coalN_sz r p
      exact ⟨by omega, by simp; omega, fun h => c (hmem h)⟩
    · rw [if_neg h1]
      by_cases h2 : isE p = true
      · rw [if_pos h2]
        obtain ⟨a, b, c⟩ := coalN_sz r t
        exact ⟨by omega, by simp; omega, fun h => c (hmem h)⟩
      · rw [if_neg h2]
        by_cases h3 : p.f0 = t.f0
        · rw [if_pos h3]
          obtain ⟨a, b, c⟩ := coalN_sz r ⟨p.f0, p.f1 ++ t.f1⟩
          have e : (⟨p.f0, p.f1 ++ t.f1⟩ : C).f1.size = p.f1.size + t.f1.size := size_cat _ _
          exact ⟨by omega, by simp; omega, fun h => c (hmem h)⟩
        · rw [if_neg h3]
          exact ⟨by show t.f1.size + szL r ≤ _; omega, by simp, fun h => ⟨hmem h, .inr (h t List.mem_cons_self)⟩⟩
theorem runsL_good : ∀ (l : List C) (p : C), (∀ x ∈ l, x.f0 ≠ 0) → (isE p = true ∨ p.f0 ≠ 0) → ∀ x ∈ runsL p l, x.f0 ≠ 0
  | [], p, _, hp, x, hx => by
    unfold runsL at hx
    split at hx
    · cases hx
    · rename_i h
      rw [List.mem_singleton.1 hx]
      rcases hp with hp | hp
      · exact absurd hp h
      · exact hp
  | t :: r, p, hl, hp, x, hx => by
    have hr : ∀ x ∈ r, x.f0 ≠ 0 := fun x hx => hl x (List.mem_cons_of_mem _ hx)
    have ht : t.f0 ≠ 0 := hl t List.mem_cons_self
    unfold runsL at hx
    split at hx
    · exact runsL_good r p hr hp x hx
    · split at hx
      · exact runsL_good r t hr (.inr ht) x hx
      · rename_i h2
        have hp0 : p.f0 ≠ 0 := by
          rcases hp with hp | hp
          · exact absurd hp h2
          · exact hp
        split at hx
        · exact runsL_good r ⟨p.f0, p.f1 ++ t.f1⟩ hr (.inr hp0) x hx
        · rcases List.mem_cons.1 hx with e | hx
          · rw [e]; exact hp0
          · exact runsL_good r t hr (.inr ht) x hx
theorem runsL_len : ∀ (l : List C) (p : C), (runsL p l).length ≤ l.length + 1
  | [], p => by unfold runsL; split <;> simp
  | t :: r, p => by
    have h1 := runsL_len r p
    have h2 := runsL_len r t
    have h3 := runsL_len r ⟨p.f0, p.f1 ++ t.f1⟩
    unfold runsL
    split
    · simp; omega
    · split
      · simp; omega
      · split
        · simp; omega
        · simp; omega
end Go.Proofs.YtmldahejeobohaaDoorTake
