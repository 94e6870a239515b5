/- Iterators one behind the other give all their tokens, in order: the pure statement. -/
import Derived.Test.YtkdkkbadmjpkfaaDoorLines
set_option linter.unusedVariables false
set_option linter.unusedSimpArgs false
namespace Go.Proofs.YtkdkkbadmjpkfaaDoor.Pure
open Go.RowKit Go.Proofs.YtkdkkbadmjpkfaaDoorEvt Go.Proofs.YtkdkkbadmjpkfaaDoor.M Go.Proofs.YtkdkkbadmjpkfaaDoorW.PrintWords Go.Proofs.YtkdkkbadmjpkfaaDoorTok Go.Proofs.YtkdkkbadmjpkfaaDoorSplit Go.Proofs.YtkdkkbadmjpkfaaDoorLines
theorem fits22_loop (L : List (List T)) (hn : L.length ≤ 2147483647) : ∀ d i : Nat, L.length = i + d →
    ∃ b, Evt (fun k => laws_zzFits22.l0 k L (L.length : Int) (i : Int)) b ∧ (b = true → ∀ x ∈ L.drop i, x.length ≤ 2147483647 ∧ ∀ y ∈ x, y.f1.size ≤ 2147483647) := by
  intro d
  induction d with
  | zero =>
    intro i hi
    refine ⟨true, Evt.step (h := fun _ => some _) (fun k => by simp only [laws_zzFits22.l0]; rw [if_neg (by omega)]) (Evt.pure _), fun _ x hx => ?_⟩
    rw [List.drop_eq_nil_of_le (by omega)] at hx
    cases hx
  | succ d ih =>
    intro i hi
    have hlt : i < L.length := by omega
    obtain ⟨b1, h1, h1'⟩ := fits L[i]
    obtain ⟨b2, h2, h2'⟩ := ih (i + 1) (by omega)
    have hrd : rd_L5 L (i : Int) = L[i] := by
      show L.getD (i : Int).toNat [] = _
      exact rdLT L i hlt
    have hst : ∀ k, laws_zzFits22.l0 (k + 1) L (L.length : Int) (i : Int) = (laws_zzFits4.f k L[i]).bind fun t => if t = true then laws_zzFits22.l0 k L (L.length : Int) ((i + 1 : Nat) : Int) else some false := fun k => by
      simp only [laws_zzFits22.l0]
      rw [if_pos (by omega), if_pos (by omega), if_pos (by omega), hrd, wrap_nat (by omega)]
    cases b1 with
    | false => exact ⟨false, Evt.step hst (Evt.bind h1 (Evt.neg (by simp) (Evt.pure _))), fun h => by cases h⟩
    | true =>
      refine ⟨b2, Evt.step hst (Evt.bind h1 (Evt.pos rfl h2)), fun hb x hx => ?_⟩
      rw [List.drop_eq_getElem_cons hlt] at hx
      rcases List.mem_cons.1 hx with rfl | hx
      · exact h1' rfl
      · exact h2' hb x hx
theorem flat2_loop (L : List (List T)) (hn : L.length ≤ 2147483647) (hf : L.flatten.length ≤ 5864062014804) : ∀ (d i : Nat) (acc : List T), L.length = i + d → acc.length + (L.drop i).flatten.length ≤ 5864062014804 →
    Evt (fun k => laws_flat.l0 k acc L (L.length : Int) (i : Int)) (acc ++ (L.drop i).flatten) := by
  intro d
  induction d with
  | zero =>
    intro i acc hi hacc
    refine Evt.step (h := fun _ => some _) (fun k => ?_) (Evt.pure _)
    simp only [laws_flat.l0]; rw [if_neg (by omega), List.drop_eq_nil_of_le (by omega)]; simp
  | succ d ih =>
    intro i acc hi hacc
    have hlt : i < L.length := by omega
    have hrd : rd_L5 L (i : Int) = L[i] := by
      show L.getD (i : Int).toNat [] = _
      exact rdLT L i hlt
    rw [List.drop_eq_getElem_cons hlt, List.flatten_cons] at hacc ⊢
    rw [List.length_append] at hacc
    have h1 := ih (i + 1) (acc ++ L[i]) (by omega) (by rw [List.length_append]; omega)
    rw [← List.append_assoc]
    refine Evt.step (fun k => ?_) h1
    simp only [laws_flat.l0]; rw [if_pos (by omega), if_pos (by omega), if_pos (by omega), hrd, if_pos (by omega), wrap_nat (by omega)]
theorem flat_len {L : List (List T)} {n m : Nat} (hL : L.length ≤ n) (h : ∀ x ∈ L, x.length ≤ m) : L.flatten.length ≤ n * m := by
  induction L generalizing n with
  | nil => simp
  | cons a r ih =>
    cases n with
    | zero => simp at hL
    | succ n =>
      have h1 := ih (n := n) (by simpa using hL) (fun x hx => h x (List.mem_cons_of_mem _ hx))
      have h2 := h a (List.mem_cons_self ..)
      rw [List.flatten_cons, List.length_append, Nat.add_mul, Nat.one_mul]
      omega
theorem small2_loop (xs0 xs : List T) (hn : xs.length ≤ 1000000000000) (hs : ∀ x ∈ xs, x.f1.size ≤ 2147483647) : ∀ (d i acc : Nat), xs.length = i + d → acc ≤ 4000 →
    ∃ b, Evt (fun k => laws_small.l0 k xs0 (acc : Int) xs (xs.length : Int) (i : Int)) b ∧ (b = true → xs0.length ≤ 400 ∧ acc + nby (xs.drop i) ≤ 4000 ∧ ∀ x ∈ xs.drop i, x.f0 ≠ 0) := by
  intro d
  induction d with
  | zero =>
    intro i acc hi hacc
    refine ⟨decide ((xs0.length : Int) ≤ 400), Evt.step (h := fun _ => some _) (fun k => ?_) (Evt.pure _), fun h => ?_⟩
    · simp only [laws_small.l0]; rw [if_neg (by omega)]
    · rw [List.drop_eq_nil_of_le (by omega)]
      refine ⟨by have := of_decide_eq_true h; omega, by simpa [nby] using hacc, by simp⟩
  | succ d ih =>
    intro i acc hi hacc
    have hlt : i < xs.length := by omega
    have hsz := hs _ (List.getElem_mem hlt)
    by_cases h0 : xs[i].f0 = 0
    · refine ⟨false, Evt.step (h := fun _ => some false) (fun k => ?_) (Evt.pure _), fun h => absurd h (by simp)⟩
      simp only [laws_small.l0]; rw [if_pos (by omega), if_pos (by omega), if_pos (by omega), rdT _ _ hlt, if_pos h0]
    have hw : wrap64 ((acc : Int) + (xs[i].f1.size : Int)) = ((acc + xs[i].f1.size : Nat) : Int) := by rw [wrap_in (by omega) (by omega)]; omega
    by_cases hb : 4000 < acc + xs[i].f1.size
    · refine ⟨false, Evt.step (h := fun _ => some false) (fun k => ?_) (Evt.pure _), fun h => absurd h (by simp)⟩
      simp only [laws_small.l0]; rw [if_pos (by omega), if_pos (by omega), if_pos (by omega), rdT _ _ hlt, if_neg h0, hw, if_pos (by omega)]
    · obtain ⟨b, h1, h2⟩ := ih (i + 1) (acc + xs[i].f1.size) (by omega) (by omega)
      refine ⟨b, Evt.step (fun k => ?_) h1, fun hbt => ?_⟩
      · simp only [laws_small.l0]; rw [if_pos (by omega), if_pos (by omega), if_pos (by omega), rdT _ _ hlt, if_neg h0, hw, if_neg (by omega), wrap_nat (by omega)]
      · obtain ⟨g1, g2, g3⟩ := h2 hbt
        rw [List.drop_eq_getElem_cons hlt]
        refine ⟨g1, by simp only [nby]; omega, fun x hx => ?_⟩
        rcases List.mem_cons.1 hx with rfl | hx
        · exact h0
        · exact g3 x hx
theorem small2 (xs : List T) (hn : xs.length ≤ 1000000000000) (hs : ∀ x ∈ xs, x.f1.size ≤ 2147483647) :
    ∃ b, Evt (fun k => laws_small.f k xs) b ∧ (b = true → xs.length ≤ 400 ∧ nby xs ≤ 4000 ∧ ∀ x ∈ xs, x.f0 ≠ 0) := by
  obtain ⟨b, h1, h2⟩ := small2_loop xs xs hn hs xs.length 0 0 (by omega) (by omega)
  refine ⟨b, Evt.congr (fun k => rfl) h1, fun h => ?_⟩
  have := h2 h
  simp only [List.drop_zero, Nat.zero_add] at this
  exact this

theorem FnConcat : laws_FnConcat.Pure := by
  intro l0 _
  refine Evt.get ?_
  by_cases hn : l0.length ≤ 2147483647
  · obtain ⟨b, hb, hb'⟩ := fits22_loop l0 hn l0.length 0 (by omega)
    refine Evt.bind (a := b) (Evt.congr (fun k => by unfold laws_zzFits22.f; rw [if_neg (by omega)]; rfl) hb) ?_
    cases b with
    | false => exact Evt.neg (by simp) (Evt.pure _)
    | true =>
      have hx := hb' rfl
      rw [List.drop_zero] at hx
      refine Evt.pos rfl ?_
      by_cases h40 : (l0.length : Int) > 40
      · exact Evt.pos h40 (Evt.pure _)
      · refine Evt.neg h40 ?_
        have hfl := flat_len (n := 40) (m := 2147483647) (by omega) (fun x h => (hx x h).1)
        have hF : Evt (fun k => laws_flat.f k l0) l0.flatten := by
          have h := flat2_loop l0 hn (by omega) l0.length 0 [] (by omega) (by rw [List.drop_zero]; simp only [List.length_nil]; omega)
          rw [List.drop_zero, List.nil_append] at h
          exact Evt.congr (fun k => rfl) h
        refine Evt.bind hF ?_
        obtain ⟨b2, h2, h2'⟩ := small2 l0.flatten (by omega) (fun y hy => by obtain ⟨x, h, hy⟩ := List.mem_flatten.1 hy; exact (hx x h).2 y hy)
        refine Evt.bind h2 ?_
        cases b2 with
        | false => exact Evt.neg (by simp) (Evt.pure _)
        | true =>
          obtain ⟨g1, g2, g3⟩ := h2' rfl
          refine Evt.pos rfl ?_
          have hT : impl_Concat.f l0 = some l0.flatten := by
            unfold impl_Concat.f
            rw [if_pos ⟨by omega, by omega, List.all_eq_true.2 fun x hx => by simpa using g3 x hx⟩]
          refine Evt.bind' hT (Evt.bind hF ?_)
          have hs := same l0.flatten l0.flatten (by omega)
          have hs2 : Evt (fun k => laws_same.f k l0.flatten l0.flatten) true := by simpa using hs
          exact Evt.bind hs2 (Evt.pos rfl (Evt.bind waking (Evt.pure _)))
  · refine Evt.bind (a := false) (Evt.of (fun k => by unfold laws_zzFits22.f; rw [if_pos (by omega)])) ?_
    exact Evt.neg (by simp) (Evt.pure _)
end Go.Proofs.YtkdkkbadmjpkfaaDoor.Pure
