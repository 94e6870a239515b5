/- Who asks an iterator for so many tokens gets the first ones: the pure statement. -/
import Derived.Test.YtkdkkbadmjpkfaaDoorLines
set_option linter.unusedVariables false
set_option linter.unusedSimpArgs false
namespace Go.Proofs.YtkdkkbadmjpkfaaDoor.Pure
open Go.RowKit Go.Proofs.YtkdkkbadmjpkfaaDoorEvt Go.Proofs.YtkdkkbadmjpkfaaDoor.M Go.Proofs.YtkdkkbadmjpkfaaDoorW.PrintWords Go.Proofs.YtkdkkbadmjpkfaaDoorTok Go.Proofs.YtkdkkbadmjpkfaaDoorSplit Go.Proofs.YtkdkkbadmjpkfaaDoorLines
theorem mn_eq (a b : Int) : mn a b = min a b := by unfold mn; split <;> omega
theorem FnTake : laws_FnTake.Pure := by
  intro l0 a1 _ ha
  have hw : ∃ b, Evt (fun k => laws_zzFits4.f k l0) b ∧ (b = true → l0.length ≤ 2147483647 ∧ ∀ x ∈ l0, x.f1.size ≤ 2147483647) := fits l0
  refine Evt.get ?_
  obtain ⟨b, hb, hb'⟩ := hw
  refine Evt.bind hb ?_
  cases b with
  | false => exact Evt.neg (by simp) (Evt.pure _)
  | true =>
    obtain ⟨h1, h2⟩ := hb' rfl
    refine Evt.pos rfl ?_
    obtain ⟨b2, hb2, hb2'⟩ := small l0 h1 h2
    refine Evt.bind hb2 ?_
    have hskip : ∀ b3, b3 = true → Evt (fun k => laws_FnTake.j0 k l0 a1 b3) true := fun b3 h3 => by
      subst h3
      exact Evt.step (h := fun _ => some true) (fun k => by simp only [laws_FnTake.j0]; rw [if_pos trivial]) (Evt.pure _)
    cases b2 with
    | false => exact Evt.neg (by simp) (hskip true rfl)
    | true =>
      obtain ⟨g1, g2, g3⟩ := hb2' rfl
      refine Evt.pos rfl ?_
      by_cases hn : a1 < 1
      · exact hskip _ (decide_eq_true hn)
      · rw [decide_eq_false hn]
        refine Evt.step (fun k => by simp only [laws_FnTake.j0]; rw [if_neg (by simp)]) ?_
        have hT : impl_Take.f l0 a1 = some (l0.take a1.toNat) := by
          unfold impl_Take.f
          rw [if_pos ⟨by omega, by omega, List.all_eq_true.2 fun x hx => by simpa using g3 x hx⟩]
        refine Evt.bind' hT ?_
        have hm := mn_eq a1 (l0.length : Int)
        refine Evt.pos (by rw [hm]; omega) ?_
        refine Evt.pos (by rw [hm]; omega) ?_
        have hs := same (l0.take a1.toNat) (l0.take (mn a1 (l0.length : Int)).toNat) (by rw [List.length_take]; omega)
        have he : l0.take a1.toNat = l0.take (mn a1 (l0.length : Int)).toNat := by
          rw [hm]
          by_cases h : a1.toNat ≤ l0.length
          · rw [show (min a1 (l0.length : Int)).toNat = a1.toNat by omega]
          · rw [List.take_of_length_le (by omega), List.take_of_length_le (by omega)]
        have hs2 : Evt (fun k => laws_same.f k (l0.take a1.toNat) (l0.take (mn a1 (l0.length : Int)).toNat)) true := by
          rw [← he] at hs ⊢
          simpa using hs
        exact Evt.bind hs2 (Evt.pos rfl (Evt.bind waking (Evt.pure _)))
end Go.Proofs.YtkdkkbadmjpkfaaDoor.Pure
