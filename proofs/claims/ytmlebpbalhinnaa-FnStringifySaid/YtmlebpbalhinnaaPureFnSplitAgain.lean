/- Lines that are put together and split again are the same lines: the pure statement. -/
import Derived.Test.YtmlebpbalhinnaaLines
set_option linter.unusedVariables false
set_option linter.unusedSimpArgs false
namespace Go.Proofs.Ytmlebpbalhinnaa.Pure
open Go.RowKit Go.Proofs.YtmlebpbalhinnaaEvt Go.Proofs.Ytmlebpbalhinnaa.M Go.Proofs.YtmlebpbalhinnaaW.PrintWords Go.Proofs.YtmlebpbalhinnaaTok Go.Proofs.YtmlebpbalhinnaaSplit Go.Proofs.YtmlebpbalhinnaaLines
/-- The guards: either the law answers true by them, or the input is small. -/
theorem guards {R : Nat → Option Bool} (l0 : List T) (h : l0.length ≤ 400 → nby l0 ≤ 4000 → (∀ x ∈ l0, x.f0 ≠ 0) → Evt R true) :
    Evt (fun k => (laws_zzFits4.f k l0).bind fun t => if t = true then ((laws_small.f k l0).bind fun t2 => if t2 = true then R k else some true) else some true) true := by
  obtain ⟨b, hb, hb'⟩ := fits l0
  refine Evt.bind hb ?_
  cases b with
  | false => exact Evt.neg (by simp) (Evt.pure _)
  | true =>
    obtain ⟨hn, hs⟩ := hb' rfl
    refine Evt.pos rfl ?_
    obtain ⟨b2, hb2, hb2'⟩ := small l0 hn hs
    refine Evt.bind hb2 ?_
    cases b2 with
    | false => exact Evt.neg (by simp) (Evt.pure _)
    | true =>
      obtain ⟨g1, g2, g3⟩ := hb2' rfl
      exact Evt.pos rfl (h g1 g2 g3)
theorem as_toks (l0 : List T) : ∃ xs : List Tok, l0 = xs.map mT := ⟨l0.map aT, by rw [List.map_map]; exact (List.map_id'' (fun x => mT_aT x) l0).symm⟩
theorem wgt_of (xs : List Tok) : wgt xs = nby (xs.map mT) + (xs.map mT).length := by
  induction xs with
  | nil => rfl
  | cons x r ih => simp only [wgt, ih, List.map_cons, nby, List.length_cons, mT, size_B]; omega
theorem mT_inj {a b : Tok} (h : mT a = mT b) : a = b := by rw [← aT_mT a, h, aT_mT]
theorem wgt_flat (xs : List Tok) : wgt (lines xs).flatten ≤ 2 * wgt xs := by
  have h1 := wgt_eq (lines xs).flatten
  have h2 := lines_text xs
  have h3 := lines_len xs
  have h4 := wgt_eq xs
  rw [h1, h2]
  omega
attribute [local instance] Classical.propDecidable
theorem FnSplitAgain : laws_FnSplitAgain.Pure := by
  intro l0 _
  refine Evt.get (guards l0 fun h1 h2 h3 => ?_)
  obtain ⟨xs, rfl⟩ := as_toks l0
  have hw := wgt_of xs
  have hw2 := wgt_flat xs
  have hL1 := lines_count xs
  have hL2 := nls_le xs
  have hL3 := lines_len xs
  have s1 := splitLines xs (by omega)
  have f1 := flat (lines xs) (by omega) (by omega)
  have s2 := splitLines (lines xs).flatten (by omega)
  rw [lines_again] at s2
  refine Evt.bind s1 (Evt.bind f1 (Evt.bind s2 (Evt.pos rfl ?_)))
  have hl : (mmT (lines xs)).length = (lines xs).length := List.length_map _
  have key : ∀ (d i : Nat), (lines xs).length = i + d → Evt (fun k => laws_FnSplitAgain.l0 k (mmT (lines xs)) (mmT (lines xs)) ((mmT (lines xs)).length : Int) (i : Int)) true := by
    intro d
    induction d with
    | zero =>
      intro i hi
      refine Evt.step (fun k => by simp only [laws_FnSplitAgain.l0]; rw [if_neg (by omega)]) ?_
      exact Evt.bind waking (Evt.pure _)
    | succ d ih =>
      intro i hi
      refine Evt.step (fun k => by simp only [laws_FnSplitAgain.l0]; rw [if_pos (by omega), if_pos (by omega), if_pos (by omega), if_pos (by omega)]) ?_
      have hlt : i < (lines xs).length := by omega
      have hrd : rd_L5 (mmT (lines xs)) (i : Int) = (lines xs)[i].map mT := by
        show (mmT (lines xs)).getD (i : Int).toNat [] = _
        rw [rdLT _ _ (by omega)]; simp [mmT]
      rw [hrd]
      have hsame := same ((lines xs)[i].map mT) ((lines xs)[i].map mT) (by rw [List.length_map]; have := line_le i hlt; omega)
      rw [decide_eq_true rfl] at hsame
      refine Evt.bind hsame (Evt.pos rfl ?_)
      rw [wrap_nat (by omega)]
      exact ih (i + 1) (by omega)
  exact key (lines xs).length 0 (by omega)
end Go.Proofs.Ytmlebpbalhinnaa.Pure
