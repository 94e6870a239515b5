/- Lines have all of the tokens' text, in order, each byte with its type: the pure statement. -/
import Derived.Test.YtmlebpbalhinnaaPureFnSplitAgain
set_option linter.unusedVariables false
set_option linter.unusedSimpArgs false
namespace Go.Proofs.Ytmlebpbalhinnaa.Pure
open Go.RowKit Go.Proofs.YtmlebpbalhinnaaEvt Go.Proofs.Ytmlebpbalhinnaa.M Go.Proofs.YtmlebpbalhinnaaW.PrintWords Go.Proofs.YtmlebpbalhinnaaTok Go.Proofs.YtmlebpbalhinnaaSplit Go.Proofs.YtmlebpbalhinnaaLines
theorem txt_mT (xs : List Tok) : txt (xs.map mT) = xs.flatMap fun p => p.2 := by
  induction xs with
  | nil => rfl
  | cons x r ih => simp only [txt, List.map_cons, List.flatMap_cons] at ih ⊢; rw [ih]; simp [mT]
theorem FnSplitText : laws_FnSplitText.Pure := by
  intro l0 _
  refine Evt.get (guards l0 fun h1 h2 h3 => ?_)
  obtain ⟨xs, rfl⟩ := as_toks l0
  have hw := wgt_of xs
  have hw2 := wgt_flat xs
  have hL1 := lines_count xs
  have hL2 := nls_le xs
  have hL3 := lines_len xs
  have s1 := splitLines xs (by omega)
  have f1 := flat (lines xs) (by omega) (by omega)
  have hb2 := wgt_of (lines xs).flatten
  have t1 := text ((lines xs).flatten.map mT) (by rw [List.length_map]; omega) (by omega)
  have t2 := text (xs.map mT) (by omega) (by omega)
  have e1 := each (lines xs).flatten (by omega)
  have e2 := each xs (by omega)
  rw [txt_mT, lines_text, ← txt_mT] at t1
  have he : eac (lines xs).flatten = eac xs := lines_each xs
  rw [he] at e1
  refine Evt.bind s1 (Evt.bind f1 (Evt.bind t1 (Evt.bind t2 (Evt.pos rfl (Evt.bind e1 (Evt.bind e2 ?_))))))
  refine Evt.bind (sameInts_refl (eac xs) (by have := eac_len xs; omega)) (Evt.pos rfl (Evt.bind waking (Evt.pure _)))
end Go.Proofs.Ytmlebpbalhinnaa.Pure
