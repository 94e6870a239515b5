/- A line has a line feed at its end or none, each but the last has one, and there are as many as the text has line feeds, or one more: the pure statement. -/
import Derived.Test.YtmlebpbalhinnaaPureFnSplitText
set_option linter.unusedVariables false
set_option linter.unusedSimpArgs false
namespace Go.Proofs.Ytmlebpbalhinnaa.Pure
open Go.RowKit Go.Proofs.YtmlebpbalhinnaaEvt Go.Proofs.Ytmlebpbalhinnaa.M Go.Proofs.YtmlebpbalhinnaaW.PrintWords Go.Proofs.YtmlebpbalhinnaaTok Go.Proofs.YtmlebpbalhinnaaSplit Go.Proofs.YtmlebpbalhinnaaLines
theorem opened_text {line : List Tok} (h : Opened line) : (line.flatMap fun p => p.2).count 10 = 0 := by
  rw [List.count_eq_zero]
  intro hm
  obtain ⟨p, hp, hx⟩ := List.mem_flatMap.1 hm
  exact h p hp hx
theorem closed_text {line : List Tok} (h : Closed line) : ∃ s, (line.flatMap fun p => p.2) = s ++ [10] ∧ s.count 10 = 0 := by
  obtain ⟨init, p, a, rfl, hi, e, ha⟩ := h
  refine ⟨(init.flatMap fun p => p.2) ++ a, ?_, ?_⟩
  · rw [List.flatMap_append]; simp [e]
  · rw [List.count_append, opened_text hi, List.count_eq_zero.2 ha]
/-- Each line but the last is closed. -/
theorem line_kind (xs : List Tok) (i : Nat) (h : i < (lines xs).length) : Closed (lines xs)[i] ∨ (Opened (lines xs)[i] ∧ i + 1 = (lines xs).length) := by
  obtain ⟨⟨cl, tl, e, hcl, hn, htl⟩, _⟩ := lines_shape xs
  by_cases hi : i < cl.length
  · left
    have : (lines xs)[i] = cl[i] := by simp only [e]; exact List.getElem_append_left hi
    rw [this]
    exact hcl _ (List.getElem_mem hi)
  · right
    rcases htl with rfl | ⟨o, rfl, hne, ho⟩
    · rw [e, List.append_nil] at h; omega
    · rw [e, List.length_append, List.length_singleton] at h
      have hi2 : i = cl.length := by omega
      subst hi2
      have : (lines xs)[cl.length] = o := by simp only [e]; simp
      rw [this]
      exact ⟨ho, by rw [e]; simp⟩
theorem FnSplitLines : laws_FnSplitLines.Pure := by
  intro l0 _
  refine Evt.get (guards l0 fun h1 h2 h3 => ?_)
  obtain ⟨xs, rfl⟩ := as_toks l0
  have hw := wgt_of xs
  have hw2 := wgt_flat xs
  have hL1 := lines_count xs
  have hL2 := nls_le xs
  have hL3 := lines_len xs
  have s1 := splitLines xs (by omega)
  refine Evt.bind s1 ?_
  have hl : (mmT (lines xs)).length = (lines xs).length := List.length_map _
  have t2 := text (xs.map mT) (by omega) (by omega)
  have key : ∀ (d i : Nat), (lines xs).length = i + d → Evt (fun k => laws_FnSplitLines.l0 k (xs.map mT) (mmT (lines xs)) (mmT (lines xs)) ((mmT (lines xs)).length : Int) (i : Int)) true := by
    intro d
    induction d with
    | zero =>
      intro i hi
      refine Evt.step (fun k => by simp only [laws_FnSplitLines.l0]; rw [if_neg (by omega)]) ?_
      refine Evt.bind t2 ?_
      have hf := feeds (txt (xs.map mT)) (by rw [txt_length]; omega)
      refine Evt.bind hf ?_
      rw [txt_mT]
      have hc : ((xs.flatMap fun p => p.2).count 10) = nls xs := rfl
      rw [hc]
      by_cases hq : (lines xs).length = nls xs
      · exact Evt.pos (by omega) (Evt.bind waking (Evt.pure _))
      · exact Evt.neg (by omega) (Evt.pos (by rw [wrap_nat (by omega)]; omega) (Evt.bind waking (Evt.pure _)))
    | succ d ih =>
      intro i hi
      refine Evt.step (fun k => by simp only [laws_FnSplitLines.l0]; rw [if_pos (by omega), if_pos (by omega), if_pos (by omega)]) ?_
      have hlt : i < (lines xs).length := by omega
      have hrd : rd_L5 (mmT (lines xs)) (i : Int) = (lines xs)[i].map mT := by
        show (mmT (lines xs)).getD (i : Int).toNat [] = _
        rw [rdLT _ _ (by omega)]; simp [mmT]
      rw [hrd]
      have hbl : ((lines xs)[i].flatMap fun p => p.2).length ≤ 100000 := by
        have e : (lines xs).flatten = ((lines xs).take i).flatten ++ ((lines xs)[i] ++ ((lines xs).drop (i + 1)).flatten) := by
          rw [← List.flatten_cons, ← List.drop_eq_getElem_cons hlt, ← List.flatten_append, List.take_append_drop]
        have h5 := lines_text xs
        rw [e, List.flatMap_append, List.flatMap_append] at h5
        have h6 := congrArg List.length h5
        simp only [List.length_append] at h6
        have h7 := wgt_eq xs
        omega
      have tt := text ((lines xs)[i].map mT) (by rw [List.length_map]; have := line_le i hlt; omega) (by rw [← txt_length, txt_mT]; omega)
      rw [txt_mT] at tt
      refine Evt.bind tt ?_
      refine Evt.bind (feeds _ (by omega)) ?_
      have hih := ih (i + 1) (by omega)
      have hwr : wrap64 (((mmT (lines xs)).length : Int) - 1) = ((lines xs).length : Int) - 1 := by rw [hl, wrap_in (by omega) (by omega)]
      rcases line_kind xs i hlt with hc | ⟨ho, he⟩
      · obtain ⟨s, e, hs⟩ := closed_text hc
        have hcount : ((lines xs)[i].flatMap fun p => p.2).count 10 = 1 := by rw [e, List.count_append, hs]; simp
        rw [hcount]
        refine Evt.neg (by omega) (Evt.pos (by omega) ?_)
        rw [e]
        refine Evt.bind' (ends_yes s (by rw [← e]; omega)) (Evt.pos rfl (Evt.neg (by omega) ?_))
        rw [wrap_nat (by omega)]
        exact hih
      · rw [opened_text ho]
        refine Evt.neg (by omega) (Evt.neg (by omega) (Evt.pos (by omega) (Evt.neg (by rw [hwr]; omega) ?_)))
        rw [wrap_nat (by omega)]
        exact hih
  exact key (lines xs).length 0 (by omega)
end Go.Proofs.Ytmlebpbalhinnaa.Pure
