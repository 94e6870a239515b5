/- Runs of tokens of one type become one token, and empty ones go: the pure statement. -/
import Derived.Test.YtgpamoanclhbhaaDoorLines
set_option linter.unusedVariables false
set_option linter.unusedSimpArgs false
namespace Go.Proofs.YtgpamoanclhbhaaDoor.Pure
open Go.RowKit Go.Proofs.YtgpamoanclhbhaaDoorEvt Go.Proofs.YtgpamoanclhbhaaDoor.M Go.Proofs.YtgpamoanclhbhaaDoorW.PrintWords Go.Proofs.YtgpamoanclhbhaaDoorTok Go.Proofs.YtgpamoanclhbhaaDoorSplit Go.Proofs.YtgpamoanclhbhaaDoorLines
open ZCoal (runsL isE szL toCC toTT ZTk_eof)
theorem nil_iff (s : ByteArray) : s.toList = ([] : List UInt8) ↔ s.size = 0 := by
  rw [toList_dat, size_dat]
  exact List.length_eq_zero_iff.symm
theorem szL_nby (l : List T) : szL (l.map toCC) = nby l := by
  induction l with
  | nil => rfl
  | cons x r ih => rw [List.map_cons, ZCoal.szL_cons, ih]; rfl
theorem isE_of {p : C} (h : p.f0 ≠ 0) : isE p = false := by
  unfold isE
  rw [beq_eq_false_iff_ne.2 h]
  rfl
theorem runs_loop (xs : List T) (hn : xs.length ≤ 1000) (hz : ∀ x ∈ xs, x.f0 ≠ 0) : ∀ (d i : Nat) (init : List T) (p : T), xs.length = i + d → init.length + 1 ≤ i → p.f0 ≠ 0 → p.f1.size + nby (xs.drop i) ≤ 1000000 →
    Evt (fun k => laws_runs.l0 k (init ++ [p]) xs (xs.length : Int) (i : Int)) (init ++ (runsL (toCC p) ((xs.drop i).map toCC)).map toTT) := by
  intro d
  induction d with
  | zero =>
    intro i init p hi hl hp hs
    refine Evt.step (h := fun _ => some _) (fun k => ?_) (Evt.pure _)
    simp only [laws_runs.l0]
    rw [if_neg (by omega), List.drop_eq_nil_of_le (by omega), List.map_nil]
    unfold runsL
    rw [if_neg (by rw [isE_of hp]; decide)]
    rfl
  | succ d ih =>
    intro i init p hi hl hp hs
    have hlt : i < xs.length := by omega
    have hx := hz _ (List.getElem_mem hlt)
    rw [List.drop_eq_getElem_cons hlt] at hs ⊢
    rw [List.map_cons]
    have hs' : p.f1.size + (xs[i].f1.size + nby (xs.drop (i + 1))) ≤ 1000000 := hs
    have hlen : (init ++ [p]).length = init.length + 1 := by simp
    have hw : wrap64 (((init ++ [p]).length : Int) - 1) = ((init.length : Nat) : Int) := by rw [hlen, wrap_in (by omega) (by omega)]; omega
    have hrd : rd_T29 (init ++ [p]) ((init.length : Nat) : Int) = p := by rw [rdT _ _ (by simp)]; simp
    unfold runsL
    by_cases h1 : xs[i].f1.size = 0
    · rw [if_pos h1]
      refine Evt.step (fun k => ?_) (ih (i + 1) init p (by omega) (by omega) hp (by omega))
      simp only [laws_runs.l0]
      rw [if_pos (by omega), if_pos (by omega), if_pos (by omega), rdT _ _ hlt, if_pos ((nil_iff _).2 h1), wrap_nat (by omega)]
    · have h1' : ¬ (toCC xs[i]).f1.size = 0 := h1
      rw [if_neg h1', if_neg (by rw [isE_of (p := toCC p) hp]; decide)]
      by_cases h3 : p.f0 = xs[i].f0
      · have h3' : (toCC p).f0 = (toCC xs[i]).f0 := h3
        rw [if_pos h3']
        have hq := ih (i + 1) init ⟨p.f0, p.f1 ++ xs[i].f1⟩ (by omega) (by omega) hp (by
          have e : (⟨p.f0, p.f1 ++ xs[i].f1⟩ : T).f1.size = p.f1.size + xs[i].f1.size := ZCoal.size_cat _ _
          omega)
        refine Evt.step (fun k => ?_) hq
        simp only [laws_runs.l0]
        rw [if_pos (by omega), if_pos (by omega), if_pos (by omega), rdT _ _ hlt, if_neg (fun h => h1 ((nil_iff _).1 h)), hw, if_pos (by omega), if_pos (by omega), if_pos (by omega), hrd, if_pos h3, if_pos (by omega), wrap_nat (by omega)]
        have hset : (init ++ [p]).set (((init.length : Nat) : Int)).toNat (⟨p.f0, p.f1 ++ xs[i].f1⟩ : T) = init ++ [⟨p.f0, p.f1 ++ xs[i].f1⟩] := by
          rw [Int.toNat_natCast, List.set_append_right _ _ (Nat.le_refl _), Nat.sub_self]; rfl
        rw [hset]
      · have h3' : ¬ (toCC p).f0 = (toCC xs[i]).f0 := h3
        rw [if_neg h3']
        have hq := ih (i + 1) (init ++ [p]) xs[i] (by omega) (by omega) hx (by omega)
        have e : init ++ List.map toTT (toCC p :: runsL (toCC xs[i]) ((xs.drop (i + 1)).map toCC)) = init ++ [p] ++ List.map toTT (runsL (toCC xs[i]) ((xs.drop (i + 1)).map toCC)) := by simp [toTT, toCC]
        rw [e]
        refine Evt.step (fun k => ?_) hq
        simp only [laws_runs.l0]
        rw [if_pos (by omega), if_pos (by omega), if_pos (by omega), rdT _ _ hlt, if_neg (fun h => h1 ((nil_iff _).1 h)), hw, if_pos (by omega), if_pos (by omega), if_pos (by omega), hrd, if_neg h3, if_pos (by omega), wrap_nat (by omega)]
theorem runs_loop0 (xs : List T) (hn : xs.length ≤ 1000) (hz : ∀ x ∈ xs, x.f0 ≠ 0) : ∀ (d i : Nat), xs.length = i + d → nby (xs.drop i) ≤ 1000000 →
    Evt (fun k => laws_runs.l0 k ([] : List T) xs (xs.length : Int) (i : Int)) ((runsL ZTk_eof ((xs.drop i).map toCC)).map toTT) := by
  intro d
  induction d with
  | zero =>
    intro i hi hs
    refine Evt.step (h := fun _ => some _) (fun k => ?_) (Evt.pure _)
    simp only [laws_runs.l0]
    rw [if_neg (by omega), List.drop_eq_nil_of_le (by omega), List.map_nil]
    unfold runsL
    rw [if_pos (by rfl)]
    rfl
  | succ d ih =>
    intro i hi hs
    have hlt : i < xs.length := by omega
    have hx := hz _ (List.getElem_mem hlt)
    rw [List.drop_eq_getElem_cons hlt] at hs ⊢
    rw [List.map_cons]
    have hs' : xs[i].f1.size + nby (xs.drop (i + 1)) ≤ 1000000 := hs
    unfold runsL
    by_cases h1 : xs[i].f1.size = 0
    · have h1' : (toCC xs[i]).f1.size = 0 := h1
      rw [if_pos h1']
      refine Evt.step (fun k => ?_) (ih (i + 1) (by omega) (by omega))
      simp only [laws_runs.l0]
      rw [if_pos (by omega), if_pos (by omega), if_pos (by omega), rdT _ _ hlt, if_pos ((nil_iff _).2 h1), wrap_nat (by omega)]
    · have h1' : ¬ (toCC xs[i]).f1.size = 0 := h1
      rw [if_neg h1', if_pos (by rfl)]
      have hq := runs_loop xs hn hz d (i + 1) [] xs[i] (by omega) (by simp) hx (by omega)
      rw [List.nil_append, List.nil_append] at hq
      refine Evt.step (fun k => ?_) hq
      simp only [laws_runs.l0]
      rw [if_pos (by omega), if_pos (by omega), if_pos (by omega), rdT _ _ hlt, if_neg (fun h => h1 ((nil_iff _).1 h)), if_neg (by simp), if_pos (by simp), wrap_nat (by omega)]
      rfl
theorem runs (xs : List T) (hn : xs.length ≤ 1000) (hz : ∀ x ∈ xs, x.f0 ≠ 0) (hs : nby xs ≤ 1000000) : Evt (fun k => laws_runs.f k xs) ((runsL ZTk_eof (xs.map toCC)).map toTT) := by
  have h := runs_loop0 xs hn hz xs.length 0 (by omega) (by rw [List.drop_zero]; exact hs)
  rw [List.drop_zero] at h
  exact Evt.congr (fun k => rfl) h
theorem coal_some (xs : List T) (hn : xs.length ≤ 1000) (hz : ∀ x ∈ xs, x.f0 ≠ 0) (hs : nby xs ≤ 8000) : impl_CoalesceTokens.f xs = some ((runsL ZTk_eof (xs.map toCC)).map toTT) := by
  unfold impl_CoalesceTokens.f
  rw [if_pos ⟨by omega, by rw [szL_nby]; omega, List.all_eq_true.2 fun x hx => by simpa using hz x hx⟩]
theorem FnCoalesce : laws_FnCoalesce.Pure := by
  intro l0 _
  refine Evt.get ?_
  obtain ⟨b, hb, hb'⟩ := fits l0
  refine Evt.bind hb ?_
  cases b with
  | false => exact Evt.neg (by simp) (Evt.pure _)
  | true =>
    obtain ⟨h1, h2⟩ := hb' rfl
    refine Evt.pos rfl ?_
    obtain ⟨b2, hb2, hb2'⟩ := small l0 h1 h2
    refine Evt.bind hb2 ?_
    cases b2 with
    | false => exact Evt.neg (by simp) (Evt.pure _)
    | true =>
      obtain ⟨g1, g2, g3⟩ := hb2' rfl
      refine Evt.pos rfl ?_
      refine Evt.bind' (coal_some l0 (by omega) g3 (by omega)) (Evt.bind (runs l0 (by omega) g3 (by omega)) ?_)
      have hlen := ZCoal.runsL_len (l0.map toCC) ZTk_eof
      rw [List.length_map] at hlen
      have hs := same ((runsL ZTk_eof (l0.map toCC)).map toTT) ((runsL ZTk_eof (l0.map toCC)).map toTT) (by rw [List.length_map]; omega)
      have hs2 : Evt (fun k => laws_same.f k ((runsL ZTk_eof (l0.map toCC)).map toTT) ((runsL ZTk_eof (l0.map toCC)).map toTT)) true := by simpa using hs
      exact Evt.bind hs2 (Evt.pos rfl (Evt.bind waking (Evt.pure _)))
end Go.Proofs.YtgpamoanclhbhaaDoor.Pure
