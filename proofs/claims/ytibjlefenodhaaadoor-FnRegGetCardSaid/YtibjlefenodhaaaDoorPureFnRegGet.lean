/- A lexer is found by its name and by each of its aliases: the pure statement. -/
import Derived.Test.YtibjlefenodhaaaDoorRpu
import Derived.Test.YtibjlefenodhaaaDoorMx2
set_option linter.unusedVariables false
set_option linter.unusedSimpArgs false
namespace Go.Proofs.YtibjlefenodhaaaDoor.Pure
open Go.RowKit Go.Proofs.YtibjlefenodhaaaDoorEvt Go.Proofs.YtibjlefenodhaaaDoor.M Go.Proofs.YtibjlefenodhaaaDoorW.PrintWords
open Go.Proofs.YtibjlefenodhaaaDoorReg (regOK regOK_facts nms lw rgF rmF roF tuF FitI letB letB_low low_lw nms_one Low sj xj turnI)
theorem get_j2 (L : List (S28)) (l3 : List Bool) (h3 : l3.length ≤ 2147483647) (hok : regOK (L.map tI) = true) (n : Nat) (hn : n < L.length) (s : ByteArray) (hs : s ∈ nms (tI L[n])) : Evt (fun k => laws_FnRegGet.j2 k L l3 (n : Int) s) true := by
  have hn' : n < (L.map tI).length := by rw [List.length_map]; exact hn
  have hx : (L.map tI)[n] = tI L[n] := by simp
  have hf := (regOK_facts hok).2.1 _ (List.getElem_mem hn')
  rw [hx] at hf
  have hl := (hf.nm s hs).2
  obtain ⟨hlow, hz⟩ := letB_low hl
  have e1 : impl_RegGet.f L s = some (n : Int) := by
    unfold impl_RegGet.f
    exact rgF_at hok hn' (by rw [hx, low_lw hlow]; exact hs) hz (fun b hb => by have := hlow.lo b hb; omega)
  obtain ⟨t, ht⟩ : ∃ t, t = strOfNums (turnI s l3 (min s.size l3.length)) := ⟨_, rfl⟩
  have e2 : laws_turned.f s l3 = some t := by
    unfold laws_turned.f tuF
    rw [if_pos ⟨hl, h3⟩, ht]
  have hT := turn_facts hl l3 (min s.size l3.length)
  rw [← ht] at hT
  have e3 : impl_RegGet.f L t = some (n : Int) := by
    unfold impl_RegGet.f
    exact rgF_at hok hn' (by rw [hx, hT.1]; exact hs) hT.2.1 hT.2.2
  refine Evt.step (h := fun _ => some true) (fun k => ?_) (Evt.pure _)
  simp only [laws_FnRegGet.j2]
  rw [e1, Option.bind_some, if_pos rfl, e2, Option.bind_some, e3, Option.bind_some, if_pos rfl, found_f, Option.bind_some]
theorem get_j1 (L : List (S28)) (a1 a2 : Int) (l3 : List Bool) (h3 : l3.length ≤ 2147483647) (hok : regOK (L.map tI) = true) (w1 : 0 ≤ a1 ∧ a1 ≤ 255) (w2 : 0 ≤ a2 ∧ a2 ≤ 255) (h0 : L.length ≠ 0) : Evt (fun k => laws_FnRegGet.j1 k L a1 a2 l3 false) true := by
  have hF := regOK_facts hok
  rw [List.length_map] at hF
  have e1 : wrap64 a1 = a1 := wrap_in (by omega) (by omega)
  have e2 : wrap64 a2 = a2 := wrap_in (by omega) (by omega)
  obtain ⟨n, hn, hnl⟩ : ∃ n : Nat, Int.tmod (wrap64 a1) (L.length : Int) = (n : Int) ∧ n < L.length := by
    rw [e1, Int.tmod_eq_emod_of_nonneg w1.1]
    refine ⟨(a1 % (L.length : Int)).toNat, ?_, ?_⟩
    · have := Int.emod_nonneg a1 (show (L.length : Int) ≠ 0 by omega); omega
    · have := Int.emod_nonneg a1 (show (L.length : Int) ≠ 0 by omega)
      have := Int.emod_lt_of_pos a1 (show (0 : Int) < (L.length : Int) by omega); omega
  have HN := Aside0.mk hn
  clear hn
  have hn' : n < (L.map tI).length := by rw [List.length_map]; exact hnl
  have hx : (L.map tI)[n] = tI L[n] := by simp
  have hf := hF.2.1 _ (List.getElem_mem hn')
  rw [hx] at hf
  have hl5 : L[n].f1.length ≤ 5 := hf.n1
  have e3 : wrap64 ((L[n].f1.length : Int) + 1) = ((L[n].f1.length + 1 : Nat) : Int) := wrap_nat (by omega)
  obtain ⟨m, hm, hml⟩ : ∃ m : Nat, Int.tmod (wrap64 a2) (((L[n].f1.length + 1 : Nat) : Int)) = (m : Int) ∧ m < L[n].f1.length + 1 := by
    rw [e2, Int.tmod_eq_emod_of_nonneg w2.1]
    refine ⟨(a2 % ((L[n].f1.length + 1 : Nat) : Int)).toNat, ?_, ?_⟩
    · have := Int.emod_nonneg a2 (show ((L[n].f1.length + 1 : Nat) : Int) ≠ 0 by omega); omega
    · have := Int.emod_nonneg a2 (show ((L[n].f1.length + 1 : Nat) : Int) ≠ 0 by omega)
      have := Int.emod_lt_of_pos a2 (show (0 : Int) < ((L[n].f1.length + 1 : Nat) : Int) by omega); omega
  have HM := Aside0.mk hm
  have E3 := Aside0.mk e3
  clear hm e3 e1 e2
  by_cases hm0 : m = 0
  · refine Evt.step (fun k => ?_) (get_j2 L l3 h3 hok n hnl L[n].f0 List.mem_cons_self)
    simp only [laws_FnRegGet.j1]
    rw [if_neg (by decide), if_neg (by omega), HN.out, if_pos (by omega), if_pos (by omega), rdI _ _ hnl, E3.out, if_neg (by omega), HM.out, if_neg (by omega)]
  · have e4 : wrap64 ((m : Int) - 1) = ((m - 1 : Nat) : Int) := by rw [wrap_in (by omega) (by omega)]; omega
    have hm1 : m - 1 < L[n].f1.length := by omega
    refine Evt.step (fun k => ?_) (get_j2 L l3 h3 hok n hnl (L[n].f1[m - 1]) (List.mem_cons_of_mem _ (List.getElem_mem hm1)))
    simp only [laws_FnRegGet.j1]
    rw [if_neg (by decide), if_neg (by omega), HN.out, if_pos (by omega), if_pos (by omega), rdI _ _ hnl, E3.out, if_neg (by omega), HM.out, if_pos (by omega), e4, if_pos (by omega), if_pos (by omega), rdW _ _ hm1]
theorem u8_wf {a : Int} (h : (Lit.int .u8 a).wf = true) : 0 ≤ a ∧ a ≤ 255 := by
  have h' : (decide (IntKind.u8.min ≤ a ∧ a ≤ IntKind.u8.max)) = true := by simpa [Lit.wf] using h
  have h2 := of_decide_eq_true h'
  have e1 : IntKind.u8.min = 0 := by decide
  have e2 : IntKind.u8.max = 255 := by decide
  omega
theorem FnRegGet : laws_FnRegGet.Pure := by
  intro l0 a1 a2 l3 hl0 w1 w2 hl3
  have w1 := u8_wf w1
  have w2 := u8_wf w2
  suffices h : Evt (fun k => laws_FnRegGet.f k l0 a1 a2 l3) true from h.get
  obtain ⟨b, hb, hbl⟩ := fits18 l0
  have jt : Evt (fun k => laws_FnRegGet.j0 k l0 a1 a2 l3 true) true := Evt.step (h := fun _ => some true) (fun k => by simp only [laws_FnRegGet.j0]; exact if_pos trivial) (Evt.pure _)
  cases b with
  | false => exact Evt.congr (fun k => rfl) (Evt.bind hb (Evt.neg (by decide) jt))
  | true =>
    refine Evt.congr (fun k => rfl) (Evt.bind hb (Evt.pos rfl ?_))
    by_cases h3 : (l3.length : Int) > 2147483647
    · rw [decide_eq_true h3]; exact jt
    · rw [decide_eq_false h3]
      have hr := reg_f l0 (hbl rfl) (fun x hx => by
        have := hl0.2 x hx
        exact ⟨this.1, this.2.1.2⟩)
      have kt : Evt (fun k => laws_FnRegGet.j1 k l0 a1 a2 l3 true) true := Evt.step (h := fun _ => some true) (fun k => by simp only [laws_FnRegGet.j1]; exact if_pos trivial) (Evt.pure _)
      cases hok : regOK (l0.map tI) with
      | false =>
        rw [hok] at hr
        refine Evt.step (fun k => ?_) kt
        simp only [laws_FnRegGet.j0]
        rw [if_neg (by decide), hr, Option.bind_some, if_neg (by decide)]
      | true =>
        rw [hok] at hr
        by_cases h0 : l0.length = 0
        · refine Evt.step (fun k => ?_) kt
          simp only [laws_FnRegGet.j0]
          rw [if_neg (by decide), hr, Option.bind_some, if_pos rfl, show (((l0.length : Int)) == 0) = true from beq_iff_eq.2 (by omega)]
        · refine Evt.step (fun k => ?_) (get_j1 l0 a1 a2 l3 (by omega) hok w1 w2 h0)
          simp only [laws_FnRegGet.j0]
          rw [if_neg (by decide), hr, Option.bind_some, if_pos rfl, show (((l0.length : Int)) == 0) = false from beq_eq_false_iff_ne.2 (by omega)]
end Go.Proofs.YtibjlefenodhaaaDoor.Pure
