/- The names of lexers, and their aliases: the pure statement. -/
import Derived.Test.YtibjlefenodhaaaDoorRpu
import Derived.Test.YtibjlefenodhaaaDoorMx3
import Derived.Sort.Walk0
set_option linter.unusedVariables false
set_option linter.unusedSimpArgs false
namespace Go.Proofs.YtibjlefenodhaaaDoor.Pure
open Go.RowKit Go.Proofs.YtibjlefenodhaaaDoorEvt Go.Proofs.YtibjlefenodhaaaDoor.M Go.Proofs.YtibjlefenodhaaaDoorW.PrintWords
open Go.Proofs.YtibjlefenodhaaaDoorReg (regOK regOK_facts nms FitI leB insB sortB sortB_snoc msB nmL alL rnF raF srF msB_len nmL_snoc alL_snoc)
theorem leB_iff (a b : ByteArray) : leB a b = true ↔ dat a ≤ dat b := by
  unfold leB
  rw [Go.Proofs.bytesLess_eq, toList_dat, toList_dat, Bool.or_eq_true, List.le_iff_lt_or_eq, decide_eq_true_iff, beq_iff_eq]
theorem leB_tot (a b : ByteArray) : leB a b = true ∨ leB b a = true := by rw [leB_iff, leB_iff]; exact List.le_total _ _
theorem leB_tr {a b c : ByteArray} (h : leB a b = true) (h2 : leB b c = true) : leB a c = true := by rw [leB_iff] at *; exact List.le_trans h h2
theorem leB_as {a b : ByteArray} (h : leB a b = true) (h2 : leB b a = true) : a = b := by rw [leB_iff] at *; exact dat_inj (List.le_antisymm h h2)
theorem insB_nil (t : ByteArray) : insB t [] = [t] := rfl
theorem insB_le {t a : ByteArray} {r : List ByteArray} (h : leB a t = true) : insB t (a :: r) = a :: insB t r := by unfold insB; simp [List.takeWhile_cons, List.dropWhile_cons, h]
theorem insB_gt {t a : ByteArray} {r : List ByteArray} (h : ¬ leB a t = true) : insB t (a :: r) = t :: a :: r := by unfold insB; simp [List.takeWhile_cons, List.dropWhile_cons, h]
theorem insB_comm (x y : ByteArray) : ∀ z : List ByteArray, insB y (insB x z) = insB x (insB y z) := by
  intro z
  induction z with
  | nil =>
    rw [insB_nil, insB_nil]
    by_cases h1 : leB x y = true <;> by_cases h2 : leB y x = true
    · rw [leB_as h1 h2]
    · rw [insB_le h1, insB_gt h2, insB_nil]
    · rw [insB_gt h1, insB_le h2, insB_nil]
    · rcases leB_tot x y with h | h
      · exact absurd h h1
      · exact absurd h h2
  | cons a r ih =>
    by_cases h1 : leB a x = true <;> by_cases h2 : leB a y = true
    · rw [insB_le h1, insB_le h2, insB_le h2, insB_le h1, ih]
    · have hy : leB y x = true := by
        rcases leB_tot a y with h | h
        · exact absurd h h2
        · exact leB_tr h h1
      rw [insB_le h1, insB_gt h2, insB_gt h2, insB_le hy, insB_le h1]
    · have hx : leB x y = true := by
        rcases leB_tot a x with h | h
        · exact absurd h h1
        · exact leB_tr h h2
      rw [insB_gt h1, insB_le h2, insB_gt h1, insB_le hx, insB_le h2]
    · rw [insB_gt h1, insB_gt h2]
      by_cases h3 : leB x y = true <;> by_cases h4 : leB y x = true
      · rw [leB_as h3 h4]
      · rw [insB_le h3, insB_gt h4, insB_gt h2]
      · rw [insB_gt h3, insB_le h4, insB_gt h1]
      · rcases leB_tot x y with h | h
        · exact absurd h h3
        · exact absurd h h4
theorem sortB_perm {l1 l2 : List ByteArray} (h : l1.Perm l2) : sortB l1 = sortB l2 :=
  List.Perm.foldl_eq' (f := fun acc x => insB x acc) h (fun x _ y _ z => insB_comm x y z) []
theorem msB_perm (l : List ByteArray) : (msB l).Perm l := by
  unfold msB
  have h := (List.mergeSort_perm (l.map fun s => s.data.toList) (fun x y => decide (x ≤ y))).map (fun s : List UInt8 => (⟨s.toArray⟩ : ByteArray))
  have e : (l.map fun s => s.data.toList).map (fun s : List UInt8 => (⟨s.toArray⟩ : ByteArray)) = l := by
    rw [List.map_map]
    exact (List.map_congr_left (g := id) fun s _ => rfl).trans (List.map_id _)
  rw [e] at h
  exact h
theorem same_loop (A : List ByteArray) (hn : A.length ≤ 9223372036854775806) : ∀ d i : Nat, A.length = i + d → Evt (fun k => laws_sameNames.l0 k A A (A.length : Int) (i : Int)) true := by
  intro d
  induction d with
  | zero =>
    intro i hi
    refine Evt.step (h := fun _ => some true) (fun k => ?_) (Evt.pure _)
    simp only [laws_sameNames.l0]
    rw [if_neg (by omega)]
  | succ d ih =>
    intro i hi
    refine Evt.step (fun k => ?_) (ih (i + 1) (by omega))
    simp only [laws_sameNames.l0]
    rw [if_pos (by omega), if_pos (by omega), if_pos (by omega), if_pos (by omega), if_pos trivial, wrap_nat (by omega)]
theorem same (A : List ByteArray) (hn : A.length ≤ 9223372036854775806) : Evt (fun k => laws_sameNames.f k A A) true := by
  refine Evt.congr (fun k => ?_) (same_loop A hn A.length 0 (by omega))
  unfold laws_sameNames.f
  rw [if_pos rfl]; rfl
theorem sortB_len' (l : List ByteArray) : (sortB l).length = l.length := by
  have := Go.Proofs.YtibjlefenodhaaaDoorReg.sortB_len l l.length (Nat.le_refl _)
  rw [List.take_length] at this
  exact this
theorem nmL_len (al : Bool) (xs : List Rx) (h : ∀ x ∈ xs, x.f1.length ≤ 5) : (nmL al xs).length ≤ 6 * xs.length := by
  induction xs with
  | nil => simp [nmL]
  | cons x r ih =>
    have h1 := h x List.mem_cons_self
    have h2 := ih (fun y hy => h y (List.mem_cons_of_mem _ hy))
    have e : nmL al (x :: r) = (if al then x.f0 :: x.f1 else [x.f0]) ++ nmL al r := rfl
    rw [e, List.length_append, List.length_cons]
    split
    · rw [List.length_cons]; omega
    · simp; omega
theorem alL_len (sk : Bool) (xs : List Rx) (h : ∀ x ∈ xs, x.f1.length ≤ 5) : (alL sk xs).length ≤ 6 * xs.length := by
  induction xs with
  | nil => simp [alL]
  | cons x r ih =>
    have h1 := h x List.mem_cons_self
    have h2 := ih (fun y hy => h y (List.mem_cons_of_mem _ hy))
    have e : alL sk (x :: r) = (if x.f1.length = 0 then (if sk then [] else [x.f0]) else x.f1) ++ alL sk r := rfl
    rw [e, List.length_append, List.length_cons]
    split
    · split <;> simp <;> omega
    · omega
theorem names_end (L : List (S28)) (a1 a2 : Bool) (hok : regOK (L.map tI) = true) : Evt (fun k => laws_FnRegNames.l0 k L a1 a2 (nmL a1 (L.map tI)) (alL a2 (L.map tI)) L (L.length : Int) (L.length : Int)) true := by
  have hF := regOK_facts hok
  have h5 : ∀ x ∈ L.map tI, x.f1.length ≤ 5 := fun x hx => (hF.2.1 x hx).n1
  have l1 := nmL_len a1 _ h5
  have l2 := alL_len a2 _ h5
  have h20 := hF.1
  have r1 : impl_RegNames.f L a1 = some (msB (nmL a1 (L.map tI))) := by unfold impl_RegNames.f rnF; rw [if_pos hok]
  have r2 : impl_RegAliases.f L a2 = some (msB (alL a2 (L.map tI))) := by unfold impl_RegAliases.f raF; rw [if_pos hok]
  have s1 : ∀ l : List ByteArray, l.length ≤ 1000000 → laws_sorted.f l = some (sortB l) := fun l hl => by unfold laws_sorted.f srF; rw [if_pos hl]
  have e1 : sortB (msB (nmL a1 (L.map tI))) = sortB (nmL a1 (L.map tI)) := sortB_perm (msB_perm _)
  have e2 : sortB (msB (alL a2 (L.map tI))) = sortB (alL a2 (L.map tI)) := sortB_perm (msB_perm _)
  have t1 := s1 (msB (nmL a1 (L.map tI))) (by rw [msB_len]; omega)
  have t2 := s1 (nmL a1 (L.map tI)) (by omega)
  have t3 := s1 (msB (alL a2 (L.map tI))) (by rw [msB_len]; omega)
  have t4 := s1 (alL a2 (L.map tI)) (by omega)
  rw [e1] at t1
  rw [e2] at t3
  have q1 := same (sortB (nmL a1 (L.map tI))) (by rw [sortB_len']; omega)
  have q2 := same (sortB (alL a2 (L.map tI))) (by rw [sortB_len']; omega)
  have hend : Evt (fun k => (laws_sameNames.f k (sortB (nmL a1 (L.map tI))) (sortB (nmL a1 (L.map tI)))).bind fun t => if t = true then (laws_sameNames.f k (sortB (alL a2 (L.map tI))) (sortB (alL a2 (L.map tI)))).bind fun t => if t = true then some true else some false else some false) true :=
    Evt.bind q1 (Evt.pos rfl (Evt.bind q2 (Evt.pos rfl (Evt.pure _))))
  refine Evt.step (fun k => ?_) hend
  simp only [laws_FnRegNames.l0]
  rw [if_neg (by omega), r1, Option.bind_some, t1, Option.bind_some, t2, Option.bind_some, r2]
  simp only [Option.bind_some, t3, t4, found_f]
theorem names_loop (L : List (S28)) (a1 a2 : Bool) (hok : regOK (L.map tI) = true) : ∀ d i : Nat, L.length = i + d → Evt (fun k => laws_FnRegNames.l0 k L a1 a2 (nmL a1 ((L.take i).map tI)) (alL a2 ((L.take i).map tI)) L (L.length : Int) (i : Int)) true := by
  have hF := regOK_facts hok
  rw [List.length_map] at hF
  intro d
  induction d with
  | zero =>
    intro i hi
    obtain rfl : i = L.length := by omega
    rw [List.take_length]
    exact names_end L a1 a2 hok
  | succ d ih =>
    intro i hi
    have hlt : i < L.length := by omega
    have ih' := ih (i + 1) (by omega)
    have ht : (L.take (i + 1)).map tI = (L.take i).map tI ++ [tI L[i]] := by rw [List.take_succ_eq_append_getElem hlt, List.map_append]; rfl
    rw [ht, nmL_snoc, alL_snoc] at ih'
    have h5 : ∀ x ∈ (L.take i).map tI, x.f1.length ≤ 5 := fun x hx => by
      obtain ⟨y, hy, rfl⟩ := List.mem_map.1 hx
      exact (hF.2.1 _ (List.mem_map.2 ⟨y, List.mem_of_mem_take hy, rfl⟩)).n1
    have l1 := nmL_len a1 _ h5
    have l2 := alL_len a2 _ h5
    rw [List.length_map, List.length_take] at l1 l2
    have hxi : L[i].f1.length ≤ 5 := (hF.2.1 _ (List.mem_map.2 ⟨L[i], List.getElem_mem hlt, rfl⟩)).n1
    generalize nmL a1 ((L.take i).map tI) = A at *
    generalize alL a2 ((L.take i).map tI) = C at *
    refine Evt.step (fun k => ?_) ih'
    simp only [laws_FnRegNames.l0]
    rw [if_pos (by omega), if_pos (by omega), if_pos (by omega), if_pos (by omega), rdI _ _ hlt, wrap_nat (by omega)]
    have hA1 : (A ++ [L[i].f0]).length + L[i].f1.length < 8796093022208 := by rw [List.length_append]; show A.length + 1 + _ < _; omega
    have hC1 : C.length + L[i].f1.length < 8796093022208 := by omega
    have hC2 : (C ++ L[i].f1).length < 8796093022208 := by rw [List.length_append]; omega
    simp only [Option.bind_some]
    rw [if_pos hC1, if_pos hA1, if_pos hC2]
    show (if a1 = true then _ else _) = laws_FnRegNames.l0 k L a1 a2 (A ++ if a1 = true then L[i].f0 :: L[i].f1 else [L[i].f0]) (C ++ if L[i].f1.length = 0 then (if a2 = true then [] else [L[i].f0]) else L[i].f1) L (L.length : Int) ((i + 1 : Nat) : Int)
    have hz : ∀ {α : Type} (p q : α), (if (L[i].f1.length : Int) = 0 then p else q) = if L[i].f1.length = 0 then p else q := fun p q => by
      by_cases h : L[i].f1.length = 0
      · rw [if_pos h, if_pos (by omega)]
      · rw [if_neg h, if_neg (by omega)]
    simp only [hz]
    by_cases h0 : L[i].f1.length = 0
    · have hn : L[i].f1 = [] := List.eq_nil_of_length_eq_zero h0
      have hC0 : C.length < 8796093022208 := by omega
      have hA0 : A.length + 1 < 8796093022208 := by omega
      cases a1 <;> cases a2 <;> simp [hn, hC0, hA0]
    · have hA0 : A.length + (L[i].f1.length + 1) < 8796093022208 := by omega
      have hA2 : A.length + 1 + L[i].f1.length < 8796093022208 := by omega
      cases a1 <;> cases a2 <;> simp [h0, hC1, hA0, hA2]
theorem FnRegNames : laws_FnRegNames.Pure := by
  intro l0 a1 a2 hl0
  suffices h : Evt (fun k => laws_FnRegNames.f k l0 a1 a2) true from h.get
  obtain ⟨b, hb, hbl⟩ := fits18 l0
  cases b with
  | false => exact Evt.congr (fun k => rfl) (Evt.bind hb (Evt.neg (by decide) (Evt.pure _)))
  | true =>
    refine Evt.congr (fun k => rfl) (Evt.bind hb (Evt.pos rfl ?_))
    have hr := reg_f l0 (hbl rfl) (fun x hx => by
      have := hl0.2 x hx
      exact ⟨this.1, this.2.1.2⟩)
    cases hok : regOK (l0.map tI) with
    | false =>
      rw [hok] at hr
      exact Evt.bind' hr (Evt.neg (by decide) (Evt.pure _))
    | true =>
      rw [hok] at hr
      refine Evt.bind' hr (Evt.pos rfl ?_)
      have := names_loop l0 a1 a2 hok l0.length 0 (by omega)
      exact this
end Go.Proofs.YtibjlefenodhaaaDoor.Pure
