/- In a token's place stands what the first change that names its type changes it to: the pure statement. -/
import Derived.Test.YtgpamoanclhbhaaDoorLines
set_option linter.unusedVariables false
set_option linter.unusedSimpArgs false
namespace Go.Proofs.YtgpamoanclhbhaaDoor.Pure
open Go.RowKit Go.Proofs.YtgpamoanclhbhaaDoorEvt Go.Proofs.YtgpamoanclhbhaaDoor.R Go.Proofs.YtgpamoanclhbhaaDoorW.PrintWords Go.Proofs.YtgpamoanclhbhaaDoorTok Go.Proofs.YtgpamoanclhbhaaDoorSplit Go.Proofs.YtgpamoanclhbhaaDoorLines
open ZCoal (rmL mapF toCC toTT)
abbrev Ch := S34
theorem rdCh (xs : List Ch) (i : Nat) (h : i < xs.length) : rd_T34 xs (i : Int) = xs[i] := by
  simp [rd_T34, List.getD_eq_getElem?_getD, h]
theorem fits23_loop (L : List Ch) (hn : L.length ≤ 2147483647) : ∀ d i : Nat, L.length = i + d →
    ∃ b, Evt (fun k => laws_zzFits23.l0 k L (L.length : Int) (i : Int)) b ∧ (b = true → ∀ x ∈ L.drop i, ∀ y ∈ x.f1, y.f1.size ≤ 2147483647) := by
  intro d
  induction d with
  | zero =>
    intro i hi
    refine ⟨true, Evt.step (h := fun _ => some _) (fun k => by simp only [laws_zzFits23.l0]; rw [if_neg (by omega)]) (Evt.pure _), fun _ x hx => ?_⟩
    rw [List.drop_eq_nil_of_le (by omega)] at hx
    cases hx
  | succ d ih =>
    intro i hi
    have hlt : i < L.length := by omega
    obtain ⟨b1, h1, h1'⟩ := fits L[i].f1
    obtain ⟨b2, h2, h2'⟩ := ih (i + 1) (by omega)
    have h24 : Evt (fun k => laws_zzFits24.f k L[i].f0 L[i].f1) b1 := by
      refine Evt.congr (fun k => rfl) (Evt.bind h1 ?_)
      cases b1 with
      | false => exact Evt.neg (by simp) (Evt.pure _)
      | true => exact Evt.pos rfl (Evt.pure _)
    have hst : ∀ k, laws_zzFits23.l0 (k + 1) L (L.length : Int) (i : Int) = (laws_zzFits24.f k L[i].f0 L[i].f1).bind fun t => if t = true then laws_zzFits23.l0 k L (L.length : Int) ((i + 1 : Nat) : Int) else some false := fun k => by
      simp only [laws_zzFits23.l0]
      rw [if_pos (by omega), if_pos (by omega), if_pos (by omega), rdCh _ _ hlt, wrap_nat (by omega)]
    cases b1 with
    | false => exact ⟨false, Evt.step hst (Evt.bind h24 (Evt.neg (by simp) (Evt.pure _))), fun h => by cases h⟩
    | true =>
      refine ⟨b2, Evt.step hst (Evt.bind h24 (Evt.pos rfl h2)), fun hb x hx => ?_⟩
      rw [List.drop_eq_getElem_cons hlt] at hx
      rcases List.mem_cons.1 hx with rfl | hx
      · exact (h1' rfl).2
      · exact h2' hb x hx
/-- A change as the law takes it. -/
def Fine (x : Ch) : Prop := x.f1.length ≤ 10 ∧ ∀ y ∈ x.f1, y.f0 ≠ 0
theorem guard_loop (cs : List Ch) (xs : List T) (hn : cs.length ≤ 20) (hs : ∀ x ∈ cs, ∀ y ∈ x.f1, y.f1.size ≤ 2147483647) : ∀ d i : Nat, cs.length = i + d →
    ((∀ x ∈ cs.drop i, Fine x) → Evt (fun k => laws_FnRemap.l1 k cs xs ([] : List T) xs (xs.length : Int) 0) true) → Evt (fun k => laws_FnRemap.l0 k cs xs cs (cs.length : Int) (i : Int)) true := by
  intro d
  induction d with
  | zero =>
    intro i hi h
    refine Evt.step (fun k => ?_) (h (fun x hx => ?_))
    · simp only [laws_FnRemap.l0]
      rw [if_neg (by omega)]
    · rw [List.drop_eq_nil_of_le (by omega)] at hx
      cases hx
  | succ d ih =>
    intro i hi h
    have hlt : i < cs.length := by omega
    by_cases h10 : (cs[i].f1.length : Int) > 10
    · refine Evt.step (h := fun _ => some true) (fun k => ?_) (Evt.pure _)
      simp only [laws_FnRemap.l0]
      rw [if_pos (by omega), if_pos (by omega), if_pos (by omega), rdCh _ _ hlt, if_pos h10]
    · obtain ⟨b, hb, hb'⟩ := small cs[i].f1 (by omega) (hs _ (List.getElem_mem hlt))
      have hst : ∀ k, laws_FnRemap.l0 (k + 1) cs xs cs (cs.length : Int) (i : Int) = (laws_small.f k cs[i].f1).bind fun t => if t = true then laws_FnRemap.l0 k cs xs cs (cs.length : Int) ((i + 1 : Nat) : Int) else some true := fun k => by
        simp only [laws_FnRemap.l0]
        rw [if_pos (by omega), if_pos (by omega), if_pos (by omega), rdCh _ _ hlt, if_neg h10, wrap_nat (by omega)]
      cases b with
      | false => exact Evt.step hst (Evt.bind hb (Evt.neg (by simp) (Evt.pure _)))
      | true =>
        refine Evt.step hst (Evt.bind hb (Evt.pos rfl (ih (i + 1) (by omega) (fun hf => h (fun x hx => ?_)))))
        rw [List.drop_eq_getElem_cons hlt] at hx
        rcases List.mem_cons.1 hx with rfl | hx
        · exact ⟨by omega, (hb' rfl).2.2⟩
        · exact hf x hx
/-- What stands in a token's place. -/
def mapT (cs : List Ch) (t : T) : List T := (mapF cs (toCC t)).map toTT
theorem back (l : List T) : (l.map toCC).map toTT = l := by
  rw [List.map_map]
  exact List.map_id' _
theorem hit_loop (cs : List Ch) (xs acc : List T) (i : Nat) (t : T) (hn : cs.length ≤ 20) (r : Bool) (h : Evt (fun k => laws_FnRemap.l1 k cs xs acc xs (xs.length : Int) (wrap64 ((i : Int) + 1))) r) : ∀ d j : Nat, cs.length = j + d →
    Evt (fun k => laws_FnRemap.l2 k cs xs acc true xs (xs.length : Int) (i : Int) cs (cs.length : Int) (j : Int) t.f0 t.f1) r := by
  intro d
  induction d with
  | zero =>
    intro j hj
    refine Evt.step (fun k => ?_) h
    simp only [laws_FnRemap.l2]
    rw [if_neg (by omega), if_pos trivial]
  | succ d ih =>
    intro j hj
    have hlt : j < cs.length := by omega
    refine Evt.step (fun k => ?_) (ih (j + 1) (by omega))
    simp only [laws_FnRemap.l2]
    rw [if_pos (by omega), if_pos (by omega), if_pos (by omega), rdCh _ _ hlt, wrap_nat (by omega)]
    by_cases he : cs[j].f0 = t.f0
    · rw [if_pos he, if_pos trivial]
    · rw [if_neg he]
theorem map_loop (cs : List Ch) (xs acc : List T) (i : Nat) (t : T) (hn : cs.length ≤ 20) (ha : acc.length ≤ 1000000) (hl : ∀ x ∈ cs, x.f1.length ≤ 10) (r : Bool) : ∀ d j : Nat, cs.length = j + d → Evt (fun k => laws_FnRemap.l1 k cs xs (acc ++ mapT (cs.drop j) t) xs (xs.length : Int) (wrap64 ((i : Int) + 1))) r →
    Evt (fun k => laws_FnRemap.l2 k cs xs acc false xs (xs.length : Int) (i : Int) cs (cs.length : Int) (j : Int) t.f0 t.f1) r := by
  intro d
  induction d with
  | zero =>
    intro j hj h
    rw [List.drop_eq_nil_of_le (by omega)] at h
    refine Evt.step (fun k => ?_) h
    simp only [laws_FnRemap.l2]
    rw [if_neg (by omega), if_neg (by simp), if_pos (by omega)]
    rfl
  | succ d ih =>
    intro j hj h
    have hlt : j < cs.length := by omega
    have hl1 := hl _ (List.getElem_mem hlt)
    rw [List.drop_eq_getElem_cons hlt] at h
    by_cases he : cs[j].f0 = t.f0
    · have e : mapT (cs[j] :: cs.drop (j + 1)) t = cs[j].f1 := by
        unfold mapT mapF
        rw [if_pos (show cs[j].f0 = (toCC t).f0 from he), back]
      rw [e] at h
      refine Evt.step (fun k => ?_) (hit_loop cs xs _ i t hn r h d (j + 1) (by omega))
      simp only [laws_FnRemap.l2]
      rw [if_pos (by omega), if_pos (by omega), if_pos (by omega), rdCh _ _ hlt, if_pos he, if_neg (by simp), if_pos (by omega), wrap_nat (by omega)]
    · have e : mapT (cs[j] :: cs.drop (j + 1)) t = mapT (cs.drop (j + 1)) t := by
        unfold mapT
        conv => lhs; unfold mapF
        rw [if_neg (show ¬ cs[j].f0 = (toCC t).f0 from he)]
      rw [e] at h
      refine Evt.step (fun k => ?_) (ih (j + 1) (by omega) h)
      simp only [laws_FnRemap.l2]
      rw [if_pos (by omega), if_pos (by omega), if_pos (by omega), rdCh _ _ hlt, if_neg he, wrap_nat (by omega)]
theorem mapT_len (t : T) : ∀ cs : List Ch, (∀ x ∈ cs, x.f1.length ≤ 10) → (mapT cs t).length ≤ 10
  | [], _ => by simp [mapT, mapF]
  | a :: r, h => by
    have h2 := mapT_len t r (fun x hx => h x (List.mem_cons_of_mem _ hx))
    have h1 := h a List.mem_cons_self
    unfold mapT at h2 ⊢
    unfold mapF
    split
    · rw [back]; exact h1
    · exact h2
/-- What the law does with what it wants. -/
def FINr (cs : List Ch) (xs want : List T) (k : Nat) : Option Bool :=
  (impl_Remap.f cs xs).bind fun t => (laws_same.f k t want).bind fun u => if u = true then (laws_waking.f k).bind fun z => some z else some false
theorem want_loop (cs : List Ch) (xs : List T) (hn : cs.length ≤ 20) (hx : xs.length ≤ 400) (hl : ∀ x ∈ cs, x.f1.length ≤ 10) (r : Bool) : ∀ (d i : Nat) (acc : List T), xs.length = i + d → acc.length ≤ 10 * i → Evt (fun k => FINr cs xs (acc ++ (xs.drop i).flatMap (mapT cs)) k) r →
    Evt (fun k => laws_FnRemap.l1 k cs xs acc xs (xs.length : Int) (i : Int)) r := by
  intro d
  induction d with
  | zero =>
    intro i acc hi ha h
    rw [List.drop_eq_nil_of_le (by omega), List.flatMap_nil, List.append_nil] at h
    refine Evt.step (fun k => ?_) h
    simp only [laws_FnRemap.l1]
    rw [if_neg (by omega)]
    rfl
  | succ d ih =>
    intro i acc hi ha h
    have hlt : i < xs.length := by omega
    have hm := mapT_len xs[i] cs hl
    rw [List.drop_eq_getElem_cons hlt, List.flatMap_cons, ← List.append_assoc] at h
    have h1 := ih (i + 1) (acc ++ mapT cs xs[i]) (by omega) (by rw [List.length_append]; omega) h
    have h2 := map_loop cs xs acc i xs[i] hn (by omega) hl r cs.length 0 (by omega) (by rw [List.drop_zero, wrap_nat (by omega)]; exact h1)
    refine Evt.step (fun k => ?_) h2
    simp only [laws_FnRemap.l1]
    rw [if_pos (by omega), if_pos (by omega), if_pos (by omega), rdT _ _ hlt]
    rfl
theorem rm_eq (cs : List Ch) (xs : List T) : (rmL cs [] (xs.map toCC)).map toTT = xs.flatMap (mapT cs) := by
  unfold rmL
  rw [List.nil_append]
  induction xs with
  | nil => rfl
  | cons a r ih => rw [List.map_cons, List.flatMap_cons, List.map_append, ih, List.flatMap_cons]; rfl
theorem FnRemap : laws_FnRemap.Pure := by
  intro l0 l1 _ _
  refine Evt.get ?_
  have hs0 : ∀ b3, b3 = true → Evt (fun k => laws_FnRemap.j0 k l0 l1 b3) true := fun b3 h3 => by
    subst h3
    exact Evt.step (h := fun _ => some true) (fun k => by simp only [laws_FnRemap.j0]; rw [if_pos trivial]) (Evt.pure _)
  have hs1 : ∀ b3, b3 = true → Evt (fun k => laws_FnRemap.j1 k l0 l1 b3) true := fun b3 h3 => by
    subst h3
    exact Evt.step (h := fun _ => some true) (fun k => by simp only [laws_FnRemap.j1]; rw [if_pos trivial]) (Evt.pure _)
  have hw : ∃ b, Evt (fun k => laws_zzFits23.f k l0) b ∧ (b = true → ∀ x ∈ l0, ∀ y ∈ x.f1, y.f1.size ≤ 2147483647) := by
    by_cases hn : (l0.length : Int) > 2147483647
    · exact ⟨false, Evt.of (fun k => by unfold laws_zzFits23.f; rw [if_pos hn]), fun h => by cases h⟩
    · obtain ⟨b, h1, h2⟩ := fits23_loop l0 (by omega) l0.length 0 (by omega)
      exact ⟨b, Evt.congr (fun k => by unfold laws_zzFits23.f; rw [if_neg hn]; rfl) h1, fun h => by simpa using h2 h⟩
  obtain ⟨b, hb, hb'⟩ := hw
  refine Evt.bind hb ?_
  cases b with
  | false => exact Evt.neg (by simp) (hs0 true rfl)
  | true =>
    have hsz := hb' rfl
    refine Evt.pos rfl ?_
    obtain ⟨b2, hb2, hb2'⟩ := fits l1
    refine Evt.bind hb2 ?_
    cases b2 with
    | false => exact hs0 _ rfl
    | true =>
      obtain ⟨h1, h2⟩ := hb2' rfl
      by_cases h20 : (l0.length : Int) > 20
      · refine Evt.step (fun k => ?_) (hs1 true rfl)
        simp only [laws_FnRemap.j0]
        rw [if_neg (by simp), if_pos h20]
      · have hst : ∀ k, laws_FnRemap.j0 (k + 1) l0 l1 (!true) = (laws_small.f k l1).bind fun t => laws_FnRemap.j1 k l0 l1 (!t) := fun k => by
          simp only [laws_FnRemap.j0]
          rw [if_neg (by simp), if_neg h20]
        obtain ⟨b3, hb3, hb3'⟩ := small l1 h1 h2
        refine Evt.step hst (Evt.bind hb3 ?_)
        cases b3 with
        | false => exact hs1 _ rfl
        | true =>
          obtain ⟨g1, g2, g3⟩ := hb3' rfl
          refine Evt.step (fun k => by simp only [laws_FnRemap.j1]; rw [if_neg (by simp)]; rfl) (guard_loop l0 l1 (by omega) hsz l0.length 0 (by omega) (fun hF => ?_))
          rw [List.drop_zero] at hF
          refine want_loop l0 l1 (by omega) g1 (fun x hx => (hF x hx).1) true l1.length 0 [] (by omega) (by simp) ?_
          rw [List.drop_zero, List.nil_append]
          have hT : impl_Remap.f l0 l1 = some (l1.flatMap (mapT l0)) := by
            unfold impl_Remap.f
            rw [if_pos ⟨by omega, List.all_eq_true.2 fun x hx => by
              have := hF x hx
              rw [Bool.and_eq_true, decide_eq_true_eq, List.all_eq_true]
              exact ⟨by have := this.1; omega, fun y hy => by simpa using this.2 y hy⟩, by omega, List.all_eq_true.2 fun x hx => by simpa using g3 x hx⟩, rm_eq]
          refine Evt.bind' hT ?_
          have hlen : (l1.flatMap (mapT l0)).length ≤ 2147483647 := by
            have h := ZCoal.rm_len l0 (fun x hx => by have := (hF x hx).1; omega) (l1.map toCC)
            rw [List.length_map] at h
            rw [← rm_eq, List.length_map]
            omega
          have hs := same (l1.flatMap (mapT l0)) (l1.flatMap (mapT l0)) hlen
          have hs2 : Evt (fun k => laws_same.f k (l1.flatMap (mapT l0)) (l1.flatMap (mapT l0))) true := by simpa using hs
          exact Evt.bind hs2 (Evt.pos rfl (Evt.bind waking (Evt.pure _)))
end Go.Proofs.YtgpamoanclhbhaaDoor.Pure
