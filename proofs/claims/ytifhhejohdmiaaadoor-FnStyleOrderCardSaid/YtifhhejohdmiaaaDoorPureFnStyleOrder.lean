/- The law FnStyleOrder: the printed statement. -/
import Derived.Test.YtifhhejohdmiaaaDoorOx3
set_option linter.unusedVariables false
set_option linter.unusedSimpArgs false
namespace Go.Proofs.YtifhhejohdmiaaaDoor.Pure
open Go.RowKit Go.Proofs.YtifhhejohdmiaaaDoorW.PrintWords Go.Proofs.YtifhhejohdmiaaaDoorFmt Go.Proofs.YtifhhejohdmiaaaDoorEnt Go.Proofs.YtifhhejohdmiaaaDoor.O
abbrev P := S49
/-! ### lines whose types differ: their order does not matter -/
theorem fold_far (l : List (Int × ByteArray)) : ∀ (f : Int → Option ByteArray) (k : Int), k ∉ l.map Prod.fst → l.foldl (fun f p => fun y => if y = p.1 then some p.2 else f y) f k = f k := by
  induction l with
  | nil => intro f k _; rfl
  | cons p l ih =>
    intro f k hk
    rw [List.map_cons, List.mem_cons, not_or] at hk
    rw [List.foldl_cons, ih _ k hk.2, if_neg hk.1]
theorem fold_mem (l : List (Int × ByteArray)) : ∀ (f : Int → Option ByteArray) (k : Int) (t : ByteArray), (l.map Prod.fst).Nodup → (k, t) ∈ l → l.foldl (fun f p => fun y => if y = p.1 then some p.2 else f y) f k = some t := by
  induction l with
  | nil => intro f k t _ h; cases h
  | cons p l ih =>
    intro f k t hn hm
    rw [List.map_cons, List.nodup_cons] at hn
    rw [List.foldl_cons]
    rcases List.mem_cons.1 hm with rfl | hm
    · rw [fold_far l _ _ hn.1, if_pos rfl]
    · exact ih _ k t hn.2 hm
theorem lineF_iff (l : List (Int × ByteArray)) (hn : (l.map Prod.fst).Nodup) (k : Int) (t : ByteArray) : lineF l k = some t ↔ (k, t) ∈ l :=
  ⟨lineF_mem l k t, fun h => fold_mem l _ k t hn h⟩
theorem lineF_perm {l l' : List (Int × ByteArray)} (hn : (l.map Prod.fst).Nodup) (hn' : (l'.map Prod.fst).Nodup) (h : ∀ p, p ∈ l ↔ p ∈ l') : lineF l = lineF l' := by
  funext k
  apply Option.ext
  intro t
  rw [lineF_iff l hn, lineF_iff l' hn', h]
theorem badL_perm {l l' : List (Int × ByteArray)} (hf : lineF l = lineF l') (h : ∀ p, p ∈ l ↔ p ∈ l') : badL l = badL l' := by
  unfold badL
  rw [hf, Bool.eq_iff_iff, List.any_eq_true, List.any_eq_true]
  exact ⟨fun ⟨p, h1, h2⟩ => ⟨p, (h p).1 h1, h2⟩, fun ⟨p, h1, h2⟩ => ⟨p, (h p).2 h1, h2⟩⟩
theorem get_perm {l l' : List P} (ask : List Int) (hn : (l.map (·.f0)).Nodup) (hn' : (l'.map (·.f0)).Nodup) (h : ∀ p, p ∈ l ↔ p ∈ l') (h1 : impl_StyleGet.okP l = true) (h2 : impl_StyleGet.okP l' = true) :
    impl_StyleGet.f l ask = impl_StyleGet.f l' ask := by
  have hm : ∀ p, p ∈ l.map impl_StyleGet.toP ↔ p ∈ l'.map impl_StyleGet.toP := fun p => by
    rw [List.mem_map, List.mem_map]
    exact ⟨fun ⟨x, a, b⟩ => ⟨x, (h x).1 a, b⟩, fun ⟨x, a, b⟩ => ⟨x, (h x).2 a, b⟩⟩
  have e1 : (l.map impl_StyleGet.toP).map Prod.fst = l.map (·.f0) := by rw [List.map_map]; rfl
  have e2 : (l'.map impl_StyleGet.toP).map Prod.fst = l'.map (·.f0) := by rw [List.map_map]; rfl
  have hf := lineF_perm (by rw [e1]; exact hn) (by rw [e2]; exact hn') hm
  have hb := badL_perm hf hm
  have he : lineE (l.map impl_StyleGet.toP) = lineE (l'.map impl_StyleGet.toP) := by unfold lineE; rw [hf]
  unfold impl_StyleGet.f
  rw [if_pos h1, if_pos h2, hb, he]
/-! ### the tests at the beginning -/
theorem rdP (l : List P) (i : Nat) (hi : i < l.length) : rd_T49 l (i : Int) = l[i] := by
  unfold rd_T49
  rw [Int.toNat_natCast, List.getD_eq_getElem?_getD, List.getElem?_eq_getElem hi]; rfl
theorem wsucc (i n : Nat) (hi : i < n) (hn : n ≤ 9223372036854775807) : wrap64 ((i : Int) + 1) = ((i + 1 : Nat) : Int) := by unfold wrap64; omega
theorem fits_l (l : List P) (hl : l.length ≤ 9223372036854775807) : ∀ (m i : Nat), i + m = l.length → ∃ b, Ev (fun k => laws_zzFits2.l0 k l (l.length : Int) (i : Int)) b := by
  intro m
  induction m with
  | zero =>
    intro i h
    exact ⟨true, Ev.step (f := fun _ => some true) (fun k => by rw [laws_zzFits2.l0, if_neg (by omega)]) (Ev.now true)⟩
  | succ m ih =>
    intro i h
    have hi : i < l.length := by omega
    obtain ⟨b, hb⟩ := ih (i + 1) (by omega)
    by_cases hz : ((l[i].f1).size : Int) > 2147483647
    · exact ⟨false, Ev.step (f := fun _ => some false) (fun k => by
        rw [laws_zzFits2.l0, if_pos (by omega), if_pos (by omega), if_pos (by omega), rdP l i hi, laws_zzFits3.f, if_pos hz]; rfl) (Ev.now false)⟩
    · exact ⟨b, Ev.step (fun k => by
        rw [laws_zzFits2.l0, if_pos (by omega), if_pos (by omega), if_pos (by omega), rdP l i hi, laws_zzFits3.f, if_neg hz, Option.bind_some, if_pos rfl, wsucc i _ hi hl]) hb⟩
theorem fits_ev (l : List P) (hl : l.length ≤ 9223372036854775807) : ∃ b, Ev (fun k => laws_zzFits2.f k l) b := by
  by_cases h : (l.length : Int) > 2147483647
  · exact ⟨false, Ev.congr (f := fun _ => some false) (fun k => by rw [laws_zzFits2.f, if_pos h]) (Ev.now false)⟩
  · obtain ⟨b, hb⟩ := fits_l l hl l.length 0 (by omega)
    exact ⟨b, Ev.congr (fun k => by rw [laws_zzFits2.f, if_neg h]; rfl) hb⟩
/-- Few lines, each short, and few types asked. -/
def Few (l : List P) (ask : List Int) : Prop := l.length ≤ 30 ∧ ask.length ≤ 30 ∧ ∀ p ∈ l, p.f1.size ≤ 100
theorem few_l (l : List P) (ask : List Int) (hl : l.length ≤ 9223372036854775807) : ∀ (m i : Nat), i + m = l.length → (∀ p ∈ l.take i, p.f1.size ≤ 100) →
    Ev (fun k => laws_few.l0 k l ask l (l.length : Int) (i : Int)) false ∨ (Ev (fun k => laws_few.l0 k l ask l (l.length : Int) (i : Int)) true ∧ Few l ask) := by
  intro m
  induction m with
  | zero =>
    intro i h hp
    have hi : i = l.length := by omega
    subst hi
    rw [List.take_length] at hp
    by_cases h1 : (l.length : Int) ≤ 30
    · by_cases h2 : (ask.length : Int) ≤ 30
      · exact .inr ⟨Ev.step (f := fun _ => some true) (fun k => by rw [laws_few.l0, if_neg (by omega), if_pos h1, decide_eq_true h2]) (Ev.now true), by omega, by omega, hp⟩
      · exact .inl (Ev.step (f := fun _ => some false) (fun k => by rw [laws_few.l0, if_neg (by omega), if_pos h1, decide_eq_false h2]) (Ev.now false))
    · exact .inl (Ev.step (f := fun _ => some false) (fun k => by rw [laws_few.l0, if_neg (by omega), if_neg h1]) (Ev.now false))
  | succ m ih =>
    intro i h hp
    have hi : i < l.length := by omega
    by_cases hz : ((l[i].f1).size : Int) > 100
    · exact .inl (Ev.step (f := fun _ => some false) (fun k => by
        rw [laws_few.l0, if_pos (by omega), if_pos (by omega), if_pos (by omega), rdP l i hi, if_pos hz]) (Ev.now false))
    · have hst : ∀ k, laws_few.l0 (k + 1) l ask l (l.length : Int) (i : Int) = laws_few.l0 k l ask l (l.length : Int) ((i + 1 : Nat) : Int) := fun k => by
        rw [laws_few.l0, if_pos (by omega), if_pos (by omega), if_pos (by omega), rdP l i hi, if_neg hz, wsucc i _ hi hl]
      rcases ih (i + 1) (by omega) (fun p hm => by
        rw [List.take_succ_eq_append_getElem hi, List.mem_append, List.mem_singleton] at hm
        rcases hm with hm | rfl
        · exact hp p hm
        · omega) with h1 | ⟨h1, h2⟩
      · exact .inl (Ev.step hst h1)
      · exact .inr ⟨Ev.step hst h1, h2⟩
theorem few_ev (l : List P) (ask : List Int) (hl : l.length ≤ 9223372036854775807) : Ev (fun k => laws_few.f k l ask) false ∨ (Ev (fun k => laws_few.f k l ask) true ∧ Few l ask) :=
  few_l l ask hl l.length 0 (by omega) (fun p hp => by rw [List.take_zero] at hp; cases hp)
theorem okP_few {l : List P} {ask : List Int} (h : Few l ask) (hw : ∀ x ∈ l, wf_S49 x) : impl_StyleGet.okP l = true := by
  unfold impl_StyleGet.okP
  rw [Bool.and_eq_true, decide_eq_true_eq, List.all_eq_true]
  refine ⟨by have := h.1; omega, fun x hx => ?_⟩
  rw [Bool.and_eq_true, decide_eq_true_eq]
  refine ⟨?_, by have := h.2.2 x hx; omega⟩
  have := (hw x hx).1
  simpa [Lit.wf] using this
theorem okA_few {l : List P} {ask : List Int} (h : Few l ask) (hw : ∀ x ∈ ask, IntKind.i64.min ≤ x ∧ x ≤ IntKind.i64.max) : impl_StyleGet.okA ask = true := by
  unfold impl_StyleGet.okA
  rw [Bool.and_eq_true, decide_eq_true_eq, List.all_eq_true]
  refine ⟨by have := h.2.1; omega, fun x hx => ?_⟩
  have := hw x hx
  simpa [Lit.wf] using this
/-! ### the compare at the end -/
theorem rdE (l : List (S23)) (i : Nat) (hi : i < l.length) : rd_T23 l (i : Int) = l[i] := by
  unfold rd_T23
  rw [Int.toNat_natCast, List.getD_eq_getElem?_getD, List.getElem?_eq_getElem hi]; rfl
theorem same_l (l : List (S23)) (b : Bool) (hl : l.length ≤ 9223372036854775807) : ∀ (m i : Nat), i + m = l.length → Ev (fun k => laws_FnStyleOrder.l2 k l b l (l.length : Int) (i : Int)) true := by
  intro m
  induction m with
  | zero =>
    intro i h
    exact Ev.step (f := fun _ => some true) (fun k => by rw [laws_FnStyleOrder.l2, if_neg (by omega)]; rfl) (Ev.now true)
  | succ m ih =>
    intro i h
    have hi : i < l.length := by omega
    refine Ev.step (fun k => ?_) (ih (i + 1) (by omega))
    rw [laws_FnStyleOrder.l2, if_pos (by omega), wsucc i _ hi hl]
    by_cases hb : b = true
    · rw [if_pos hb, if_pos (by omega), if_pos (by omega), if_pos (by omega), if_neg (by simp)]
    · rw [if_neg hb]
theorem get_some (l : List P) (ask : List Int) (h1 : impl_StyleGet.okP l = true) (h2 : impl_StyleGet.okA ask = true) : ∃ a b, impl_StyleGet.f l ask = some (a, b) ∧ a.length ≤ ask.length := by
  unfold impl_StyleGet.f
  rw [if_pos h1, if_pos h2]
  cases badL (l.map impl_StyleGet.toP) with
  | true => exact ⟨[], false, by rw [if_pos rfl], by simp⟩
  | false => exact ⟨_, true, by rw [if_neg (by decide)], by simp⟩
/-! ### the loops over pairs of lines -/
theorem inner_l (l : List P) (a1 : Int) (ask : List Int) (hl : l.length ≤ 9223372036854775807) (i : Nat) (hi : i < l.length) (hn : ((l.take i).map (·.f0)).Nodup)
    (ih : ((l.take (i + 1)).map (·.f0)).Nodup → Ev (fun k => laws_FnStyleOrder.l0 k l a1 ask l (l.length : Int) ((i + 1 : Nat) : Int)) true) :
    ∀ (m j : Nat), j + m = i → (∀ p ∈ (l.take i).take j, p.f0 ≠ l[i].f0) →
      Ev (fun k => laws_FnStyleOrder.l1 k l a1 ask l (l.length : Int) (i : Int) (l.take i) ((l.take i).length : Int) (j : Int) l[i].f0 l[i].f1) true := by
  have hlen : (l.take i).length = i := by rw [List.length_take]; omega
  intro m
  induction m with
  | zero =>
    intro j h hp
    have hj : j = i := by omega
    subst hj
    refine Ev.step (fun k => by rw [laws_FnStyleOrder.l1, if_neg (by rw [hlen]; omega), wsucc j _ hi hl]) (ih ?_)
    rw [List.take_succ_eq_append_getElem hi, List.map_append, List.nodup_append]
    refine ⟨hn, by simp, fun a ha b hb => ?_⟩
    rw [List.map_singleton, List.mem_singleton] at hb
    obtain ⟨p, hp', rfl⟩ := List.mem_map.1 ha
    rw [hb]
    exact hp p (by rw [List.take_take, Nat.min_self]; exact hp')
  | succ m ihm =>
    intro j h hp
    have hj : j < (l.take i).length := by omega
    by_cases he : l[i].f0 = (l.take i)[j].f0
    · exact Ev.step (f := fun _ => some true) (fun k => by rw [laws_FnStyleOrder.l1, if_pos (by omega), if_pos (by omega), if_pos (by omega), rdP _ j hj, if_pos he]) (Ev.now true)
    · refine Ev.step (fun k => by rw [laws_FnStyleOrder.l1, if_pos (by omega), if_pos (by omega), if_pos (by omega), rdP _ j hj, if_neg he, wsucc j _ hj (by omega)]) (ihm (j + 1) (by omega) ?_)
      intro p hm
      rw [List.take_succ_eq_append_getElem hj, List.mem_append, List.mem_singleton] at hm
      rcases hm with hm | rfl
      · exact hp p hm
      · exact fun e => he e.symm
theorem outer_l (l : List P) (a1 : Int) (ask : List Int) (hl : l.length ≤ 9223372036854775807) (hend : (l.map (·.f0)).Nodup → Ev (fun k => laws_FnStyleOrder.l0 k l a1 ask l (l.length : Int) (l.length : Int)) true) : ∀ (m i : Nat), i + m = l.length → ((l.take i).map (·.f0)).Nodup → Ev (fun k => laws_FnStyleOrder.l0 k l a1 ask l (l.length : Int) (i : Int)) true := by
  intro m
  induction m with
  | zero =>
    intro i h hn
    have hi : i = l.length := by omega
    subst hi
    rw [List.take_length] at hn
    exact hend hn
  | succ m ih =>
    intro i h hn
    have hi : i < l.length := by omega
    have hin := inner_l l a1 ask hl i hi hn (fun hn' => ih (i + 1) (by omega) hn') i 0 (by omega) (fun p hp => by rw [List.take_zero] at hp; cases hp)
    refine Ev.step (fun k => ?_) hin
    rw [laws_FnStyleOrder.l0, if_pos (by omega), if_pos (by omega), if_pos (by omega), if_pos (by omega), Option.bind_some, rdP l i hi, Int.toNat_natCast]
    rfl
theorem FnStyleOrder : laws_FnStyleOrder.Pure := by
  intro l a1 ask hl ha hask
  obtain ⟨hl, hw⟩ := hl
  obtain ⟨hal, hask⟩ := hask
  have ha' : 0 ≤ a1 ∧ a1 ≤ 255 := by
    have : IntKind.u8.min ≤ a1 ∧ a1 ≤ IntKind.u8.max := by simpa [Lit.wf] using ha
    exact this
  apply Ev.rounds
  obtain ⟨b, hb⟩ := fits_ev l hl
  have hj0 : Ev (fun k => laws_FnStyleOrder.j0 k l a1 ask true) true := Ev.step (f := fun _ => some true) (fun k => by rw [laws_FnStyleOrder.j0, if_pos rfl]) (Ev.now true)
  have key : Ev (fun k => if b = true then laws_FnStyleOrder.j0 k l a1 ask (decide ((ask.length : Int) > 2147483647)) else laws_FnStyleOrder.j0 k l a1 ask true) true := by
    cases b with
    | false => exact Ev.congr (fun k => by rw [if_neg (by decide)]) hj0
    | true =>
      refine Ev.congr (fun k => by rw [if_pos rfl]) ?_
      by_cases hz : (ask.length : Int) > 2147483647
      · rw [decide_eq_true hz]; exact hj0
      · rw [decide_eq_false hz]
        have hs : ∀ k, laws_FnStyleOrder.j0 (k + 1) l a1 ask false = (laws_few.f k l ask).bind fun t => if t = true then laws_FnStyleOrder.l0 k l a1 ask l (l.length : Int) 0 else some true := fun k => by
          rw [laws_FnStyleOrder.j0, if_neg (by decide)]
        refine Ev.step hs ?_
        rcases few_ev l ask hl with h | ⟨h, hf⟩
        · exact Ev.bind h (Ev.congr (f := fun _ => some true) (fun k => by rw [if_neg (by decide)]) (Ev.now true))
        · refine Ev.bind h (Ev.congr (fun k => by rw [if_pos rfl]) ?_)
          refine outer_l l a1 ask hl (fun hn => ?_) l.length 0 (by omega) (by rw [List.take_zero]; simp)
          have hP := okP_few hf hw
          have hA := okA_few hf hask
          obtain ⟨ea, eb, he, hel⟩ := get_some l ask hP hA
          have w1 : wrap64 ((l.length : Int) + 1) = ((l.length + 1 : Nat) : Int) := by have := hf.1; unfold wrap64; omega
          have w2 : wrap64 a1 = a1 := by unfold wrap64; omega
          have hk : ∃ kn : Nat, Int.tmod (wrap64 a1) (wrap64 ((l.length : Int) + 1)) = (kn : Int) ∧ kn ≤ l.length := by
            rw [w1, w2, Int.tmod_eq_emod_of_nonneg ha'.1]
            have h0 := Int.emod_nonneg a1 (show ((l.length + 1 : Nat) : Int) ≠ 0 by omega)
            have h1 := Int.emod_lt_of_pos a1 (show (0 : Int) < ((l.length + 1 : Nat) : Int) by omega)
            exact ⟨(a1 % ((l.length + 1 : Nat) : Int)).toNat, by omega, by omega⟩
          obtain ⟨kn, hk, hkl⟩ := hk
          have hmem : ∀ p, p ∈ l ↔ p ∈ l.drop kn ++ l.take kn := fun p => by
            rw [List.mem_append]
            conv => lhs; rw [← List.take_append_drop kn l, List.mem_append]
            exact Or.comm
          have hn' : ((l.drop kn ++ l.take kn).map (·.f0)).Nodup := by
            have hp : ((l.drop kn ++ l.take kn).map (·.f0)).Perm (l.map (·.f0)) := by
              refine List.Perm.map _ ?_
              have := List.perm_append_comm (l₁ := l.drop kn) (l₂ := l.take kn)
              rwa [List.take_append_drop] at this
            exact hp.symm.nodup hn
          have hP' : impl_StyleGet.okP (l.drop kn ++ l.take kn) = true := by
            refine okP_few (ask := ask) ⟨?_, hf.2.1, fun p hp => hf.2.2 p ((hmem p).2 hp)⟩ (fun p hp => hw p ((hmem p).2 hp))
            rw [List.length_append, List.length_drop, List.length_take]
            have := hf.1
            omega
          have he' : impl_StyleGet.f (l.drop kn ++ l.take kn) ask = some (ea, eb) := by rw [← get_perm ask hn hn' hmem hP hP', he]
          have hs2 := same_l ea eb (by omega) ea.length 0 (by omega)
          have hj3 : Ev (fun k => laws_FnStyleOrder.j3 k ea eb ea false) true := Ev.step (fun k => by rw [laws_FnStyleOrder.j3, if_neg (by decide)]; rfl) hs2
          refine Ev.step (fun k => ?_) hj3
          have h30 := hf.1
          rw [laws_FnStyleOrder.l0, if_neg (by omega), if_neg (by rw [w1]; omega), he, Option.bind_some, hk, if_pos (by omega), if_pos (by omega), Option.bind_some, Int.toNat_natCast, if_pos (by simp; omega), Option.bind_some, Option.bind_some, if_pos (by simp; omega), List.nil_append, he', Option.bind_some]
          simp only
          rw [if_neg (by simp)]
          simp only [bne_self_eq_false]
  exact Ev.bind hb key
end Go.Proofs.YtifhhejohdmiaaaDoor.Pure
