/- The law FnStyleTypes: the printed statement. -/
import Derived.Test.YtjemdgmihbmgeaaGreatDoorTx2
set_option linter.unusedVariables false
set_option linter.unusedSimpArgs false
namespace Go.Proofs.YtjemdgmihbmgeaaGreatDoor.Pure
open Go.RowKit Go.Proofs.YtjemdgmihbmgeaaGreatDoorW.PrintWords Go.Proofs.YtjemdgmihbmgeaaGreatDoorFmt Go.Proofs.YtjemdgmihbmgeaaGreatDoorEnt Go.Proofs.YtjemdgmihbmgeaaGreatDoor.T
abbrev P := S54
/-! ### the tests at the beginning -/
theorem rdP (l : List P) (i : Nat) (hi : i < l.length) : rd_T54 l (i : Int) = l[i] := by
  unfold rd_T54
  rw [Int.toNat_natCast, List.getD_eq_getElem?_getD, List.getElem?_eq_getElem hi]; rfl
theorem wsucc (i n : Nat) (hi : i < n) (hn : n ≤ 9223372036854775807) : wrap64 ((i : Int) + 1) = ((i + 1 : Nat) : Int) := by unfold wrap64; omega
theorem fits_l (l : List P) (hl : l.length ≤ 9223372036854775807) : ∀ (m i : Nat), i + m = l.length → ∃ b, Ev (fun k => laws_zzFits2.l0 k l (l.length : Int) (i : Int)) b := by
  intro m
  induction m with
  | zero =>
    intro i h
    exact ⟨true, Ev.step (f := fun _ => some true) (fun k => by rw [laws_zzFits2.l0, if_neg (by omega)]) (Ev.now true)⟩
  | succ m ih =>
    intro i h
    have hi : i < l.length := by omega
    obtain ⟨b, hb⟩ := ih (i + 1) (by omega)
    by_cases hz : ((l[i].f1).size : Int) > 2147483647
    · exact ⟨false, Ev.step (f := fun _ => some false) (fun k => by
        rw [laws_zzFits2.l0, if_pos (by omega), if_pos (by omega), if_pos (by omega), rdP l i hi, laws_zzFits3.f, if_pos hz]; rfl) (Ev.now false)⟩
    · exact ⟨b, Ev.step (fun k => by
        rw [laws_zzFits2.l0, if_pos (by omega), if_pos (by omega), if_pos (by omega), rdP l i hi, laws_zzFits3.f, if_neg hz, Option.bind_some, if_pos rfl, wsucc i _ hi hl]) hb⟩
theorem fits_ev (l : List P) (hl : l.length ≤ 9223372036854775807) : ∃ b, Ev (fun k => laws_zzFits2.f k l) b := by
  by_cases h : (l.length : Int) > 2147483647
  · exact ⟨false, Ev.congr (f := fun _ => some false) (fun k => by rw [laws_zzFits2.f, if_pos h]) (Ev.now false)⟩
  · obtain ⟨b, hb⟩ := fits_l l hl l.length 0 (by omega)
    exact ⟨b, Ev.congr (fun k => by rw [laws_zzFits2.f, if_neg h]; rfl) hb⟩
/-- Few lines, each short, and few types asked. -/
def Few (l : List P) (ask : List Int) : Prop := l.length ≤ 30 ∧ ask.length ≤ 30 ∧ ∀ p ∈ l, p.f1.size ≤ 100
theorem few_l (l : List P) (ask : List Int) (hl : l.length ≤ 9223372036854775807) : ∀ (m i : Nat), i + m = l.length → (∀ p ∈ l.take i, p.f1.size ≤ 100) →
    Ev (fun k => laws_few.l0 k l ask l (l.length : Int) (i : Int)) false ∨ (Ev (fun k => laws_few.l0 k l ask l (l.length : Int) (i : Int)) true ∧ Few l ask) := by
  intro m
  induction m with
  | zero =>
    intro i h hp
    have hi : i = l.length := by omega
    subst hi
    rw [List.take_length] at hp
    by_cases h1 : (l.length : Int) ≤ 30
    · by_cases h2 : (ask.length : Int) ≤ 30
      · exact .inr ⟨Ev.step (f := fun _ => some true) (fun k => by rw [laws_few.l0, if_neg (by omega), if_pos h1, decide_eq_true h2]) (Ev.now true), by omega, by omega, hp⟩
      · exact .inl (Ev.step (f := fun _ => some false) (fun k => by rw [laws_few.l0, if_neg (by omega), if_pos h1, decide_eq_false h2]) (Ev.now false))
    · exact .inl (Ev.step (f := fun _ => some false) (fun k => by rw [laws_few.l0, if_neg (by omega), if_neg h1]) (Ev.now false))
  | succ m ih =>
    intro i h hp
    have hi : i < l.length := by omega
    by_cases hz : ((l[i].f1).size : Int) > 100
    · exact .inl (Ev.step (f := fun _ => some false) (fun k => by
        rw [laws_few.l0, if_pos (by omega), if_pos (by omega), if_pos (by omega), rdP l i hi, if_pos hz]) (Ev.now false))
    · have hst : ∀ k, laws_few.l0 (k + 1) l ask l (l.length : Int) (i : Int) = laws_few.l0 k l ask l (l.length : Int) ((i + 1 : Nat) : Int) := fun k => by
        rw [laws_few.l0, if_pos (by omega), if_pos (by omega), if_pos (by omega), rdP l i hi, if_neg hz, wsucc i _ hi hl]
      rcases ih (i + 1) (by omega) (fun p hm => by
        rw [List.take_succ_eq_append_getElem hi, List.mem_append, List.mem_singleton] at hm
        rcases hm with hm | rfl
        · exact hp p hm
        · omega) with h1 | ⟨h1, h2⟩
      · exact .inl (Ev.step hst h1)
      · exact .inr ⟨Ev.step hst h1, h2⟩
theorem few_ev (l : List P) (ask : List Int) (hl : l.length ≤ 9223372036854775807) : Ev (fun k => laws_few.f k l ask) false ∨ (Ev (fun k => laws_few.f k l ask) true ∧ Few l ask) :=
  few_l l ask hl l.length 0 (by omega) (fun p hp => by rw [List.take_zero] at hp; cases hp)
theorem okP_few {l : List P} {ask : List Int} (h : Few l ask) (hw : ∀ x ∈ l, wf_S54 x) : impl_StyleGet.okP l = true := by
  unfold impl_StyleGet.okP
  rw [Bool.and_eq_true, decide_eq_true_eq, List.all_eq_true]
  refine ⟨by have := h.1; omega, fun x hx => ?_⟩
  rw [Bool.and_eq_true, decide_eq_true_eq]
  refine ⟨?_, by have := h.2.2 x hx; omega⟩
  have := (hw x hx).1
  simpa [Lit.wf] using this
theorem okA_few {l : List P} {ask : List Int} (h : Few l ask) (hw : ∀ x ∈ ask, IntKind.i64.min ≤ x ∧ x ≤ IntKind.i64.max) : impl_StyleGet.okA ask = true := by
  unfold impl_StyleGet.okA
  rw [Bool.and_eq_true, decide_eq_true_eq, List.all_eq_true]
  refine ⟨by have := h.2.1; omega, fun x hx => ?_⟩
  have := hw x hx
  simpa [Lit.wf] using this
/-! ### a style's lines: the later one of a type counts -/
theorem fold_or (l : List (Int × ByteArray)) : ∀ (f : Int → Option ByteArray) (t : Int), l.foldl (fun f p => fun y => if y = p.1 then some p.2 else f y) f t = (lineF l t).or (f t) := by
  induction l with
  | nil => intro f t; rfl
  | cons p l ih =>
    intro f t
    have e : lineF (p :: l) t = (lineF l t).or (if t = p.1 then some p.2 else none) := by
      unfold lineF
      rw [List.foldl_cons, ih]
      rfl
    rw [List.foldl_cons, ih, e]
    by_cases h : t = p.1
    · rw [if_pos h, if_pos h]; cases lineF l t <;> rfl
    · rw [if_neg h, if_neg h]; cases lineF l t <;> rfl
theorem lineF_cons (p : Int × ByteArray) (l : List (Int × ByteArray)) (t : Int) : lineF (p :: l) t = (lineF l t).or (if t = p.1 then some p.2 else none) := by
  unfold lineF
  rw [List.foldl_cons, fold_or]
  rfl
theorem lineF_none (l : List (Int × ByteArray)) (t : Int) : l.any (fun q => q.1 == t) = false ↔ lineF l t = none := by
  induction l with
  | nil => exact ⟨fun _ => rfl, fun _ => rfl⟩
  | cons p l ih =>
    rw [List.any_cons, Bool.or_eq_false_iff, ih, lineF_cons]
    constructor
    · rintro ⟨h1, h2⟩
      rw [h2, if_neg (fun e => by rw [e] at h1; simp at h1)]
      rfl
    · intro h
      cases h2 : lineF l t with
      | some s => rw [h2] at h; cases h
      | none =>
        rw [h2] at h
        by_cases e : t = p.1
        · rw [if_pos e] at h; cases h
        · exact ⟨beq_eq_false_iff_ne.2 (fun x => e x.symm), rfl⟩
theorem lineF_skip (p : Int × ByteArray) (r : List (Int × ByteArray)) (h : r.any (fun q => q.1 == p.1) = true) : lineF (p :: r) = lineF r := by
  funext t
  rw [lineF_cons]
  cases h2 : lineF r t with
  | some s => rfl
  | none =>
    rw [if_neg]
    · rfl
    · intro e
      rw [← e, (lineF_none r t).2 h2] at h
      cases h
def gF (l : List (Int × ByteArray)) (t : Int) : Option (Int × Ent) := ((lineF l t).bind pse).bind fun e => if isZ e = true then none else some (t, e)
theorem told_cases {s : ByteArray} (hs : s.size ≤ 200) (h : told s = 1) : (∃ e, pse s = some e ∧ eEnt s = e ∧ eOk s = true) ∨ (pse s = none ∧ eOk s = false) := by
  rcases (eRes_f s hs).2 with h2 | ⟨e, h1, h2, h3, _⟩ | ⟨h1, h2, _⟩
  · omega
  · exact .inl ⟨e, h1, h2, h3⟩
  · exact .inr ⟨h1, h2⟩
theorem made_inl : ∀ (l : List (Int × ByteArray)) (acc : Lines) (n : Int), (∀ p ∈ l, p.2.size ≤ 200) → madeF l acc = .inl n → n = 2 ∨ (n = 1 ∧ ∃ k s, lineF l k = some s ∧ pse s = none)
  | [], acc, n, _, h => by unfold madeF at h; cases h
  | p :: r, acc, n, hs, h => by
    have hr : ∀ q ∈ r, q.2.size ≤ 200 := fun q hq => hs q (List.mem_cons_of_mem _ hq)
    have hp := hs p List.mem_cons_self
    unfold madeF at h
    by_cases hl : r.any (fun q => q.1 == p.1) = true
    · rw [if_pos hl] at h
      rw [lineF_skip p r hl]
      exact made_inl r acc n hr h
    · rw [if_neg hl] at h
      have hn : lineF r p.1 = none := (lineF_none r p.1).1 (Bool.eq_false_iff.2 hl)
      by_cases ht : told p.2 = 1
      · rw [if_pos ht] at h
        rcases told_cases hp ht with ⟨e, h1, h2, h3⟩ | ⟨h1, h2⟩
        · rw [if_pos h3] at h
          rcases made_inl r _ n hr h with h4 | ⟨h4, k, s, h5, h6⟩
          · exact .inl h4
          · exact .inr ⟨h4, k, s, by rw [lineF_cons, h5]; rfl, h6⟩
        · rw [if_neg (by rw [h2]; decide)] at h
          injection h with h
          exact .inr ⟨h.symm, p.1, p.2, by rw [lineF_cons, hn, if_pos rfl]; rfl, h1⟩
      · rw [if_neg ht] at h
        injection h with h
        rcases (eRes_f p.2 hp).2 with h2 | ⟨_, _, _, _, h2⟩ | ⟨_, _, h2⟩
        · exact .inl (by omega)
        · exact absurd h2 ht
        · exact absurd h2 ht
theorem made_inr : ∀ (l : List (Int × ByteArray)) (acc ls : Lines), (∀ p ∈ l, p.2.size ≤ 200) → madeF l acc = .inr ls →
    (∀ k s, lineF l k = some s → pse s ≠ none) ∧ ∀ t, ls.find? (hit t) = (acc.find? (hit t)).or (gF l t)
  | [], acc, ls, _, h => by
    unfold madeF at h
    injection h with h
    subst h
    refine ⟨fun k s h => (by cases h), fun t => ?_⟩
    show _ = (acc.find? (hit t)).or none
    rw [Option.or_none]
  | p :: r, acc, ls, hs, h => by
    have hr : ∀ q ∈ r, q.2.size ≤ 200 := fun q hq => hs q (List.mem_cons_of_mem _ hq)
    have hp := hs p List.mem_cons_self
    unfold madeF at h
    by_cases hl : r.any (fun q => q.1 == p.1) = true
    · rw [if_pos hl] at h
      unfold gF
      rw [lineF_skip p r hl]
      exact made_inr r acc ls hr h
    · rw [if_neg hl] at h
      have hn : lineF r p.1 = none := (lineF_none r p.1).1 (Bool.eq_false_iff.2 hl)
      by_cases ht : told p.2 = 1
      · rw [if_pos ht] at h
        rcases told_cases hp ht with ⟨e, h1, h2, h3⟩ | ⟨h1, h2⟩
        · rw [if_pos h3, h2] at h
          obtain ⟨i1, i2⟩ := made_inr r _ ls hr h
          refine ⟨fun k s hk => ?_, fun t => ?_⟩
          · rw [lineF_cons] at hk
            cases h4 : lineF r k with
            | some s' => rw [h4] at hk; injection hk with hk; subst hk; exact i1 k s' h4
            | none =>
              rw [h4] at hk
              by_cases e2 : k = p.1
              · rw [if_pos e2] at hk
                have hk : some p.2 = some s := hk
                injection hk with hk
                rw [← hk, h1]; simp
              · rw [if_neg e2] at hk; cases hk
          · rw [i2 t, List.find?_append]
            have hg : gF (p :: r) t = (if hit t (p.1, e) = true then some (p.1, e) else none).or (gF r t) := by
              unfold gF
              rw [lineF_cons]
              by_cases e2 : t = p.1
              · subst e2
                rw [hn, if_pos rfl]
                show ((some p.2).bind pse).bind _ = _
                rw [Option.bind_some, h1]
                unfold hit
                cases hz : isZ e <;> simp [hz]
              · have hh0 : hit t (p.1, e) = false := by
                  unfold hit
                  rw [beq_eq_false_iff_ne.2 (fun x : p.1 = t => e2 x.symm)]
                  rfl
                rw [if_neg e2, Option.or_none, hh0, if_neg (by decide), Option.none_or]
            rw [hg, Option.or_assoc]
            congr 2
            cases hh : hit t (p.1, e) <;> simp [hh]
        · rw [if_neg (by rw [h2]; decide)] at h
          cases h
      · rw [if_neg ht] at h
        cases h
theorem isZ_zero {e : Ent} (h : isZ e = true) : e = zeroE := by
  obtain ⟨c, b, o, bo, it, un, ni⟩ := e
  unfold isZ at h
  simp at h
  obtain ⟨⟨⟨⟨⟨⟨h1, h2⟩, h3⟩, h4⟩, h5⟩, h6⟩, h7⟩ := h
  subst h1 h2 h3 h4 h5 h6 h7
  rfl
theorem own_at (l : List (Int × ByteArray)) (ls : Lines) (hs : ∀ p ∈ l, p.2.size ≤ 200) (h : madeF l [] = .inr ls) (t : Int) : ownL [ls] t = at0 (lineE l) t := by
  have hf := (made_inr l [] ls hs h).2 t
  have hf : ls.find? (hit t) = gF l t := hf
  show ownS ls t zeroE = _
  unfold gF at hf
  unfold at0 lineE
  cases hq : (lineF l t).bind pse with
  | none => rw [hq] at hf; exact ownS_none hf
  | some e =>
    rw [hq, Option.bind_some] at hf
    by_cases hz : isZ e = true
    · rw [if_pos hz] at hf
      rw [ownS_none hf, isZ_zero hz]
      rfl
    · rw [if_neg hz] at hf
      exact ownS_some hf
theorem made_keys : ∀ (l : List (Int × ByteArray)) (acc ls : Lines), madeF l acc = .inr ls → ∀ x, x ∈ ls.map (·.1) ↔ x ∈ acc.map (·.1) ∨ x ∈ l.map (·.1)
  | [], acc, ls, h, x => by
    unfold madeF at h
    injection h with h
    subst h
    simp
  | p :: r, acc, ls, h, x => by
    unfold madeF at h
    by_cases hl : r.any (fun q => q.1 == p.1) = true
    · rw [if_pos hl] at h
      rw [made_keys r acc ls h x, List.map_cons, List.mem_cons]
      constructor
      · rintro (h1 | h1)
        · exact .inl h1
        · exact .inr (.inr h1)
      · rintro (h1 | h1 | h1)
        · exact .inl h1
        · obtain ⟨q, hq, he⟩ := List.any_eq_true.1 hl
          refine .inr (List.mem_map.2 ⟨q, hq, ?_⟩)
          rw [h1]; exact beq_iff_eq.1 he
        · exact .inr h1
    · rw [if_neg hl] at h
      split at h
      · split at h
        · rw [made_keys r _ ls h x, List.map_append, List.mem_append]
          simp only [List.map_cons, List.map_nil, List.mem_cons, List.not_mem_nil, or_false]
          exact or_assoc
        · cases h
      · cases h
theorem types_same {lp : List (Int × ByteArray)} {ls : Lines} (h : madeF lp [] = .inr ls) : typesS ls = typesK (lp.map (·.1)) := by
  rw [typesS_K]
  refine asc_uniq _ _ (typesK_asc _) (typesK_asc _) (fun x => ?_)
  rw [typesK_mem, typesK_mem, made_keys lp [] ls h x]
  simp
theorem rdI (l : List Int) (i : Nat) (hi : i < l.length) : rd l (i : Int) = l[i] := by
  unfold rd
  rw [Int.toNat_natCast, List.getD_eq_getElem?_getD, List.getElem?_eq_getElem hi]; rfl
theorem ints_l (l : List Int) (hl : l.length ≤ 9223372036854775807) : ∀ (m i : Nat), i + m = l.length → Ev (fun k => laws_sameInts.l0 k l l (l.length : Int) (i : Int)) true := by
  intro m
  induction m with
  | zero =>
    intro i h
    exact Ev.step (f := fun _ => some true) (fun k => by rw [laws_sameInts.l0, if_neg (by omega)]) (Ev.now true)
  | succ m ih =>
    intro i h
    have hi : i < l.length := by omega
    exact Ev.step (fun k => by
      rw [laws_sameInts.l0, if_pos (by omega), if_pos (by omega), if_pos (by omega), if_pos (by omega), rdI l i hi, if_pos rfl, wsucc i _ hi hl]) (ih (i + 1) (by omega))
theorem ints_same (l : List Int) (hl : l.length ≤ 9223372036854775807) : Ev (fun k => laws_sameInts.f k l l) true := by
  have h0 : Ev (fun k => laws_sameInts.l0 k l l (l.length : Int) 0) true := ints_l l hl l.length 0 (by omega)
  exact Ev.congr (fun k => by rw [laws_sameInts.f, if_pos rfl]) h0
theorem typesK_len (l : List Int) : (typesK l).length ≤ l.length := by
  have h : ∀ (l acc : List Int), (l.foldl (fun a t => insT t a) acc).length ≤ acc.length + l.length := by
    intro l
    induction l with
    | nil => intro acc; simp
    | cons t l ih =>
      intro acc
      have h1 := ih (insT t acc)
      have h2 := insT_len t acc
      rw [List.foldl_cons, List.length_cons]
      omega
  have := h l []
  unfold typesK
  simpa using this
theorem mode_own (b : Int) (h : (modeS b).2 ≠ 2) : modeB b = true := by
  unfold modeS at h
  unfold modeB
  by_cases h0 : b = 0
  · simp [h0]
  · by_cases h1 : b = 16777216
    · simp [h1]
    · by_cases h2 : b = 1
      · simp [h2]
      · simp [h0, h1, h2] at h
theorem j0_true (l : List P) (a : List Int) (x y : Int) : Ev (fun k => laws_FnStyleTypes.j0 k l a x y true) true :=
  Ev.step (f := fun _ => some true) (fun k => by rw [laws_FnStyleTypes.j0, if_pos rfl]) (Ev.now true)
theorem FnStyleTypes : laws_FnStyleTypes.Pure := by
  intro l hl
  obtain ⟨hl, hw⟩ := hl
  apply Ev.rounds
  obtain ⟨b, hb⟩ := fits_ev l hl
  refine Ev.bind hb ?_
  cases b with
  | false => exact Ev.congr (f := fun _ => some true) (fun k => by rw [if_neg (by decide)]) (Ev.now true)
  | true =>
    refine Ev.congr (fun k => by rw [if_pos rfl]) ?_
    rcases few_ev l [] hl with h | ⟨h, hf⟩
    · exact Ev.bind h (Ev.congr (f := fun _ => some true) (fun k => by rw [if_neg (by decide)]) (Ev.now true))
    · have hP := okP_few hf hw
      have h30 := hf.1
      have hpt : laws_parts.f l = some (l.map laws_parts.toS) := by unfold laws_parts.f; rw [if_pos (by omega)]
      have hmq : (l.map laws_parts.toS).map spec_StyleTypes.toQ = l.map impl_StyleGet.toP := by rw [List.map_map]; rfl
      have hsz : ∀ p ∈ l.map impl_StyleGet.toP, p.2.size ≤ 200 := fun p hp => by
        obtain ⟨x, hx, rfl⟩ := List.mem_map.1 hp
        have := hf.2.2 x hx
        show x.f1.size ≤ 200
        omega
      have hQ : spec_StyleTypes.okQ (l.map laws_parts.toS) = true := by
        unfold spec_StyleTypes.okQ
        rw [Bool.and_eq_true, decide_eq_true_eq, List.all_eq_true]
        refine ⟨by rw [List.length_map]; omega, fun x hx => ?_⟩
        obtain ⟨y, hy, rfl⟩ := List.mem_map.1 hx
        have := hf.2.2 y hy
        exact decide_eq_true (by show y.f1.size ≤ 200; omega)
      have hsp : spec_StyleTypes.f (l.map laws_parts.toS) = some (spec_StyleTypes.res (madeF (l.map impl_StyleGet.toP) [])) := by
        unfold spec_StyleTypes.f
        rw [if_pos hQ, hmq]
      have hsm : spec_StyleMode.f (l.map laws_parts.toS) = some (SModeR (madeF (l.map impl_StyleGet.toP) [])) := by
        unfold spec_StyleMode.f
        rw [if_pos hQ, hmq]
      have hit : impl_StyleTypes.f l = if badL (l.map impl_StyleGet.toP) = true then some [] else some (typesK ((l.map impl_StyleGet.toP).map (·.1))) := by
        unfold impl_StyleTypes.f
        rw [if_pos hP]
      have him : modeB (getS [lineE (l.map impl_StyleGet.toP)] (-1)).b = true → impl_StyleMode.f l = if badL (l.map impl_StyleGet.toP) = true then some (-1) else some (modeS (getS [lineE (l.map impl_StyleGet.toP)] (-1)).b).1 := fun hm => by
        unfold impl_StyleMode.f
        rw [if_pos hP, if_pos hm]
      have hlen : (l.map impl_StyleGet.toP).length ≤ 30 := by rw [List.length_map]; exact h30
      generalize l.map impl_StyleGet.toP = lp at *
      refine Ev.bind h (Ev.congr (fun k => by rw [if_pos rfl, hpt, Option.bind_some, hsp, Option.bind_some, Option.bind_some, hsm, Option.bind_some]) ?_)
      cases hm : madeF lp [] with
      | inl n =>
        have hr : spec_StyleTypes.res (.inl n) = ([], false, n) := rfl
        rw [hr]
        by_cases h2 : n = 2
        · exact Ev.congr (fun k => if_pos h2) (j0_true l [] _ _)
        · exact Ev.congr (fun k => if_neg h2) (j0_true l [] _ _)
      | inr ls =>
        have hbd : badL lp = false := by
          unfold badL
          rw [List.any_eq_false]
          rintro ⟨kk, s⟩ hmem
          simp only [Bool.and_eq_true, decide_eq_true_eq, not_and, Option.isNone_iff_eq_none]
          exact fun h1 => (made_inr lp [] ls hsz hm).1 kk s h1
        rw [hbd, if_neg (by decide)] at hit
        rw [hbd] at him
        have hr : spec_StyleTypes.res (.inr ls) = (typesS ls, true, 1) := rfl
        have hr2 : SModeR (.inr ls) = modeS (ownL [ls] (-1)).b := rfl
        have hg : getS [lineE lp] (-1) = ownL [ls] (-1) := by
          rw [own_at lp ls hsz hm]
          unfold getS
          split
          · rw [if_neg (by decide)]
          · rfl
        rw [hg] at him
        rw [hr, hr2]
        refine Ev.congr (fun k => if_neg (show ¬ (1 : Int) = 2 by decide)) ?_
        have hs : ∀ k, laws_FnStyleTypes.j0 (k + 1) l (typesS ls) (modeS (ownL [ls] (-1)).b).1 (modeS (ownL [ls] (-1)).b).2 (!true) = _ := fun k => by
          rw [laws_FnStyleTypes.j0, if_neg (by decide), hit, Option.bind_some, ← types_same hm]
        refine Ev.step hs ?_
        have hll : (typesS ls).length ≤ 9223372036854775807 := by
          rw [types_same hm]
          have := typesK_len (lp.map (·.1))
          rw [List.length_map] at this
          omega
        refine Ev.bind (ints_same (typesS ls) hll) ?_
        by_cases h2 : (modeS (ownL [ls] (-1)).b).2 = 2
        · exact Ev.congr (f := fun _ => some true) (fun k => by rw [if_pos rfl, if_pos h2]; rfl) (Ev.now true)
        · have := him (mode_own _ h2)
          rw [if_neg (by decide)] at this
          exact Ev.congr (f := fun _ => some true) (fun k => by rw [if_pos rfl, if_neg h2, this, Option.bind_some, if_pos rfl]; rfl) (Ev.now true)
end Go.Proofs.YtjemdgmihbmgeaaGreatDoor.Pure
