/- The law FnStyleAgain: the printed statement. -/
import Derived.Test.YtifhhejohdmiaaaGreatDoorBx3
set_option linter.unusedVariables false
set_option linter.unusedSimpArgs false
namespace Go.Proofs.YtifhhejohdmiaaaGreatDoor.Pure
open Go.RowKit Go.Proofs.YtifhhejohdmiaaaGreatDoorW.PrintWords Go.Proofs.YtifhhejohdmiaaaGreatDoorFmt Go.Proofs.YtifhhejohdmiaaaGreatDoorEnt Go.Proofs.YtifhhejohdmiaaaGreatDoor.B
abbrev P := S78
/-! ### the tests at the beginning -/
theorem rdP (l : List P) (i : Nat) (hi : i < l.length) : rd_T78 l (i : Int) = l[i] := by
  unfold rd_T78
  rw [Int.toNat_natCast, List.getD_eq_getElem?_getD, List.getElem?_eq_getElem hi]; rfl
theorem wsucc (i n : Nat) (hi : i < n) (hn : n ≤ 9223372036854775807) : wrap64 ((i : Int) + 1) = ((i + 1 : Nat) : Int) := by unfold wrap64; omega
theorem fits_l (l : List P) (hl : l.length ≤ 9223372036854775807) : ∀ (m i : Nat), i + m = l.length → ∃ b, Ev (fun k => laws_zzFits2.l0 k l (l.length : Int) (i : Int)) b := by
  intro m
  induction m with
  | zero =>
    intro i h
    exact ⟨true, Ev.step (f := fun _ => some true) (fun k => by rw [laws_zzFits2.l0, if_neg (by omega)]) (Ev.now true)⟩
  | succ m ih =>
    intro i h
    have hi : i < l.length := by omega
    obtain ⟨b, hb⟩ := ih (i + 1) (by omega)
    by_cases hz : ((l[i].f1).size : Int) > 2147483647
    · exact ⟨false, Ev.step (f := fun _ => some false) (fun k => by
        rw [laws_zzFits2.l0, if_pos (by omega), if_pos (by omega), if_pos (by omega), rdP l i hi, laws_zzFits3.f, if_pos hz]; rfl) (Ev.now false)⟩
    · exact ⟨b, Ev.step (fun k => by
        rw [laws_zzFits2.l0, if_pos (by omega), if_pos (by omega), if_pos (by omega), rdP l i hi, laws_zzFits3.f, if_neg hz, Option.bind_some, if_pos rfl, wsucc i _ hi hl]) hb⟩
theorem fits_ev (l : List P) (hl : l.length ≤ 9223372036854775807) : ∃ b, Ev (fun k => laws_zzFits2.f k l) b := by
  by_cases h : (l.length : Int) > 2147483647
  · exact ⟨false, Ev.congr (f := fun _ => some false) (fun k => by rw [laws_zzFits2.f, if_pos h]) (Ev.now false)⟩
  · obtain ⟨b, hb⟩ := fits_l l hl l.length 0 (by omega)
    exact ⟨b, Ev.congr (fun k => by rw [laws_zzFits2.f, if_neg h]; rfl) hb⟩
/-- Few lines, each short, and few types asked. -/
def Few (l : List P) (ask : List Int) : Prop := l.length ≤ 30 ∧ ask.length ≤ 30 ∧ ∀ p ∈ l, p.f1.size ≤ 100
theorem few_l (l : List P) (ask : List Int) (hl : l.length ≤ 9223372036854775807) : ∀ (m i : Nat), i + m = l.length → (∀ p ∈ l.take i, p.f1.size ≤ 100) →
    Ev (fun k => laws_few.l0 k l ask l (l.length : Int) (i : Int)) false ∨ (Ev (fun k => laws_few.l0 k l ask l (l.length : Int) (i : Int)) true ∧ Few l ask) := by
  intro m
  induction m with
  | zero =>
    intro i h hp
    have hi : i = l.length := by omega
    subst hi
    rw [List.take_length] at hp
    by_cases h1 : (l.length : Int) ≤ 30
    · by_cases h2 : (ask.length : Int) ≤ 30
      · exact .inr ⟨Ev.step (f := fun _ => some true) (fun k => by rw [laws_few.l0, if_neg (by omega), if_pos h1, decide_eq_true h2]) (Ev.now true), by omega, by omega, hp⟩
      · exact .inl (Ev.step (f := fun _ => some false) (fun k => by rw [laws_few.l0, if_neg (by omega), if_pos h1, decide_eq_false h2]) (Ev.now false))
    · exact .inl (Ev.step (f := fun _ => some false) (fun k => by rw [laws_few.l0, if_neg (by omega), if_neg h1]) (Ev.now false))
  | succ m ih =>
    intro i h hp
    have hi : i < l.length := by omega
    by_cases hz : ((l[i].f1).size : Int) > 100
    · exact .inl (Ev.step (f := fun _ => some false) (fun k => by
        rw [laws_few.l0, if_pos (by omega), if_pos (by omega), if_pos (by omega), rdP l i hi, if_pos hz]) (Ev.now false))
    · have hst : ∀ k, laws_few.l0 (k + 1) l ask l (l.length : Int) (i : Int) = laws_few.l0 k l ask l (l.length : Int) ((i + 1 : Nat) : Int) := fun k => by
        rw [laws_few.l0, if_pos (by omega), if_pos (by omega), if_pos (by omega), rdP l i hi, if_neg hz, wsucc i _ hi hl]
      rcases ih (i + 1) (by omega) (fun p hm => by
        rw [List.take_succ_eq_append_getElem hi, List.mem_append, List.mem_singleton] at hm
        rcases hm with hm | rfl
        · exact hp p hm
        · omega) with h1 | ⟨h1, h2⟩
      · exact .inl (Ev.step hst h1)
      · exact .inr ⟨Ev.step hst h1, h2⟩
theorem few_ev (l : List P) (ask : List Int) (hl : l.length ≤ 9223372036854775807) : Ev (fun k => laws_few.f k l ask) false ∨ (Ev (fun k => laws_few.f k l ask) true ∧ Few l ask) :=
  few_l l ask hl l.length 0 (by omega) (fun p hp => by rw [List.take_zero] at hp; cases hp)
theorem okP_few {l : List P} {ask : List Int} (h : Few l ask) (hw : ∀ x ∈ l, wf_S78 x) : impl_StyleGet.okP l = true := by
  unfold impl_StyleGet.okP
  rw [Bool.and_eq_true, decide_eq_true_eq, List.all_eq_true]
  refine ⟨by have := h.1; omega, fun x hx => ?_⟩
  rw [Bool.and_eq_true, decide_eq_true_eq]
  refine ⟨?_, by have := h.2.2 x hx; omega⟩
  have := (hw x hx).1
  simpa [Lit.wf] using this
theorem okA_few {l : List P} {ask : List Int} (h : Few l ask) (hw : ∀ x ∈ ask, IntKind.i64.min ≤ x ∧ x ≤ IntKind.i64.max) : impl_StyleGet.okA ask = true := by
  unfold impl_StyleGet.okA
  rw [Bool.and_eq_true, decide_eq_true_eq, List.all_eq_true]
  refine ⟨by have := h.2.1; omega, fun x hx => ?_⟩
  have := hw x hx
  simpa [Lit.wf] using this
/-! ### a style over a style, with nothing of its own -/
theorem getS_over (f : Int → Option Ent) (t : Int) : getS [fun _ => none, f] t = getS [f] t := by
  have h : isZ (at0 (fun _ => none) t) = true := rfl
  show (if isZ (at0 (fun _ => none) t) = true then getS [f] t else at0 (fun _ => none) t) = getS [f] t
  rw [if_pos h]
theorem built0_eq (l : List (Int × ByteArray)) : built0 l = fullS [lineE l] := by
  funext t
  unfold built0 fullS
  simp only [getS_over]
/-! ### the compare at the end -/
theorem rdE (l : List (S23)) (i : Nat) (hi : i < l.length) : rd_T23 l (i : Int) = l[i] := by
  unfold rd_T23
  rw [Int.toNat_natCast, List.getD_eq_getElem?_getD, List.getElem?_eq_getElem hi]; rfl
theorem same_l (l : List (S23)) (hl : l.length ≤ 9223372036854775807) : ∀ (m i : Nat), i + m = l.length → Ev (fun k => laws_FnStyleAgain.l0 k l l (l.length : Int) (i : Int)) true := by
  intro m
  induction m with
  | zero =>
    intro i h
    exact Ev.step (f := fun _ => some true) (fun k => by rw [laws_FnStyleAgain.l0, if_neg (by omega)]; rfl) (Ev.now true)
  | succ m ih =>
    intro i h
    have hi : i < l.length := by omega
    refine Ev.step (fun k => ?_) (ih (i + 1) (by omega))
    rw [laws_FnStyleAgain.l0, if_pos (by omega), wsucc i _ hi hl, if_pos (by omega), if_pos (by omega), if_pos (by omega), if_neg (by simp)]
theorem FnStyleAgain : laws_FnStyleAgain.Pure := by
  intro l ask hl hask
  obtain ⟨hl, hw⟩ := hl
  obtain ⟨hal, hask⟩ := hask
  apply Ev.rounds
  obtain ⟨b, hb⟩ := fits_ev l hl
  have hj0 : Ev (fun k => laws_FnStyleAgain.j0 k l ask true) true := Ev.step (f := fun _ => some true) (fun k => by rw [laws_FnStyleAgain.j0, if_pos rfl]) (Ev.now true)
  refine Ev.bind hb ?_
  cases b with
  | false => exact Ev.congr (fun k => by rw [if_neg (by decide)]) hj0
  | true =>
    refine Ev.congr (fun k => by rw [if_pos rfl]) ?_
    by_cases hz : (ask.length : Int) > 2147483647
    · rw [decide_eq_true hz]; exact hj0
    · rw [decide_eq_false hz]
      have hs : ∀ k, laws_FnStyleAgain.j0 (k + 1) l ask false = _ := fun k => by
        rw [laws_FnStyleAgain.j0, if_neg (by decide)]
      refine Ev.step hs ?_
      rcases few_ev l ask hl with h | ⟨h, hf⟩
      · exact Ev.bind h (Ev.congr (f := fun _ => some true) (fun k => by rw [if_neg (by decide)]) (Ev.now true))
      · refine Ev.bind h ?_
        have hP := okP_few hf hw
        have hA := okA_few hf hask
        cases hbad : badL (l.map impl_StyleGet.toP) with
        | true =>
          have he : impl_StyleGet.f l ask = some ([], false) := by
            unfold impl_StyleGet.f
            rw [if_pos hP, if_pos hA, if_pos hbad]
          refine Ev.congr (f := fun _ => some true) (fun k => ?_) (Ev.now true)
          rw [if_pos rfl, he, Option.bind_some]
          simp only
          rw [if_neg (by decide)]
          rfl
        | false =>
          have he : impl_StyleGet.f l ask = some ((ask.map (fullS [lineE (l.map impl_StyleGet.toP)])).map impl_StyleGet.ofE, true) := by
            unfold impl_StyleGet.f
            rw [if_pos hP, if_pos hA, if_neg (by rw [hbad]; decide)]
          have he2 : impl_StyleBuild.f l [] ask = some ((ask.map (fullS [lineE (l.map impl_StyleGet.toP)])).map impl_StyleGet.ofE, (ask.map (inb0 (l.map impl_StyleGet.toP))).map impl_StyleGet.ofE, true) := by
            unfold impl_StyleBuild.f
            rw [if_pos (show ([] : List (S95)).length = 0 from rfl), if_pos hP, if_pos hA, if_neg (by rw [hbad]; decide), built0_eq]
          have hlen : ((ask.map (fullS [lineE (l.map impl_StyleGet.toP)])).map impl_StyleGet.ofE).length = ask.length := by simp
          generalize (ask.map (fullS [lineE (l.map impl_StyleGet.toP)])).map impl_StyleGet.ofE = r at he he2 hlen
          have hs2 := same_l r (by omega) r.length 0 (by omega)
          have hj1 : Ev (fun k => laws_FnStyleAgain.j1 k r r false) true := Ev.step (fun k => by rw [laws_FnStyleAgain.j1, if_neg (by decide)]; rfl) hs2
          refine Ev.congr (fun k => ?_) hj1
          rw [if_pos rfl, he, Option.bind_some]
          simp only
          rw [if_pos trivial, he2, Option.bind_some]
          simp only
          rw [if_pos trivial, if_pos (by omega)]
          simp only [bne_self_eq_false]
end Go.Proofs.YtifhhejohdmiaaaGreatDoor.Pure
