/- Tokens that are cut into smaller ones of the same type collapse to the same: the pure statement. -/
import Derived.Test.YtgpamoanclhbhaaDoorPureFnCoalesce
set_option linter.unusedVariables false
set_option linter.unusedSimpArgs false
namespace Go.Proofs.YtgpamoanclhbhaaDoor.Pure
open Go.RowKit Go.Proofs.YtgpamoanclhbhaaDoorEvt Go.Proofs.YtgpamoanclhbhaaDoor.M Go.Proofs.YtgpamoanclhbhaaDoorW.PrintWords Go.Proofs.YtgpamoanclhbhaaDoorTok Go.Proofs.YtgpamoanclhbhaaDoorSplit Go.Proofs.YtgpamoanclhbhaaDoorLines
open ZCoal (runsL isE szL toCC toTT ZTk_eof)
theorem cat0 {a b : ByteArray} (h : b.size = 0) : a ++ b = a := by rw [ZCoal.bytes0 h]; exact ByteArray.append_empty
theorem cat1 {a b : ByteArray} (h : a.size = 0) : a ++ b = b := by rw [ZCoal.bytes0 h]; exact ByteArray.empty_append
theorem isE_sz {p : C} (h : p.f1.size ≠ 0) : ¬ isE p = true := by
  unfold isE
  rw [beq_eq_false_iff_ne.2 h, Bool.and_false]
  decide
/-- A token that is cut in two. -/
theorem runsL_cut (ty : Int) (a b : ByteArray) (r : List C) (p : C) : runsL p (⟨ty, a⟩ :: ⟨ty, b⟩ :: r) = runsL p (⟨ty, a ++ b⟩ :: r) := by
  by_cases ha : a.size = 0
  · rw [cat1 ha]
    conv => lhs; unfold runsL
    rw [if_pos (show (⟨ty, a⟩ : C).f1.size = 0 from ha)]
  have hab : ¬ (a ++ b).size = 0 := by rw [ZCoal.size_cat]; omega
  conv => lhs; unfold runsL
  conv => rhs; unfold runsL
  rw [if_neg (show ¬ (⟨ty, a⟩ : C).f1.size = 0 from ha), if_neg (show ¬ (⟨ty, a ++ b⟩ : C).f1.size = 0 from hab)]
  have hstep : ∀ q : C, q.f0 = ty → q.f1.size ≠ 0 → runsL q (⟨ty, b⟩ :: r) = runsL ⟨q.f0, q.f1 ++ b⟩ r := fun q hq hz => by
    conv => lhs; unfold runsL
    by_cases hb : b.size = 0
    · rw [if_pos (show (⟨ty, b⟩ : C).f1.size = 0 from hb), cat0 hb]
    · rw [if_neg (show ¬ (⟨ty, b⟩ : C).f1.size = 0 from hb), if_neg (isE_sz hz), if_pos (show q.f0 = (⟨ty, b⟩ : C).f0 from hq)]
  have h1 := hstep ⟨ty, a⟩ rfl ha
  by_cases hp : isE p = true
  · rw [if_pos hp, if_pos hp, h1]
  · rw [if_neg hp, if_neg hp]
    by_cases h3 : p.f0 = ty
    · rw [if_pos (show p.f0 = (⟨ty, a⟩ : C).f0 from h3), if_pos (show p.f0 = (⟨ty, a ++ b⟩ : C).f0 from h3)]
      have h2 := hstep ⟨p.f0, p.f1 ++ a⟩ h3 (by show (p.f1 ++ a).size ≠ 0; rw [ZCoal.size_cat]; omega)
      rw [h2]
      show runsL ⟨p.f0, p.f1 ++ a ++ b⟩ r = runsL ⟨p.f0, p.f1 ++ (a ++ b)⟩ r
      rw [ByteArray.append_assoc]
    · rw [if_neg (show ¬ p.f0 = (⟨ty, a⟩ : C).f0 from h3), if_neg (show ¬ p.f0 = (⟨ty, a ++ b⟩ : C).f0 from h3), h1]
theorem runsL_tail (x : C) (l m : List C) (h : ∀ p, runsL p l = runsL p m) (p : C) : runsL p (x :: l) = runsL p (x :: m) := by
  unfold runsL
  rw [h, h, h]
abbrev part (x : T) (n : Nat) : List T := [⟨x.f0, x.f1.extract 0 n⟩, ⟨x.f0, x.f1.extract n x.f1.size⟩]
theorem part_cat (s : ByteArray) (n : Nat) (h : n ≤ s.size) : s.extract 0 n ++ s.extract n s.size = s := by
  rw [ByteArray.extract_append_extract, Nat.min_eq_left (Nat.zero_le _), Nat.max_eq_right h, ByteArray.extract_zero_size]
theorem part_sz (x : T) (n : Nat) (h : n ≤ x.f1.size) : (x.f1.extract 0 n).size + (x.f1.extract n x.f1.size).size = x.f1.size := by
  rw [← ZCoal.size_cat, part_cat _ _ h]
structure Parts (xs : List T) (i : Nat) (ps : List T) : Prop where
  same : ∀ p, runsL p (ps.map toCC) = runsL p ((xs.drop i).map toCC)
  nb : nby ps = nby (xs.drop i)
  len : ps.length + 2 * i = 2 * xs.length
  nz : ∀ x ∈ ps, x.f0 ≠ 0
theorem parts_step {xs : List T} {i n : Nat} {ps : List T} (hlt : i < xs.length) (hx : xs[i].f0 ≠ 0) (hn : n ≤ xs[i].f1.size) (h : Parts xs (i + 1) ps) : Parts xs i (part xs[i] n ++ ps) := by
  have e : toCC xs[i] = ⟨xs[i].f0, xs[i].f1.extract 0 n ++ xs[i].f1.extract n xs[i].f1.size⟩ := by rw [part_cat _ _ hn]
  refine ⟨fun p => ?_, ?_, ?_, fun x hx' => ?_⟩
  · rw [List.drop_eq_getElem_cons hlt, List.map_cons, e]
    show runsL p (⟨xs[i].f0, xs[i].f1.extract 0 n⟩ :: ⟨xs[i].f0, xs[i].f1.extract n xs[i].f1.size⟩ :: ps.map toCC) = _
    rw [runsL_cut]
    exact runsL_tail _ _ _ h.same p
  · rw [List.drop_eq_getElem_cons hlt]
    show (xs[i].f1.extract 0 n).size + ((xs[i].f1.extract n xs[i].f1.size).size + nby ps) = xs[i].f1.size + nby (xs.drop (i + 1))
    have := part_sz xs[i] n hn
    have := h.nb
    omega
  · have := h.len
    simp only [List.length_append, List.length_cons, List.length_nil]
    omega
  · rcases List.mem_append.1 hx' with hx' | hx'
    · simp only [List.mem_cons, List.not_mem_nil, or_false] at hx'
      rcases hx' with rfl | rfl <;> exact hx
    · exact h.nz x hx'
/-- What the law does with the parts. -/
def FIN (xs : List T) (ps : List T) (k : Nat) : Option Bool :=
  (impl_CoalesceTokens.f ps).bind fun t => (impl_CoalesceTokens.f xs).bind fun u => (laws_same.f k t u).bind fun v => if v = true then (laws_waking.f k).bind fun z => some z else some false
theorem parts_loop (xs : List T) (cs : List Int) (hn : xs.length ≤ 1000) (hc : cs.length ≤ 2147483647) (hu : ∀ x ∈ cs, (0 : Int) ≤ x ∧ x ≤ 255) (hz : ∀ x ∈ xs, x.f0 ≠ 0) (hs : ∀ x ∈ xs, x.f1.size ≤ 1000000) : ∀ (d i : Nat), xs.length = i + d →
    ∃ ps, Parts xs i ps ∧ ∀ acc : List T, acc.length ≤ 2 * i → ∀ b, Evt (fun k => FIN xs (acc ++ ps) k) b → Evt (fun k => laws_FnCoalesceParts.l0 k xs cs acc xs (xs.length : Int) (i : Int)) b := by
  intro d
  induction d with
  | zero =>
    intro i hi
    refine ⟨[], ⟨fun p => by rw [List.drop_eq_nil_of_le (by omega)], by rw [List.drop_eq_nil_of_le (by omega)], by simp; omega, fun x hx => by cases hx⟩, fun acc ha b hb => ?_⟩
    rw [List.append_nil] at hb
    refine Evt.step (fun k => ?_) hb
    simp only [laws_FnCoalesceParts.l0]
    rw [if_neg (by omega)]
    rfl
  | succ d ih =>
    intro i hi
    have hlt : i < xs.length := by omega
    have hx := hz _ (List.getElem_mem hlt)
    have hsz := hs _ (List.getElem_mem hlt)
    obtain ⟨ps, hP, hE⟩ := ih (i + 1) (by omega)
    have hw1 : wrap64 ((xs[i].f1.size : Int) + 1) = ((xs[i].f1.size + 1 : Nat) : Int) := wrap_nat (by omega)
    -- whatever the cut, the loop goes on so
    have go : ∀ n : Nat, n ≤ xs[i].f1.size → (∀ (k : Nat) (acc : List T), acc.length ≤ 2 * i → laws_FnCoalesceParts.l0 (k + 1) xs cs acc xs (xs.length : Int) (i : Int) = laws_FnCoalesceParts.l0 k xs cs (acc ++ part xs[i] n) xs (xs.length : Int) ((i + 1 : Nat) : Int)) →
        ∃ ps, Parts xs i ps ∧ ∀ acc : List T, acc.length ≤ 2 * i → ∀ b, Evt (fun k => FIN xs (acc ++ ps) k) b → Evt (fun k => laws_FnCoalesceParts.l0 k xs cs acc xs (xs.length : Int) (i : Int)) b := fun n hn' hst => by
      refine ⟨part xs[i] n ++ ps, parts_step hlt hx hn' hP, fun acc ha b hb => ?_⟩
      refine Evt.step (fun k => hst k acc ha) (hE (acc ++ part xs[i] n) (by simp; omega) b ?_)
      rw [List.append_assoc]
      exact hb
    by_cases hc0 : (cs.length : Int) > 0
    · by_cases hv : (xs[i].f1.size : Int) > 0
      · have j0 : 0 ≤ Int.tmod (i : Int) (cs.length : Int) := Int.tmod_nonneg _ (by omega)
        have j1 : Int.tmod (i : Int) (cs.length : Int) < (cs.length : Int) := Int.tmod_lt_of_pos _ hc0
        generalize hj : Int.tmod (i : Int) (cs.length : Int) = j at j0 j1
        have hrd : 0 ≤ rd cs j ∧ rd cs j ≤ 255 := by
          have hjl : j.toNat < cs.length := by omega
          have : rd cs j = cs[j.toNat] := by simp [rd, List.getD_eq_getElem?_getD, hjl]
          rw [this]
          exact hu _ (List.getElem_mem hjl)
        have hw2 : wrap64 (rd cs j) = rd cs j := wrap_in (by omega) (by omega)
        have m0 : 0 ≤ Int.tmod (rd cs j) ((xs[i].f1.size + 1 : Nat) : Int) := Int.tmod_nonneg _ hrd.1
        have m1 : Int.tmod (rd cs j) ((xs[i].f1.size + 1 : Nat) : Int) < ((xs[i].f1.size + 1 : Nat) : Int) := Int.tmod_lt_of_pos _ (by omega)
        refine go (Int.tmod (rd cs j) ((xs[i].f1.size + 1 : Nat) : Int)).toNat (by omega) (fun k acc ha => ?_)
        simp only [laws_FnCoalesceParts.l0]
        rw [if_pos (by omega), if_pos (by omega), if_pos (by omega), rdT _ _ hlt, if_pos hc0, if_pos hv, if_neg (by omega), hj, if_pos j0, if_pos j1, hw1, if_neg (by omega), hw2, if_pos m0, if_pos (by omega), Option.bind_some, if_pos (by show acc.length + 2 < _; omega), wrap_nat (by omega)]
      · refine go 0 (Nat.zero_le _) (fun k acc ha => ?_)
        simp only [laws_FnCoalesceParts.l0]
        rw [if_pos (by omega), if_pos (by omega), if_pos (by omega), rdT _ _ hlt, if_pos hc0, if_neg hv, if_pos (by omega), if_pos (by omega), Option.bind_some, if_pos (by show acc.length + 2 < _; omega), wrap_nat (by omega)]
    · refine go 0 (Nat.zero_le _) (fun k acc ha => ?_)
      simp only [laws_FnCoalesceParts.l0]
      rw [if_pos (by omega), if_pos (by omega), if_pos (by omega), rdT _ _ hlt, if_neg hc0, if_pos (by omega), if_pos (by omega), Option.bind_some, if_pos (by show acc.length + 2 < _; omega), wrap_nat (by omega)]
theorem le_nby {x : T} {l : List T} (h : x ∈ l) : x.f1.size ≤ nby l := by
  induction l with
  | nil => cases h
  | cons a r ih =>
    rcases List.mem_cons.1 h with rfl | h
    · exact Nat.le_add_right _ _
    · exact Nat.le_trans (ih h) (Nat.le_add_left _ _)
theorem FnCoalesceParts : laws_FnCoalesceParts.Pure := by
  intro l0 l1 _ hu
  refine Evt.get ?_
  have hskip : ∀ b3, b3 = true → Evt (fun k => laws_FnCoalesceParts.j0 k l0 l1 b3) true := fun b3 h3 => by
    subst h3
    exact Evt.step (h := fun _ => some true) (fun k => by simp only [laws_FnCoalesceParts.j0]; rw [if_pos trivial]) (Evt.pure _)
  obtain ⟨b, hb, hb'⟩ := fits l0
  refine Evt.bind hb ?_
  cases b with
  | false => exact Evt.neg (by simp) (hskip true rfl)
  | true =>
    obtain ⟨h1, h2⟩ := hb' rfl
    refine Evt.pos rfl ?_
    by_cases hc : (l1.length : Int) > 2147483647
    · exact hskip _ (decide_eq_true hc)
    · rw [decide_eq_false hc]
      refine Evt.step (fun k => by simp only [laws_FnCoalesceParts.j0]; rw [if_neg (by simp)]) ?_
      obtain ⟨b2, hb2, hb2'⟩ := small l0 h1 h2
      refine Evt.bind hb2 ?_
      cases b2 with
      | false => exact Evt.neg (by simp) (Evt.pure _)
      | true =>
        obtain ⟨g1, g2, g3⟩ := hb2' rfl
        refine Evt.pos rfl ?_
        obtain ⟨ps, hP, hE⟩ := parts_loop l0 l1 (by omega) (by omega) (fun x hx => hu.2 x hx) g3 (fun x hx => by have := le_nby hx; omega) l0.length 0 (by omega)
        refine hE [] (by simp) true ?_
        rw [List.nil_append]
        unfold FIN
        have hnb := hP.nb
        have hlp := hP.len
        rw [List.drop_zero] at hnb
        refine Evt.bind' (coal_some ps (by omega) hP.nz (by omega)) (Evt.bind' (coal_some l0 (by omega) g3 (by omega)) ?_)
        have hsm := hP.same ZTk_eof
        rw [List.drop_zero] at hsm
        rw [hsm]
        have hlen := ZCoal.runsL_len (l0.map toCC) ZTk_eof
        rw [List.length_map] at hlen
        have hs := same ((runsL ZTk_eof (l0.map toCC)).map toTT) ((runsL ZTk_eof (l0.map toCC)).map toTT) (by rw [List.length_map]; omega)
        have hs2 : Evt (fun k => laws_same.f k ((runsL ZTk_eof (l0.map toCC)).map toTT) ((runsL ZTk_eof (l0.map toCC)).map toTT)) true := by simpa using hs
        exact Evt.bind hs2 (Evt.pos rfl (Evt.bind waking (Evt.pure _)))
end Go.Proofs.YtgpamoanclhbhaaDoor.Pure
