/- A token whose type and text a mapping names gets this mapping's type: the pure statement. -/
import Derived.Test.YtchkijfnhhldfaaDoorLines
set_option linter.unusedVariables false
set_option linter.unusedSimpArgs false
namespace Go.Proofs.YtchkijfnhhldfaaDoor.Pure
open Go.RowKit Go.Proofs.YtchkijfnhhldfaaDoorEvt Go.Proofs.YtchkijfnhhldfaaDoor.R Go.Proofs.YtchkijfnhhldfaaDoorW.PrintWords Go.Proofs.YtchkijfnhhldfaaDoorTok Go.Proofs.YtchkijfnhhldfaaDoorSplit Go.Proofs.YtchkijfnhhldfaaDoorLines
open ZCoal (rmL mapF toCC toTT)
abbrev Mp := S28
theorem rdMp (xs : List Mp) (i : Nat) (h : i < xs.length) : rd_T28 xs (i : Int) = xs[i] := by
  simp [rd_T28, List.getD_eq_getElem?_getD, h]
theorem rdW (xs : List ByteArray) (i : Nat) (h : i < xs.length) : rdOf ByteArray.empty xs (i : Int) = xs[i] := by
  simp [rdOf, List.getD_eq_getElem?_getD, h]
theorem fits15_loop (L : List ByteArray) (hn : L.length ≤ 2147483647) : ∀ d i : Nat, L.length = i + d → ∃ b, Evt (fun k => laws_zzFits15.l0 k L (L.length : Int) (i : Int)) b := by
  intro d
  induction d with
  | zero =>
    intro i hi
    exact ⟨true, Evt.step (h := fun _ => some _) (fun k => by simp only [laws_zzFits15.l0]; rw [if_neg (by omega)]) (Evt.pure _)⟩
  | succ d ih =>
    intro i hi
    have hlt : i < L.length := by omega
    obtain ⟨b, hb⟩ := ih (i + 1) (by omega)
    by_cases h : ((L[i].size : Int) > 2147483647)
    · refine ⟨false, Evt.step (h := fun _ => some _) (fun k => ?_) (Evt.pure _)⟩
      simp only [laws_zzFits15.l0]
      rw [if_pos (by omega), if_pos (by omega), if_pos (by omega), rdW _ _ hlt, if_pos h]
    · refine ⟨b, Evt.step (fun k => ?_) hb⟩
      simp only [laws_zzFits15.l0]
      rw [if_pos (by omega), if_pos (by omega), if_pos (by omega), rdW _ _ hlt, if_neg h, wrap_nat (by omega)]
theorem fits15 (L : List ByteArray) : ∃ b, Evt (fun k => laws_zzFits15.f k L) b := by
  by_cases hn : (L.length : Int) > 2147483647
  · exact ⟨false, Evt.of (fun k => by unfold laws_zzFits15.f; rw [if_pos hn])⟩
  · obtain ⟨b, h1⟩ := fits15_loop L (by omega) L.length 0 (by omega)
    exact ⟨b, Evt.congr (fun k => by unfold laws_zzFits15.f; rw [if_neg hn]; rfl) h1⟩
theorem fits25_loop (L : List Mp) (hn : L.length ≤ 2147483647) : ∀ d i : Nat, L.length = i + d → ∃ b, Evt (fun k => laws_zzFits25.l0 k L (L.length : Int) (i : Int)) b := by
  intro d
  induction d with
  | zero =>
    intro i hi
    exact ⟨true, Evt.step (h := fun _ => some _) (fun k => by simp only [laws_zzFits25.l0]; rw [if_neg (by omega)]) (Evt.pure _)⟩
  | succ d ih =>
    intro i hi
    have hlt : i < L.length := by omega
    obtain ⟨b1, h1⟩ := fits15 L[i].f2
    obtain ⟨b2, h2⟩ := ih (i + 1) (by omega)
    have h26 : Evt (fun k => laws_zzFits26.f k L[i].f0 L[i].f1 L[i].f2) b1 := by
      refine Evt.congr (fun k => rfl) (Evt.bind h1 ?_)
      cases b1 with
      | false => exact Evt.neg (by simp) (Evt.pure _)
      | true => exact Evt.pos rfl (Evt.pure _)
    have hst : ∀ k, laws_zzFits25.l0 (k + 1) L (L.length : Int) (i : Int) = (laws_zzFits26.f k L[i].f0 L[i].f1 L[i].f2).bind fun t => if t = true then laws_zzFits25.l0 k L (L.length : Int) ((i + 1 : Nat) : Int) else some false := fun k => by
      simp only [laws_zzFits25.l0]
      rw [if_pos (by omega), if_pos (by omega), if_pos (by omega), rdMp _ _ hlt, wrap_nat (by omega)]
    cases b1 with
    | false => exact ⟨false, Evt.step hst (Evt.bind h26 (Evt.neg (by simp) (Evt.pure _)))⟩
    | true => exact ⟨b2, Evt.step hst (Evt.bind h26 (Evt.pos rfl h2))⟩
theorem fits25 (L : List Mp) : ∃ b, Evt (fun k => laws_zzFits25.f k L) b := by
  by_cases hn : (L.length : Int) > 2147483647
  · exact ⟨false, Evt.of (fun k => by unfold laws_zzFits25.f; rw [if_pos hn])⟩
  · obtain ⟨b, h1⟩ := fits25_loop L (by omega) L.length 0 (by omega)
    exact ⟨b, Evt.congr (fun k => by unfold laws_zzFits25.f; rw [if_neg hn]; rfl) h1⟩
/-- A mapping as the law takes it. -/
def Fine (x : Mp) : Prop := 1 ≤ x.f2.length ∧ x.f2.length ≤ 10 ∧ x.f1 ≠ 0 ∧ ∀ s ∈ x.f2, s.toList ≠ []
theorem l3_loop (cs : List Mp) (xs : List T) (x5 x7 : Int) (x8 : ByteArray) (x9 : Int) (x37 : List Mp) (x38 x39 : Int) (x60 : List ByteArray) (x61 x62 : Int) (x72 : List Mp) (x73 x74 : Int) (ws : List ByteArray) (a0 a1 : Int) (a2 : List ByteArray) (b0 b1 : Int) (b2 : List ByteArray) (hn : ws.length ≤ 9223372036854775807)
    (h : Evt (fun k => laws_FnTypeRemap.l2 k cs xs x5 x7 x8 x37 x38 x39 x60 x61 x62 x72 x73 (wrap64 (x74 + 1)) a0 a1 a2) true) : ∀ d j : Nat, ws.length = j + d →
    Evt (fun k => laws_FnTypeRemap.l3 k cs xs x5 x7 x8 x9 x37 x38 x39 x60 x61 x62 x72 x73 x74 ws (ws.length : Int) (j : Int) a0 a1 a2 b0 b1 b2) true := by
  intro d
  induction d with
  | zero =>
    intro j hj
    refine Evt.step (fun k => ?_) h
    simp only [laws_FnTypeRemap.l3]
    rw [if_neg (by omega)]
  | succ d ih =>
    intro j hj
    have hlt : j < ws.length := by omega
    have h1 := ih (j + 1) (by omega)
    by_cases e1 : a0 = b0
    · by_cases e2 : (ws[j]).toList = x8.toList
      · by_cases e3 : x9 < x5
        · refine Evt.step (h := fun _ => some true) (fun k => ?_) (Evt.pure _)
          simp only [laws_FnTypeRemap.l3]
          rw [if_pos (by omega), if_pos (by omega), if_pos (by omega), if_pos e1, rdW _ _ hlt, if_pos e2, if_pos e3]
        · by_cases e4 : (j : Int) < x7
          · refine Evt.step (h := fun _ => some true) (fun k => ?_) (Evt.pure _)
            simp only [laws_FnTypeRemap.l3]
            rw [if_pos (by omega), if_pos (by omega), if_pos (by omega), if_pos e1, rdW _ _ hlt, if_pos e2, if_neg e3, if_pos e4]
          · refine Evt.step (fun k => ?_) h1
            simp only [laws_FnTypeRemap.l3]
            rw [if_pos (by omega), if_pos (by omega), if_pos (by omega), if_pos e1, rdW _ _ hlt, if_pos e2, if_neg e3, if_neg e4, wrap_nat (by omega)]
      · refine Evt.step (fun k => ?_) h1
        simp only [laws_FnTypeRemap.l3]
        rw [if_pos (by omega), if_pos (by omega), if_pos (by omega), if_pos e1, rdW _ _ hlt, if_neg e2, wrap_nat (by omega)]
    · refine Evt.step (fun k => ?_) h1
      simp only [laws_FnTypeRemap.l3]
      rw [if_pos (by omega), if_pos (by omega), if_pos (by omega), if_neg e1, wrap_nat (by omega)]
theorem l2_loop (cs : List Mp) (xs : List T) (x5 x7 : Int) (x8 : ByteArray) (x37 : List Mp) (x38 x39 : Int) (x60 : List ByteArray) (x61 x62 : Int) (ys : List Mp) (a0 a1 : Int) (a2 : List ByteArray) (hn : ys.length ≤ 1000) (hw : ∀ y ∈ ys, y.f2.length ≤ 9223372036854775807)
    (h : Evt (fun k => laws_FnTypeRemap.l1 k cs xs x5 x37 x38 x39 x60 x61 (wrap64 (x62 + 1)) a0 a1 a2) true) : ∀ d j : Nat, ys.length = j + d →
    Evt (fun k => laws_FnTypeRemap.l2 k cs xs x5 x7 x8 x37 x38 x39 x60 x61 x62 ys (ys.length : Int) (j : Int) a0 a1 a2) true := by
  intro d
  induction d with
  | zero =>
    intro j hj
    refine Evt.step (fun k => ?_) h
    simp only [laws_FnTypeRemap.l2]
    rw [if_neg (by omega)]
  | succ d ih =>
    intro j hj
    have hlt : j < ys.length := by omega
    have h1 := ih (j + 1) (by omega)
    rw [← wrap_nat (by omega)] at h1
    refine Evt.step (fun k => ?_) (l3_loop cs xs x5 x7 x8 (j : Int) x37 x38 x39 x60 x61 x62 ys (ys.length : Int) (j : Int) ys[j].f2 a0 a1 a2 ys[j].f0 ys[j].f1 ys[j].f2 (hw _ (List.getElem_mem hlt)) h1 ys[j].f2.length 0 (by omega))
    simp only [laws_FnTypeRemap.l2]
    rw [if_pos (by omega), if_pos (by omega), if_pos (by omega), rdMp _ _ hlt]
    rfl
theorem l1_loop (cs : List Mp) (xs : List T) (i : Nat) (ws : List ByteArray) (a0 a1 : Int) (a2 : List ByteArray) (hi : i < cs.length) (hn : cs.length ≤ 10) (hw : ∀ y ∈ cs, y.f2.length ≤ 9223372036854775807) (hl : ws.length ≤ 10) : ∀ d j : Nat, ws.length = j + d →
    ((∀ s ∈ ws.drop j, s.toList ≠ []) → Evt (fun k => laws_FnTypeRemap.l0 k cs xs cs (cs.length : Int) (wrap64 ((i : Int) + 1))) true) →
    Evt (fun k => laws_FnTypeRemap.l1 k cs xs (i : Int) cs (cs.length : Int) (i : Int) ws (ws.length : Int) (j : Int) a0 a1 a2) true := by
  intro d
  induction d with
  | zero =>
    intro j hj h
    refine Evt.step (fun k => ?_) (h (fun s hs => ?_))
    · simp only [laws_FnTypeRemap.l1]
      rw [if_neg (by omega)]
    · rw [List.drop_eq_nil_of_le (by omega)] at hs
      cases hs
  | succ d ih =>
    intro j hj h
    have hlt : j < ws.length := by omega
    by_cases e : (ws[j]).toList = []
    · refine Evt.step (h := fun _ => some true) (fun k => ?_) (Evt.pure _)
      simp only [laws_FnTypeRemap.l1]
      rw [if_pos (by omega), if_pos (by omega), if_pos (by omega), rdW _ _ hlt, if_pos e]
    · have h1 := ih (j + 1) (by omega) (fun hs => h (fun s hm => by
        rw [List.drop_eq_getElem_cons hlt] at hm
        rcases List.mem_cons.1 hm with rfl | hm
        · exact e
        · exact hs s hm))
      rw [← wrap_nat (by omega)] at h1
      have h2 := l2_loop cs xs (i : Int) (j : Int) ws[j] cs (cs.length : Int) (i : Int) ws (ws.length : Int) (j : Int) (cs.take (i + 1)) a0 a1 a2 (by rw [List.length_take]; omega) (fun y hy => hw y (List.mem_of_mem_take hy)) h1 (cs.take (i + 1)).length 0 (by omega)
      refine Evt.step (fun k => ?_) h2
      simp only [laws_FnTypeRemap.l1]
      rw [if_pos (by omega), if_pos (by omega), if_pos (by omega), rdW _ _ hlt, if_neg e, wrap_nat (i := i) (by omega), if_pos (by omega), if_pos (by omega)]
      rfl
theorem l0_loop (cs : List Mp) (xs : List T) (hn : cs.length ≤ 10) (hw : ∀ y ∈ cs, y.f2.length ≤ 9223372036854775807) : ∀ d i : Nat, cs.length = i + d →
    ((∀ x ∈ cs.drop i, Fine x) → Evt (fun k => laws_FnTypeRemap.l4 k cs xs ([] : List T) xs (xs.length : Int) 0) true) → Evt (fun k => laws_FnTypeRemap.l0 k cs xs cs (cs.length : Int) (i : Int)) true := by
  intro d
  induction d with
  | zero =>
    intro i hi h
    refine Evt.step (fun k => ?_) (h (fun x hx => ?_))
    · simp only [laws_FnTypeRemap.l0]
      rw [if_neg (by omega)]
    · rw [List.drop_eq_nil_of_le (by omega)] at hx
      cases hx
  | succ d ih =>
    intro i hi h
    have hlt : i < cs.length := by omega
    have hj3 : Evt (fun k => laws_FnTypeRemap.j3 k cs xs (i : Int) cs (cs.length : Int) (i : Int) true cs[i].f0 cs[i].f1 cs[i].f2) true :=
      Evt.step (h := fun _ => some true) (fun k => by simp only [laws_FnTypeRemap.j3]; rw [if_pos trivial]) (Evt.pure _)
    by_cases e1 : (cs[i].f2.length : Int) < 1
    · refine Evt.step (fun k => ?_) hj3
      simp only [laws_FnTypeRemap.l0]
      rw [if_pos (by omega), if_pos (by omega), if_pos (by omega), rdMp _ _ hlt, if_pos e1]
    by_cases e2 : (cs[i].f2.length : Int) > 10
    · refine Evt.step (fun k => ?_) hj3
      simp only [laws_FnTypeRemap.l0]
      rw [if_pos (by omega), if_pos (by omega), if_pos (by omega), rdMp _ _ hlt, if_neg e1, if_pos e2]
    by_cases e3 : cs[i].f1 = 0
    · refine Evt.step (fun k => ?_) hj3
      simp only [laws_FnTypeRemap.l0]
      rw [if_pos (by omega), if_pos (by omega), if_pos (by omega), rdMp _ _ hlt, if_neg e1, if_neg e2, e3]
      rfl
    have hl1 := l1_loop cs xs i cs[i].f2 cs[i].f0 cs[i].f1 cs[i].f2 hlt hn hw (by omega) cs[i].f2.length 0 (by omega) (fun hs => by
      rw [wrap_nat (by omega)]
      refine ih (i + 1) (by omega) (fun hF => h (fun x hx => ?_))
      rw [List.drop_eq_getElem_cons hlt] at hx
      rcases List.mem_cons.1 hx with rfl | hx
      · exact ⟨by omega, by omega, e3, fun s hm => hs s (by rw [List.drop_zero]; exact hm)⟩
      · exact hF x hx)
    have hj4 : Evt (fun k => laws_FnTypeRemap.j3 k cs xs (i : Int) cs (cs.length : Int) (i : Int) false cs[i].f0 cs[i].f1 cs[i].f2) true :=
      Evt.step (fun k => by simp only [laws_FnTypeRemap.j3]; rw [if_neg (by simp)]; rfl) hl1
    refine Evt.step (fun k => ?_) hj4
    simp only [laws_FnTypeRemap.l0]
    rw [if_pos (by omega), if_pos (by omega), if_pos (by omega), rdMp _ _ hlt, if_neg e1, if_neg e2, beq_eq_false_iff_ne.2 e3]
/-- The type that a mapping's words give. -/
def wd (t : T) (m : Mp) : List ByteArray → Int → Int
  | [], a => a
  | w :: r, a => wd t m r (if m.f0 = t.f0 ∧ w.toList = t.f1.toList then m.f1 else a)
def tyL (t : T) : List Mp → Int → Int
  | [], a => a
  | m :: r, a => tyL t r (wd t m m.f2 a)
theorem l6_loop (cs : List Mp) (xs acc : List T) (x111 : List T) (x112 x113 : Int) (x119 : List Mp) (x120 x121 : Int) (t : T) (m : Mp) (hn : m.f2.length ≤ 9223372036854775807) (r : Bool) : ∀ (d j : Nat) (a : Int), m.f2.length = j + d →
    Evt (fun k => laws_FnTypeRemap.l5 k cs xs acc (wd t m (m.f2.drop j) a) x111 x112 x113 x119 x120 (wrap64 (x121 + 1)) t.f0 t.f1) r →
    Evt (fun k => laws_FnTypeRemap.l6 k cs xs acc a x111 x112 x113 x119 x120 x121 m.f2 (m.f2.length : Int) (j : Int) t.f0 t.f1 m.f0 m.f1 m.f2) r := by
  intro d
  induction d with
  | zero =>
    intro j a hj h
    rw [List.drop_eq_nil_of_le (by omega)] at h
    refine Evt.step (fun k => ?_) h
    simp only [laws_FnTypeRemap.l6]
    rw [if_neg (by omega)]
    rfl
  | succ d ih =>
    intro j a hj h
    have hlt : j < m.f2.length := by omega
    rw [List.drop_eq_getElem_cons hlt] at h
    have h1 := ih (j + 1) (if m.f0 = t.f0 ∧ (m.f2[j]).toList = t.f1.toList then m.f1 else a) (by omega) h
    refine Evt.step (fun k => ?_) h1
    simp only [laws_FnTypeRemap.l6]
    rw [if_pos (by omega), if_pos (by omega), if_pos (by omega), rdW _ _ hlt, wrap_nat (by omega)]
    by_cases e1 : m.f0 = t.f0
    · by_cases e2 : (m.f2[j]).toList = t.f1.toList
      · rw [if_pos e1, if_pos e2, if_pos ⟨e1, e2⟩]
      · rw [if_pos e1, if_neg e2, if_neg (fun h => e2 h.2)]
    · rw [if_neg e1, if_neg (fun h => e1 h.1)]
theorem l5_loop (cs : List Mp) (xs acc : List T) (i : Nat) (t : T) (hn : cs.length ≤ 10) (hw : ∀ y ∈ cs, y.f2.length ≤ 9223372036854775807) (ha : acc.length ≤ 1000000) (r : Bool) : ∀ (d j : Nat) (a : Int), cs.length = j + d →
    Evt (fun k => laws_FnTypeRemap.l4 k cs xs (acc ++ [⟨tyL t (cs.drop j) a, t.f1⟩]) xs (xs.length : Int) (wrap64 ((i : Int) + 1))) r →
    Evt (fun k => laws_FnTypeRemap.l5 k cs xs acc a xs (xs.length : Int) (i : Int) cs (cs.length : Int) (j : Int) t.f0 t.f1) r := by
  intro d
  induction d with
  | zero =>
    intro j a hj h
    rw [List.drop_eq_nil_of_le (by omega)] at h
    refine Evt.step (fun k => ?_) h
    simp only [laws_FnTypeRemap.l5]
    rw [if_neg (by omega), if_pos (by omega)]
    rfl
  | succ d ih =>
    intro j a hj h
    have hlt : j < cs.length := by omega
    rw [List.drop_eq_getElem_cons hlt] at h
    have h1 := ih (j + 1) (wd t cs[j] cs[j].f2 a) (by omega) h
    rw [← wrap_nat (by omega)] at h1
    have h2 := l6_loop cs xs acc xs (xs.length : Int) (i : Int) cs (cs.length : Int) (j : Int) t cs[j] (hw _ (List.getElem_mem hlt)) r cs[j].f2.length 0 a (by omega) (by rw [List.drop_zero]; exact h1)
    refine Evt.step (fun k => ?_) h2
    simp only [laws_FnTypeRemap.l5]
    rw [if_pos (by omega), if_pos (by omega), if_pos (by omega), rdMp _ _ hlt]
    rfl
def mapT (cs : List Mp) (t : T) : T := ⟨tyL t cs t.f0, t.f1⟩
/-- What the law does with what it wants. -/
def FINt (cs : List Mp) (xs want : List T) (k : Nat) : Option Bool :=
  (impl_TypeRemap.f cs xs).bind fun t => (laws_same.f k t want).bind fun u => if u = true then (laws_waking.f k).bind fun z => some z else some false
theorem want_loop (cs : List Mp) (xs : List T) (hn : cs.length ≤ 10) (hw : ∀ y ∈ cs, y.f2.length ≤ 9223372036854775807) (hx : xs.length ≤ 400) (r : Bool) : ∀ (d i : Nat) (acc : List T), xs.length = i + d → acc.length ≤ i → Evt (fun k => FINt cs xs (acc ++ (xs.drop i).map (mapT cs)) k) r →
    Evt (fun k => laws_FnTypeRemap.l4 k cs xs acc xs (xs.length : Int) (i : Int)) r := by
  intro d
  induction d with
  | zero =>
    intro i acc hi ha h
    rw [List.drop_eq_nil_of_le (by omega), List.map_nil, List.append_nil] at h
    refine Evt.step (fun k => ?_) h
    simp only [laws_FnTypeRemap.l4]
    rw [if_neg (by omega)]
    rfl
  | succ d ih =>
    intro i acc hi ha h
    have hlt : i < xs.length := by omega
    rw [List.drop_eq_getElem_cons hlt, List.map_cons, ← List.singleton_append, ← List.append_assoc] at h
    have h1 := ih (i + 1) (acc ++ [mapT cs xs[i]]) (by omega) (by rw [List.length_append]; simp; omega) h
    have h2 := l5_loop cs xs acc i xs[i] hn hw (by omega) r cs.length 0 xs[i].f0 (by omega) (by rw [List.drop_zero, wrap_nat (by omega)]; exact h1)
    refine Evt.step (fun k => ?_) h2
    simp only [laws_FnTypeRemap.l4]
    rw [if_pos (by omega), if_pos (by omega), if_pos (by omega), rdT _ _ hlt]
    rfl
theorem str_eq {a b : ByteArray} : a.toList = b.toList ↔ a = b := ⟨fun h => dat_inj (by rw [toList_dat, toList_dat] at h; exact h), fun h => h ▸ rfl⟩
theorem wd_eq (t : T) (m : Mp) : ∀ (ws : List ByteArray) (a : Int), (m.f0 = t.f0 ∧ t.f1 ∈ ws → wd t m ws a = m.f1) ∧ (¬ (m.f0 = t.f0 ∧ t.f1 ∈ ws) → wd t m ws a = a)
  | [], a => ⟨fun h => (by cases h.2), fun _ => rfl⟩
  | w :: r, a => by
    obtain ⟨h1, h2⟩ := wd_eq t m r (if m.f0 = t.f0 ∧ w.toList = t.f1.toList then m.f1 else a)
    unfold wd
    constructor
    · rintro ⟨e1, e2⟩
      by_cases hr : t.f1 ∈ r
      · exact h1 ⟨e1, hr⟩
      · rcases List.mem_cons.1 e2 with e | e
        · rw [h2 (fun h => hr h.2), if_pos ⟨e1, by rw [e]⟩]
        · exact absurd e hr
    · intro h
      rw [h2 (fun h' => h ⟨h'.1, List.mem_cons_of_mem _ h'.2⟩), if_neg]
      rintro ⟨e1, e2⟩
      exact h ⟨e1, by rw [str_eq.1 e2]; exact List.mem_cons_self⟩
open Classical in
theorem last_eq (t : T) : ∀ (cs : List Mp) (a : Option Int), (ZCoal.ZTk_last (cs.map ZCoal.ZTk_toM) t.f0 t.f1 a).getD t.f0 = tyL t cs (a.getD t.f0)
  | [], a => rfl
  | m :: r, a => by
    have ih := last_eq t r
    obtain ⟨h1, h2⟩ := wd_eq t m m.f2 (a.getD t.f0)
    unfold tyL
    by_cases h : m.f0 = t.f0 ∧ t.f1 ∈ m.f2
    · rw [h1 h]
      have e := ih (some m.f1)
      have e2 : ZCoal.ZTk_last ((m :: r).map ZCoal.ZTk_toM) t.f0 t.f1 a = ZCoal.ZTk_last (r.map ZCoal.ZTk_toM) t.f0 t.f1 (some m.f1) := by
        show ZCoal.ZTk_last (r.map ZCoal.ZTk_toM) t.f0 t.f1 (ite _ _ _) = _
        rw [if_pos ⟨h.1.symm, h.2⟩]
        rfl
      rw [e2, e]
      rfl
    · rw [h2 h, ← ih a]
      have e2 : ZCoal.ZTk_last ((m :: r).map ZCoal.ZTk_toM) t.f0 t.f1 a = ZCoal.ZTk_last (r.map ZCoal.ZTk_toM) t.f0 t.f1 a := by
        show ZCoal.ZTk_last (r.map ZCoal.ZTk_toM) t.f0 t.f1 (ite _ _ _) = _
        rw [if_neg (fun h' => h ⟨h'.1.symm, h'.2⟩)]
      rw [e2]
theorem map_eq (cs : List Mp) (t : T) : (mapF cs (toCC t)).map toTT = [mapT cs t] := by
  unfold mapF mapT ZCoal.tabOf
  rw [ZCoal.at2_tab]
  have := last_eq t cs none
  rw [List.map_singleton]
  show [(⟨_, t.f1⟩ : T)] = _
  rw [show ((toCC t).f0) = t.f0 from rfl, show ((toCC t).f1) = t.f1 from rfl, this]
  rfl
theorem rm_eq (cs : List Mp) (xs : List T) : (rmL cs [] (xs.map toCC)).map toTT = xs.map (mapT cs) := by
  unfold rmL
  rw [List.nil_append]
  induction xs with
  | nil => rfl
  | cons a r ih => rw [List.map_cons, List.flatMap_cons, List.map_append, ih, map_eq]; rfl
theorem FnTypeRemap : laws_FnTypeRemap.Pure := by
  intro l0 l1 wf0 wf1
  refine Evt.get ?_
  have hs0 : ∀ b3, b3 = true → Evt (fun k => laws_FnTypeRemap.j0 k l0 l1 b3) true := fun b3 h3 => by
    subst h3
    exact Evt.step (h := fun _ => some true) (fun k => by simp only [laws_FnTypeRemap.j0]; rw [if_pos trivial]) (Evt.pure _)
  have hs1 : ∀ b3, b3 = true → Evt (fun k => laws_FnTypeRemap.j1 k l0 l1 b3) true := fun b3 h3 => by
    subst h3
    exact Evt.step (h := fun _ => some true) (fun k => by simp only [laws_FnTypeRemap.j1]; rw [if_pos trivial]) (Evt.pure _)
  have hw : ∀ y ∈ l0, y.f2.length ≤ 9223372036854775807 := fun y hy => (wf0.2 y hy).2.2.1
  obtain ⟨b, hb⟩ := fits25 l0
  refine Evt.bind hb ?_
  cases b with
  | false => exact Evt.neg (by simp) (hs0 true rfl)
  | true =>
    refine Evt.pos rfl ?_
    obtain ⟨b2, hb2, hb2'⟩ := fits l1
    refine Evt.bind hb2 ?_
    cases b2 with
    | false => exact hs0 _ rfl
    | true =>
      obtain ⟨h1, h2⟩ := hb2' rfl
      by_cases h20 : (l0.length : Int) > 10
      · refine Evt.step (fun k => ?_) (hs1 true rfl)
        simp only [laws_FnTypeRemap.j0]
        rw [if_neg (by simp), if_pos h20]
      · have hst : ∀ k, laws_FnTypeRemap.j0 (k + 1) l0 l1 (!true) = (laws_small.f k l1).bind fun t => laws_FnTypeRemap.j1 k l0 l1 (!t) := fun k => by
          simp only [laws_FnTypeRemap.j0]
          rw [if_neg (by simp), if_neg h20]
        obtain ⟨b3, hb3, hb3'⟩ := small l1 h1 h2
        refine Evt.step hst (Evt.bind hb3 ?_)
        cases b3 with
        | false => exact hs1 _ rfl
        | true =>
          obtain ⟨g1, g2, g3⟩ := hb3' rfl
          refine Evt.step (fun k => by simp only [laws_FnTypeRemap.j1]; rw [if_neg (by simp)]; rfl) (l0_loop l0 l1 (by omega) hw l0.length 0 (by omega) (fun hF => ?_))
          rw [List.drop_zero] at hF
          refine want_loop l0 l1 (by omega) hw g1 true l1.length 0 [] (by omega) (by simp) ?_
          rw [List.drop_zero, List.nil_append]
          have hT : impl_TypeRemap.f l0 l1 = some (l1.map (mapT l0)) := by
            unfold impl_TypeRemap.f
            rw [if_pos ⟨by omega, List.all_eq_true.2 fun x hx => by
              obtain ⟨f1, f2, f3, f4⟩ := hF x hx
              obtain ⟨⟨q1, q2⟩, _, _, q3⟩ := wf0.2 x hx
              simp only [Bool.and_eq_true, decide_eq_true_eq, bne_iff_ne, List.all_eq_true]
              refine ⟨⟨⟨⟨⟨f1, by omega⟩, q1⟩, q2⟩, f3⟩, fun s hs => ⟨q3 s hs, fun e => f4 s hs ?_⟩⟩
              rw [toList_dat]
              rw [size_dat] at e
              exact List.eq_nil_of_length_eq_zero e, by omega, List.all_eq_true.2 fun x hx => by
              obtain ⟨⟨q1, q2⟩, q3⟩ := wf1.2 x hx
              simp only [Bool.and_eq_true, decide_eq_true_eq, bne_iff_ne]
              exact ⟨⟨⟨g3 x hx, q1⟩, q2⟩, q3⟩⟩, rm_eq]
          refine Evt.bind' hT ?_
          have hlen : (l1.map (mapT l0)).length ≤ 2147483647 := by rw [List.length_map]; omega
          have hs := same (l1.map (mapT l0)) (l1.map (mapT l0)) hlen
          have hs2 : Evt (fun k => laws_same.f k (l1.map (mapT l0)) (l1.map (mapT l0))) true := by simpa using hs
          exact Evt.bind hs2 (Evt.pos rfl (Evt.bind waking (Evt.pure _)))
end Go.Proofs.YtchkijfnhhldfaaDoor.Pure
