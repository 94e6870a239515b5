/- impl.RegGet: what the registry's maps say of names and aliases that all differ. -/
import Derived.Test.YtibjlefenodhaaaDoorRegG
set_option linter.unusedVariables false
set_option linter.unusedSimpArgs false
namespace Go.Proofs.YtibjlefenodhaaaDoorReg
open Go.RowKit Go.Proofs.YtibjlefenodhaaaDoorW.PrintWords Go.Proofs.YtibjlefenodhaaaDoor.T Go.Proofs.YtibjlefenodhaaaDoorFmt Go.Proofs.YtibjlefenodhaaaDoorMapI
theorem fN_hit : ∀ (ps : List (I × Nat)) (f : ByteArray → Option Value) (t : ByteArray) (v : Value), ps.foldl (fun f p => updS f p.1.f0 (lx p.2)) f t = some v → (∃ p ∈ ps, p.1.f0 = t ∧ v = lx p.2) ∨ f t = some v := by
  intro ps
  induction ps with
  | nil => intro f t v h; exact .inr h
  | cons p r ih =>
    intro f t v h
    rcases ih _ t v h with ⟨q, hq, e1, e2⟩ | h
    · exact .inl ⟨q, List.mem_cons_of_mem _ hq, e1, e2⟩
    · replace h : (if t = p.1.f0 then some (lx p.2) else f t) = some v := h
      split at h
      · rename_i e; injection h with h; exact .inl ⟨p, List.mem_cons_self, e.symm, h.symm⟩
      · exact .inr h
theorem fN_has : ∀ (ps : List (I × Nat)) (f : ByteArray → Option Value) (t : ByteArray), (f t ≠ none ∨ ∃ p ∈ ps, p.1.f0 = t) → ps.foldl (fun f p => updS f p.1.f0 (lx p.2)) f t ≠ none := by
  intro ps
  induction ps with
  | nil => intro f t h; rcases h with h | ⟨p, hp, _⟩; exact h; cases hp
  | cons p r ih =>
    intro f t h
    refine ih _ t ?_
    show (if t = p.1.f0 then some (lx p.2) else f t) ≠ none ∨ _
    rcases h with h | ⟨q, hq, e⟩
    · left; split
      · simp
      · exact h
    · rcases List.mem_cons.1 hq with rfl | hq
      · left; rw [if_pos e.symm]; simp
      · exact .inr ⟨q, hq, e⟩
theorem al_hit : ∀ (l : List ByteArray) (f : ByteArray → Option Value) (b : Nat) (t : ByteArray) (v : Value), alsF f l b t = some v → (t ∈ l ∧ v = lx b) ∨ f t = some v := by
  intro l
  induction l with
  | nil => intro f b t v h; exact .inr h
  | cons a r ih =>
    intro f b t v h
    rcases ih (updS f a (lx b)) b t v h with ⟨e1, e2⟩ | h
    · exact .inl ⟨List.mem_cons_of_mem _ e1, e2⟩
    · replace h : (if t = a then some (lx b) else f t) = some v := h
      split at h
      · rename_i e; injection h with h; exact .inl ⟨by rw [e]; exact List.mem_cons_self, h.symm⟩
      · exact .inr h
theorem al_has : ∀ (l : List ByteArray) (f : ByteArray → Option Value) (b : Nat) (t : ByteArray), (f t ≠ none ∨ t ∈ l) → alsF f l b t ≠ none := by
  intro l
  induction l with
  | nil => intro f b t h; rcases h with h | h; exact h; cases h
  | cons a r ih =>
    intro f b t h
    refine ih (updS f a (lx b)) b t ?_
    show (if t = a then some (lx b) else f t) ≠ none ∨ _
    rcases h with h | h
    · left; split
      · simp
      · exact h
    · rcases List.mem_cons.1 h with rfl | h
      · left; rw [if_pos rfl]; simp
      · exact .inr h
theorem fA_hit : ∀ (ps : List (I × Nat)) (f : ByteArray → Option Value) (t : ByteArray) (v : Value), ps.foldl (fun f p => alsF f p.1.f1 p.2) f t = some v → (∃ p ∈ ps, t ∈ p.1.f1 ∧ v = lx p.2) ∨ f t = some v := by
  intro ps
  induction ps with
  | nil => intro f t v h; exact .inr h
  | cons p r ih =>
    intro f t v h
    rcases ih _ t v h with ⟨q, hq, e1, e2⟩ | h
    · exact .inl ⟨q, List.mem_cons_of_mem _ hq, e1, e2⟩
    · rcases al_hit _ _ _ _ _ h with ⟨e1, e2⟩ | h
      · exact .inl ⟨p, List.mem_cons_self, e1, e2⟩
      · exact .inr h
theorem fA_has : ∀ (ps : List (I × Nat)) (f : ByteArray → Option Value) (t : ByteArray), (f t ≠ none ∨ ∃ p ∈ ps, t ∈ p.1.f1) → ps.foldl (fun f p => alsF f p.1.f1 p.2) f t ≠ none := by
  intro ps
  induction ps with
  | nil => intro f t h; rcases h with h | ⟨p, hp, _⟩; exact h; cases hp
  | cons p r ih =>
    intro f t h
    refine ih _ t ?_
    rcases h with h | ⟨q, hq, e⟩
    · exact .inl (al_has _ _ _ _ (.inl h))
    · rcases List.mem_cons.1 hq with rfl | hq
      · exact .inl (al_has _ _ _ _ (.inr e))
      · exact .inr ⟨q, hq, e⟩
theorem ixL_at : ∀ (bs : List Nat) (k j : Nat) (hk : k < bs.length), bs.Nodup → ixL bs bs[k] j = ((k + j : Nat) : Int) := by
  intro bs
  induction bs with
  | nil => intro k j hk; simp at hk
  | cons b r ih =>
    intro k j hk hn
    rw [List.nodup_cons] at hn
    cases k with
    | zero => rw [ixL]; simp
    | succ k =>
      have hk' : k < r.length := by simpa using hk
      rw [ixL, if_neg, List.getElem_cons_succ, ih k (j + 1) hk' hn.2]
      · congr 1; omega
      · rw [List.getElem_cons_succ]
        intro e
        exact hn.1 (by rw [e]; exact List.getElem_mem hk')
/-- A lexer's names. -/
def nms (x : I) : List ByteArray := x.f0 :: x.f1
theorem regAdd_some : ∀ (l all r : List ByteArray), regAdd all l = some r → r = all ++ l ∧ (∀ s ∈ l, s.toList ≠ [] ∧ letB s = true ∧ s ∉ all) ∧ l.Nodup := by
  intro l
  induction l with
  | nil => intro all r h; rw [regAdd] at h; injection h with h; exact ⟨by rw [← h]; simp, (fun s hs => by cases hs), List.nodup_nil⟩
  | cons s q ih =>
    intro all r h
    rw [regAdd] at h
    split at h
    · cases h
    · rename_i hb
      obtain ⟨e1, e2, e3⟩ := ih _ r h
      refine ⟨by rw [e1]; simp, fun t ht => ?_, ?_⟩
      · rcases List.mem_cons.1 ht with rfl | ht
        · refine ⟨fun e => hb (.inl e), ?_, fun e => hb (.inr (.inr e))⟩
          cases hl : letB t
          · exact absurd (.inr (.inl hl)) hb
          · rfl
        · have := e2 t ht
          exact ⟨this.1, this.2.1, fun e => this.2.2 (List.mem_append.2 (.inl e))⟩
      · rw [List.nodup_cons]
        refine ⟨fun e => ?_, e3⟩
        exact (e2 s e).2.2 (List.mem_append.2 (.inr (List.mem_singleton.2 rfl)))
structure FitI (x : I) : Prop where
  n1 : x.f1.length ≤ 5
  n2 : x.f2.length = 0
  n3 : x.f3.length = 0
  n4 : x.f4.length ≤ 5
  nm : ∀ s ∈ nms x, s.toList ≠ [] ∧ letB s = true
theorem regGo_some : ∀ (xs : List I) (all r : List ByteArray), regGo all xs = some r → (∀ x ∈ xs, FitI x) ∧ (xs.flatMap nms).Nodup ∧ ∀ s ∈ xs.flatMap nms, s ∉ all := by
  intro xs
  induction xs with
  | nil => intro all r _; exact ⟨(fun x hx => by cases hx), List.nodup_nil, (fun s hs => by cases hs)⟩
  | cons x q ih =>
    intro all r h
    rw [regGo] at h
    split at h
    · cases h
    · rename_i hb
      cases ha : regAdd all (x.f0 :: x.f1) with
      | none => rw [ha] at h; cases h
      | some al =>
        rw [ha, Option.bind_some] at h
        obtain ⟨e1, e2, e3⟩ := regAdd_some _ _ _ ha
        obtain ⟨i1, i2, i3⟩ := ih al r h
        refine ⟨fun y hy => ?_, ?_, fun s hs => ?_⟩
        · rcases List.mem_cons.1 hy with rfl | hy
          · exact ⟨by omega, by omega, by omega, by omega, fun s hs => ⟨(e2 s hs).1, (e2 s hs).2.1⟩⟩
          · exact i1 y hy
        · rw [List.flatMap_cons, List.nodup_append]
          refine ⟨e3, i2, fun a ha b hb e => ?_⟩
          subst e
          exact i3 a hb (by rw [e1]; exact List.mem_append.2 (.inr ha))
        · rw [List.flatMap_cons, List.mem_append] at hs
          rcases hs with hs | hs
          · exact (e2 s hs).2.2
          · exact fun e => i3 s hs (by rw [e1]; exact List.mem_append.2 (.inl e))
theorem regOK_facts {xs : List I} (h : regOK xs = true) : xs.length ≤ 20 ∧ (∀ x ∈ xs, FitI x) ∧ (xs.flatMap nms).Nodup := by
  unfold regOK at h
  rw [Bool.and_eq_true, Option.isSome_iff_exists] at h
  obtain ⟨⟨r, h1⟩, h2⟩ := h
  obtain ⟨i1, i2, _⟩ := regGo_some _ _ _ h1
  exact ⟨of_decide_eq_true h2, i1, i2⟩
theorem nms_one {xs : List I} (h : (xs.flatMap nms).Nodup) {i j : Nat} (hi : i < xs.length) (hj : j < xs.length) {t : ByteArray} (h1 : t ∈ nms xs[i]) (h2 : t ∈ nms xs[j]) : i = j := by
  have h' := (List.pairwise_flatMap.1 h).2
  rw [List.pairwise_iff_getElem] at h'
  rcases Nat.lt_trichotomy i j with e | e | e
  · exact absurd rfl (h' i j hi hj e t h1 t h2)
  · exact e
  · exact absurd rfl (h' j i hj hi e t h2 t h1)
theorem letB_low {s : ByteArray} (h : letB s = true) : Low s ∧ s.size ≤ 20 := by
  unfold letB at h
  rw [Bool.and_eq_true, List.all_eq_true] at h
  have h2 := of_decide_eq_true h.2
  exact ⟨⟨by omega, fun b hb => of_decide_eq_true (h.1 b hb)⟩, h2⟩
theorem low_lw {s : ByteArray} (h : Low s) : lw s = s := by
  unfold lw
  rw [low_id h.lo]
theorem FitI.ok {x : I} (h : FitI x) : OkI x :=
  ⟨(letB_low (h.nm x.f0 List.mem_cons_self).2).1, fun s hs => (letB_low (h.nm s (List.mem_cons_of_mem _ hs)).2).1, by have := h.n1; omega, by have := h.n2; omega, by have := h.n3; omega, by have := h.n4; omega⟩
theorem regOK_nd {xs : List I} (h : regOK xs = true) : (xs.map (·.f0)).Nodup := by
  obtain ⟨_, _, h3⟩ := regOK_facts h
  have h' := (List.pairwise_flatMap.1 h3).2
  rw [List.Nodup, List.pairwise_map]
  exact h'.imp (fun {a b} h e => h a.f0 List.mem_cons_self b.f0 List.mem_cons_self e)
theorem getV_at {xs : List I} {ps : List (I × Nat)} (hps : ps.map (·.1) = xs) (hok : regOK xs = true) (s : ByteArray) (k : Nat) (hk : k < xs.length) (hs : lw s ∈ nms xs[k]) : getV (fNs ps) (fAs ps) s = lx (ps[k]'(by rw [← hps, List.length_map] at hk; exact hk)).2 := by
  obtain ⟨h1, h2, h3⟩ := regOK_facts hok
  have hkp : k < ps.length := by rw [← hps, List.length_map] at hk; exact hk
  have hxk : xs[k] = ps[k].1 := by subst hps; simp
  have lows : ∀ x ∈ xs, ∀ t ∈ nms x, lw t = t := fun x hx t ht => low_lw (letB_low ((h2 x hx).nm t ht).2).1
  -- a hit at a text whose small form is lw s
  have hit : ∀ (t : ByteArray) (p : I × Nat), p ∈ ps → t ∈ nms p.1 → lw t = lw s → lx p.2 = lx ps[k].2 := fun t p hp ht e => by
    obtain ⟨i, hi, rfl⟩ := List.getElem_of_mem hp
    have hix : i < xs.length := by rw [← hps, List.length_map]; exact hi
    have hxi : xs[i] = ps[i].1 := by subst hps; simp
    have := nms_one h3 hix hk (t := lw s) (by rw [← e, lows xs[i] (List.getElem_mem hix) t (by rw [hxi]; exact ht), hxi]; exact ht) hs
    subst this
    rfl
  have hN : ∀ t v, fNs ps t = some v → lw t = lw s → v = lx ps[k].2 := fun t v h e => by
    rcases fN_hit ps _ t v h with ⟨p, hp, e1, e2⟩ | h
    · rw [e2]; exact hit t p hp (by rw [← e1]; exact List.mem_cons_self) e
    · cases h
  have hA : ∀ t v, fAs ps t = some v → lw t = lw s → v = lx ps[k].2 := fun t v h e => by
    rcases fA_hit ps _ t v h with ⟨p, hp, e1, e2⟩ | h
    · rw [e2]; exact hit t p hp (List.mem_cons_of_mem _ e1) e
    · cases h
  have hll : lw (lw s) = lw s := lows _ (List.getElem_mem hk) _ hs
  have hpk : ps[k] ∈ ps := List.getElem_mem hkp
  unfold getV
  split
  · rename_i v h; exact hN s v h rfl
  · split
    · rename_i v h; exact hA s v h rfl
    · split
      · rename_i v h; exact hN (lw s) v h hll
      · rename_i e3
        split
        · rename_i v h; exact hA (lw s) v h hll
        · rename_i e4
          rw [hxk] at hs
          rcases List.mem_cons.1 hs with h | h
          · exact absurd e3 (fN_has ps _ _ (.inr ⟨ps[k], hpk, h.symm⟩))
          · exact absurd e4 (fA_has ps _ _ (.inr ⟨ps[k], hpk, h⟩))
theorem vals_lx (ps : List (I × Nat)) : ∀ k v, fNs ps k = some v ∨ fAs ps k = some v → ∃ b, v = lx b := by
  intro k v h
  rcases h with h | h
  · rcases fN_hit ps _ k v h with ⟨p, _, _, e⟩ | h
    · exact ⟨_, e⟩
    · cases h
  · rcases fA_hit ps _ k v h with ⟨p, _, _, e⟩ | h
    · exact ⟨_, e⟩
    · cases h
set_option maxRecDepth 100000 in
set_option maxHeartbeats 4000000 in
theorem regget_c (A : Option Addr) (c : Nat) (xs : List I) (s : ByteArray) (w : World) (hC : Kd.C k28 w A xs.length xs) (hc : xs.length ≤ c) (hok : regOK xs = true) (k : Nat) (hk : k < xs.length) (hs : lw s ∈ nms xs[k]) (hsz : s.size ≤ 20) (ha : ∀ b ∈ s.data.toList, b.toNat < 128) :
    Calls Tryd.prog 8 #[.slice A xs.length c, .string s] w fun e w' => e = .returned (.int .i64 (k : Int)) ∧ Below w.heap.size w w' := by
  have hF := regOK_facts hok
  have h1 := registry_c A c xs w hC hc hF.1 (fun x hx => (hF.2.1 x hx).ok) (regOK_nd hok)
  have key : ∀ (w1 : World) (vP : Value) (ps : List (I × Nat)), RS w w1 vP ps → ps.map (·.1) = xs → ∃ b, Aside0 (∀ B d n, vP = .slice B n d → (∀ w2, Below w1.heap.size w1 w2 → Calls Tryd.prog 19 #[.slice B n d, lx b] w2 fun e w' => e = .returned (.int .i64 (k : Int)) ∧ Below w2.heap.size w2 w')) ∧ Aside0 (Calls Tryd.prog 20 #[.pointer (some ⟨w.heap.size + 2, 0, none⟩), .string s] w1 fun e w' => e = .returned (lx b) ∧ Below w1.heap.size w1 w') := by
    intro w1 vP ps hR hps
    have hkp : k < ps.length := by rw [← hps, List.length_map] at hk; exact hk
    have hgv := getV_at hps hok s k hk hs
    refine ⟨ps[k].2, ⟨fun B d n hv w2 hB => ?_⟩, ⟨?_⟩⟩
    · have hix := ixL_at (ps.map (·.2)) k 0 (by rw [List.length_map]; exact hkp) hR.nd
      have hbk : ps[k].2 = (ps.map (·.2))[k]'(by rw [List.length_map]; exact hkp) := by simp
      rw [← hbk] at hix
      have hcf : ∀ x, x ∈ ps.map (·.2) ∨ x = ps[k].2 → ∃ cs t, w2.heap[x]? = some (.cells cs t (0, 0)) := fun x hx => by
        have hx' : x ∈ ps.map (·.2) := by
          rcases hx with h | rfl
          · exact h
          · exact List.mem_map.2 ⟨ps[k], List.getElem_mem hkp, rfl⟩
        obtain ⟨p, hp, rfl⟩ := List.mem_map.1 hx'
        obtain ⟨cs, h, _⟩ := ((hR.hC p hp).below hB).cfg
        exact ⟨cs, _, h⟩
      obtain ⟨A', c', e, hc', hC'⟩ := Kd.R_reads hR.hP
      clear hbk
      generalize ps.map (·.2) = bs at *
      generalize ps[k].2 = b at *
      rw [hv] at e
      injection e with e1 e2 e3
      subst e1; subst e2; subst e3
      have h := which_c B d bs b w2 (Kd.C_below hC' hB) hc' hcf
      rw [hix] at h
      exact h
    · obtain ⟨vL, cN, cA, hg, _⟩ := hR.hR
      refine (get_c w.heap.size cN cA vL _ _ _ s w1 hg (by omega) ha (vals_lx ps)).mono ?_
      rintro e w' ⟨rfl, hB⟩
      exact ⟨by rw [hgv], hB⟩
  have H1 := Aside0.mk h1
  have HK := Aside0.mk key
  clear h1 key hF hC hc hok hk hs hsz ha
  go_enter Tryd.func8, Tryd.ntmps8
  go_wp2_with (first | (go_at_call 18; with_reducible refine H1.out.mono ?_; rintro e w1 ⟨vP, ps, rfl, hR, hps⟩; obtain ⟨b, hw, hgt⟩ := HK.out w1 vP ps hR hps; obtain ⟨B, d, hv⟩ := Kd.R_slice hR.hP; generalize (ps.map (·.2)).length = n at hv; have HB1 := Aside0.mk hR.hB; have HW := Aside0.mk (hw.out B d _ hv); subst hv; clear hR hps hw) | (go_at_call 20; with_reducible refine hgt.out.mono ?_; rintro e w2 ⟨rfl, hB⟩; have HB2 := Aside0.mk hB; clear hB) | (go_at_call 19; with_reducible refine (HW.out w2 HB2.out).mono ?_; rintro e w3 ⟨rfl, hB⟩; have HB3 := Aside0.mk hB; clear hB))
  go_ret
  exact ⟨rfl, below_step HB1.out (below_step HB2.out HB3.out)⟩
end Go.Proofs.YtibjlefenodhaaaDoorReg
