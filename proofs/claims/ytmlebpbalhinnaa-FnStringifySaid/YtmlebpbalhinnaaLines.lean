/- Plain lemmas on the thin package's SplitLines and on the helpers of the laws on lines. -/
import Derived.Test.YtmlebpbalhinnaaSplit
set_option linter.unusedVariables false
set_option linter.unusedSimpArgs false
namespace Go.Proofs.YtmlebpbalhinnaaLines
open Go.RowKit Go.Proofs.YtmlebpbalhinnaaEvt Go.Proofs.Ytmlebpbalhinnaa.M Go.Proofs.YtmlebpbalhinnaaW.PrintWords Go.Proofs.YtmlebpbalhinnaaTok Go.Proofs.YtmlebpbalhinnaaSplit

def mmT (o : List (List Tok)) : List (List T) := o.map fun l => l.map mT
theorem line_le {o : List (List Tok)} (i : Nat) (h : i < o.length) : o[i].length ≤ o.flatten.length := by
  have e : o.flatten = (o.take i).flatten ++ (o[i] ++ (o.drop (i + 1)).flatten) := by
    rw [← List.flatten_cons, ← List.drop_eq_getElem_cons h, ← List.flatten_append, List.take_append_drop]
  rw [e]; simp; omega
theorem nls_le (l : List Tok) : nls l ≤ wgt l := by
  have := wgt_eq l
  have h : nls l ≤ (l.flatMap fun p => p.2).length := List.count_le_length
  omega
theorem lines_count (l : List Tok) : nls l ≤ (lines l).length ∧ (lines l).length ≤ nls l + 1 := by
  obtain ⟨⟨cl, tl, e, _, hn, htl⟩, _⟩ := lines_shape l
  rw [e, List.length_append, hn]
  rcases htl with rfl | ⟨o, rfl, _⟩ <;> simp
theorem sl_loop (L : List (List Tok)) (hn : L.length ≤ 2000000) (hf : L.flatten.length ≤ 1000000) : ∀ (d i : Nat) (acc : List (List T)), L.length = i + d → acc.length ≤ i →
    Evt (fun k => impl_SplitLines.l0 k acc (mm L) ((mm L).length : Int) (i : Int)) (acc ++ mmT (L.drop i)) := by
  have hl : (mm L).length = L.length := List.length_map _
  intro d
  induction d with
  | zero =>
    intro i acc hi hacc
    rw [List.drop_eq_nil_of_le (by omega)]
    refine Evt.step (h := fun _ => some _) (fun k => ?_) (Evt.pure _)
    simp only [impl_SplitLines.l0]; rw [if_neg (by omega)]; simp [mmT]
  | succ d ih =>
    intro i acc hi hacc
    have hlt : i < L.length := by omega
    have hrd : rd_L4 (mm L) (i : Int) = L[i].map mC := by
      show (mm L).getD (i : Int).toNat [] = _
      rw [rdLC _ _ (by omega)]; simp [mm]
    have hm : (L[i].map mC).map toT = L[i].map mT := by rw [List.map_map]; rfl
    have h1 := ih (i + 1) (acc ++ [L[i].map mT]) (by omega) (by simp; omega)
    have e : acc ++ mmT (L.drop i) = acc ++ [L[i].map mT] ++ mmT (L.drop (i + 1)) := by
      rw [List.drop_eq_getElem_cons hlt]; simp only [mmT, List.map_cons, List.append_assoc, List.singleton_append]
    rw [e]
    have ho := outer (L[i].map mC) (by rw [List.length_map]; have := line_le i hlt; omega)
    rw [hm] at ho
    refine Evt.step (fun k => by simp only [impl_SplitLines.l0]; rw [if_pos (by omega), if_pos (by omega), if_pos (by omega), hrd]) ?_
    refine Evt.bind ho ?_
    refine Evt.pos (by omega) ?_
    rw [wrap_nat (by omega)]
    exact h1
theorem splitLines (xs : List Tok) (hw : wgt xs ≤ 900000) : Evt (fun k => impl_SplitLines.f k (xs.map mT)) (mmT (lines xs)) := by
  have hwe := wgt_eq xs
  have hi := inner (xs.map mT) (by rw [List.length_map]; omega)
  have hm : (xs.map mT).map toC = xs.map mC := by rw [List.map_map]; rfl
  rw [hm] at hi
  refine Evt.bind hi (Evt.bind (tokens xs (by omega)) ?_)
  have h := sl_loop (lines xs) (by have := (lines_count xs).2; have := nls_le xs; omega) (by have := lines_len xs; omega) (lines xs).length 0 [] (by omega) (by simp)
  simpa using h

/-! ### flat -/
theorem flat_loop (L : List (List Tok)) (hn : L.length ≤ 2000000) (hf : L.flatten.length ≤ 1000000) : ∀ (d i : Nat) (acc : List Tok), L.length = i + d → acc.length + (L.drop i).flatten.length ≤ 1000000 →
    Evt (fun k => laws_flat.l0 k (acc.map mT) (mmT L) ((mmT L).length : Int) (i : Int)) ((acc ++ (L.drop i).flatten).map mT) := by
  have hl : (mmT L).length = L.length := List.length_map _
  intro d
  induction d with
  | zero =>
    intro i acc hi hacc
    rw [List.drop_eq_nil_of_le (by omega)]
    refine Evt.step (h := fun _ => some _) (fun k => ?_) (Evt.pure _)
    simp only [laws_flat.l0]; rw [if_neg (by omega)]; simp
  | succ d ih =>
    intro i acc hi hacc
    have hlt : i < L.length := by omega
    have hrd : rd_L5 (mmT L) (i : Int) = L[i].map mT := by
      show (mmT L).getD (i : Int).toNat [] = _
      rw [rdLT _ _ (by omega)]; simp [mmT]
    rw [List.drop_eq_getElem_cons hlt, List.flatten_cons, List.length_append] at hacc
    have h1 := ih (i + 1) (acc ++ L[i]) (by omega) (by rw [List.length_append]; omega)
    have e : acc ++ (L.drop i).flatten = acc ++ L[i] ++ (L.drop (i + 1)).flatten := by
      rw [List.drop_eq_getElem_cons hlt, List.flatten_cons, List.append_assoc]
    rw [e]
    rw [List.map_append (l₁ := acc)] at h1
    refine Evt.step (fun k => by simp only [laws_flat.l0]; rw [if_pos (by omega), if_pos (by omega), if_pos (by omega), hrd]) ?_
    refine Evt.pos (by simp only [List.length_map]; omega) ?_
    rw [wrap_nat (by omega)]
    exact h1
theorem flat (L : List (List Tok)) (hn : L.length ≤ 2000000) (hf : L.flatten.length ≤ 1000000) : Evt (fun k => laws_flat.f k (mmT L)) (L.flatten.map mT) := by
  have h := flat_loop L hn hf L.length 0 [] (by omega) (by simpa using hf)
  rw [List.drop_zero, List.nil_append] at h
  exact Evt.congr (fun k => rfl) h

/-! ### each, sameInts -/
def eac (xs : List Tok) : List Int := xs.flatMap fun p => List.replicate p.2.length p.1
theorem eac_len (xs : List Tok) : (eac xs).length ≤ wgt xs := by
  induction xs with
  | nil => simp [eac, wgt]
  | cons x r ih => simp only [eac, List.flatMap_cons, List.length_append, List.length_replicate, wgt] at ih ⊢; omega
theorem each_in (xs : List T) (i : Nat) (n : Nat) (t : Int) (v : ByteArray) (r : List Int) (hn : n ≤ 1000000) (h0 : ∀ acc : List Int, acc.length ≤ 2000000 → Evt (fun k => laws_each.l0 k acc xs (xs.length : Int) (wrap64 ((i : Int) + 1))) (acc ++ r)) :
    ∀ (d j : Nat) (acc : List Int), n = j + d → acc.length + d ≤ 2000000 → Evt (fun k => laws_each.l1 k acc xs (xs.length : Int) (i : Int) (n : Int) (j : Int) t v) (acc ++ List.replicate d t ++ r) := by
  intro d
  induction d with
  | zero =>
    intro j acc hj hacc
    refine Evt.step (fun k => by simp only [laws_each.l1]; rw [if_neg (by omega)]) ?_
    simpa using h0 acc (by omega)
  | succ d ih =>
    intro j acc hj hacc
    have h1 := ih (j + 1) (acc ++ [t]) (by omega) (by simp; omega)
    refine Evt.step (fun k => by simp only [laws_each.l1]; rw [if_pos (by omega), if_pos (by omega), wrap_nat (by omega)]) ?_
    rw [List.replicate_succ]
    simpa using h1
theorem each_loop (xs : List Tok) (hw : wgt xs ≤ 1000000) : ∀ (d i : Nat) (acc : List Int), xs.length = i + d → acc.length + wgt (xs.drop i) ≤ 2000000 →
    Evt (fun k => laws_each.l0 k acc (xs.map mT) ((xs.map mT).length : Int) (i : Int)) (acc ++ eac (xs.drop i)) := by
  have hl : (xs.map mT).length = xs.length := List.length_map _
  have hwe := wgt_eq xs
  intro d
  induction d with
  | zero =>
    intro i acc hi hacc
    rw [List.drop_eq_nil_of_le (by omega)]
    refine Evt.step (h := fun _ => some _) (fun k => ?_) (Evt.pure _)
    simp only [laws_each.l0]; rw [if_neg (by omega)]; simp [eac]
  | succ d ih =>
    intro i acc hi hacc
    have hlt : i < xs.length := by omega
    rw [List.drop_eq_getElem_cons hlt] at hacc
    simp only [wgt] at hacc
    have hsz : xs[i].2.length ≤ 1000000 := by
      have e : xs = xs.take i ++ (xs[i] :: xs.drop (i + 1)) := by rw [← List.drop_eq_getElem_cons hlt, List.take_append_drop]
      have h2 : ∀ a b : List Tok, wgt (a ++ b) = wgt a + wgt b := by
        intro a b
        induction a with
        | nil => simp [wgt]
        | cons x r ih => simp only [List.cons_append, wgt, ih]; omega
      rw [e, h2] at hw
      simp only [wgt] at hw
      omega
    have hrd : rd_T36 (xs.map mT) (i : Int) = mT xs[i] := by rw [rdT _ _ (by omega)]; simp
    have e : acc ++ eac (xs.drop i) = acc ++ List.replicate xs[i].2.length xs[i].1 ++ eac (xs.drop (i + 1)) := by
      rw [List.drop_eq_getElem_cons hlt]; simp only [eac, List.flatMap_cons, List.append_assoc]
    rw [e]
    refine Evt.step (fun k => by simp only [laws_each.l0]; rw [if_pos (by omega), if_pos (by omega), if_pos (by omega), hrd]) ?_
    have hs : ((mT xs[i]).f1.size : Int) = (xs[i].2.length : Int) := by simp only [mT, size_B]
    have := each_in (xs.map mT) i xs[i].2.length xs[i].1 (mT xs[i]).f1 (eac (xs.drop (i + 1))) (by omega)
    rw [hs]
    by_cases hz : acc.length + xs[i].2.length + wgt (xs.drop (i + 1)) ≤ 2000000
    · have key : ∀ (d j : Nat) (acc2 : List Int), xs[i].2.length = j + d → acc2.length + d + wgt (xs.drop (i + 1)) ≤ 2000000 → Evt (fun k => laws_each.l1 k acc2 (xs.map mT) ((xs.map mT).length : Int) (i : Int) (xs[i].2.length : Int) (j : Int) xs[i].1 (mT xs[i]).f1) (acc2 ++ List.replicate d xs[i].1 ++ eac (xs.drop (i + 1))) := by
        intro d2
        induction d2 with
        | zero =>
          intro j acc2 hj hacc2
          refine Evt.step (fun k => by simp only [laws_each.l1]; rw [if_neg (by omega)]) ?_
          have h1 := ih (i + 1) acc2 (by omega) (by omega)
          rw [wrap_nat (by omega)]
          simpa using h1
        | succ d2 ih2 =>
          intro j acc2 hj hacc2
          have h1 := ih2 (j + 1) (acc2 ++ [xs[i].1]) (by omega) (by simp; omega)
          refine Evt.step (fun k => by simp only [laws_each.l1]; rw [if_pos (by omega), if_pos (by omega), wrap_nat (by omega)]) ?_
          rw [List.replicate_succ]
          simpa using h1
      exact key xs[i].2.length 0 acc (by omega) hz
    · omega
theorem each (xs : List Tok) (hw : wgt xs ≤ 1000000) : Evt (fun k => laws_each.f k (xs.map mT)) (eac xs) := by
  have h := each_loop xs hw xs.length 0 [] (by omega) (by simp; omega)
  rw [List.drop_zero, List.nil_append] at h
  exact Evt.congr (fun k => rfl) h
theorem rdI (xs : List Int) (i : Nat) (h : i < xs.length) : rd xs (i : Int) = xs[i] := by simp [rd, List.getD_eq_getElem?_getD, h]
theorem sameInts_refl (a : List Int) (hn : a.length ≤ 2147483647) : Evt (fun k => laws_sameInts.f k a a) true := by
  have key : ∀ (d i : Nat), a.length = i + d → Evt (fun k => laws_sameInts.l0 k a a (a.length : Int) (i : Int)) true := by
    intro d
    induction d with
    | zero =>
      intro i hi
      exact Evt.step (h := fun _ => some _) (fun k => by simp only [laws_sameInts.l0]; rw [if_neg (by omega)]) (Evt.pure _)
    | succ d ih =>
      intro i hi
      exact Evt.step (fun k => by simp only [laws_sameInts.l0]; rw [if_pos (by omega), if_pos (by omega), if_pos (by omega), if_pos (by omega), if_pos True.intro, wrap_nat (by omega)]) (ih (i + 1) (by omega))
  exact Evt.congr (fun k => by simp only [laws_sameInts.f]; rw [if_pos True.intro]; rfl) (key a.length 0 (by omega))

/-! ### feeds, ends -/
theorem feeds_loop (l : List UInt8) (hv : l.length ≤ 2147483647) : ∀ (d i c : Nat), l.length = i + d → c ≤ i →
    Evt (fun k => laws_feeds.l0 k (B l) (c : Int) (l.length : Int) (i : Int)) ((c + (l.drop i).count 10 : Nat) : Int) := by
  intro d
  induction d with
  | zero =>
    intro i c hi hc
    rw [List.drop_eq_nil_of_le (by omega)]
    refine Evt.step (h := fun _ => some _) (fun k => ?_) (Evt.pure _)
    simp only [laws_feeds.l0]; rw [if_neg (by omega)]; rfl
  | succ d ih =>
    intro i c hi hc
    have hlt : i < l.length := by omega
    have hb : bt (B l) (i : Int) = ((l[i]).toNat : Int) := by
      rw [bt_dat (B l) i (by rw [dat_B]; exact hlt)]
    have h10 : bt (B l) (i : Int) = 10 ↔ l[i] = 10 := by rw [hb, ← u8_eq_iff]; rfl
    by_cases h : l[i] = 10
    · have h1 := ih (i + 1) (c + 1) (by omega) (by omega)
      have e : c + (l.drop i).count 10 = c + 1 + (l.drop (i + 1)).count 10 := by
        rw [List.drop_eq_getElem_cons hlt, List.count_cons, h]; simp <;> omega
      rw [e]
      refine Evt.step (fun k => ?_) h1
      simp only [laws_feeds.l0]; rw [size_B, if_pos (by omega), if_pos (by omega), if_pos (by omega), if_pos (h10.2 h), wrap_nat (by omega), wrap_nat (by omega)]
    · have h1 := ih (i + 1) c (by omega) (by omega)
      have e : c + (l.drop i).count 10 = c + (l.drop (i + 1)).count 10 := by
        rw [List.drop_eq_getElem_cons hlt, List.count_cons]; simp [h]
      rw [e]
      refine Evt.step (fun k => ?_) h1
      simp only [laws_feeds.l0]; rw [size_B, if_pos (by omega), if_pos (by omega), if_pos (by omega), if_neg (fun x => h (h10.1 x)), wrap_nat (by omega)]
theorem feeds (l : List UInt8) (hv : l.length ≤ 2147483647) : Evt (fun k => laws_feeds.f k (B l)) (l.count 10 : Int) := by
  have h := feeds_loop l hv l.length 0 0 (by omega) (by omega)
  refine Evt.congr (h := fun k => laws_feeds.l0 k (B l) 0 (l.length : Int) 0) (fun k => by simp only [laws_feeds.f]; rw [size_B]) ?_
  simpa using h
theorem ends_yes (l : List UInt8) (hv : (l ++ [10]).length ≤ 2147483647) : laws_ends.f (B (l ++ [10])) = some true := by
  have hl : (l ++ [10]).length = l.length + 1 := by simp
  unfold laws_ends.f
  rw [size_B, if_pos (by omega), wrap_in (by omega) (by omega), if_pos (by omega), if_pos (by omega)]
  have e : (((l ++ [10]).length : Nat) : Int) - 1 = ((l.length : Nat) : Int) := by omega
  rw [e, bt_dat _ _ (by rw [dat_B]; omega)]
  simp

/-! ### the sanity check -/
theorem waking : Evt (fun k => laws_waking.f k) true := by
  have h1 := splitLines [(1000, [105, 102, 10, 120]), (2000, [121])] (by simp [wgt])
  have e : lines [(1000, [105, 102, 10, 120]), (2000, [121])] = [[(1000, [105, 102, 10])], [(1000, [120]), (2000, [121])]] := by rfl
  rw [e] at h1
  refine Evt.bind h1 ?_
  refine Evt.pos (by simp [mmT]) ?_
  refine Evt.pos (by simp [mmT]) ?_
  have t1 := text [mT (1000, [105, 102, 10])] (by simp) (by decide)
  have t2 := text [mT (1000, [120]), mT (2000, [121])] (by simp) (by decide)
  refine Evt.bind t1 ?_
  refine Evt.pos (by rw [toList_dat, dat_B]; rfl) ?_
  refine Evt.pos (by simp [mmT]) ?_
  refine Evt.bind t2 ?_
  refine Evt.of (fun k => ?_)
  rw [toList_dat, dat_B]; rfl
end Go.Proofs.YtmlebpbalhinnaaLines
