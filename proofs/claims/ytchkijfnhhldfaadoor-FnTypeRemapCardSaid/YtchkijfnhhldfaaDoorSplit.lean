/- Plain lemmas on SplitTokensIntoLines: what its printed mirror answers, as lists of types and bytes, and what these lines are. -/
import Derived.Test.YtchkijfnhhldfaaDoorTok
set_option linter.unusedVariables false
set_option linter.unusedSimpArgs false
namespace Go.Proofs.YtchkijfnhhldfaaDoorSplit
open Go.RowKit Go.Proofs.YtchkijfnhhldfaaDoorEvt Go.Proofs.YtchkijfnhhldfaaDoor.R Go.Proofs.YtchkijfnhhldfaaDoorW.PrintWords Go.Proofs.YtchkijfnhhldfaaDoorTok

abbrev Tok := Int × List UInt8
def aC (x : C) : Tok := (x.f0, dat x.f1)
def mC (p : Tok) : C := ⟨p.1, B p.2⟩
def aT (x : T) : Tok := (x.f0, dat x.f1)
def mT (p : Tok) : T := ⟨p.1, B p.2⟩
theorem aC_mC (p : Tok) : aC (mC p) = p := by simp [aC, mC]
theorem mC_aC (x : C) : mC (aC x) = x := by simp only [aC, mC, B_dat]
theorem aT_mT (p : Tok) : aT (mT p) = p := by simp [aT, mT]
theorem mT_aT (x : T) : mT (aT x) = x := by simp only [aT, mT, B_dat]
theorem toC_mT (p : Tok) : toC (mT p) = mC p := rfl
theorem toT_mC (p : Tok) : toT (mC p) = mT p := rfl
theorem size_B (l : List UInt8) : (B l).size = l.length := by rw [size_dat, dat_B]

/-! ### the first line feed -/
def nlAt : List UInt8 → Nat → Int
  | [], _ => -1
  | b :: r, i => if b = 10 then (i : Int) else nlAt r (i + 1)
theorem nlAt_none {l : List UInt8} (h : 10 ∉ l) (i : Nat) : nlAt l i = -1 := by
  induction l generalizing i with
  | nil => rfl
  | cons b r ih =>
    rw [nlAt, if_neg (fun e => h (by simp [e]))]
    exact ih (fun hr => h (by simp [hr])) _
theorem nlAt_some {a b : List UInt8} (h : 10 ∉ a) (i : Nat) : nlAt (a ++ 10 :: b) i = ((i + a.length : Nat) : Int) := by
  induction a generalizing i with
  | nil => rw [List.nil_append, nlAt, if_pos rfl]; rfl
  | cons c r ih =>
    rw [List.cons_append, nlAt, if_neg (fun e => h (by simp [e])), ih (fun hr => h (by simp [hr]))]
    simp only [List.length_cons]; omega
theorem nl_cases (l : List UInt8) : 10 ∉ l ∨ ∃ a b, l = a ++ 10 :: b ∧ 10 ∉ a := by
  induction l with
  | nil => exact .inl (by simp)
  | cons c r ih =>
    by_cases hc : c = 10
    · exact .inr ⟨[], r, by simp [hc], by simp⟩
    · rcases ih with h | ⟨a, b, rfl, h⟩
      · exact .inl (by simp only [List.mem_cons, not_or]; exact ⟨fun e => hc e.symm, h⟩)
      · exact .inr ⟨c :: a, b, rfl, by simp only [List.mem_cons, not_or]; exact ⟨fun e => hc e.symm, h⟩⟩
theorem index_loop (l : List UInt8) (hv : l.length ≤ 2147483647) : ∀ (d i : Nat), l.length = i + d →
    Evt (fun k => chroma_zzIndex.l0 k (B l) (⟨#[10]⟩ : ByteArray) (i : Int)) (nlAt (l.drop i) i) := by
  intro d
  induction d with
  | zero =>
    intro i hi
    rw [List.drop_eq_nil_of_le (by omega)]
    refine Evt.step (h := fun _ => some _) (fun k => ?_) (Evt.pure _)
    simp only [chroma_zzIndex.l0]
    rw [show ((⟨#[10]⟩ : ByteArray).size : Int) = 1 from rfl, wrap_nat (by omega), size_B, if_neg (by omega)]; rfl
  | succ d ih =>
    intro i hi
    have hlt : i < l.length := by omega
    have h1 := ih (i + 1) (by omega)
    have hx : (((B l).extract ((i : Int)).toNat (((i + 1 : Nat) : Int)).toNat).toList = (⟨#[10]⟩ : ByteArray).toList) ↔ l[i] = 10 := by
      rw [toList_dat, toList_dat, dat_extract, dat_B, Int.toNat_natCast, Int.toNat_natCast, show i + 1 - i = 1 by omega, List.drop_eq_getElem_cons hlt, List.take_succ_cons, List.take_zero]
      show [l[i]] = [10] ↔ l[i] = 10
      rw [List.cons.injEq]; exact ⟨fun h => h.1, fun h => ⟨h, rfl⟩⟩
    rw [List.drop_eq_getElem_cons hlt, nlAt]
    by_cases hc : l[i] = 10
    · rw [if_pos hc]
      refine Evt.step (h := fun _ => some _) (fun k => ?_) (Evt.pure _)
      simp only [chroma_zzIndex.l0]
      rw [show ((⟨#[10]⟩ : ByteArray).size : Int) = 1 from rfl, wrap_nat (by omega), size_B, if_pos (by omega), if_pos (by omega), if_pos (by omega), if_pos (hx.2 hc)]
    · rw [if_neg hc]
      refine Evt.step (fun k => ?_) h1
      simp only [chroma_zzIndex.l0]
      rw [show ((⟨#[10]⟩ : ByteArray).size : Int) = 1 from rfl, wrap_nat (by omega), size_B, if_pos (by omega), if_pos (by omega), if_pos (by omega), if_neg (fun h => hc (hx.1 h))]
theorem index (l : List UInt8) (hv : l.length ≤ 2147483647) : Evt (fun k => chroma_zzIndex.f k (B l) (⟨#[10]⟩ : ByteArray)) (nlAt l 0) :=
  Evt.congr (fun k => rfl) (index_loop l hv l.length 0 (by omega))
theorem contains_no {l : List UInt8} (hv : l.length ≤ 2147483647) (h : 10 ∉ l) : Evt (fun k => chroma_zzContains.f k (B l) (⟨#[10]⟩ : ByteArray)) false := by
  have h1 := index l hv
  rw [nlAt_none h] at h1
  exact Evt.bind (g := fun _ t => some (decide (t ≥ 0))) h1 (Evt.of fun _ => rfl)
theorem contains_yes {a b : List UInt8} (hv : (a ++ 10 :: b).length ≤ 2147483647) (h : 10 ∉ a) : Evt (fun k => chroma_zzContains.f k (B (a ++ 10 :: b)) (⟨#[10]⟩ : ByteArray)) true := by
  have h1 := index _ hv
  rw [nlAt_some h] at h1
  exact Evt.bind (g := fun _ t => some (decide (t ≥ 0))) h1 (Evt.of fun _ => by
    show some (decide (((0 + a.length : Nat) : Int) ≥ 0)) = some true
    rw [decide_eq_true (by omega)])
theorem split_at {a b : List UInt8} (hv : (a ++ 10 :: b).length ≤ 2147483647) (h : 10 ∉ a) :
    Evt (fun k => chroma_zzSplitAfter.f k (B (a ++ 10 :: b)) (⟨#[10]⟩ : ByteArray)) [B (a ++ [10]), B b] := by
  have h1 := index _ hv
  rw [nlAt_some h] at h1
  have hl : (a ++ 10 :: b).length = a.length + 1 + b.length := by simp; omega
  refine Evt.bind (g := fun _ t => _) h1 (Evt.of fun _ => ?_)
  rw [show ((⟨#[10]⟩ : ByteArray).size : Int) = 1 from rfl, Nat.zero_add, wrap_nat (by omega), if_pos (by omega), size_B, if_pos (by omega), Int.toNat_natCast]
  have e1 : (B (a ++ 10 :: b)).extract 0 (a.length + 1) = B (a ++ [10]) := dat_inj (by
    rw [dat_take, dat_B, dat_B, List.take_append, List.take_of_length_le (by omega), show a.length + 1 - a.length = 1 by omega]; rfl)
  have e2 : (B (a ++ 10 :: b)).extract (a.length + 1) (a ++ 10 :: b).length = B b := dat_inj (by
    rw [show (a ++ 10 :: b).length = (B (a ++ 10 :: b)).size from (size_B _).symm, dat_drop, dat_B, dat_B, List.drop_append, List.drop_eq_nil_of_le (by omega), show a.length + 1 - a.length = 1 by omega]; rfl)
  rw [e1, e2]

/-! ### pieces -/
def cutA : List UInt8 → List UInt8 → List (List UInt8)
  | acc, [] => [acc]
  | acc, b :: r => if b = 10 then (acc ++ [10]) :: (if r = [] then [] else cutA [] r) else cutA (acc ++ [b]) r
theorem cutA_no {l : List UInt8} (h : 10 ∉ l) (acc : List UInt8) : cutA acc l = [acc ++ l] := by
  induction l generalizing acc with
  | nil => simp [cutA]
  | cons b r ih =>
    rw [cutA, if_neg (fun e => h (by simp [e])), ih (fun hr => h (by simp [hr]))]
    simp
theorem cutA_yes {a b : List UInt8} (h : 10 ∉ a) (acc : List UInt8) : cutA acc (a ++ 10 :: b) = (acc ++ a ++ [10]) :: (if b = [] then [] else cutA [] b) := by
  induction a generalizing acc with
  | nil => simp [cutA]
  | cons c r ih =>
    rw [List.cons_append, cutA, if_neg (fun e => h (by simp [e])), ih (fun hr => h (by simp [hr]))]
    simp
def pcs (x : Tok) : List Tok := (cutA [] x.2).map fun p => (x.1, p)
theorem pcs_no {x : Tok} (h : 10 ∉ x.2) : pcs x = [x] := by simp [pcs, cutA_no h]
theorem pcs_yes {t : Int} {a b : List UInt8} (h : 10 ∉ a) : pcs (t, a ++ 10 :: b) = (t, a ++ [10]) :: (if b = [] then [] else pcs (t, b)) := by
  simp only [pcs]
  rw [cutA_yes h]
  by_cases hb : b = [] <;> simp [hb]
/-- A piece has no line feed, or one at its end. -/
def Piece (p : Tok) : Prop := 10 ∉ p.2 ∨ ∃ a, p.2 = a ++ [10] ∧ 10 ∉ a
theorem pcs_of_piece {p : Tok} (h : Piece p) : pcs p = [p] := by
  rcases h with h | ⟨a, e, h⟩
  · exact pcs_no h
  · obtain ⟨t, l⟩ := p
    simp only at e
    subst e
    rw [show a ++ [10] = a ++ 10 :: [] from rfl, pcs_yes h]; simp
theorem pcs_ind (n : Nat) : ∀ x : Tok, x.2.length ≤ n → (∀ p ∈ pcs x, Piece p ∧ p.1 = x.1) ∧ (pcs x).flatMap (fun p => p.2) = x.2 ∧ (pcs x).flatMap (fun p => List.replicate p.2.length p.1) = List.replicate x.2.length x.1 ∧ (pcs x).length ≤ x.2.length + 1 := by
  induction n with
  | zero =>
    intro ⟨t, l⟩ hl
    have : l = [] := List.eq_nil_of_length_eq_zero (by simpa using hl)
    subst this
    rw [pcs_no (by simp)]
    refine ⟨fun p hp => ?_, by simp, by simp, by simp⟩
    simp only [List.mem_singleton] at hp
    subst hp
    exact ⟨.inl (by simp), rfl⟩
  | succ n ih =>
    intro ⟨t, l⟩ hl
    rcases nl_cases l with h | ⟨a, b, rfl, h⟩
    · rw [pcs_no h]
      refine ⟨fun p hp => ?_, by simp, by simp, by simp⟩
      simp only [List.mem_singleton] at hp
      subst hp
      exact ⟨.inl h, rfl⟩
    · rw [pcs_yes h]
      by_cases hb : b = []
      · subst hb
        rw [if_pos rfl]
        refine ⟨fun p hp => ?_, by simp, by simp, by simp⟩
        simp only [List.mem_singleton] at hp
        subst hp
        exact ⟨.inr ⟨a, rfl, h⟩, rfl⟩
      · rw [if_neg hb]
        simp only [List.length_append, List.length_cons] at hl
        obtain ⟨h1, h2, h3, h4⟩ := ih (t, b) (by simp only; omega)
        refine ⟨fun p hp => ?_, ?_, ?_, ?_⟩
        · rcases List.mem_cons.1 hp with rfl | hp
          · exact ⟨.inr ⟨a, rfl, h⟩, rfl⟩
          · exact h1 p hp
        · rw [List.flatMap_cons, h2]; simp
        · rw [List.flatMap_cons, h3, List.replicate_append_replicate]
          congr 1; simp; omega
        · simp only [List.length_append, List.length_cons] at h4 ⊢; omega
theorem pcs_piece (x : Tok) : ∀ p ∈ pcs x, Piece p := fun p hp => ((pcs_ind _ x (Nat.le_refl _)).1 p hp).1
theorem pcs_text (x : Tok) : (pcs x).flatMap (fun p => p.2) = x.2 := (pcs_ind _ x (Nat.le_refl _)).2.1
theorem pcs_each (x : Tok) : (pcs x).flatMap (fun p => List.replicate p.2.length p.1) = List.replicate x.2.length x.1 := (pcs_ind _ x (Nat.le_refl _)).2.2.1
theorem pcs_len (x : Tok) : (pcs x).length ≤ x.2.length + 1 := (pcs_ind _ x (Nat.le_refl _)).2.2.2

/-! ### lines -/
def grp : List (List Tok) → List Tok → List Tok → List (List Tok)
  | out, line, [] => if line = [] then out else out ++ [line]
  | out, line, p :: ps => if 10 ∈ p.2 then grp (out ++ [line ++ [p]]) [] ps else grp out (line ++ [p]) ps
/-- The last line, if it is one empty token alone, goes. -/
def fin (out : List (List Tok)) : List (List Tok) := match out.getLast? with
  | some [x] => if x.2 = [] then out.dropLast else out
  | _ => out
def lines (l : List Tok) : List (List Tok) := fin (grp [] [] (l.flatMap pcs))
def wgt : List Tok → Nat
  | [] => 0
  | x :: r => x.2.length + 1 + wgt r
def mm (o : List (List Tok)) : List (List C) := o.map fun l => l.map mC
theorem rdLC (xs : List (List C)) (i : Nat) (h : i < xs.length) : xs.getD (i : Int).toNat ([] : List C) = xs[i] := by
  simp [List.getD_eq_getElem?_getD, h]
theorem fin_nil (init : List (List Tok)) : fin (init ++ [[]]) = init ++ [[]] := by
  unfold fin
  rw [List.getLast?_append]; rfl
theorem fin_one (init : List (List Tok)) (x : Tok) : fin (init ++ [[x]]) = if x.2 = [] then init else init ++ [[x]] := by
  unfold fin
  rw [List.getLast?_append, List.dropLast_concat]; rfl
theorem fin_two (init : List (List Tok)) (x y : Tok) (r : List Tok) : fin (init ++ [x :: y :: r]) = init ++ [x :: y :: r] := by
  unfold fin
  rw [List.getLast?_append]; rfl
theorem j2 (out : List (List Tok)) (hn : out.length ≤ 2147483647) : Evt (fun k => chroma_SplitTokensIntoLines.j2 k (mm out)) (mm (fin out)) := by
  rcases List.eq_nil_or_concat out with rfl | ⟨init, last, rfl⟩
  · exact Evt.step (h := fun _ => some _) (fun k => by simp only [chroma_SplitTokensIntoLines.j2]; rw [if_neg (by simp [mm])]; rfl) (Evt.pure _)
  · rw [List.concat_eq_append] at hn ⊢
    have hlen : (mm (init ++ [last])).length = init.length + 1 := by simp [mm]
    have hw : wrap64 (((mm (init ++ [last])).length : Int) - 1) = (init.length : Int) := by
      simp only [List.length_append, List.length_cons, List.length_nil] at hn
      rw [hlen, wrap_in (by omega) (by omega)]; omega
    have hlast : rd_L8 (mm (init ++ [last])) (init.length : Int) = last.map mC := by
      show (mm (init ++ [last])).getD (init.length : Int).toNat [] = _
      rw [rdLC _ _ (by omega)]
      simp [mm]
    refine Evt.step (h := fun _ => some _) (fun k => ?_) (Evt.pure _)
    simp only [chroma_SplitTokensIntoLines.j2]
    rw [if_pos (by omega), hw, if_pos (by omega), if_pos (by omega), hlast]
    match last with
    | [] => rw [if_neg (by simp), fin_nil]
    | [x] =>
      rw [if_pos (by simp), if_pos (by simp), fin_one]
      have hx : ((rd_T62 ([x].map mC) 0).f1).toList = x.2 := by
        have e := rdC ([x].map mC) 0 (by simp)
        rw [show ((0 : Nat) : Int) = 0 from rfl] at e
        rw [e, toList_dat]; simp [mC]
      rw [hx]
      by_cases h0 : x.2 = []
      · rw [if_pos h0, if_pos (by omega), if_pos h0]
        congr 1
        simp [mm, List.take_append]
      · rw [if_neg h0, if_neg h0]
    | x :: y :: r => rw [if_neg (by simp; omega), fin_two]
theorem l1 (xs : List C) (i : Nat) (t : Int) (P' : List Tok) (W M : Nat) (hM : M ≤ 1000000)
    (h0 : ∀ out line, out.length + line.length + W ≤ M → Evt (fun k => chroma_SplitTokensIntoLines.l0 k (mm out) (line.map mC) xs (xs.length : Int) (wrap64 ((i : Int) + 1))) (mm (fin (grp out line P')))) :
    ∀ (m : Nat) (out : List (List Tok)) (line : List Tok) (v : List UInt8), v.length ≤ m → out.length + line.length + (v.length + 1) + W ≤ M →
      Evt (fun k => chroma_SplitTokensIntoLines.l1 k (mm out) (line.map mC) xs (xs.length : Int) (i : Int) t (B v)) (mm (fin (grp out line (pcs (t, v) ++ P')))) := by
  intro m
  induction m with
  | zero =>
    intro out line v hv hb
    have : v = [] := List.eq_nil_of_length_eq_zero (by omega)
    subst this
    rw [pcs_no (by simp), List.singleton_append, grp, if_neg (by simp)]
    refine Evt.step (fun k => by simp only [chroma_SplitTokensIntoLines.l1]; rfl) ?_
    refine Evt.bind (contains_no (l := []) (by simp) (by simp)) ?_
    refine Evt.neg (by simp) ?_
    refine Evt.pos (by simp only [List.length_map]; omega) ?_
    have h1 := h0 out (line ++ [(t, [])]) (by simp only [List.length_append, List.length_cons, List.length_nil] at hb ⊢; omega)
    rw [List.map_append] at h1
    exact h1
  | succ m ih =>
    intro out line v hv hb
    refine Evt.step (fun k => by simp only [chroma_SplitTokensIntoLines.l1]; rfl) ?_
    rcases nl_cases v with h | ⟨a, b, rfl, h⟩
    · rw [pcs_no h, List.singleton_append, grp, if_neg h]
      refine Evt.bind (contains_no (by omega) h) ?_
      refine Evt.neg (by simp) ?_
      refine Evt.pos (by simp only [List.length_map]; omega) ?_
      have h1 := h0 out (line ++ [(t, v)]) (by simp only [List.length_append, List.length_cons, List.length_nil] at hb ⊢; omega)
      rw [List.map_append] at h1
      exact h1
    · rw [pcs_yes h]
      refine Evt.bind (contains_yes (by omega) h) ?_
      refine Evt.pos rfl ?_
      refine Evt.bind (split_at (by omega) h) ?_
      refine Evt.pos (by simp) ?_
      refine Evt.bind' (a := (t, B b)) rfl ?_
      refine Evt.pos (by simp) ?_
      refine Evt.pos (by simp only [List.length_map]; omega) ?_
      refine Evt.pos (by simp only [mm, List.length_map]; omega) ?_
      refine Evt.bind' (a := mm (out ++ [line ++ [(t, a ++ [10])]])) (by simp [mm, mC, rdOf]) ?_
      have hr1 : (rdOf ByteArray.empty [B (a ++ [10]), B b] 1) = B b := rfl
      rw [hr1]
      simp only [List.length_append, List.length_cons] at hb hv
      rw [List.cons_append, grp, if_pos (by simp)]
      by_cases hbn : b = []
      · subst hbn
        refine Evt.pos (by rw [size_B]; rfl) ?_
        rw [if_pos rfl, List.nil_append]
        exact h0 _ [] (by simp only [List.length_append, List.length_cons, List.length_nil]; omega)
      · refine Evt.neg (by rw [size_B]; have := List.length_pos_iff.2 hbn; omega) ?_
        rw [if_neg hbn]
        exact ih _ [] b (by omega) (by simp only [List.length_append, List.length_cons, List.length_nil]; omega)
theorem l0 (xs : List Tok) (M : Nat) (hM : M ≤ 1000000) (hn : xs.length ≤ 1000000) : ∀ (d i : Nat) (out : List (List Tok)) (line : List Tok), xs.length = i + d → out.length + line.length + wgt (xs.drop i) ≤ M →
    Evt (fun k => chroma_SplitTokensIntoLines.l0 k (mm out) (line.map mC) (xs.map mC) ((xs.map mC).length : Int) (i : Int)) (mm (fin (grp out line ((xs.drop i).flatMap pcs)))) := by
  intro d
  induction d with
  | zero =>
    intro i out line hi hb
    have hl : (xs.map mC).length = xs.length := List.length_map _
    rw [List.drop_eq_nil_of_le (by omega), List.flatMap_nil, grp]
    refine Evt.step (fun k => by simp only [chroma_SplitTokensIntoLines.l0]; rw [if_neg (by omega)]) ?_
    by_cases h : line = []
    · subst h
      rw [if_pos rfl]
      refine Evt.neg (by simp) ?_
      exact j2 out (by omega)
    · rw [if_neg h]
      have hp := List.length_pos_iff.2 h
      refine Evt.pos (by simp only [List.length_map]; omega) ?_
      refine Evt.pos (by simp only [mm, List.length_map]; omega) ?_
      have h1 := j2 (out ++ [line]) (by simp only [List.length_append, List.length_cons, List.length_nil]; omega)
      have e : mm (out ++ [line]) = mm out ++ [line.map mC] := by simp [mm]
      rw [e] at h1
      exact h1
  | succ d ih =>
    intro i out line hi hb
    have hl : (xs.map mC).length = xs.length := List.length_map _
    have hlt : i < xs.length := by omega
    rw [List.drop_eq_getElem_cons hlt] at hb
    have hd : (xs.drop i).flatMap pcs = pcs (xs[i].1, xs[i].2) ++ (xs.drop (i + 1)).flatMap pcs := by rw [List.drop_eq_getElem_cons hlt, List.flatMap_cons]
    rw [hd]
    simp only [wgt] at hb
    have hrd : rd_T62 (xs.map mC) (i : Int) = mC xs[i] := by rw [rdC _ _ (by omega)]; simp
    refine Evt.step (fun k => by simp only [chroma_SplitTokensIntoLines.l0]; rw [if_pos (by omega), if_pos (by omega), if_pos (by omega), hrd]) ?_
    refine l1 (xs.map mC) i xs[i].1 _ (wgt (xs.drop (i + 1))) M hM (fun o l hol => ?_) xs[i].2.length out line xs[i].2 (Nat.le_refl _) (by omega)
    rw [wrap_nat (by omega)]
    exact ih (i + 1) o l (by omega) hol
theorem wgt_eq (xs : List Tok) : wgt xs = (xs.flatMap fun x => x.2).length + xs.length := by
  induction xs with
  | nil => rfl
  | cons x r ih => simp only [wgt, ih, List.flatMap_cons, List.length_append, List.length_cons]; omega
theorem tokens (xs : List Tok) (hw : wgt xs ≤ 1000000) : Evt (fun k => chroma_SplitTokensIntoLines.f k (xs.map mC)) (mm (lines xs)) := by
  have hl := wgt_eq xs
  have h := l0 xs 1000000 (Nat.le_refl _) (by omega) xs.length 0 [] [] (by omega) (by simpa using hw)
  exact Evt.congr (fun k => rfl) h

/-! ### what lines are -/
def Opened (line : List Tok) : Prop := ∀ q ∈ line, 10 ∉ q.2
def Closed (line : List Tok) : Prop := ∃ init p a, line = init ++ [p] ∧ Opened init ∧ p.2 = a ++ [10] ∧ 10 ∉ a
theorem grp_flat (ps : List Tok) : ∀ out line, (grp out line ps).flatten = out.flatten ++ line ++ ps := by
  induction ps with
  | nil =>
    intro out line
    rw [grp]
    split <;> simp_all
  | cons p ps ih =>
    intro out line
    rw [grp]
    split
    · rw [ih]; simp
    · rw [ih]; simp
/-- Closed lines, and perhaps one that is not. -/
def Shape (g : List (List Tok)) (n : Nat) : Prop := ∃ cl tl, g = cl ++ tl ∧ (∀ c ∈ cl, Closed c) ∧ cl.length = n ∧ (tl = [] ∨ ∃ o, tl = [o] ∧ o ≠ [] ∧ Opened o)
def nls (ps : List Tok) : Nat := (ps.flatMap fun p => p.2).count 10
theorem grp_shape (ps : List Tok) : ∀ out line, (∀ c ∈ out, Closed c) → Opened line → (∀ p ∈ ps, Piece p) → Shape (grp out line ps) (out.length + nls ps) := by
  induction ps with
  | nil =>
    intro out line ho hl hp
    rw [grp]
    split
    · exact ⟨out, [], by simp, ho, by simp [nls], .inl rfl⟩
    · rename_i h
      exact ⟨out, [line], rfl, ho, by simp [nls], .inr ⟨line, rfl, h, hl⟩⟩
  | cons p ps ih =>
    intro out line ho hl hp
    have hps : ∀ q ∈ ps, Piece q := fun q hq => hp q (by simp [hq])
    have hn : nls (p :: ps) = p.2.count 10 + nls ps := by simp [nls, List.count_append]
    rw [grp]
    split
    · rename_i hm
      rcases hp p (by simp) with h | ⟨a, e, h⟩
      · exact absurd hm h
      · have := ih (out ++ [line ++ [p]]) [] (fun c hc => by
          rcases List.mem_append.1 hc with hc | hc
          · exact ho c hc
          · simp only [List.mem_singleton] at hc
            subst hc
            exact ⟨line, p, a, rfl, hl, e, h⟩) (fun q hq => absurd hq (by simp)) hps
        have hc : p.2.count 10 = 1 := by rw [e, List.count_append, List.count_eq_zero.2 h]; simp
        rw [hn, hc]
        simpa [Nat.add_assoc] using this
    · rename_i hm
      have := ih out (line ++ [p]) ho (fun q hq => by
        rcases List.mem_append.1 hq with hq | hq
        · exact hl q hq
        · simp only [List.mem_singleton] at hq
          subst hq; exact hm) hps
      rw [hn, List.count_eq_zero.2 hm, Nat.zero_add]
      exact this
theorem grp_open (line2 : List Tok) : ∀ (out : List (List Tok)) (line rest : List Tok), Opened line2 → grp out line (line2 ++ rest) = grp out (line ++ line2) rest := by
  induction line2 with
  | nil => intro out line rest _; simp
  | cons p ps ih =>
    intro out line rest h
    rw [List.cons_append, grp, if_neg (h p (by simp)), ih _ _ _ (fun q hq => h q (by simp [hq]))]
    simp
theorem grp_closed {c : List Tok} (hc : Closed c) (out : List (List Tok)) (rest : List Tok) : grp out [] (c ++ rest) = grp (out ++ [c]) [] rest := by
  obtain ⟨init, p, a, rfl, hi, e, h⟩ := hc
  rw [List.append_assoc, grp_open _ _ _ _ hi, List.nil_append, List.singleton_append, grp, if_pos (by rw [e]; simp)]
theorem grp_again {g : List (List Tok)} {n : Nat} (hg : Shape g n) : grp [] [] g.flatten = g := by
  obtain ⟨cl, tl, rfl, hcl, _, htl⟩ := hg
  have key : ∀ (cl out : List (List Tok)), (∀ c ∈ cl, Closed c) → grp out [] (cl ++ tl).flatten = out ++ cl ++ tl := by
    intro cl
    induction cl with
    | nil =>
      intro out _
      rcases htl with rfl | ⟨o, rfl, hne, ho⟩
      · simp [grp]
      · have := grp_open o out [] [] ho
        rw [List.append_nil, List.nil_append] at this
        simp only [List.nil_append, List.flatten_cons, List.flatten_nil, List.append_nil, this]
        rw [grp, if_neg hne]
    | cons c cs ih =>
      intro out h
      rw [List.cons_append, List.flatten_cons, grp_closed (h c (by simp)), ih _ (fun x hx => h x (by simp [hx]))]
      simp
  simpa using key cl [] hcl
theorem fin_cases (out : List (List Tok)) : (fin out = out) ∨ ∃ t, out = fin out ++ [[(t, [])]] := by
  rcases List.eq_nil_or_concat out with rfl | ⟨init, last, rfl⟩
  · exact .inl rfl
  · rw [List.concat_eq_append]
    match last with
    | [] => exact .inl (fin_nil _)
    | [(t, v)] =>
      rw [fin_one]
      by_cases h : v = []
      · subst h; exact .inr ⟨t, by simp⟩
      · exact .inl (by simp [h])
    | x :: y :: r => exact .inl (fin_two _ _ _ _)
theorem closed_ne {c : List Tok} (hc : Closed c) (t : Int) : c ≠ [(t, [])] := by
  obtain ⟨init, p, a, rfl, hi, e, h⟩ := hc
  intro he
  rcases List.eq_nil_or_concat init with rfl | ⟨i2, l2, rfl⟩
  · simp only [List.nil_append, List.cons.injEq, and_true] at he
    rw [he] at e
    simp at e
  · rw [List.concat_eq_append] at he
    have := congrArg List.length he
    simp at this
theorem fin_shape {g : List (List Tok)} {n : Nat} (hg : Shape g n) : Shape (fin g) n ∧ fin (fin g) = fin g := by
  rcases fin_cases g with h | ⟨t, h⟩
  · rw [h]; exact ⟨hg, h⟩
  · obtain ⟨cl, tl, e, hcl, hn, htl⟩ := hg
    have hcl2 : fin g = cl := by
      rcases htl with rfl | ⟨o, rfl, hne, ho⟩
      · rw [List.append_nil] at e
        exfalso
        have : [(t, [])] ∈ cl := by rw [← e, h]; simp
        exact closed_ne (hcl _ this) t rfl
      · exact (List.append_inj' (h.symm.trans e) (by simp)).1
    rw [hcl2]
    refine ⟨⟨cl, [], by simp, hcl, hn, .inl rfl⟩, ?_⟩
    rcases fin_cases cl with h2 | ⟨t2, h2⟩
    · exact h2
    · exfalso
      have : [(t2, [])] ∈ cl := by rw [h2]; simp
      exact closed_ne (hcl _ this) t2 rfl
theorem lines_shape (l : List Tok) : Shape (lines l) (nls l) ∧ fin (lines l) = lines l := by
  have hp : ∀ p ∈ l.flatMap pcs, Piece p := fun p hp => by
    obtain ⟨x, _, hx⟩ := List.mem_flatMap.1 hp
    exact pcs_piece x p hx
  have h := grp_shape (l.flatMap pcs) [] [] (fun c hc => absurd hc (by simp)) (fun q hq => absurd hq (by simp)) hp
  have hn : nls (l.flatMap pcs) = nls l := by
    unfold nls
    congr 1
    rw [List.flatMap_assoc]
    congr 1
    funext x
    exact pcs_text x
  rw [hn] at h
  have := fin_shape h
  simp only [List.length_nil, Nat.zero_add] at this
  exact this
theorem lines_pieces (l : List Tok) : ∀ p ∈ (lines l).flatten, Piece p := by
  intro p hp
  have hsub : ∀ q, q ∈ (lines l).flatten → q ∈ l.flatMap pcs := by
    intro q hq
    have e := grp_flat (l.flatMap pcs) [] []
    simp only [List.flatten_nil, List.nil_append] at e
    rw [← e]
    rcases fin_cases (grp [] [] (l.flatMap pcs)) with h | ⟨t, h⟩
    · rw [show lines l = _ from h] at hq; exact hq
    · rw [h, List.flatten_append]
      exact List.mem_append.2 (.inl hq)
  obtain ⟨x, _, hx⟩ := List.mem_flatMap.1 (hsub p hp)
  exact pcs_piece x p hx
theorem flatMap_pieces {ps : List Tok} (h : ∀ p ∈ ps, Piece p) : ps.flatMap pcs = ps := by
  induction ps with
  | nil => rfl
  | cons p r ih => rw [List.flatMap_cons, pcs_of_piece (h p (by simp)), ih (fun q hq => h q (by simp [hq]))]; rfl
theorem lines_again (l : List Tok) : lines (lines l).flatten = lines l := by
  obtain ⟨hs, hf⟩ := lines_shape l
  show fin (grp [] [] ((lines l).flatten.flatMap pcs)) = lines l
  rw [flatMap_pieces (lines_pieces l), grp_again hs, hf]
/-- Nothing that is made of texts, an empty one counting nothing, is lost. -/
theorem lines_flat {β : Type} (f : Tok → List β) (hf : ∀ t, f (t, []) = []) (hp : ∀ x, (pcs x).flatMap f = f x) (l : List Tok) : (lines l).flatten.flatMap f = l.flatMap f := by
  have e := grp_flat (l.flatMap pcs) [] []
  simp only [List.flatten_nil, List.nil_append] at e
  have e2 : (l.flatMap pcs).flatMap f = l.flatMap f := by
    rw [List.flatMap_assoc]
    congr 1
    funext x
    exact hp x
  rw [← e2, ← e]
  rcases fin_cases (grp [] [] (l.flatMap pcs)) with h | ⟨t, h⟩
  · rw [show lines l = _ from h]
  · have h' : grp [] [] (l.flatMap pcs) = lines l ++ [[(t, [])]] := h
    rw [h', List.flatten_append, List.flatMap_append]
    simp [hf]
theorem lines_text (l : List Tok) : (lines l).flatten.flatMap (fun p => p.2) = l.flatMap (fun p => p.2) := lines_flat _ (fun _ => rfl) pcs_text l
theorem lines_each (l : List Tok) : (lines l).flatten.flatMap (fun p => List.replicate p.2.length p.1) = l.flatMap (fun p => List.replicate p.2.length p.1) := lines_flat _ (fun _ => rfl) pcs_each l
theorem lines_len (l : List Tok) : (lines l).flatten.length ≤ wgt l := by
  have e := grp_flat (l.flatMap pcs) [] []
  simp only [List.flatten_nil, List.nil_append] at e
  have h1 : (lines l).flatten.length ≤ (l.flatMap pcs).length := by
    rw [← e]
    rcases fin_cases (grp [] [] (l.flatMap pcs)) with h | ⟨t, h⟩
    · rw [show lines l = _ from h]; exact Nat.le_refl _
    · have h' : grp [] [] (l.flatMap pcs) = lines l ++ [[(t, [])]] := h
      rw [h', List.flatten_append, List.length_append]; omega
  refine Nat.le_trans h1 ?_
  clear h1 e
  induction l with
  | nil => simp [wgt]
  | cons x r ih =>
    have := pcs_len x
    simp only [List.flatMap_cons, List.length_append, wgt]; omega
end Go.Proofs.YtchkijfnhhldfaaDoorSplit
