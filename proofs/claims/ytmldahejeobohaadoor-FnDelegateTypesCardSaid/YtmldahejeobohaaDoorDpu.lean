/- The pure statements of FnDelegateText and FnDelegateTypes, with what they rest on. -/
import Derived.Test.YtmldahejeobohaaDoorEvt
import Derived.Test.YtmldahejeobohaaDoorMx5
set_option linter.unusedVariables false
set_option linter.unusedSimpArgs false
namespace Go.Proofs.YtmldahejeobohaaDoorTok
open Go.RowKit Go.Proofs.YtmldahejeobohaaDoorEvt Go.Proofs.YtmldahejeobohaaDoor.M Go.Proofs.YtmldahejeobohaaDoorW.PrintWords

abbrev T := S27
abbrev C := S65
theorem rdT (xs : List T) (i : Nat) (h : i < xs.length) : rd_T27 xs (i : Int) = xs[i] := by
  simp [rd_T27, List.getD_eq_getElem?_getD, h]
theorem rdC (xs : List C) (i : Nat) (h : i < xs.length) : rd_T65 xs (i : Int) = xs[i] := by
  simp [rd_T65, List.getD_eq_getElem?_getD, h]

/-! ### the guards -/
theorem fits_loop (xs : List T) (hn : xs.length ≤ 2147483647) : ∀ d i : Nat, xs.length = i + d →
    ∃ b, Evt (fun k => laws_zzFits4.l0 k xs (xs.length : Int) (i : Int)) b ∧ (b = true → ∀ x ∈ xs.drop i, x.f1.size ≤ 2147483647) := by
  intro d
  induction d with
  | zero =>
    intro i hi
    refine ⟨true, Evt.step (h := fun _ => some true) (fun k => ?_) (Evt.pure _), fun _ x hx => ?_⟩
    · simp only [laws_zzFits4.l0]; rw [if_neg (by omega)]
    · rw [List.drop_eq_nil_of_le (by omega)] at hx; exact absurd hx (by simp)
  | succ d ih =>
    intro i hi
    have hlt : i < xs.length := by omega
    by_cases hb : 2147483647 < (xs[i].f1.size : Int)
    · refine ⟨false, Evt.step (h := fun _ => some false) (fun k => ?_) (Evt.pure _), fun h => absurd h (by simp)⟩
      simp only [laws_zzFits4.l0]; rw [if_pos (by omega), if_pos (by omega), if_pos (by omega), rdT _ _ hlt, laws_zzFits5.f, if_pos hb]; rfl
    · obtain ⟨b, h1, h2⟩ := ih (i + 1) (by omega)
      refine ⟨b, Evt.step (fun k => ?_) h1, fun hbt x hx => ?_⟩
      · simp only [laws_zzFits4.l0]; rw [if_pos (by omega), if_pos (by omega), if_pos (by omega), rdT _ _ hlt, laws_zzFits5.f, if_neg hb, wrap_nat (by omega)]; rfl
      · rw [List.drop_eq_getElem_cons hlt] at hx
        rcases List.mem_cons.1 hx with rfl | hx
        · omega
        · exact h2 hbt x hx
theorem fits (xs : List T) : ∃ b, Evt (fun k => laws_zzFits4.f k xs) b ∧ (b = true → xs.length ≤ 2147483647 ∧ ∀ x ∈ xs, x.f1.size ≤ 2147483647) := by
  by_cases hb : (xs.length : Int) > 2147483647
  · exact ⟨false, Evt.of (fun k => by rw [laws_zzFits4.f, if_pos hb]), fun h => absurd h (by simp)⟩
  · obtain ⟨b, h1, h2⟩ := fits_loop xs (by omega) xs.length 0 (by omega)
    exact ⟨b, Evt.congr (fun k => by rw [laws_zzFits4.f, if_neg hb]; rfl) h1, fun h => ⟨by omega, fun x hx => h2 h x (by simpa using hx)⟩⟩

/-- How many nby tokens have together. -/
def nby : List T → Nat
  | [] => 0
  | x :: r => x.f1.size + nby r
theorem nby_append (a b : List T) : nby (a ++ b) = nby a + nby b := by
  induction a with
  | nil => simp [nby]
  | cons x r ih => simp [nby, ih, Nat.add_assoc]
theorem small_loop (xs0 xs : List T) (hn : xs.length ≤ 2147483647) (hs : ∀ x ∈ xs, x.f1.size ≤ 2147483647) : ∀ (d i acc : Nat), xs.length = i + d → acc ≤ 4000 →
    ∃ b, Evt (fun k => laws_small.l0 k xs0 (acc : Int) xs (xs.length : Int) (i : Int)) b ∧ (b = true → xs0.length ≤ 400 ∧ acc + nby (xs.drop i) ≤ 4000 ∧ ∀ x ∈ xs.drop i, x.f0 ≠ 0) := by
  intro d
  induction d with
  | zero =>
    intro i acc hi hacc
    refine ⟨decide ((xs0.length : Int) ≤ 400), Evt.step (h := fun _ => some _) (fun k => ?_) (Evt.pure _), fun h => ?_⟩
    · simp only [laws_small.l0]; rw [if_neg (by omega)]
    · rw [List.drop_eq_nil_of_le (by omega)]
      refine ⟨by have := of_decide_eq_true h; omega, by simpa [nby] using hacc, by simp⟩
  | succ d ih =>
    intro i acc hi hacc
    have hlt : i < xs.length := by omega
    have hsz := hs _ (List.getElem_mem hlt)
    by_cases h0 : xs[i].f0 = 0
    · refine ⟨false, Evt.step (h := fun _ => some false) (fun k => ?_) (Evt.pure _), fun h => absurd h (by simp)⟩
      simp only [laws_small.l0]; rw [if_pos (by omega), if_pos (by omega), if_pos (by omega), rdT _ _ hlt, if_pos h0]
    have hw : wrap64 ((acc : Int) + (xs[i].f1.size : Int)) = ((acc + xs[i].f1.size : Nat) : Int) := by rw [wrap_in (by omega) (by omega)]; omega
    by_cases hb : 4000 < acc + xs[i].f1.size
    · refine ⟨false, Evt.step (h := fun _ => some false) (fun k => ?_) (Evt.pure _), fun h => absurd h (by simp)⟩
      simp only [laws_small.l0]; rw [if_pos (by omega), if_pos (by omega), if_pos (by omega), rdT _ _ hlt, if_neg h0, hw, if_pos (by omega)]
    · obtain ⟨b, h1, h2⟩ := ih (i + 1) (acc + xs[i].f1.size) (by omega) (by omega)
      refine ⟨b, Evt.step (fun k => ?_) h1, fun hbt => ?_⟩
      · simp only [laws_small.l0]; rw [if_pos (by omega), if_pos (by omega), if_pos (by omega), rdT _ _ hlt, if_neg h0, hw, if_neg (by omega), wrap_nat (by omega)]
      · obtain ⟨g1, g2, g3⟩ := h2 hbt
        rw [List.drop_eq_getElem_cons hlt]
        refine ⟨g1, by simp only [nby]; omega, fun x hx => ?_⟩
        rcases List.mem_cons.1 hx with rfl | hx
        · exact h0
        · exact g3 x hx
theorem small (xs : List T) (hn : xs.length ≤ 2147483647) (hs : ∀ x ∈ xs, x.f1.size ≤ 2147483647) :
    ∃ b, Evt (fun k => laws_small.f k xs) b ∧ (b = true → xs.length ≤ 400 ∧ nby xs ≤ 4000 ∧ ∀ x ∈ xs, x.f0 ≠ 0) := by
  obtain ⟨b, h1, h2⟩ := small_loop xs xs hn hs xs.length 0 0 (by omega) (by omega)
  refine ⟨b, Evt.congr (fun k => rfl) h1, fun h => ?_⟩
  have := h2 h
  simp only [List.drop_zero, Nat.zero_add] at this
  exact this

/-! ### inner, outer -/
def toC (x : T) : C := ⟨x.f0, x.f1⟩
def toT (x : C) : T := ⟨x.f0, x.f1⟩
theorem toT_toC (x : T) : toT (toC x) = x := rfl
theorem toC_toT (x : C) : toC (toT x) = x := rfl
theorem inner_loop (xs : List T) (hn : xs.length ≤ 2147483647) : ∀ (d i : Nat) (acc : List C), xs.length = i + d → acc.length ≤ i →
    Evt (fun k => impl_inner.l0 k acc xs (xs.length : Int) (i : Int)) (acc ++ (xs.drop i).map toC) := by
  intro d
  induction d with
  | zero =>
    intro i acc hi hacc
    refine Evt.step (h := fun _ => some _) (fun k => ?_) (Evt.pure _)
    simp only [impl_inner.l0]; rw [if_neg (by omega), List.drop_eq_nil_of_le (by omega)]; simp
  | succ d ih =>
    intro i acc hi hacc
    have hlt : i < xs.length := by omega
    have h1 := ih (i + 1) (acc ++ [toC xs[i]]) (by omega) (by simp; omega)
    rw [List.drop_eq_getElem_cons hlt, List.map_cons, ← List.singleton_append, ← List.append_assoc]
    refine Evt.step (fun k => ?_) h1
    simp only [impl_inner.l0]; rw [if_pos (by omega), if_pos (by omega), if_pos (by omega), rdT _ _ hlt, if_pos (by omega), wrap_nat (by omega)]; rfl
theorem inner (xs : List T) (hn : xs.length ≤ 2147483647) : Evt (fun k => impl_inner.f k xs) (xs.map toC) := by
  have h := inner_loop xs hn xs.length 0 [] (by omega) (by simp)
  refine Evt.congr (h := fun k => impl_inner.l0 k [] xs (xs.length : Int) 0) (fun k => rfl) ?_
  simpa using h
theorem outer_loop (xs : List C) (hn : xs.length ≤ 2147483647) : ∀ (d i : Nat) (acc : List T), xs.length = i + d → acc.length ≤ i →
    Evt (fun k => impl_outer.l0 k acc xs (xs.length : Int) (i : Int)) (acc ++ (xs.drop i).map toT) := by
  intro d
  induction d with
  | zero =>
    intro i acc hi hacc
    refine Evt.step (h := fun _ => some _) (fun k => ?_) (Evt.pure _)
    simp only [impl_outer.l0]; rw [if_neg (by omega), List.drop_eq_nil_of_le (by omega)]; simp
  | succ d ih =>
    intro i acc hi hacc
    have hlt : i < xs.length := by omega
    have h1 := ih (i + 1) (acc ++ [toT xs[i]]) (by omega) (by simp; omega)
    rw [List.drop_eq_getElem_cons hlt, List.map_cons, ← List.singleton_append, ← List.append_assoc]
    refine Evt.step (fun k => ?_) h1
    simp only [impl_outer.l0]; rw [if_pos (by omega), if_pos (by omega), if_pos (by omega), rdC _ _ hlt, if_pos (by omega), wrap_nat (by omega)]; rfl
theorem outer (xs : List C) (hn : xs.length ≤ 2147483647) : Evt (fun k => impl_outer.f k xs) (xs.map toT) := by
  have h := outer_loop xs hn xs.length 0 [] (by omega) (by simp)
  refine Evt.congr (h := fun k => impl_outer.l0 k [] xs (xs.length : Int) 0) (fun k => rfl) ?_
  simpa using h

/-! ### the text of tokens -/
def txt (xs : List T) : List UInt8 := xs.flatMap fun x => dat x.f1
theorem txt_length (xs : List T) : (txt xs).length = nby xs := by
  induction xs with
  | nil => rfl
  | cons x r ih => simp only [txt, List.flatMap_cons, List.length_append, nby] at ih ⊢; rw [ih, size_dat]
theorem text_loop (xs : List T) (hn : xs.length ≤ 2147483647) (hb : nby xs ≤ 2147483647) : ∀ (d i : Nat), xs.length = i + d →
    Evt (fun k => laws_text.l0 k ((txt (xs.take i)).map fun b => (b.toNat : Int)) xs (xs.length : Int) (i : Int)) (B (txt xs)) := by
  intro d
  induction d with
  | zero =>
    intro i hi
    refine Evt.step (h := fun _ => some _) (fun k => ?_) (Evt.pure _)
    simp only [laws_text.l0]; rw [if_neg (by omega), List.take_of_length_le (by omega)]
    congr 1
    exact dat_inj (by rw [strOfNums_bytes, dat_B])
  | succ d ih =>
    intro i hi
    have hlt : i < xs.length := by omega
    have h1 := ih (i + 1) (by omega)
    have ht : txt (xs.take (i + 1)) = txt (xs.take i) ++ dat xs[i].f1 := by
      rw [List.take_succ_eq_append_getElem hlt]; simp only [txt, List.flatMap_append, List.flatMap_cons, List.flatMap_nil, List.append_nil]
    have hlen : (txt (xs.take i)).length + xs[i].f1.size ≤ 2147483647 := by
      have e : nby xs = nby (xs.take (i + 1)) + nby (xs.drop (i + 1)) := by rw [← nby_append, List.take_append_drop]
      have e2 : (txt (xs.take (i + 1))).length = (txt (xs.take i)).length + xs[i].f1.size := by rw [ht, List.length_append, size_dat]
      rw [txt_length] at e2
      omega
    rw [ht, List.map_append] at h1
    refine Evt.step (fun k => ?_) h1
    simp only [laws_text.l0]; rw [if_pos (by omega), if_pos (by omega), if_pos (by omega), rdT _ _ hlt, if_pos (by rw [List.length_map]; omega), wrap_nat (by omega), bytesOf_dat]
theorem text (xs : List T) (hn : xs.length ≤ 2147483647) (hb : nby xs ≤ 2147483647) : Evt (fun k => laws_text.f k xs) (B (txt xs)) := by
  have h := text_loop xs hn hb xs.length 0 (by omega)
  exact Evt.congr (fun k => rfl) h

/-! ### flat -/
theorem rdLT (xs : List (List T)) (i : Nat) (h : i < xs.length) : xs.getD (i : Int).toNat ([] : List T) = xs[i] := by
  simp [List.getD_eq_getElem?_getD, h]
theorem len_flat_take (xs : List (List T)) (i : Nat) (h : i < xs.length) : (xs.take i).flatten.length + xs[i].length ≤ xs.flatten.length := by
  have e : xs.flatten = (xs.take (i + 1)).flatten ++ (xs.drop (i + 1)).flatten := by rw [← List.flatten_append, List.take_append_drop]
  have e2 : (xs.take (i + 1)).flatten = (xs.take i).flatten ++ xs[i] := by
    rw [List.take_succ_eq_append_getElem h]; simp only [List.flatten_append, List.flatten_cons, List.flatten_nil, List.append_nil]
  rw [e, e2]; simp

/-! ### same -/
attribute [local instance] Classical.propDecidable
end Go.Proofs.YtmldahejeobohaaDoorTok
set_option linter.unusedVariables false
set_option linter.unusedSimpArgs false
namespace Go.Proofs.YtmldahejeobohaaDoorSplit
open Go.RowKit Go.Proofs.YtmldahejeobohaaDoorEvt Go.Proofs.YtmldahejeobohaaDoor.M Go.Proofs.YtmldahejeobohaaDoorW.PrintWords Go.Proofs.YtmldahejeobohaaDoorTok

abbrev Tok := Int × List UInt8
def aC (x : C) : Tok := (x.f0, dat x.f1)
def mC (p : Tok) : C := ⟨p.1, B p.2⟩
def aT (x : T) : Tok := (x.f0, dat x.f1)
def mT (p : Tok) : T := ⟨p.1, B p.2⟩
theorem aC_mC (p : Tok) : aC (mC p) = p := by simp [aC, mC]
theorem mC_aC (x : C) : mC (aC x) = x := by simp only [aC, mC, B_dat]
theorem aT_mT (p : Tok) : aT (mT p) = p := by simp [aT, mT]
theorem mT_aT (x : T) : mT (aT x) = x := by simp only [aT, mT, B_dat]
theorem toC_mT (p : Tok) : toC (mT p) = mC p := rfl
theorem toT_mC (p : Tok) : toT (mC p) = mT p := rfl
theorem size_B (l : List UInt8) : (B l).size = l.length := by rw [size_dat, dat_B]

/-! ### the first line feed -/
def nlAt : List UInt8 → Nat → Int
  | [], _ => -1
  | b :: r, i => if b = 10 then (i : Int) else nlAt r (i + 1)
theorem nlAt_none {l : List UInt8} (h : 10 ∉ l) (i : Nat) : nlAt l i = -1 := by
  induction l generalizing i with
  | nil => rfl
  | cons b r ih =>
    rw [nlAt, if_neg (fun e => h (by simp [e]))]
    exact ih (fun hr => h (by simp [hr])) _
theorem nlAt_some {a b : List UInt8} (h : 10 ∉ a) (i : Nat) : nlAt (a ++ 10 :: b) i = ((i + a.length : Nat) : Int) := by
  induction a generalizing i with
  | nil => rw [List.nil_append, nlAt, if_pos rfl]; rfl
  | cons c r ih =>
    rw [List.cons_append, nlAt, if_neg (fun e => h (by simp [e])), ih (fun hr => h (by simp [hr]))]
    simp only [List.length_cons]; omega
theorem nl_cases (l : List UInt8) : 10 ∉ l ∨ ∃ a b, l = a ++ 10 :: b ∧ 10 ∉ a := by
  induction l with
  | nil => exact .inl (by simp)
  | cons c r ih =>
    by_cases hc : c = 10
    · exact .inr ⟨[], r, by simp [hc], by simp⟩
    · rcases ih with h | ⟨a, b, rfl, h⟩
      · exact .inl (by simp only [List.mem_cons, not_or]; exact ⟨fun e => hc e.symm, h⟩)
      · exact .inr ⟨c :: a, b, rfl, by simp only [List.mem_cons, not_or]; exact ⟨fun e => hc e.symm, h⟩⟩
theorem index_loop (l : List UInt8) (hv : l.length ≤ 2147483647) : ∀ (d i : Nat), l.length = i + d →
    Evt (fun k => chroma_zzIndex.l0 k (B l) (⟨#[10]⟩ : ByteArray) (i : Int)) (nlAt (l.drop i) i) := by
  intro d
  induction d with
  | zero =>
    intro i hi
    rw [List.drop_eq_nil_of_le (by omega)]
    refine Evt.step (h := fun _ => some _) (fun k => ?_) (Evt.pure _)
    simp only [chroma_zzIndex.l0]
    rw [show ((⟨#[10]⟩ : ByteArray).size : Int) = 1 from rfl, wrap_nat (by omega), size_B, if_neg (by omega)]; rfl
  | succ d ih =>
    intro i hi
    have hlt : i < l.length := by omega
    have h1 := ih (i + 1) (by omega)
    have hx : (((B l).extract ((i : Int)).toNat (((i + 1 : Nat) : Int)).toNat).toList = (⟨#[10]⟩ : ByteArray).toList) ↔ l[i] = 10 := by
      rw [toList_dat, toList_dat, dat_extract, dat_B, Int.toNat_natCast, Int.toNat_natCast, show i + 1 - i = 1 by omega, List.drop_eq_getElem_cons hlt, List.take_succ_cons, List.take_zero]
      show [l[i]] = [10] ↔ l[i] = 10
      rw [List.cons.injEq]; exact ⟨fun h => h.1, fun h => ⟨h, rfl⟩⟩
    rw [List.drop_eq_getElem_cons hlt, nlAt]
    by_cases hc : l[i] = 10
    · rw [if_pos hc]
      refine Evt.step (h := fun _ => some _) (fun k => ?_) (Evt.pure _)
      simp only [chroma_zzIndex.l0]
      rw [show ((⟨#[10]⟩ : ByteArray).size : Int) = 1 from rfl, wrap_nat (by omega), size_B, if_pos (by omega), if_pos (by omega), if_pos (by omega), if_pos (hx.2 hc)]
    · rw [if_neg hc]
      refine Evt.step (fun k => ?_) h1
      simp only [chroma_zzIndex.l0]
      rw [show ((⟨#[10]⟩ : ByteArray).size : Int) = 1 from rfl, wrap_nat (by omega), size_B, if_pos (by omega), if_pos (by omega), if_pos (by omega), if_neg (fun h => hc (hx.1 h))]
theorem index (l : List UInt8) (hv : l.length ≤ 2147483647) : Evt (fun k => chroma_zzIndex.f k (B l) (⟨#[10]⟩ : ByteArray)) (nlAt l 0) :=
  Evt.congr (fun k => rfl) (index_loop l hv l.length 0 (by omega))
theorem contains_no {l : List UInt8} (hv : l.length ≤ 2147483647) (h : 10 ∉ l) : Evt (fun k => chroma_zzContains.f k (B l) (⟨#[10]⟩ : ByteArray)) false := by
  have h1 := index l hv
  rw [nlAt_none h] at h1
  exact Evt.bind (g := fun _ t => some (decide (t ≥ 0))) h1 (Evt.of fun _ => rfl)
theorem contains_yes {a b : List UInt8} (hv : (a ++ 10 :: b).length ≤ 2147483647) (h : 10 ∉ a) : Evt (fun k => chroma_zzContains.f k (B (a ++ 10 :: b)) (⟨#[10]⟩ : ByteArray)) true := by
  have h1 := index _ hv
  rw [nlAt_some h] at h1
  exact Evt.bind (g := fun _ t => some (decide (t ≥ 0))) h1 (Evt.of fun _ => by
    show some (decide (((0 + a.length : Nat) : Int) ≥ 0)) = some true
    rw [decide_eq_true (by omega)])
theorem split_at {a b : List UInt8} (hv : (a ++ 10 :: b).length ≤ 2147483647) (h : 10 ∉ a) :
    Evt (fun k => chroma_zzSplitAfter.f k (B (a ++ 10 :: b)) (⟨#[10]⟩ : ByteArray)) [B (a ++ [10]), B b] := by
  have h1 := index _ hv
  rw [nlAt_some h] at h1
  have hl : (a ++ 10 :: b).length = a.length + 1 + b.length := by simp; omega
  refine Evt.bind (g := fun _ t => _) h1 (Evt.of fun _ => ?_)
  rw [show ((⟨#[10]⟩ : ByteArray).size : Int) = 1 from rfl, Nat.zero_add, wrap_nat (by omega), if_pos (by omega), size_B, if_pos (by omega), Int.toNat_natCast]
  have e1 : (B (a ++ 10 :: b)).extract 0 (a.length + 1) = B (a ++ [10]) := dat_inj (by
    rw [dat_take, dat_B, dat_B, List.take_append, List.take_of_length_le (by omega), show a.length + 1 - a.length = 1 by omega]; rfl)
  have e2 : (B (a ++ 10 :: b)).extract (a.length + 1) (a ++ 10 :: b).length = B b := dat_inj (by
    rw [show (a ++ 10 :: b).length = (B (a ++ 10 :: b)).size from (size_B _).symm, dat_drop, dat_B, dat_B, List.drop_append, List.drop_eq_nil_of_le (by omega), show a.length + 1 - a.length = 1 by omega]; rfl)
  rw [e1, e2]

/-! ### pieces -/
def cutA : List UInt8 → List UInt8 → List (List UInt8)
  | acc, [] => [acc]
  | acc, b :: r => if b = 10 then (acc ++ [10]) :: (if r = [] then [] else cutA [] r) else cutA (acc ++ [b]) r
theorem cutA_no {l : List UInt8} (h : 10 ∉ l) (acc : List UInt8) : cutA acc l = [acc ++ l] := by
  induction l generalizing acc with
  | nil => simp [cutA]
  | cons b r ih =>
    rw [cutA, if_neg (fun e => h (by simp [e])), ih (fun hr => h (by simp [hr]))]
    simp
theorem cutA_yes {a b : List UInt8} (h : 10 ∉ a) (acc : List UInt8) : cutA acc (a ++ 10 :: b) = (acc ++ a ++ [10]) :: (if b = [] then [] else cutA [] b) := by
  induction a generalizing acc with
  | nil => simp [cutA]
  | cons c r ih =>
    rw [List.cons_append, cutA, if_neg (fun e => h (by simp [e])), ih (fun hr => h (by simp [hr]))]
    simp
def pcs (x : Tok) : List Tok := (cutA [] x.2).map fun p => (x.1, p)
theorem pcs_no {x : Tok} (h : 10 ∉ x.2) : pcs x = [x] := by simp [pcs, cutA_no h]
theorem pcs_yes {t : Int} {a b : List UInt8} (h : 10 ∉ a) : pcs (t, a ++ 10 :: b) = (t, a ++ [10]) :: (if b = [] then [] else pcs (t, b)) := by
  simp only [pcs]
  rw [cutA_yes h]
  by_cases hb : b = [] <;> simp [hb]
/-- A piece has no line feed, or one at its end. -/
def Piece (p : Tok) : Prop := 10 ∉ p.2 ∨ ∃ a, p.2 = a ++ [10] ∧ 10 ∉ a
theorem pcs_of_piece {p : Tok} (h : Piece p) : pcs p = [p] := by
  rcases h with h | ⟨a, e, h⟩
  · exact pcs_no h
  · obtain ⟨t, l⟩ := p
    simp only at e
    subst e
    rw [show a ++ [10] = a ++ 10 :: [] from rfl, pcs_yes h]; simp
theorem pcs_ind (n : Nat) : ∀ x : Tok, x.2.length ≤ n → (∀ p ∈ pcs x, Piece p ∧ p.1 = x.1) ∧ (pcs x).flatMap (fun p => p.2) = x.2 ∧ (pcs x).flatMap (fun p => List.replicate p.2.length p.1) = List.replicate x.2.length x.1 ∧ (pcs x).length ≤ x.2.length + 1 := by
  induction n with
  | zero =>
    intro ⟨t, l⟩ hl
    have : l = [] := List.eq_nil_of_length_eq_zero (by simpa using hl)
    subst this
    rw [pcs_no (by simp)]
    refine ⟨fun p hp => ?_, by simp, by simp, by simp⟩
    simp only [List.mem_singleton] at hp
    subst hp
    exact ⟨.inl (by simp), rfl⟩
  | succ n ih =>
    intro ⟨t, l⟩ hl
    rcases nl_cases l with h | ⟨a, b, rfl, h⟩
    · rw [pcs_no h]
      refine ⟨fun p hp => ?_, by simp, by simp, by simp⟩
      simp only [List.mem_singleton] at hp
      subst hp
      exact ⟨.inl h, rfl⟩
    · rw [pcs_yes h]
      by_cases hb : b = []
      · subst hb
        rw [if_pos rfl]
        refine ⟨fun p hp => ?_, by simp, by simp, by simp⟩
        simp only [List.mem_singleton] at hp
        subst hp
        exact ⟨.inr ⟨a, rfl, h⟩, rfl⟩
      · rw [if_neg hb]
        simp only [List.length_append, List.length_cons] at hl
        obtain ⟨h1, h2, h3, h4⟩ := ih (t, b) (by simp only; omega)
        refine ⟨fun p hp => ?_, ?_, ?_, ?_⟩
        · rcases List.mem_cons.1 hp with rfl | hp
          · exact ⟨.inr ⟨a, rfl, h⟩, rfl⟩
          · exact h1 p hp
        · rw [List.flatMap_cons, h2]; simp
        · rw [List.flatMap_cons, h3, List.replicate_append_replicate]
          congr 1; simp; omega
        · simp only [List.length_append, List.length_cons] at h4 ⊢; omega
theorem pcs_piece (x : Tok) : ∀ p ∈ pcs x, Piece p := fun p hp => ((pcs_ind _ x (Nat.le_refl _)).1 p hp).1
theorem pcs_text (x : Tok) : (pcs x).flatMap (fun p => p.2) = x.2 := (pcs_ind _ x (Nat.le_refl _)).2.1
theorem pcs_each (x : Tok) : (pcs x).flatMap (fun p => List.replicate p.2.length p.1) = List.replicate x.2.length x.1 := (pcs_ind _ x (Nat.le_refl _)).2.2.1
theorem pcs_len (x : Tok) : (pcs x).length ≤ x.2.length + 1 := (pcs_ind _ x (Nat.le_refl _)).2.2.2

/-! ### lines -/
def grp : List (List Tok) → List Tok → List Tok → List (List Tok)
  | out, line, [] => if line = [] then out else out ++ [line]
  | out, line, p :: ps => if 10 ∈ p.2 then grp (out ++ [line ++ [p]]) [] ps else grp out (line ++ [p]) ps
/-- The last line, if it is one empty token alone, goes. -/
def fin (out : List (List Tok)) : List (List Tok) := match out.getLast? with
  | some [x] => if x.2 = [] then out.dropLast else out
  | _ => out
def lines (l : List Tok) : List (List Tok) := fin (grp [] [] (l.flatMap pcs))
def wgt : List Tok → Nat
  | [] => 0
  | x :: r => x.2.length + 1 + wgt r
def mm (o : List (List Tok)) : List (List C) := o.map fun l => l.map mC
theorem rdLC (xs : List (List C)) (i : Nat) (h : i < xs.length) : xs.getD (i : Int).toNat ([] : List C) = xs[i] := by
  simp [List.getD_eq_getElem?_getD, h]
theorem fin_nil (init : List (List Tok)) : fin (init ++ [[]]) = init ++ [[]] := by
  unfold fin
  rw [List.getLast?_append]; rfl
theorem fin_one (init : List (List Tok)) (x : Tok) : fin (init ++ [[x]]) = if x.2 = [] then init else init ++ [[x]] := by
  unfold fin
  rw [List.getLast?_append, List.dropLast_concat]; rfl
theorem fin_two (init : List (List Tok)) (x y : Tok) (r : List Tok) : fin (init ++ [x :: y :: r]) = init ++ [x :: y :: r] := by
  unfold fin
  rw [List.getLast?_append]; rfl
theorem j2 (out : List (List Tok)) (hn : out.length ≤ 2147483647) : Evt (fun k => chroma_SplitTokensIntoLines.j2 k (mm out)) (mm (fin out)) := by
  rcases List.eq_nil_or_concat out with rfl | ⟨init, last, rfl⟩
  · exact Evt.step (h := fun _ => some _) (fun k => by simp only [chroma_SplitTokensIntoLines.j2]; rw [if_neg (by simp [mm])]; rfl) (Evt.pure _)
  · rw [List.concat_eq_append] at hn ⊢
    have hlen : (mm (init ++ [last])).length = init.length + 1 := by simp [mm]
    have hw : wrap64 (((mm (init ++ [last])).length : Int) - 1) = (init.length : Int) := by
      simp only [List.length_append, List.length_cons, List.length_nil] at hn
      rw [hlen, wrap_in (by omega) (by omega)]; omega
    have hlast : rd_L9 (mm (init ++ [last])) (init.length : Int) = last.map mC := by
      show (mm (init ++ [last])).getD (init.length : Int).toNat [] = _
      rw [rdLC _ _ (by omega)]
      simp [mm]
    refine Evt.step (h := fun _ => some _) (fun k => ?_) (Evt.pure _)
    simp only [chroma_SplitTokensIntoLines.j2]
    rw [if_pos (by omega), hw, if_pos (by omega), if_pos (by omega), hlast]
    match last with
    | [] => rw [if_neg (by simp), fin_nil]
    | [x] =>
      rw [if_pos (by simp), if_pos (by simp), fin_one]
      have hx : ((rd_T65 ([x].map mC) 0).f1).toList = x.2 := by
        have e := rdC ([x].map mC) 0 (by simp)
        rw [show ((0 : Nat) : Int) = 0 from rfl] at e
        rw [e, toList_dat]; simp [mC]
      rw [hx]
      by_cases h0 : x.2 = []
      · rw [if_pos h0, if_pos (by omega), if_pos h0]
        congr 1
        simp [mm, List.take_append]
      · rw [if_neg h0, if_neg h0]
    | x :: y :: r => rw [if_neg (by simp; omega), fin_two]
theorem l1 (xs : List C) (i : Nat) (t : Int) (P' : List Tok) (W M : Nat) (hM : M ≤ 1000000)
    (h0 : ∀ out line, out.length + line.length + W ≤ M → Evt (fun k => chroma_SplitTokensIntoLines.l0 k (mm out) (line.map mC) xs (xs.length : Int) (wrap64 ((i : Int) + 1))) (mm (fin (grp out line P')))) :
    ∀ (m : Nat) (out : List (List Tok)) (line : List Tok) (v : List UInt8), v.length ≤ m → out.length + line.length + (v.length + 1) + W ≤ M →
      Evt (fun k => chroma_SplitTokensIntoLines.l1 k (mm out) (line.map mC) xs (xs.length : Int) (i : Int) t (B v)) (mm (fin (grp out line (pcs (t, v) ++ P')))) := by
  intro m
  induction m with
  | zero =>
    intro out line v hv hb
    have : v = [] := List.eq_nil_of_length_eq_zero (by omega)
    subst this
    rw [pcs_no (by simp), List.singleton_append, grp, if_neg (by simp)]
    refine Evt.step (fun k => by simp only [chroma_SplitTokensIntoLines.l1]; rfl) ?_
    refine Evt.bind (contains_no (l := []) (by simp) (by simp)) ?_
    refine Evt.neg (by simp) ?_
    refine Evt.pos (by simp only [List.length_map]; omega) ?_
    have h1 := h0 out (line ++ [(t, [])]) (by simp only [List.length_append, List.length_cons, List.length_nil] at hb ⊢; omega)
    rw [List.map_append] at h1
    exact h1
  | succ m ih =>
    intro out line v hv hb
    refine Evt.step (fun k => by simp only [chroma_SplitTokensIntoLines.l1]; rfl) ?_
    rcases nl_cases v with h | ⟨a, b, rfl, h⟩
    · rw [pcs_no h, List.singleton_append, grp, if_neg h]
      refine Evt.bind (contains_no (by omega) h) ?_
      refine Evt.neg (by simp) ?_
      refine Evt.pos (by simp only [List.length_map]; omega) ?_
      have h1 := h0 out (line ++ [(t, v)]) (by simp only [List.length_append, List.length_cons, List.length_nil] at hb ⊢; omega)
      rw [List.map_append] at h1
      exact h1
    · rw [pcs_yes h]
      refine Evt.bind (contains_yes (by omega) h) ?_
      refine Evt.pos rfl ?_
      refine Evt.bind (split_at (by omega) h) ?_
      refine Evt.pos (by simp) ?_
      refine Evt.bind' (a := (t, B b)) rfl ?_
      refine Evt.pos (by simp) ?_
      refine Evt.pos (by simp only [List.length_map]; omega) ?_
      refine Evt.pos (by simp only [mm, List.length_map]; omega) ?_
      refine Evt.bind' (a := mm (out ++ [line ++ [(t, a ++ [10])]])) (by simp [mm, mC, rdOf]) ?_
      have hr1 : (rdOf ByteArray.empty [B (a ++ [10]), B b] 1) = B b := rfl
      rw [hr1]
      simp only [List.length_append, List.length_cons] at hb hv
      rw [List.cons_append, grp, if_pos (by simp)]
      by_cases hbn : b = []
      · subst hbn
        refine Evt.pos (by rw [size_B]; rfl) ?_
        rw [if_pos rfl, List.nil_append]
        exact h0 _ [] (by simp only [List.length_append, List.length_cons, List.length_nil]; omega)
      · refine Evt.neg (by rw [size_B]; have := List.length_pos_iff.2 hbn; omega) ?_
        rw [if_neg hbn]
        exact ih _ [] b (by omega) (by simp only [List.length_append, List.length_cons, List.length_nil]; omega)
theorem l0 (xs : List Tok) (M : Nat) (hM : M ≤ 1000000) (hn : xs.length ≤ 1000000) : ∀ (d i : Nat) (out : List (List Tok)) (line : List Tok), xs.length = i + d → out.length + line.length + wgt (xs.drop i) ≤ M →
    Evt (fun k => chroma_SplitTokensIntoLines.l0 k (mm out) (line.map mC) (xs.map mC) ((xs.map mC).length : Int) (i : Int)) (mm (fin (grp out line ((xs.drop i).flatMap pcs)))) := by
  intro d
  induction d with
  | zero =>
    intro i out line hi hb
    have hl : (xs.map mC).length = xs.length := List.length_map _
    rw [List.drop_eq_nil_of_le (by omega), List.flatMap_nil, grp]
    refine Evt.step (fun k => by simp only [chroma_SplitTokensIntoLines.l0]; rw [if_neg (by omega)]) ?_
    by_cases h : line = []
    · subst h
      rw [if_pos rfl]
      refine Evt.neg (by simp) ?_
      exact j2 out (by omega)
    · rw [if_neg h]
      have hp := List.length_pos_iff.2 h
      refine Evt.pos (by simp only [List.length_map]; omega) ?_
      refine Evt.pos (by simp only [mm, List.length_map]; omega) ?_
      have h1 := j2 (out ++ [line]) (by simp only [List.length_append, List.length_cons, List.length_nil]; omega)
      have e : mm (out ++ [line]) = mm out ++ [line.map mC] := by simp [mm]
      rw [e] at h1
      exact h1
  | succ d ih =>
    intro i out line hi hb
    have hl : (xs.map mC).length = xs.length := List.length_map _
    have hlt : i < xs.length := by omega
    rw [List.drop_eq_getElem_cons hlt] at hb
    have hd : (xs.drop i).flatMap pcs = pcs (xs[i].1, xs[i].2) ++ (xs.drop (i + 1)).flatMap pcs := by rw [List.drop_eq_getElem_cons hlt, List.flatMap_cons]
    rw [hd]
    simp only [wgt] at hb
    have hrd : rd_T65 (xs.map mC) (i : Int) = mC xs[i] := by rw [rdC _ _ (by omega)]; simp
    refine Evt.step (fun k => by simp only [chroma_SplitTokensIntoLines.l0]; rw [if_pos (by omega), if_pos (by omega), if_pos (by omega), hrd]) ?_
    refine l1 (xs.map mC) i xs[i].1 _ (wgt (xs.drop (i + 1))) M hM (fun o l hol => ?_) xs[i].2.length out line xs[i].2 (Nat.le_refl _) (by omega)
    rw [wrap_nat (by omega)]
    exact ih (i + 1) o l (by omega) hol
theorem wgt_eq (xs : List Tok) : wgt xs = (xs.flatMap fun x => x.2).length + xs.length := by
  induction xs with
  | nil => rfl
  | cons x r ih => simp only [wgt, ih, List.flatMap_cons, List.length_append, List.length_cons]; omega
theorem tokens (xs : List Tok) (hw : wgt xs ≤ 1000000) : Evt (fun k => chroma_SplitTokensIntoLines.f k (xs.map mC)) (mm (lines xs)) := by
  have hl := wgt_eq xs
  have h := l0 xs 1000000 (Nat.le_refl _) (by omega) xs.length 0 [] [] (by omega) (by simpa using hw)
  exact Evt.congr (fun k => rfl) h

/-! ### what lines are -/
def Opened (line : List Tok) : Prop := ∀ q ∈ line, 10 ∉ q.2
def Closed (line : List Tok) : Prop := ∃ init p a, line = init ++ [p] ∧ Opened init ∧ p.2 = a ++ [10] ∧ 10 ∉ a
theorem grp_flat (ps : List Tok) : ∀ out line, (grp out line ps).flatten = out.flatten ++ line ++ ps := by
  induction ps with
  | nil =>
    intro out line
    rw [grp]
    split <;> simp_all
  | cons p ps ih =>
    intro out line
    rw [grp]
    split
    · rw [ih]; simp
    · rw [ih]; simp
/-- Closed lines, and perhaps one that is not. -/
def Shape (g : List (List Tok)) (n : Nat) : Prop := ∃ cl tl, g = cl ++ tl ∧ (∀ c ∈ cl, Closed c) ∧ cl.length = n ∧ (tl = [] ∨ ∃ o, tl = [o] ∧ o ≠ [] ∧ Opened o)
def nls (ps : List Tok) : Nat := (ps.flatMap fun p => p.2).count 10
theorem grp_shape (ps : List Tok) : ∀ out line, (∀ c ∈ out, Closed c) → Opened line → (∀ p ∈ ps, Piece p) → Shape (grp out line ps) (out.length + nls ps) := by
  induction ps with
  | nil =>
    intro out line ho hl hp
    rw [grp]
    split
    · exact ⟨out, [], by simp, ho, by simp [nls], .inl rfl⟩
    · rename_i h
      exact ⟨out, [line], rfl, ho, by simp [nls], .inr ⟨line, rfl, h, hl⟩⟩
  | cons p ps ih =>
    intro out line ho hl hp
    have hps : ∀ q ∈ ps, Piece q := fun q hq => hp q (by simp [hq])
    have hn : nls (p :: ps) = p.2.count 10 + nls ps := by simp [nls, List.count_append]
    rw [grp]
    split
    · rename_i hm
      rcases hp p (by simp) with h | ⟨a, e, h⟩
      · exact absurd hm h
      · have := ih (out ++ [line ++ [p]]) [] (fun c hc => by
          rcases List.mem_append.1 hc with hc | hc
          · exact ho c hc
          · simp only [List.mem_singleton] at hc
            subst hc
            exact ⟨line, p, a, rfl, hl, e, h⟩) (fun q hq => absurd hq (by simp)) hps
        have hc : p.2.count 10 = 1 := by rw [e, List.count_append, List.count_eq_zero.2 h]; simp
        rw [hn, hc]
        simpa [Nat.add_assoc] using this
    · rename_i hm
      have := ih out (line ++ [p]) ho (fun q hq => by
        rcases List.mem_append.1 hq with hq | hq
        · exact hl q hq
        · simp only [List.mem_singleton] at hq
          subst hq; exact hm) hps
      rw [hn, List.count_eq_zero.2 hm, Nat.zero_add]
      exact this
theorem grp_open (line2 : List Tok) : ∀ (out : List (List Tok)) (line rest : List Tok), Opened line2 → grp out line (line2 ++ rest) = grp out (line ++ line2) rest := by
  induction line2 with
  | nil => intro out line rest _; simp
  | cons p ps ih =>
    intro out line rest h
    rw [List.cons_append, grp, if_neg (h p (by simp)), ih _ _ _ (fun q hq => h q (by simp [hq]))]
    simp
theorem grp_closed {c : List Tok} (hc : Closed c) (out : List (List Tok)) (rest : List Tok) : grp out [] (c ++ rest) = grp (out ++ [c]) [] rest := by
  obtain ⟨init, p, a, rfl, hi, e, h⟩ := hc
  rw [List.append_assoc, grp_open _ _ _ _ hi, List.nil_append, List.singleton_append, grp, if_pos (by rw [e]; simp)]
theorem grp_again {g : List (List Tok)} {n : Nat} (hg : Shape g n) : grp [] [] g.flatten = g := by
  obtain ⟨cl, tl, rfl, hcl, _, htl⟩ := hg
  have key : ∀ (cl out : List (List Tok)), (∀ c ∈ cl, Closed c) → grp out [] (cl ++ tl).flatten = out ++ cl ++ tl := by
    intro cl
    induction cl with
    | nil =>
      intro out _
      rcases htl with rfl | ⟨o, rfl, hne, ho⟩
      · simp [grp]
      · have := grp_open o out [] [] ho
        rw [List.append_nil, List.nil_append] at this
        simp only [List.nil_append, List.flatten_cons, List.flatten_nil, List.append_nil, this]
        rw [grp, if_neg hne]
    | cons c cs ih =>
      intro out h
      rw [List.cons_append, List.flatten_cons, grp_closed (h c (by simp)), ih _ (fun x hx => h x (by simp [hx]))]
      simp
  simpa using key cl [] hcl
theorem fin_cases (out : List (List Tok)) : (fin out = out) ∨ ∃ t, out = fin out ++ [[(t, [])]] := by
  rcases List.eq_nil_or_concat out with rfl | ⟨init, last, rfl⟩
  · exact .inl rfl
  · rw [List.concat_eq_append]
    match last with
    | [] => exact .inl (fin_nil _)
    | [(t, v)] =>
      rw [fin_one]
      by_cases h : v = []
      · subst h; exact .inr ⟨t, by simp⟩
      · exact .inl (by simp [h])
    | x :: y :: r => exact .inl (fin_two _ _ _ _)
theorem closed_ne {c : List Tok} (hc : Closed c) (t : Int) : c ≠ [(t, [])] := by
  obtain ⟨init, p, a, rfl, hi, e, h⟩ := hc
  intro he
  rcases List.eq_nil_or_concat init with rfl | ⟨i2, l2, rfl⟩
  · simp only [List.nil_append, List.cons.injEq, and_true] at he
    rw [he] at e
    simp at e
  · rw [List.concat_eq_append] at he
    have := congrArg List.length he
    simp at this
theorem fin_shape {g : List (List Tok)} {n : Nat} (hg : Shape g n) : Shape (fin g) n ∧ fin (fin g) = fin g := by
  rcases fin_cases g with h | ⟨t, h⟩
  · rw [h]; exact ⟨hg, h⟩
  · obtain ⟨cl, tl, e, hcl, hn, htl⟩ := hg
    have hcl2 : fin g = cl := by
      rcases htl with rfl | ⟨o, rfl, hne, ho⟩
      · rw [List.append_nil] at e
        exfalso
        have : [(t, [])] ∈ cl := by rw [← e, h]; simp
        exact closed_ne (hcl _ this) t rfl
      · exact (List.append_inj' (h.symm.trans e) (by simp)).1
    rw [hcl2]
    refine ⟨⟨cl, [], by simp, hcl, hn, .inl rfl⟩, ?_⟩
    rcases fin_cases cl with h2 | ⟨t2, h2⟩
    · exact h2
    · exfalso
      have : [(t2, [])] ∈ cl := by rw [h2]; simp
      exact closed_ne (hcl _ this) t2 rfl
theorem lines_shape (l : List Tok) : Shape (lines l) (nls l) ∧ fin (lines l) = lines l := by
  have hp : ∀ p ∈ l.flatMap pcs, Piece p := fun p hp => by
    obtain ⟨x, _, hx⟩ := List.mem_flatMap.1 hp
    exact pcs_piece x p hx
  have h := grp_shape (l.flatMap pcs) [] [] (fun c hc => absurd hc (by simp)) (fun q hq => absurd hq (by simp)) hp
  have hn : nls (l.flatMap pcs) = nls l := by
    unfold nls
    congr 1
    rw [List.flatMap_assoc]
    congr 1
    funext x
    exact pcs_text x
  rw [hn] at h
  have := fin_shape h
  simp only [List.length_nil, Nat.zero_add] at this
  exact this
theorem lines_pieces (l : List Tok) : ∀ p ∈ (lines l).flatten, Piece p := by
  intro p hp
  have hsub : ∀ q, q ∈ (lines l).flatten → q ∈ l.flatMap pcs := by
    intro q hq
    have e := grp_flat (l.flatMap pcs) [] []
    simp only [List.flatten_nil, List.nil_append] at e
    rw [← e]
    rcases fin_cases (grp [] [] (l.flatMap pcs)) with h | ⟨t, h⟩
    · rw [show lines l = _ from h] at hq; exact hq
    · rw [h, List.flatten_append]
      exact List.mem_append.2 (.inl hq)
  obtain ⟨x, _, hx⟩ := List.mem_flatMap.1 (hsub p hp)
  exact pcs_piece x p hx
theorem flatMap_pieces {ps : List Tok} (h : ∀ p ∈ ps, Piece p) : ps.flatMap pcs = ps := by
  induction ps with
  | nil => rfl
  | cons p r ih => rw [List.flatMap_cons, pcs_of_piece (h p (by simp)), ih (fun q hq => h q (by simp [hq]))]; rfl
theorem lines_again (l : List Tok) : lines (lines l).flatten = lines l := by
  obtain ⟨hs, hf⟩ := lines_shape l
  show fin (grp [] [] ((lines l).flatten.flatMap pcs)) = lines l
  rw [flatMap_pieces (lines_pieces l), grp_again hs, hf]
/-- Nothing that is made of texts, an empty one counting nothing, is lost. -/
theorem lines_flat {β : Type} (f : Tok → List β) (hf : ∀ t, f (t, []) = []) (hp : ∀ x, (pcs x).flatMap f = f x) (l : List Tok) : (lines l).flatten.flatMap f = l.flatMap f := by
  have e := grp_flat (l.flatMap pcs) [] []
  simp only [List.flatten_nil, List.nil_append] at e
  have e2 : (l.flatMap pcs).flatMap f = l.flatMap f := by
    rw [List.flatMap_assoc]
    congr 1
    funext x
    exact hp x
  rw [← e2, ← e]
  rcases fin_cases (grp [] [] (l.flatMap pcs)) with h | ⟨t, h⟩
  · rw [show lines l = _ from h]
  · have h' : grp [] [] (l.flatMap pcs) = lines l ++ [[(t, [])]] := h
    rw [h', List.flatten_append, List.flatMap_append]
    simp [hf]
theorem lines_text (l : List Tok) : (lines l).flatten.flatMap (fun p => p.2) = l.flatMap (fun p => p.2) := lines_flat _ (fun _ => rfl) pcs_text l
theorem lines_each (l : List Tok) : (lines l).flatten.flatMap (fun p => List.replicate p.2.length p.1) = l.flatMap (fun p => List.replicate p.2.length p.1) := lines_flat _ (fun _ => rfl) pcs_each l
theorem lines_len (l : List Tok) : (lines l).flatten.length ≤ wgt l := by
  have e := grp_flat (l.flatMap pcs) [] []
  simp only [List.flatten_nil, List.nil_append] at e
  have h1 : (lines l).flatten.length ≤ (l.flatMap pcs).length := by
    rw [← e]
    rcases fin_cases (grp [] [] (l.flatMap pcs)) with h | ⟨t, h⟩
    · rw [show lines l = _ from h]; exact Nat.le_refl _
    · have h' : grp [] [] (l.flatMap pcs) = lines l ++ [[(t, [])]] := h
      rw [h', List.flatten_append, List.length_append]; omega
  refine Nat.le_trans h1 ?_
  clear h1 e
  induction l with
  | nil => simp [wgt]
  | cons x r ih =>
    have := pcs_len x
    simp only [List.flatMap_cons, List.length_append, wgt]; omega
end Go.Proofs.YtmldahejeobohaaDoorSplit
set_option linter.unusedVariables false
set_option linter.unusedSimpArgs false
namespace Go.Proofs.YtmldahejeobohaaDoorLines
open Go.RowKit Go.Proofs.YtmldahejeobohaaDoorEvt Go.Proofs.YtmldahejeobohaaDoor.M Go.Proofs.YtmldahejeobohaaDoorW.PrintWords Go.Proofs.YtmldahejeobohaaDoorTok Go.Proofs.YtmldahejeobohaaDoorSplit

def mmT (o : List (List Tok)) : List (List T) := o.map fun l => l.map mT
theorem line_le {o : List (List Tok)} (i : Nat) (h : i < o.length) : o[i].length ≤ o.flatten.length := by
  have e : o.flatten = (o.take i).flatten ++ (o[i] ++ (o.drop (i + 1)).flatten) := by
    rw [← List.flatten_cons, ← List.drop_eq_getElem_cons h, ← List.flatten_append, List.take_append_drop]
  rw [e]; simp; omega
theorem nls_le (l : List Tok) : nls l ≤ wgt l := by
  have := wgt_eq l
  have h : nls l ≤ (l.flatMap fun p => p.2).length := List.count_le_length
  omega
theorem lines_count (l : List Tok) : nls l ≤ (lines l).length ∧ (lines l).length ≤ nls l + 1 := by
  obtain ⟨⟨cl, tl, e, _, hn, htl⟩, _⟩ := lines_shape l
  rw [e, List.length_append, hn]
  rcases htl with rfl | ⟨o, rfl, _⟩ <;> simp
theorem sl_loop (L : List (List Tok)) (hn : L.length ≤ 2000000) (hf : L.flatten.length ≤ 1000000) : ∀ (d i : Nat) (acc : List (List T)), L.length = i + d → acc.length ≤ i →
    Evt (fun k => impl_SplitLines.l0 k acc (mm L) ((mm L).length : Int) (i : Int)) (acc ++ mmT (L.drop i)) := by
  have hl : (mm L).length = L.length := List.length_map _
  intro d
  induction d with
  | zero =>
    intro i acc hi hacc
    rw [List.drop_eq_nil_of_le (by omega)]
    refine Evt.step (h := fun _ => some _) (fun k => ?_) (Evt.pure _)
    simp only [impl_SplitLines.l0]; rw [if_neg (by omega)]; simp [mmT]
  | succ d ih =>
    intro i acc hi hacc
    have hlt : i < L.length := by omega
    have hrd : rd_L9 (mm L) (i : Int) = L[i].map mC := by
      show (mm L).getD (i : Int).toNat [] = _
      rw [rdLC _ _ (by omega)]; simp [mm]
    have hm : (L[i].map mC).map toT = L[i].map mT := by rw [List.map_map]; rfl
    have h1 := ih (i + 1) (acc ++ [L[i].map mT]) (by omega) (by simp; omega)
    have e : acc ++ mmT (L.drop i) = acc ++ [L[i].map mT] ++ mmT (L.drop (i + 1)) := by
      rw [List.drop_eq_getElem_cons hlt]; simp only [mmT, List.map_cons, List.append_assoc, List.singleton_append]
    rw [e]
    have ho := outer (L[i].map mC) (by rw [List.length_map]; have := line_le i hlt; omega)
    rw [hm] at ho
    refine Evt.step (fun k => by simp only [impl_SplitLines.l0]; rw [if_pos (by omega), if_pos (by omega), if_pos (by omega), hrd]) ?_
    refine Evt.bind ho ?_
    refine Evt.pos (by omega) ?_
    rw [wrap_nat (by omega)]
    exact h1
theorem splitLines (xs : List Tok) (hw : wgt xs ≤ 900000) : Evt (fun k => impl_SplitLines.f k (xs.map mT)) (mmT (lines xs)) := by
  have hwe := wgt_eq xs
  have hi := inner (xs.map mT) (by rw [List.length_map]; omega)
  have hm : (xs.map mT).map toC = xs.map mC := by rw [List.map_map]; rfl
  rw [hm] at hi
  refine Evt.bind hi (Evt.bind (tokens xs (by omega)) ?_)
  have h := sl_loop (lines xs) (by have := (lines_count xs).2; have := nls_le xs; omega) (by have := lines_len xs; omega) (lines xs).length 0 [] (by omega) (by simp)
  simpa using h

/-! ### flat -/
def eac (xs : List Tok) : List Int := xs.flatMap fun p => List.replicate p.2.length p.1
theorem eac_len (xs : List Tok) : (eac xs).length ≤ wgt xs := by
  induction xs with
  | nil => simp [eac, wgt]
  | cons x r ih => simp only [eac, List.flatMap_cons, List.length_append, List.length_replicate, wgt] at ih ⊢; omega
theorem each_in (xs : List T) (i : Nat) (n : Nat) (t : Int) (v : ByteArray) (r : List Int) (hn : n ≤ 1000000) (h0 : ∀ acc : List Int, acc.length ≤ 2000000 → Evt (fun k => laws_each.l0 k acc xs (xs.length : Int) (wrap64 ((i : Int) + 1))) (acc ++ r)) :
    ∀ (d j : Nat) (acc : List Int), n = j + d → acc.length + d ≤ 2000000 → Evt (fun k => laws_each.l1 k acc xs (xs.length : Int) (i : Int) (n : Int) (j : Int) t v) (acc ++ List.replicate d t ++ r) := by
  intro d
  induction d with
  | zero =>
    intro j acc hj hacc
    refine Evt.step (fun k => by simp only [laws_each.l1]; rw [if_neg (by omega)]) ?_
    simpa using h0 acc (by omega)
  | succ d ih =>
    intro j acc hj hacc
    have h1 := ih (j + 1) (acc ++ [t]) (by omega) (by simp; omega)
    refine Evt.step (fun k => by simp only [laws_each.l1]; rw [if_pos (by omega), if_pos (by omega), wrap_nat (by omega)]) ?_
    rw [List.replicate_succ]
    simpa using h1
theorem each_loop (xs : List Tok) (hw : wgt xs ≤ 1000000) : ∀ (d i : Nat) (acc : List Int), xs.length = i + d → acc.length + wgt (xs.drop i) ≤ 2000000 →
    Evt (fun k => laws_each.l0 k acc (xs.map mT) ((xs.map mT).length : Int) (i : Int)) (acc ++ eac (xs.drop i)) := by
  have hl : (xs.map mT).length = xs.length := List.length_map _
  have hwe := wgt_eq xs
  intro d
  induction d with
  | zero =>
    intro i acc hi hacc
    rw [List.drop_eq_nil_of_le (by omega)]
    refine Evt.step (h := fun _ => some _) (fun k => ?_) (Evt.pure _)
    simp only [laws_each.l0]; rw [if_neg (by omega)]; simp [eac]
  | succ d ih =>
    intro i acc hi hacc
    have hlt : i < xs.length := by omega
    rw [List.drop_eq_getElem_cons hlt] at hacc
    simp only [wgt] at hacc
    have hsz : xs[i].2.length ≤ 1000000 := by
      have e : xs = xs.take i ++ (xs[i] :: xs.drop (i + 1)) := by rw [← List.drop_eq_getElem_cons hlt, List.take_append_drop]
      have h2 : ∀ a b : List Tok, wgt (a ++ b) = wgt a + wgt b := by
        intro a b
        induction a with
        | nil => simp [wgt]
        | cons x r ih => simp only [List.cons_append, wgt, ih]; omega
      rw [e, h2] at hw
      simp only [wgt] at hw
      omega
    have hrd : rd_T27 (xs.map mT) (i : Int) = mT xs[i] := by rw [rdT _ _ (by omega)]; simp
    have e : acc ++ eac (xs.drop i) = acc ++ List.replicate xs[i].2.length xs[i].1 ++ eac (xs.drop (i + 1)) := by
      rw [List.drop_eq_getElem_cons hlt]; simp only [eac, List.flatMap_cons, List.append_assoc]
    rw [e]
    refine Evt.step (fun k => by simp only [laws_each.l0]; rw [if_pos (by omega), if_pos (by omega), if_pos (by omega), hrd]) ?_
    have hs : ((mT xs[i]).f1.size : Int) = (xs[i].2.length : Int) := by simp only [mT, size_B]
    have := each_in (xs.map mT) i xs[i].2.length xs[i].1 (mT xs[i]).f1 (eac (xs.drop (i + 1))) (by omega)
    rw [hs]
    by_cases hz : acc.length + xs[i].2.length + wgt (xs.drop (i + 1)) ≤ 2000000
    · have key : ∀ (d j : Nat) (acc2 : List Int), xs[i].2.length = j + d → acc2.length + d + wgt (xs.drop (i + 1)) ≤ 2000000 → Evt (fun k => laws_each.l1 k acc2 (xs.map mT) ((xs.map mT).length : Int) (i : Int) (xs[i].2.length : Int) (j : Int) xs[i].1 (mT xs[i]).f1) (acc2 ++ List.replicate d xs[i].1 ++ eac (xs.drop (i + 1))) := by
        intro d2
        induction d2 with
        | zero =>
          intro j acc2 hj hacc2
          refine Evt.step (fun k => by simp only [laws_each.l1]; rw [if_neg (by omega)]) ?_
          have h1 := ih (i + 1) acc2 (by omega) (by omega)
          rw [wrap_nat (by omega)]
          simpa using h1
        | succ d2 ih2 =>
          intro j acc2 hj hacc2
          have h1 := ih2 (j + 1) (acc2 ++ [xs[i].1]) (by omega) (by simp; omega)
          refine Evt.step (fun k => by simp only [laws_each.l1]; rw [if_pos (by omega), if_pos (by omega), wrap_nat (by omega)]) ?_
          rw [List.replicate_succ]
          simpa using h1
      exact key xs[i].2.length 0 acc (by omega) hz
    · omega
theorem each (xs : List Tok) (hw : wgt xs ≤ 1000000) : Evt (fun k => laws_each.f k (xs.map mT)) (eac xs) := by
  have h := each_loop xs hw xs.length 0 [] (by omega) (by simp; omega)
  rw [List.drop_zero, List.nil_append] at h
  exact Evt.congr (fun k => rfl) h
theorem rdI (xs : List Int) (i : Nat) (h : i < xs.length) : rd xs (i : Int) = xs[i] := by simp [rd, List.getD_eq_getElem?_getD, h]
theorem sameInts_refl (a : List Int) (hn : a.length ≤ 2147483647) : Evt (fun k => laws_sameInts.f k a a) true := by
  have key : ∀ (d i : Nat), a.length = i + d → Evt (fun k => laws_sameInts.l0 k a a (a.length : Int) (i : Int)) true := by
    intro d
    induction d with
    | zero =>
      intro i hi
      exact Evt.step (h := fun _ => some _) (fun k => by simp only [laws_sameInts.l0]; rw [if_neg (by omega)]) (Evt.pure _)
    | succ d ih =>
      intro i hi
      exact Evt.step (fun k => by simp only [laws_sameInts.l0]; rw [if_pos (by omega), if_pos (by omega), if_pos (by omega), if_pos (by omega), if_pos True.intro, wrap_nat (by omega)]) (ih (i + 1) (by omega))
  exact Evt.congr (fun k => by simp only [laws_sameInts.f]; rw [if_pos True.intro]; rfl) (key a.length 0 (by omega))

/-! ### feeds, ends -/
theorem waking : Evt (fun k => laws_waking.f k) true := by
  have h1 := splitLines [(1000, [105, 102, 10, 120]), (2000, [121])] (by simp [wgt])
  have e : lines [(1000, [105, 102, 10, 120]), (2000, [121])] = [[(1000, [105, 102, 10])], [(1000, [120]), (2000, [121])]] := by rfl
  rw [e] at h1
  refine Evt.bind h1 ?_
  refine Evt.pos (by simp [mmT]) ?_
  refine Evt.pos (by simp [mmT]) ?_
  have t1 := text [mT (1000, [105, 102, 10])] (by simp) (by decide)
  have t2 := text [mT (1000, [120]), mT (2000, [121])] (by simp) (by decide)
  refine Evt.bind t1 ?_
  refine Evt.pos (by rw [toList_dat, dat_B]; rfl) ?_
  refine Evt.pos (by simp [mmT]) ?_
  refine Evt.bind t2 ?_
  refine Evt.of (fun k => ?_)
  rw [toList_dat, dat_B]; rfl
end Go.Proofs.YtmldahejeobohaaDoorLines
set_option linter.unusedVariables false
set_option linter.unusedSimpArgs false
namespace Go.Proofs.YtmldahejeobohaaDoor.Pure
open Go.RowKit Go.Proofs.YtmldahejeobohaaDoorEvt Go.Proofs.YtmldahejeobohaaDoor.M Go.Proofs.YtmldahejeobohaaDoorW.PrintWords Go.Proofs.YtmldahejeobohaaDoorTok Go.Proofs.YtmldahejeobohaaDoorSplit Go.Proofs.YtmldahejeobohaaDoorLines
abbrev D := S29
theorem rdD (xs : List D) (i : Nat) (h : i < xs.length) : rd_T29 xs (i : Int) = xs[i] := by
  simp [rd_T29, List.getD_eq_getElem?_getD, h]
theorem cutting_loop (xs0 xs : List D) (hn : xs.length ≤ 2147483647) : ∀ (d i : Nat), xs.length = i + d →
    ∃ b, Evt (fun k => laws_cutting.l0 k xs0 xs (xs.length : Int) (i : Int)) b ∧ (b = true → xs0.length ≤ 100 ∧ ∀ x ∈ xs.drop i, 1 ≤ x.f1 ∧ x.f1 ≤ 4000 ∧ x.f0 ≠ 0) := by
  intro d
  induction d with
  | zero =>
    intro i hi
    refine ⟨decide ((xs0.length : Int) ≤ 100), Evt.step (h := fun _ => some _) (fun k => ?_) (Evt.pure _), fun h => ?_⟩
    · simp only [laws_cutting.l0]; rw [if_neg (by omega)]
    · rw [List.drop_eq_nil_of_le (by omega)]
      exact ⟨by have := of_decide_eq_true h; omega, by simp⟩
  | succ d ih =>
    intro i hi
    have hlt : i < xs.length := by omega
    have no : ∀ (hh : ∀ k, laws_cutting.l0 (k + 1) xs0 xs (xs.length : Int) (i : Int) = some false), ∃ b, Evt (fun k => laws_cutting.l0 k xs0 xs (xs.length : Int) (i : Int)) b ∧ (b = true → xs0.length ≤ 100 ∧ ∀ x ∈ xs.drop i, 1 ≤ x.f1 ∧ x.f1 ≤ 4000 ∧ x.f0 ≠ 0) :=
      fun hh => ⟨false, Evt.step (h := fun _ => some false) hh (Evt.pure _), fun h => absurd h (by simp)⟩
    by_cases h1 : xs[i].f1 < 1
    · exact no fun k => by simp only [laws_cutting.l0]; rw [if_pos (by omega), if_pos (by omega), if_pos (by omega), rdD _ _ hlt, if_pos h1]
    by_cases h2 : xs[i].f1 > 4000
    · exact no fun k => by simp only [laws_cutting.l0]; rw [if_pos (by omega), if_pos (by omega), if_pos (by omega), rdD _ _ hlt, if_neg h1, if_pos h2]
    by_cases h3 : xs[i].f0 = 0
    · exact no fun k => by simp only [laws_cutting.l0]; rw [if_pos (by omega), if_pos (by omega), if_pos (by omega), rdD _ _ hlt, if_neg h1, if_neg h2, if_pos h3]
    obtain ⟨b, g1, g2⟩ := ih (i + 1) (by omega)
    refine ⟨b, Evt.step (fun k => ?_) g1, fun hb => ?_⟩
    · simp only [laws_cutting.l0]; rw [if_pos (by omega), if_pos (by omega), if_pos (by omega), rdD _ _ hlt, if_neg h1, if_neg h2, if_neg h3, wrap_nat (by omega)]
    · obtain ⟨g3, g4⟩ := g2 hb
      rw [List.drop_eq_getElem_cons hlt]
      refine ⟨g3, fun x hx => ?_⟩
      rcases List.mem_cons.1 hx with rfl | hx
      · exact ⟨by omega, by omega, h3⟩
      · exact g4 x hx
theorem cutting (xs : List D) (hn : xs.length ≤ 2147483647) : ∃ b, Evt (fun k => laws_cutting.f k xs) b ∧ (b = true → xs.length ≤ 100 ∧ ∀ x ∈ xs, 1 ≤ x.f1 ∧ x.f1 ≤ 4000 ∧ x.f0 ≠ 0) := by
  obtain ⟨b, h1, h2⟩ := cutting_loop xs xs hn xs.length 0 (by omega)
  rw [List.drop_zero] at h2
  exact ⟨b, Evt.congr (fun k => rfl) h1, h2⟩
theorem nil_iff (s : ByteArray) : s.toList = ([] : List UInt8) ↔ s.size = 0 := by
  rw [toList_dat, size_dat]
  exact List.length_eq_zero_iff.symm
theorem hollow_loop (xs : List T) (hn : xs.length ≤ 2147483647) : ∀ (d i : Nat), xs.length = i + d →
    ∃ b, Evt (fun k => laws_hollow.l0 k xs (xs.length : Int) (i : Int)) b ∧ (b = false → ∀ x ∈ xs.drop i, x.f1.size ≠ 0) := by
  intro d
  induction d with
  | zero =>
    intro i hi
    refine ⟨false, Evt.step (h := fun _ => some _) (fun k => ?_) (Evt.pure _), fun h => ?_⟩
    · simp only [laws_hollow.l0]; rw [if_neg (by omega)]
    · rw [List.drop_eq_nil_of_le (by omega)]; simp
  | succ d ih =>
    intro i hi
    have hlt : i < xs.length := by omega
    by_cases h1 : xs[i].f1.size = 0
    · refine ⟨true, Evt.step (h := fun _ => some true) (fun k => ?_) (Evt.pure _), fun h => absurd h (by simp)⟩
      simp only [laws_hollow.l0]; rw [if_pos (by omega), if_pos (by omega), if_pos (by omega), rdT _ _ hlt, if_pos ((nil_iff _).2 h1)]
    obtain ⟨b, g1, g2⟩ := ih (i + 1) (by omega)
    refine ⟨b, Evt.step (fun k => ?_) g1, fun hb => ?_⟩
    · simp only [laws_hollow.l0]; rw [if_pos (by omega), if_pos (by omega), if_pos (by omega), rdT _ _ hlt, if_neg (fun h => h1 ((nil_iff _).1 h)), wrap_nat (by omega)]
    · rw [List.drop_eq_getElem_cons hlt]
      intro x hx
      rcases List.mem_cons.1 hx with rfl | hx
      · exact h1
      · exact g2 hb x hx
theorem hollow (xs : List T) (hn : xs.length ≤ 2147483647) : ∃ b, Evt (fun k => laws_hollow.f k xs) b ∧ (b = false → ∀ x ∈ xs, x.f1.size ≠ 0) := by
  obtain ⟨b, h1, h2⟩ := hollow_loop xs hn xs.length 0 (by omega)
  rw [List.drop_zero] at h2
  exact ⟨b, Evt.congr (fun k => rfl) h1, h2⟩
/-! ### what impl.Delegate makes -/
/-- Each byte of tokens with its type. -/
def bt (l : List T) : List (Int × UInt8) := l.flatMap fun x => (dat x.f1).map fun b => (x.f0, b)
def prs (l : List T) : List (Int × ByteArray) := l.map fun x => (x.f0, x.f1)
def prc (l : List D) : List (Int × Int) := l.map fun x => (x.f0, x.f1)
/-- What stands for the others. -/
def stm (r : List D) (l : List T) : List (Int × UInt8) := Go.Proofs.YtmldahejeobohaaDoorTake.bt2 (Go.Proofs.YtmldahejeobohaaDoorTake.pcsL ((prc r).map Go.Proofs.YtmldahejeobohaaDoorTake.mCt) ⟨(((bt l).filter fun p => decide (p.1 = -12)).map (·.2)).toArray⟩)
def dlg (r : List D) (l : List T) : List T := (Go.Proofs.YtmldahejeobohaaDoorTake.delP (prc r) (prs l)).map fun p => ⟨p.1, p.2⟩
theorem bt_prs (l : List T) : Go.Proofs.YtmldahejeobohaaDoorTake.bt2 ((prs l).map Go.Proofs.YtmldahejeobohaaDoorTake.mC) = bt l := by
  unfold Go.Proofs.YtmldahejeobohaaDoorTake.bt2 bt prs
  rw [List.map_map, List.flatMap_map]
  rfl
theorem bt_dlg (r : List D) (l : List T) : bt (dlg r l) = Go.Proofs.YtmldahejeobohaaDoorTake.inB (bt l) (stm r l) := by
  have h := Go.Proofs.YtmldahejeobohaaDoorTake.del_bt (Go.Proofs.YtmldahejeobohaaDoorTake.pcsL ((prc r).map Go.Proofs.YtmldahejeobohaaDoorTake.mCt)) ((prs l).map Go.Proofs.YtmldahejeobohaaDoorTake.mC) (fun x => Go.Proofs.YtmldahejeobohaaDoorTake.pcs_sz _ x)
  rw [Go.Proofs.YtmldahejeobohaaDoorTake.othL_bt, bt_prs] at h
  unfold stm
  rw [← h]
  unfold dlg Go.Proofs.YtmldahejeobohaaDoorTake.delP bt Go.Proofs.YtmldahejeobohaaDoorTake.bt2
  rw [List.map_map, List.flatMap_map]
  rfl
theorem stm_snd (r : List D) (l : List T) : (stm r l).map (·.2) = ((bt l).filter fun p => decide (p.1 = -12)).map (·.2) := by
  unfold stm
  rw [Go.Proofs.YtmldahejeobohaaDoorTake.bt2_snd, Go.Proofs.YtmldahejeobohaaDoorTake.pcs_bys]
theorem bt_snd (l : List T) : (bt l).map (·.2) = txt l := by
  unfold bt txt
  rw [List.map_flatMap]
  congr 1
  funext x
  rw [List.map_map]
  exact List.map_id _
theorem txt_dlg (r : List D) (l : List T) : txt (dlg r l) = txt l := by
  rw [← bt_snd, bt_dlg, ← bt_snd]
  exact Go.Proofs.YtmldahejeobohaaDoorTake.inB_map (fun p => p.2) _ _ (stm_snd r l)
theorem sum_nby (l : List T) : (l.map fun x => x.f1.size).sum = nby l := by
  induction l with
  | nil => rfl
  | cons x r ih => rw [List.map_cons, List.sum_cons, ih]; rfl
theorem dlg_len (r : List D) (l : List T) (hr : r.length ≤ 100) (hrz : ∀ x ∈ r, x.f0 ≠ 0) (hl : l.length ≤ 400) (hz : ∀ x ∈ l, x.f0 ≠ 0) : (dlg r l).length ≤ 990000 := by
  unfold dlg Go.Proofs.YtmldahejeobohaaDoorTake.delP
  rw [List.length_map, List.length_map]
  exact (Go.Proofs.YtmldahejeobohaaDoorTake.delL_facts _ _ _ (by unfold prc; rw [List.length_map, List.length_map]; omega) (fun c hc => by
    obtain ⟨p, hp, rfl⟩ := List.mem_map.1 hc
    obtain ⟨x, hx, rfl⟩ := List.mem_map.1 hp
    exact hrz x hx) (by unfold prs; rw [List.length_map, List.length_map]; omega) (fun c hc => by
    obtain ⟨p, hp, rfl⟩ := List.mem_map.1 hc
    obtain ⟨x, hx, rfl⟩ := List.mem_map.1 hp
    exact hz x hx)).1
theorem del_f (r : List D) (l : List T) (hr : r.length ≤ 100) (hrz : ∀ x ∈ r, x.f0 ≠ 0) (hl : l.length ≤ 400) (hz : ∀ x ∈ l, x.f0 ≠ 0) (hs : nby l ≤ 4000) : impl_Delegate.f r l = some (dlg r l, true) := by
  unfold impl_Delegate.f
  rw [if_pos ⟨by omega, List.all_eq_true.2 fun x hx => by simpa using hrz x hx, by omega, List.all_eq_true.2 fun x hx => by simpa using hz x hx, by rw [sum_nby]; omega⟩]
  rfl
/-- The guards that all three statements have. -/
theorem dguards (l0 : List D) (l1 : List T) (F : Nat → Option Bool) (j0 : Nat → Bool → Option Bool) (j1 : Nat → Bool → Option Bool)
    (hF : ∀ k, F k = if (l0.length : Int) > 2147483647 then j0 k true else (laws_zzFits4.f k l1).bind fun t => j0 k (!t))
    (h0 : ∀ k x, j0 (k + 1) x = if x = true then some true else ((laws_cutting.f k l0).bind fun t => (if t = true then ((laws_small.f k l1).bind fun t2 => (if t2 = true then ((laws_hollow.f k l1).bind fun t3 => (j1 k t3)) else (j1 k true))) else (j1 k true))))
    (h1 : ∀ k, j1 (k + 1) true = some true)
    (H : l0.length ≤ 100 → (∀ x ∈ l0, 1 ≤ x.f1 ∧ x.f1 ≤ 4000 ∧ x.f0 ≠ 0) → l1.length ≤ 400 → nby l1 ≤ 4000 → (∀ x ∈ l1, x.f0 ≠ 0) → (∀ x ∈ l1, x.f1.size ≠ 0) → Evt (fun k => j1 k false) true) : ∃ k, F k = some true := by
  refine Evt.get ?_
  refine Evt.congr hF ?_
  have hj0 : Evt (fun k => j0 k true) true := Evt.step (h := fun _ => some true) (fun k => by show j0 (k + 1) true = _; rw [h0, if_pos rfl]) (Evt.pure _)
  have hj1 : Evt (fun k => j1 k true) true := Evt.step (h := fun _ => some true) (fun k => h1 k) (Evt.pure _)
  by_cases hb : (l0.length : Int) > 2147483647
  · exact Evt.pos hb hj0
  refine Evt.neg hb ?_
  obtain ⟨b, hb1, hb2⟩ := fits l1
  refine Evt.bind hb1 ?_
  cases b with
  | false => exact hj0
  | true =>
    obtain ⟨f1, f2⟩ := hb2 rfl
    refine Evt.step (fun k => by show j0 (k + 1) false = _; rw [h0, if_neg (by simp)]) ?_
    obtain ⟨c, hc1, hc2⟩ := cutting l0 (by omega)
    refine Evt.bind hc1 ?_
    cases c with
    | false => exact Evt.neg (by simp) hj1
    | true =>
      obtain ⟨g1, g2⟩ := hc2 rfl
      refine Evt.pos rfl ?_
      obtain ⟨b2, hs1, hs2⟩ := small l1 f1 f2
      refine Evt.bind hs1 ?_
      cases b2 with
      | false => exact Evt.neg (by simp) hj1
      | true =>
        obtain ⟨e1, e2, e3⟩ := hs2 rfl
        refine Evt.pos rfl ?_
        obtain ⟨b3, ho1, ho2⟩ := hollow l1 f1
        refine Evt.bind ho1 ?_
        cases b3 with
        | true => exact hj1
        | false => exact H g1 g2 e1 e2 e3 (ho2 rfl)
theorem FnDelegateText : laws_FnDelegateText.Pure := by
  intro l0 l1 _ _
  refine dguards l0 l1 _ (fun k => laws_FnDelegateText.j0 k l0 l1) (fun k => laws_FnDelegateText.j1 k l0 l1) (fun k => rfl) (fun k x => by simp only [laws_FnDelegateText.j0]) (fun k => by simp only [laws_FnDelegateText.j1]; rw [if_pos trivial]) ?_
  intro h1 h2 h3 h4 h5 h6
  refine Evt.step (fun k => by simp only [laws_FnDelegateText.j1]; rw [if_neg (by simp)]) ?_
  refine Evt.bind' (del_f l0 l1 h1 (fun x hx => (h2 x hx).2.2) h3 h5 h4) ?_
  refine Evt.pos rfl ?_
  have hd := dlg_len l0 l1 h1 (fun x hx => (h2 x hx).2.2) h3 h5
  have hn : nby (dlg l0 l1) = nby l1 := by rw [← txt_length, txt_dlg, txt_length]
  refine Evt.bind (text (dlg l0 l1) (by omega) (by omega)) (Evt.bind (text l1 (by omega) (by omega)) ?_)
  rw [txt_dlg]
  exact Evt.pos rfl (Evt.bind waking (Evt.pure _))
end Go.Proofs.YtmldahejeobohaaDoor.Pure
set_option linter.unusedVariables false
set_option linter.unusedSimpArgs false
namespace Go.Proofs.YtmldahejeobohaaDoor.Pure
open Go.RowKit Go.Proofs.YtmldahejeobohaaDoorEvt Go.Proofs.YtmldahejeobohaaDoor.M Go.Proofs.YtmldahejeobohaaDoorW.PrintWords Go.Proofs.YtmldahejeobohaaDoorTok Go.Proofs.YtmldahejeobohaaDoorSplit Go.Proofs.YtmldahejeobohaaDoorLines
/-! ### each -/
theorem eac_bt (l : List T) : eac (l.map aT) = (bt l).map (·.1) := by
  unfold eac bt
  rw [List.flatMap_map, List.map_flatMap]
  congr 1
  funext x
  rw [List.map_map]
  show List.replicate (dat x.f1).length x.f0 = (dat x.f1).map (fun _ => x.f0)
  rw [List.map_const']
theorem eachT (l : List T) (hw : nby l + l.length ≤ 1000000) : Evt (fun k => laws_each.f k l) ((bt l).map (·.1)) := by
  have e : (l.map aT).map mT = l := by
    rw [List.map_map]
    have : mT ∘ aT = id := by funext x; exact mT_aT x
    rw [this, List.map_id]
  have hg : wgt (l.map aT) ≤ 1000000 := by
    rw [wgt_eq, List.length_map, List.flatMap_map]
    have : (l.flatMap fun a => (aT a).2) = txt l := rfl
    rw [this, txt_length]; omega
  have h := each (l.map aT) hg
  rw [e, eac_bt] at h
  exact h
/-! ### cut -/
def cutL : List D → ByteArray → List T
  | [], s => if s.size = 0 then [] else [⟨8000, s⟩]
  | c :: r, s => if mn c.f1 (s.size : Int) > 0 then ⟨c.f0, s.extract 0 (mn c.f1 (s.size : Int)).toNat⟩ :: cutL r (s.extract (mn c.f1 (s.size : Int)).toNat s.size) else cutL r s
theorem mn_le (a : Int) (n : Nat) : mn a (n : Int) ≤ (n : Int) := by unfold mn; split <;> omega
theorem cut_loop (xs : List D) (hn : xs.length ≤ 1000) : ∀ (d i : Nat) (s : ByteArray) (acc : List T), xs.length = i + d → acc.length ≤ i →
    Evt (fun k => laws_cut.l0 k s acc xs (xs.length : Int) (i : Int)) (acc ++ cutL (xs.drop i) s) := by
  intro d
  induction d with
  | zero =>
    intro i s acc hi hacc
    rw [List.drop_eq_nil_of_le (by omega)]
    refine Evt.step (h := fun _ => some _) (fun k => ?_) (Evt.pure _)
    simp only [laws_cut.l0]
    rw [if_neg (by omega)]
    unfold cutL
    by_cases h : s.size = 0
    · rw [if_pos h, if_pos ((nil_iff s).2 h), List.append_nil]
    · rw [if_neg h, if_neg (fun e => h ((nil_iff s).1 e)), if_pos (by omega)]
  | succ d ih =>
    intro i s acc hi hacc
    have hlt : i < xs.length := by omega
    have hm := mn_le xs[i].f1 s.size
    rw [List.drop_eq_getElem_cons hlt]
    by_cases h : mn xs[i].f1 (s.size : Int) > 0
    · have h1 := ih (i + 1) (s.extract (mn xs[i].f1 (s.size : Int)).toNat s.size) (acc ++ [⟨xs[i].f0, s.extract 0 (mn xs[i].f1 (s.size : Int)).toNat⟩]) (by omega) (by simp; omega)
      rw [List.append_assoc, List.singleton_append] at h1
      unfold cutL
      rw [if_pos h]
      refine Evt.step (fun k => ?_) h1
      simp only [laws_cut.l0]
      rw [if_pos (by omega), if_pos (by omega), if_pos (by omega), rdD _ _ hlt, if_pos h, if_pos (by omega), if_pos hm, if_pos (by omega), wrap_nat (by omega)]
    · have h1 := ih (i + 1) s acc (by omega) (by omega)
      unfold cutL
      rw [if_neg h]
      refine Evt.step (fun k => ?_) h1
      simp only [laws_cut.l0]
      rw [if_pos (by omega), if_pos (by omega), if_pos (by omega), rdD _ _ hlt, if_neg h, wrap_nat (by omega)]
theorem cut (xs : List D) (s : ByteArray) (hn : xs.length ≤ 1000) : Evt (fun k => laws_cut.f k xs s) (cutL xs s) := by
  have h := cut_loop xs hn xs.length 0 s [] (by omega) (by simp)
  rw [List.drop_zero, List.nil_append] at h
  exact Evt.congr (fun k => rfl) h
theorem cut_len : ∀ (xs : List D) (s : ByteArray), (cutL xs s).length ≤ xs.length + 1
  | [], s => by unfold cutL; split <;> simp
  | c :: r, s => by
    unfold cutL
    split
    · have := cut_len r (s.extract (mn c.f1 (s.size : Int)).toNat s.size); simp only [List.length_cons]; omega
    · have := cut_len r s; simp only [List.length_cons]; omega
theorem bt_cut : ∀ (xs : List D) (s : ByteArray), bt (cutL xs s) = Go.Proofs.YtmldahejeobohaaDoorTake.bt2 (Go.Proofs.YtmldahejeobohaaDoorTake.pcsL ((prc xs).map Go.Proofs.YtmldahejeobohaaDoorTake.mCt) s)
  | [], s => by
    unfold cutL prc
    rw [List.map_nil, List.map_nil]
    unfold Go.Proofs.YtmldahejeobohaaDoorTake.pcsL
    by_cases h : s.size = 0
    · rw [if_pos h, if_neg (by omega)]; rfl
    · rw [if_neg h, if_pos (by omega)]; rfl
  | c :: r, s => by
    have e : (prc (c :: r)).map Go.Proofs.YtmldahejeobohaaDoorTake.mCt = (⟨c.f0, c.f1⟩ : Go.Proofs.YtmldahejeobohaaDoorTake.Ct) :: (prc r).map Go.Proofs.YtmldahejeobohaaDoorTake.mCt := rfl
    rw [e]
    unfold cutL Go.Proofs.YtmldahejeobohaaDoorTake.pcsL
    by_cases h : mn c.f1 (s.size : Int) > 0
    · rw [if_pos h]
      have hx : mx 0 (mn c.f1 (s.size : Int)) = mn c.f1 (s.size : Int) := by unfold mx; rw [if_pos h]
      simp only [hx]
      rw [Go.Proofs.YtmldahejeobohaaDoorTake.bt2_cons, ← bt_cut r]
      rfl
    · rw [if_neg h]
      have hx : mx 0 (mn c.f1 (s.size : Int)) = 0 := by unfold mx; rw [if_neg (by omega)]
      simp only [hx]
      have e2 : s.extract (0 : Int).toNat s.size = s := by
        refine dat_inj ?_
        show Go.Proofs.YtmldahejeobohaaDoorTake.bys (Go.Proofs.YtmldahejeobohaaDoorTake.rig s 0) = _
        rw [Go.Proofs.YtmldahejeobohaaDoorTake.bys_rig, List.drop_zero]
      rw [e2, Go.Proofs.YtmldahejeobohaaDoorTake.bt2_cons, ← bt_cut r]
      have e3 : Go.Proofs.YtmldahejeobohaaDoorTake.btk ⟨c.f0, s.extract 0 (0 : Int).toNat⟩ = [] := by
        unfold Go.Proofs.YtmldahejeobohaaDoorTake.btk
        show (Go.Proofs.YtmldahejeobohaaDoorTake.bys (Go.Proofs.YtmldahejeobohaaDoorTake.lef s 0)).map _ = []
        rw [Go.Proofs.YtmldahejeobohaaDoorTake.bys_lef]; rfl
      show _ = Go.Proofs.YtmldahejeobohaaDoorTake.btk ⟨c.f0, s.extract 0 (0 : Int).toNat⟩ ++ _
      rw [e3]; rfl
/-! ### what is wanted -/
def wnt : List Int → List Int → List Int
  | [], s => []
  | x :: r, s => if x = -12 then s.headD 0 :: wnt r s.tail else x :: wnt r s
def cnt (l : List Int) : Nat := (l.filter fun x => decide (x = -12)).length
theorem cnt_cons (x : Int) (r : List Int) : cnt (x :: r) = (if x = -12 then 1 else 0) + cnt r := by
  unfold cnt
  by_cases h : x = -12
  · rw [List.filter_cons_of_pos (by simpa using h), List.length_cons, if_pos h]; omega
  · rw [List.filter_cons_of_neg (by simpa using h), if_neg h]; omega
theorem wnt_len : ∀ (l s : List Int), (wnt l s).length = l.length
  | [], s => rfl
  | x :: r, s => by
    rw [wnt]
    split
    · rw [List.length_cons, List.length_cons, wnt_len r]
    · rw [List.length_cons, List.length_cons, wnt_len r]
theorem wnt_inB : ∀ (L s : List (Int × UInt8)), s.length = cnt (L.map (·.1)) → wnt (L.map (·.1)) (s.map (·.1)) = (Go.Proofs.YtmldahejeobohaaDoorTake.inB L s).map (·.1)
  | [], s, h => by
    have : s = [] := List.length_eq_zero_iff.1 h
    subst this
    rfl
  | p :: r, s, h => by
    rw [List.map_cons, cnt_cons] at h
    rw [List.map_cons, wnt, Go.Proofs.YtmldahejeobohaaDoorTake.inB]
    by_cases h0 : p.1 = -12
    · rw [if_pos h0] at h
      have h0' : p.1 = Go.Proofs.YtmldahejeobohaaDoorTake.oth := h0
      rw [if_pos h0, if_pos h0']
      cases s with
      | nil => simp at h; omega
      | cons q s =>
        rw [List.length_cons] at h
        have h2 : s.length = cnt (r.map (·.1)) := by omega
        have := wnt_inB r s h2
        show q.1 :: wnt (r.map (·.1)) (s.map (·.1)) = q.1 :: (Go.Proofs.YtmldahejeobohaaDoorTake.inB r s).map (·.1)
        rw [this]
    · rw [if_neg h0] at h
      have h0' : ¬ p.1 = Go.Proofs.YtmldahejeobohaaDoorTake.oth := h0
      rw [if_neg h0, if_neg h0', List.map_cons, wnt_inB r s (by omega)]
/-- The others' bytes. -/
def obs (l : List T) : List UInt8 := ((bt l).filter fun p => decide (p.1 = -12)).map (·.2)
theorem bt_app (a b : List T) : bt (a ++ b) = bt a ++ bt b := List.flatMap_append
theorem obs_app (a b : List T) : obs (a ++ b) = obs a ++ obs b := by unfold obs; rw [bt_app, List.filter_append, List.map_append]
theorem obs_one (x : T) : obs [x] = if x.f0 = -12 then dat x.f1 else [] := by
  unfold obs bt
  rw [List.flatMap_cons, List.flatMap_nil, List.append_nil]
  by_cases h : x.f0 = -12
  · rw [if_pos h, List.filter_eq_self.2 (fun p hp => by obtain ⟨b, _, rfl⟩ := List.mem_map.1 hp; exact decide_eq_true h), List.map_map]
    exact List.map_id _
  · rw [if_neg h, List.filter_eq_nil_iff.2 (fun p hp => by obtain ⟨b, _, rfl⟩ := List.mem_map.1 hp; simpa using h)]
    rfl
theorem obs_le (l : List T) : (obs l).length ≤ nby l := by
  unfold obs
  rw [List.length_map]
  refine Nat.le_trans (List.length_filter_le _ _) ?_
  rw [← txt_length, ← bt_snd, List.length_map]
  exact Nat.le_refl _
theorem obs_cnt (l : List T) : (obs l).length = cnt ((bt l).map (·.1)) := by
  unfold obs cnt
  rw [List.length_map, List.filter_map, List.length_map]
  rfl
theorem types_l0 (l0 : List D) (l1 : List T) (out : List T) (hn : l1.length ≤ 400) (hb : nby l1 ≤ 4000) (r : Bool)
    (H : Evt (fun k => (laws_cut.f k l0 (strOfNums ((obs l1).map fun b => (b.toNat : Int)))).bind fun t221 => ((laws_each.f k t221).bind fun t224 => ((laws_each.f k l1).bind fun t227 => (laws_FnDelegateTypes.l1 k out true t224 ([] : List Int) t227 (t227.length : Int) 0)))) r) :
    ∀ (d i : Nat), l1.length = i + d → Evt (fun k => laws_FnDelegateTypes.l0 k l0 l1 out true ((obs (l1.take i)).map fun b => (b.toNat : Int)) l1 (l1.length : Int) (i : Int)) r := by
  intro d
  induction d with
  | zero =>
    intro i hi
    rw [List.take_of_length_le (by omega)]
    refine Evt.step (fun k => ?_) H
    simp only [laws_FnDelegateTypes.l0]
    rw [if_neg (by omega)]
  | succ d ih =>
    intro i hi
    have hlt : i < l1.length := by omega
    have h1 := ih (i + 1) (by omega)
    rw [List.take_succ_eq_append_getElem hlt, obs_app, obs_one] at h1
    have hle : (obs (l1.take i)).length + l1[i].f1.size ≤ 4000 := by
      have e : nby l1 = nby (l1.take (i + 1)) + nby (l1.drop (i + 1)) := by rw [← nby_append, List.take_append_drop]
      rw [List.take_succ_eq_append_getElem hlt, nby_append] at e
      have e2 : nby [l1[i]] = l1[i].f1.size := rfl
      have := obs_le (l1.take i)
      omega
    by_cases h : l1[i].f0 = -12
    · rw [if_pos h, List.map_append] at h1
      refine Evt.step (fun k => ?_) h1
      simp only [laws_FnDelegateTypes.l0]
      rw [if_pos (by omega), if_pos (by omega), if_pos (by omega), rdT _ _ hlt, if_pos h, if_pos (by rw [List.length_map]; omega), wrap_nat (by omega), bytesOf_dat]
    · rw [if_neg h, List.append_nil] at h1
      refine Evt.step (fun k => ?_) h1
      simp only [laws_FnDelegateTypes.l0]
      rw [if_pos (by omega), if_pos (by omega), if_pos (by omega), rdT _ _ hlt, if_neg h, wrap_nat (by omega)]
theorem types_l1 (out : List T) (E : List Int) (hn : E.length ≤ 100000) (W : List Int) (r : Bool)
    (H : Evt (fun k => (laws_each.f k out).bind fun t241 => ((laws_sameInts.f k t241 W).bind fun t244 => (if t244 = true then ((laws_waking.f k).bind fun t245 => (some t245)) else (some false)))) r) :
    ∀ (d i : Nat) (s acc : List Int), E.length = i + d → acc.length = i → cnt (E.drop i) ≤ s.length → s.length ≤ 100000 → acc ++ wnt (E.drop i) s = W →
      Evt (fun k => laws_FnDelegateTypes.l1 k out true s acc E (E.length : Int) (i : Int)) r := by
  intro d
  induction d with
  | zero =>
    intro i s acc hi ha hc hs hW
    rw [List.drop_eq_nil_of_le (by omega), wnt, List.append_nil] at hW
    subst hW
    refine Evt.step (fun k => ?_) H
    simp only [laws_FnDelegateTypes.l1]
    rw [if_neg (by omega), if_pos trivial]
  | succ d ih =>
    intro i s acc hi ha hc hs hW
    have hlt : i < E.length := by omega
    rw [List.drop_eq_getElem_cons hlt] at hc hW
    rw [cnt_cons] at hc
    rw [wnt] at hW
    by_cases h : E[i] = -12
    · rw [if_pos h] at hc hW
      cases s with
      | nil => simp at hc
      | cons q s =>
        rw [List.length_cons] at hc hs
        have h1 := ih (i + 1) s (acc ++ [q]) (by omega) (by rw [List.length_append, ha]; rfl) (by omega) (by omega) (by rw [List.append_assoc]; exact hW)
        refine Evt.step (fun k => ?_) h1
        simp only [laws_FnDelegateTypes.l1]
        have e0 : rd (q :: s) 0 = q := rfl
        have e1 : (q :: s).drop (1 : Int).toNat = s := rfl
        rw [if_pos (by omega), if_pos (by omega), if_pos (by omega), rdI _ _ hlt, if_pos h, if_pos (by rw [List.length_cons]; omega), if_pos (by omega), if_pos (by rw [List.length_cons]; omega), e0, e1, wrap_nat (by omega)]
    · rw [if_neg h] at hc hW
      have h1 := ih (i + 1) s (acc ++ [E[i]]) (by omega) (by rw [List.length_append, ha]; rfl) (by omega) (by omega) (by rw [List.append_assoc]; exact hW)
      refine Evt.step (fun k => ?_) h1
      simp only [laws_FnDelegateTypes.l1]
      rw [if_pos (by omega), if_pos (by omega), if_pos (by omega), rdI _ _ hlt, if_neg h, if_pos (by omega), wrap_nat (by omega)]
theorem FnDelegateTypes : laws_FnDelegateTypes.Pure := by
  intro l0 l1 _ _
  refine dguards l0 l1 _ (fun k => laws_FnDelegateTypes.j0 k l0 l1) (fun k => laws_FnDelegateTypes.j1 k l0 l1) (fun k => rfl) (fun k x => by simp only [laws_FnDelegateTypes.j0]) (fun k => by simp only [laws_FnDelegateTypes.j1]; rw [if_pos trivial]) ?_
  intro h1 h2 h3 h4 h5 h6
  refine Evt.step (fun k => by simp only [laws_FnDelegateTypes.j1]; rw [if_neg (by simp)]) ?_
  refine Evt.bind' (del_f l0 l1 h1 (fun x hx => (h2 x hx).2.2) h3 h5 h4) ?_
  have hd := dlg_len l0 l1 h1 (fun x hx => (h2 x hx).2.2) h3 h5
  have hn : nby (dlg l0 l1) = nby l1 := by rw [← txt_length, txt_dlg, txt_length]
  have hsl : (stm l0 l1).length = (obs l1).length := by rw [← List.length_map (f := fun p : Int × UInt8 => p.2), stm_snd]; rfl
  have hol := obs_le l1
  have hst : (⟨(obs l1).toArray⟩ : ByteArray) = strOfNums ((obs l1).map fun b => (b.toNat : Int)) := dat_inj (by rw [strOfNums_bytes, dat_B])
  have hbl : (bt l1).length = nby l1 := by rw [← txt_length, ← bt_snd, List.length_map]
  have e := types_l0 l0 l1 (dlg l0 l1) h3 h4 true ?_ l1.length 0 (by omega)
  · exact e
  · refine Evt.bind (cut l0 _ (by omega)) ?_
    have hbc : (bt (cutL l0 (strOfNums ((obs l1).map fun b => (b.toNat : Int))))) = stm l0 l1 := by
      rw [bt_cut, ← hst]; rfl
    refine Evt.bind (eachT _ ?_) ?_
    · have hcl := cut_len l0 (strOfNums ((obs l1).map fun b => (b.toNat : Int)))
      rw [← txt_length, ← bt_snd, List.length_map, hbc]
      omega
    rw [hbc]
    refine Evt.bind (eachT l1 (by omega)) ?_
    refine types_l1 (dlg l0 l1) ((bt l1).map (·.1)) (by rw [List.length_map]; omega) ((bt (dlg l0 l1)).map (·.1)) true ?_ ((bt l1).map (·.1)).length 0 ((stm l0 l1).map (·.1)) [] (by omega) rfl (by rw [List.drop_zero, List.length_map, hsl, obs_cnt]; exact Nat.le_refl _) (by rw [List.length_map]; omega) ?_
    · refine Evt.bind (eachT _ (by omega)) ?_
      have hbl2 : (bt (dlg l0 l1)).length = nby l1 := by rw [← hn, ← txt_length, ← bt_snd, List.length_map]
      refine Evt.bind (sameInts_refl _ (by rw [List.length_map]; omega)) ?_
      exact Evt.pos rfl (Evt.bind waking (Evt.pure _))
    · rw [List.drop_zero, List.nil_append, bt_dlg]
      exact wnt_inB _ _ (by rw [hsl, obs_cnt])
end Go.Proofs.YtmldahejeobohaaDoor.Pure
