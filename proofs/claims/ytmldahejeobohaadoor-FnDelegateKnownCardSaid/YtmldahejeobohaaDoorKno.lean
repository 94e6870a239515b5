/- laws.FnDelegateKnown, walked, with the plain law that it rests on. -/
import Derived.Test.YtmldahejeobohaaDoorKx2
import Derived.Test.YtmldahejeobohaaDoorKx3
import Derived.Test.YtmldahejeobohaaDoorKx5
import Derived.Test.YtmldahejeobohaaDoorEvt
set_option linter.unusedVariables false
set_option linter.unusedSimpArgs false
namespace Go.Proofs.YtmldahejeobohaaDoorTok
open Go.RowKit Go.Proofs.YtmldahejeobohaaDoorEvt Go.Proofs.YtmldahejeobohaaDoor.K Go.Proofs.YtmldahejeobohaaDoorW.PrintWords

abbrev T := S27
abbrev C := S65
theorem rdT (xs : List T) (i : Nat) (h : i < xs.length) : rd_T27 xs (i : Int) = xs[i] := by
  simp [rd_T27, List.getD_eq_getElem?_getD, h]
theorem rdC (xs : List C) (i : Nat) (h : i < xs.length) : rd_T65 xs (i : Int) = xs[i] := by
  simp [rd_T65, List.getD_eq_getElem?_getD, h]

/-! ### the guards -/
theorem fits_loop (xs : List T) (hn : xs.length ≤ 2147483647) : ∀ d i : Nat, xs.length = i + d →
    ∃ b, Evt (fun k => laws_zzFits4.l0 k xs (xs.length : Int) (i : Int)) b ∧ (b = true → ∀ x ∈ xs.drop i, x.f1.size ≤ 2147483647) := by
  intro d
  induction d with
  | zero =>
    intro i hi
    refine ⟨true, Evt.step (h := fun _ => some true) (fun k => ?_) (Evt.pure _), fun _ x hx => ?_⟩
    · simp only [laws_zzFits4.l0]; rw [if_neg (by omega)]
    · rw [List.drop_eq_nil_of_le (by omega)] at hx; exact absurd hx (by simp)
  | succ d ih =>
    intro i hi
    have hlt : i < xs.length := by omega
    by_cases hb : 2147483647 < (xs[i].f1.size : Int)
    · refine ⟨false, Evt.step (h := fun _ => some false) (fun k => ?_) (Evt.pure _), fun h => absurd h (by simp)⟩
      simp only [laws_zzFits4.l0]; rw [if_pos (by omega), if_pos (by omega), if_pos (by omega), rdT _ _ hlt, laws_zzFits5.f, if_pos hb]; rfl
    · obtain ⟨b, h1, h2⟩ := ih (i + 1) (by omega)
      refine ⟨b, Evt.step (fun k => ?_) h1, fun hbt x hx => ?_⟩
      · simp only [laws_zzFits4.l0]; rw [if_pos (by omega), if_pos (by omega), if_pos (by omega), rdT _ _ hlt, laws_zzFits5.f, if_neg hb, wrap_nat (by omega)]; rfl
      · rw [List.drop_eq_getElem_cons hlt] at hx
        rcases List.mem_cons.1 hx with rfl | hx
        · omega
        · exact h2 hbt x hx
theorem fits (xs : List T) : ∃ b, Evt (fun k => laws_zzFits4.f k xs) b ∧ (b = true → xs.length ≤ 2147483647 ∧ ∀ x ∈ xs, x.f1.size ≤ 2147483647) := by
  by_cases hb : (xs.length : Int) > 2147483647
  · exact ⟨false, Evt.of (fun k => by rw [laws_zzFits4.f, if_pos hb]), fun h => absurd h (by simp)⟩
  · obtain ⟨b, h1, h2⟩ := fits_loop xs (by omega) xs.length 0 (by omega)
    exact ⟨b, Evt.congr (fun k => by rw [laws_zzFits4.f, if_neg hb]; rfl) h1, fun h => ⟨by omega, fun x hx => h2 h x (by simpa using hx)⟩⟩

/-- How many nby tokens have together. -/
def nby : List T → Nat
  | [] => 0
  | x :: r => x.f1.size + nby r
theorem nby_append (a b : List T) : nby (a ++ b) = nby a + nby b := by
  induction a with
  | nil => simp [nby]
  | cons x r ih => simp [nby, ih, Nat.add_assoc]
theorem small_loop (xs0 xs : List T) (hn : xs.length ≤ 2147483647) (hs : ∀ x ∈ xs, x.f1.size ≤ 2147483647) : ∀ (d i acc : Nat), xs.length = i + d → acc ≤ 4000 →
    ∃ b, Evt (fun k => laws_small.l0 k xs0 (acc : Int) xs (xs.length : Int) (i : Int)) b ∧ (b = true → xs0.length ≤ 400 ∧ acc + nby (xs.drop i) ≤ 4000 ∧ ∀ x ∈ xs.drop i, x.f0 ≠ 0) := by
  intro d
  induction d with
  | zero =>
    intro i acc hi hacc
    refine ⟨decide ((xs0.length : Int) ≤ 400), Evt.step (h := fun _ => some _) (fun k => ?_) (Evt.pure _), fun h => ?_⟩
    · simp only [laws_small.l0]; rw [if_neg (by omega)]
    · rw [List.drop_eq_nil_of_le (by omega)]
      refine ⟨by have := of_decide_eq_true h; omega, by simpa [nby] using hacc, by simp⟩
  | succ d ih =>
    intro i acc hi hacc
    have hlt : i < xs.length := by omega
    have hsz := hs _ (List.getElem_mem hlt)
    by_cases h0 : xs[i].f0 = 0
    · refine ⟨false, Evt.step (h := fun _ => some false) (fun k => ?_) (Evt.pure _), fun h => absurd h (by simp)⟩
      simp only [laws_small.l0]; rw [if_pos (by omega), if_pos (by omega), if_pos (by omega), rdT _ _ hlt, if_pos h0]
    have hw : wrap64 ((acc : Int) + (xs[i].f1.size : Int)) = ((acc + xs[i].f1.size : Nat) : Int) := by rw [wrap_in (by omega) (by omega)]; omega
    by_cases hb : 4000 < acc + xs[i].f1.size
    · refine ⟨false, Evt.step (h := fun _ => some false) (fun k => ?_) (Evt.pure _), fun h => absurd h (by simp)⟩
      simp only [laws_small.l0]; rw [if_pos (by omega), if_pos (by omega), if_pos (by omega), rdT _ _ hlt, if_neg h0, hw, if_pos (by omega)]
    · obtain ⟨b, h1, h2⟩ := ih (i + 1) (acc + xs[i].f1.size) (by omega) (by omega)
      refine ⟨b, Evt.step (fun k => ?_) h1, fun hbt => ?_⟩
      · simp only [laws_small.l0]; rw [if_pos (by omega), if_pos (by omega), if_pos (by omega), rdT _ _ hlt, if_neg h0, hw, if_neg (by omega), wrap_nat (by omega)]
      · obtain ⟨g1, g2, g3⟩ := h2 hbt
        rw [List.drop_eq_getElem_cons hlt]
        refine ⟨g1, by simp only [nby]; omega, fun x hx => ?_⟩
        rcases List.mem_cons.1 hx with rfl | hx
        · exact h0
        · exact g3 x hx
theorem small (xs : List T) (hn : xs.length ≤ 2147483647) (hs : ∀ x ∈ xs, x.f1.size ≤ 2147483647) :
    ∃ b, Evt (fun k => laws_small.f k xs) b ∧ (b = true → xs.length ≤ 400 ∧ nby xs ≤ 4000 ∧ ∀ x ∈ xs, x.f0 ≠ 0) := by
  obtain ⟨b, h1, h2⟩ := small_loop xs xs hn hs xs.length 0 0 (by omega) (by omega)
  refine ⟨b, Evt.congr (fun k => rfl) h1, fun h => ?_⟩
  have := h2 h
  simp only [List.drop_zero, Nat.zero_add] at this
  exact this

/-! ### inner, outer -/
def toC (x : T) : C := ⟨x.f0, x.f1⟩
def toT (x : C) : T := ⟨x.f0, x.f1⟩
theorem toT_toC (x : T) : toT (toC x) = x := rfl
theorem toC_toT (x : C) : toC (toT x) = x := rfl
theorem inner_loop (xs : List T) (hn : xs.length ≤ 2147483647) : ∀ (d i : Nat) (acc : List C), xs.length = i + d → acc.length ≤ i →
    Evt (fun k => impl_inner.l0 k acc xs (xs.length : Int) (i : Int)) (acc ++ (xs.drop i).map toC) := by
  intro d
  induction d with
  | zero =>
    intro i acc hi hacc
    refine Evt.step (h := fun _ => some _) (fun k => ?_) (Evt.pure _)
    simp only [impl_inner.l0]; rw [if_neg (by omega), List.drop_eq_nil_of_le (by omega)]; simp
  | succ d ih =>
    intro i acc hi hacc
    have hlt : i < xs.length := by omega
    have h1 := ih (i + 1) (acc ++ [toC xs[i]]) (by omega) (by simp; omega)
    rw [List.drop_eq_getElem_cons hlt, List.map_cons, ← List.singleton_append, ← List.append_assoc]
    refine Evt.step (fun k => ?_) h1
    simp only [impl_inner.l0]; rw [if_pos (by omega), if_pos (by omega), if_pos (by omega), rdT _ _ hlt, if_pos (by omega), wrap_nat (by omega)]; rfl
theorem inner (xs : List T) (hn : xs.length ≤ 2147483647) : Evt (fun k => impl_inner.f k xs) (xs.map toC) := by
  have h := inner_loop xs hn xs.length 0 [] (by omega) (by simp)
  refine Evt.congr (h := fun k => impl_inner.l0 k [] xs (xs.length : Int) 0) (fun k => rfl) ?_
  simpa using h
theorem outer_loop (xs : List C) (hn : xs.length ≤ 2147483647) : ∀ (d i : Nat) (acc : List T), xs.length = i + d → acc.length ≤ i →
    Evt (fun k => impl_outer.l0 k acc xs (xs.length : Int) (i : Int)) (acc ++ (xs.drop i).map toT) := by
  intro d
  induction d with
  | zero =>
    intro i acc hi hacc
    refine Evt.step (h := fun _ => some _) (fun k => ?_) (Evt.pure _)
    simp only [impl_outer.l0]; rw [if_neg (by omega), List.drop_eq_nil_of_le (by omega)]; simp
  | succ d ih =>
    intro i acc hi hacc
    have hlt : i < xs.length := by omega
    have h1 := ih (i + 1) (acc ++ [toT xs[i]]) (by omega) (by simp; omega)
    rw [List.drop_eq_getElem_cons hlt, List.map_cons, ← List.singleton_append, ← List.append_assoc]
    refine Evt.step (fun k => ?_) h1
    simp only [impl_outer.l0]; rw [if_pos (by omega), if_pos (by omega), if_pos (by omega), rdC _ _ hlt, if_pos (by omega), wrap_nat (by omega)]; rfl
theorem outer (xs : List C) (hn : xs.length ≤ 2147483647) : Evt (fun k => impl_outer.f k xs) (xs.map toT) := by
  have h := outer_loop xs hn xs.length 0 [] (by omega) (by simp)
  refine Evt.congr (h := fun k => impl_outer.l0 k [] xs (xs.length : Int) 0) (fun k => rfl) ?_
  simpa using h

/-! ### the text of tokens -/
def txt (xs : List T) : List UInt8 := xs.flatMap fun x => dat x.f1
theorem txt_length (xs : List T) : (txt xs).length = nby xs := by
  induction xs with
  | nil => rfl
  | cons x r ih => simp only [txt, List.flatMap_cons, List.length_append, nby] at ih ⊢; rw [ih, size_dat]
theorem text_loop (xs : List T) (hn : xs.length ≤ 2147483647) (hb : nby xs ≤ 2147483647) : ∀ (d i : Nat), xs.length = i + d →
    Evt (fun k => laws_text.l0 k ((txt (xs.take i)).map fun b => (b.toNat : Int)) xs (xs.length : Int) (i : Int)) (B (txt xs)) := by
  intro d
  induction d with
  | zero =>
    intro i hi
    refine Evt.step (h := fun _ => some _) (fun k => ?_) (Evt.pure _)
    simp only [laws_text.l0]; rw [if_neg (by omega), List.take_of_length_le (by omega)]
    congr 1
    exact dat_inj (by rw [strOfNums_bytes, dat_B])
  | succ d ih =>
    intro i hi
    have hlt : i < xs.length := by omega
    have h1 := ih (i + 1) (by omega)
    have ht : txt (xs.take (i + 1)) = txt (xs.take i) ++ dat xs[i].f1 := by
      rw [List.take_succ_eq_append_getElem hlt]; simp only [txt, List.flatMap_append, List.flatMap_cons, List.flatMap_nil, List.append_nil]
    have hlen : (txt (xs.take i)).length + xs[i].f1.size ≤ 2147483647 := by
      have e : nby xs = nby (xs.take (i + 1)) + nby (xs.drop (i + 1)) := by rw [← nby_append, List.take_append_drop]
      have e2 : (txt (xs.take (i + 1))).length = (txt (xs.take i)).length + xs[i].f1.size := by rw [ht, List.length_append, size_dat]
      rw [txt_length] at e2
      omega
    rw [ht, List.map_append] at h1
    refine Evt.step (fun k => ?_) h1
    simp only [laws_text.l0]; rw [if_pos (by omega), if_pos (by omega), if_pos (by omega), rdT _ _ hlt, if_pos (by rw [List.length_map]; omega), wrap_nat (by omega), bytesOf_dat]
theorem text (xs : List T) (hn : xs.length ≤ 2147483647) (hb : nby xs ≤ 2147483647) : Evt (fun k => laws_text.f k xs) (B (txt xs)) := by
  have h := text_loop xs hn hb xs.length 0 (by omega)
  exact Evt.congr (fun k => rfl) h

/-! ### flat -/
theorem rdLT (xs : List (List T)) (i : Nat) (h : i < xs.length) : xs.getD (i : Int).toNat ([] : List T) = xs[i] := by
  simp [List.getD_eq_getElem?_getD, h]
theorem len_flat_take (xs : List (List T)) (i : Nat) (h : i < xs.length) : (xs.take i).flatten.length + xs[i].length ≤ xs.flatten.length := by
  have e : xs.flatten = (xs.take (i + 1)).flatten ++ (xs.drop (i + 1)).flatten := by rw [← List.flatten_append, List.take_append_drop]
  have e2 : (xs.take (i + 1)).flatten = (xs.take i).flatten ++ xs[i] := by
    rw [List.take_succ_eq_append_getElem h]; simp only [List.flatten_append, List.flatten_cons, List.flatten_nil, List.append_nil]
  rw [e, e2]; simp

/-! ### same -/
attribute [local instance] Classical.propDecidable
theorem same_loop (a b : List T) (hn : a.length ≤ 2147483647) (hl : a.length = b.length) : ∀ (d i : Nat), a.length = i + d →
    Evt (fun k => laws_same.l0 k a b (a.length : Int) (i : Int)) (decide (a.drop i = b.drop i)) := by
  intro d
  induction d with
  | zero =>
    intro i hi
    rw [List.drop_eq_nil_of_le (by omega), List.drop_eq_nil_of_le (by omega)]
    refine Evt.step (h := fun _ => some _) (fun k => ?_) (Evt.pure _)
    simp only [laws_same.l0]; rw [if_neg (by omega)]; rfl
  | succ d ih =>
    intro i hi
    have hlt : i < a.length := by omega
    have hlb : i < b.length := by omega
    have h1 := ih (i + 1) (by omega)
    rw [List.drop_eq_getElem_cons hlt, List.drop_eq_getElem_cons hlb]
    have hx : (!(a[i].f0 == b[i].f0) || (!(a[i].f1.toList == b[i].f1.toList))) = true ↔ a[i] ≠ b[i] := by
      have e : a[i] = b[i] ↔ a[i].f0 = b[i].f0 ∧ a[i].f1 = b[i].f1 := by
        constructor
        · intro h; rw [h]; exact ⟨rfl, rfl⟩
        · intro ⟨h1, h2⟩
          generalize a[i] = p at h1 h2 ⊢
          generalize b[i] = q at h1 h2 ⊢
          cases p; cases q; simp_all
      rw [toList_dat, toList_dat, Ne, e, dat_ext]
      simp only [Bool.or_eq_true, Bool.not_eq_true', beq_eq_false_iff_ne, ne_eq]
      exact Classical.not_and_iff_not_or_not.symm
    by_cases he : a[i] = b[i]
    · have : decide (a[i] :: a.drop (i + 1) = b[i] :: b.drop (i + 1)) = decide (a.drop (i + 1) = b.drop (i + 1)) := by rw [decide_eq_decide, List.cons.injEq]; exact ⟨fun h => h.2, fun h => ⟨he, h⟩⟩
      rw [this]
      refine Evt.step (fun k => ?_) h1
      simp only [laws_same.l0]; rw [if_pos (by omega), if_pos (by omega), if_pos (by omega), if_pos (by omega), rdT _ _ hlt, rdT _ _ hlb, if_neg (by rw [hx]; exact fun h => h he), wrap_nat (by omega)]
    · have : decide (a[i] :: a.drop (i + 1) = b[i] :: b.drop (i + 1)) = false := by rw [decide_eq_false_iff_not, List.cons.injEq]; exact fun h => he h.1
      rw [this]
      refine Evt.step (h := fun _ => some _) (fun k => ?_) (Evt.pure _)
      simp only [laws_same.l0]; rw [if_pos (by omega), if_pos (by omega), if_pos (by omega), if_pos (by omega), rdT _ _ hlt, rdT _ _ hlb, if_pos (by rw [hx]; exact he)]
theorem same (a b : List T) (hn : a.length ≤ 2147483647) : Evt (fun k => laws_same.f k a b) (decide (a = b)) := by
  by_cases hl : a.length = b.length
  · have h := same_loop a b hn hl a.length 0 (by omega)
    rw [List.drop_zero, List.drop_zero] at h
    refine Evt.congr (fun k => ?_) h
    simp only [laws_same.f]; rw [if_pos (by omega)]; rfl
  · have : decide (a = b) = false := by
      rw [decide_eq_false_iff_not]; intro h; exact hl (by rw [h])
    rw [this]
    refine Evt.of (fun k => ?_)
    simp only [laws_same.f]; rw [if_neg (by omega)]
end Go.Proofs.YtmldahejeobohaaDoorTok
set_option linter.unusedVariables false
set_option linter.unusedSimpArgs false
namespace Go.Proofs.YtmldahejeobohaaDoorSplit
open Go.RowKit Go.Proofs.YtmldahejeobohaaDoorEvt Go.Proofs.YtmldahejeobohaaDoor.K Go.Proofs.YtmldahejeobohaaDoorW.PrintWords Go.Proofs.YtmldahejeobohaaDoorTok

abbrev Tok := Int × List UInt8
def aC (x : C) : Tok := (x.f0, dat x.f1)
def mC (p : Tok) : C := ⟨p.1, B p.2⟩
def aT (x : T) : Tok := (x.f0, dat x.f1)
def mT (p : Tok) : T := ⟨p.1, B p.2⟩
theorem aC_mC (p : Tok) : aC (mC p) = p := by simp [aC, mC]
theorem mC_aC (x : C) : mC (aC x) = x := by simp only [aC, mC, B_dat]
theorem aT_mT (p : Tok) : aT (mT p) = p := by simp [aT, mT]
theorem mT_aT (x : T) : mT (aT x) = x := by simp only [aT, mT, B_dat]
theorem toC_mT (p : Tok) : toC (mT p) = mC p := rfl
theorem toT_mC (p : Tok) : toT (mC p) = mT p := rfl
theorem size_B (l : List UInt8) : (B l).size = l.length := by rw [size_dat, dat_B]

/-! ### the first line feed -/
def nlAt : List UInt8 → Nat → Int
  | [], _ => -1
  | b :: r, i => if b = 10 then (i : Int) else nlAt r (i + 1)
theorem nlAt_none {l : List UInt8} (h : 10 ∉ l) (i : Nat) : nlAt l i = -1 := by
  induction l generalizing i with
  | nil => rfl
  | cons b r ih =>
    rw [nlAt, if_neg (fun e => h (by simp [e]))]
    exact ih (fun hr => h (by simp [hr])) _
theorem nlAt_some {a b : List UInt8} (h : 10 ∉ a) (i : Nat) : nlAt (a ++ 10 :: b) i = ((i + a.length : Nat) : Int) := by
  induction a generalizing i with
  | nil => rw [List.nil_append, nlAt, if_pos rfl]; rfl
  | cons c r ih =>
    rw [List.cons_append, nlAt, if_neg (fun e => h (by simp [e])), ih (fun hr => h (by simp [hr]))]
    simp only [List.length_cons]; omega
theorem nl_cases (l : List UInt8) : 10 ∉ l ∨ ∃ a b, l = a ++ 10 :: b ∧ 10 ∉ a := by
  induction l with
  | nil => exact .inl (by simp)
  | cons c r ih =>
    by_cases hc : c = 10
    · exact .inr ⟨[], r, by simp [hc], by simp⟩
    · rcases ih with h | ⟨a, b, rfl, h⟩
      · exact .inl (by simp only [List.mem_cons, not_or]; exact ⟨fun e => hc e.symm, h⟩)
      · exact .inr ⟨c :: a, b, rfl, by simp only [List.mem_cons, not_or]; exact ⟨fun e => hc e.symm, h⟩⟩
theorem index_loop (l : List UInt8) (hv : l.length ≤ 2147483647) : ∀ (d i : Nat), l.length = i + d →
    Evt (fun k => chroma_zzIndex.l0 k (B l) (⟨#[10]⟩ : ByteArray) (i : Int)) (nlAt (l.drop i) i) := by
  intro d
  induction d with
  | zero =>
    intro i hi
    rw [List.drop_eq_nil_of_le (by omega)]
    refine Evt.step (h := fun _ => some _) (fun k => ?_) (Evt.pure _)
    simp only [chroma_zzIndex.l0]
    rw [show ((⟨#[10]⟩ : ByteArray).size : Int) = 1 from rfl, wrap_nat (by omega), size_B, if_neg (by omega)]; rfl
  | succ d ih =>
    intro i hi
    have hlt : i < l.length := by omega
    have h1 := ih (i + 1) (by omega)
    have hx : (((B l).extract ((i : Int)).toNat (((i + 1 : Nat) : Int)).toNat).toList = (⟨#[10]⟩ : ByteArray).toList) ↔ l[i] = 10 := by
      rw [toList_dat, toList_dat, dat_extract, dat_B, Int.toNat_natCast, Int.toNat_natCast, show i + 1 - i = 1 by omega, List.drop_eq_getElem_cons hlt, List.take_succ_cons, List.take_zero]
      show [l[i]] = [10] ↔ l[i] = 10
      rw [List.cons.injEq]; exact ⟨fun h => h.1, fun h => ⟨h, rfl⟩⟩
    rw [List.drop_eq_getElem_cons hlt, nlAt]
    by_cases hc : l[i] = 10
    · rw [if_pos hc]
      refine Evt.step (h := fun _ => some _) (fun k => ?_) (Evt.pure _)
      simp only [chroma_zzIndex.l0]
      rw [show ((⟨#[10]⟩ : ByteArray).size : Int) = 1 from rfl, wrap_nat (by omega), size_B, if_pos (by omega), if_pos (by omega), if_pos (by omega), if_pos (hx.2 hc)]
    · rw [if_neg hc]
      refine Evt.step (fun k => ?_) h1
      simp only [chroma_zzIndex.l0]
      rw [show ((⟨#[10]⟩ : ByteArray).size : Int) = 1 from rfl, wrap_nat (by omega), size_B, if_pos (by omega), if_pos (by omega), if_pos (by omega), if_neg (fun h => hc (hx.1 h))]
theorem index (l : List UInt8) (hv : l.length ≤ 2147483647) : Evt (fun k => chroma_zzIndex.f k (B l) (⟨#[10]⟩ : ByteArray)) (nlAt l 0) :=
  Evt.congr (fun k => rfl) (index_loop l hv l.length 0 (by omega))
theorem contains_no {l : List UInt8} (hv : l.length ≤ 2147483647) (h : 10 ∉ l) : Evt (fun k => chroma_zzContains.f k (B l) (⟨#[10]⟩ : ByteArray)) false := by
  have h1 := index l hv
  rw [nlAt_none h] at h1
  exact Evt.bind (g := fun _ t => some (decide (t ≥ 0))) h1 (Evt.of fun _ => rfl)
theorem contains_yes {a b : List UInt8} (hv : (a ++ 10 :: b).length ≤ 2147483647) (h : 10 ∉ a) : Evt (fun k => chroma_zzContains.f k (B (a ++ 10 :: b)) (⟨#[10]⟩ : ByteArray)) true := by
  have h1 := index _ hv
  rw [nlAt_some h] at h1
  exact Evt.bind (g := fun _ t => some (decide (t ≥ 0))) h1 (Evt.of fun _ => by
    show some (decide (((0 + a.length : Nat) : Int) ≥ 0)) = some true
    rw [decide_eq_true (by omega)])
theorem split_at {a b : List UInt8} (hv : (a ++ 10 :: b).length ≤ 2147483647) (h : 10 ∉ a) :
    Evt (fun k => chroma_zzSplitAfter.f k (B (a ++ 10 :: b)) (⟨#[10]⟩ : ByteArray)) [B (a ++ [10]), B b] := by
  have h1 := index _ hv
  rw [nlAt_some h] at h1
  have hl : (a ++ 10 :: b).length = a.length + 1 + b.length := by simp; omega
  refine Evt.bind (g := fun _ t => _) h1 (Evt.of fun _ => ?_)
  rw [show ((⟨#[10]⟩ : ByteArray).size : Int) = 1 from rfl, Nat.zero_add, wrap_nat (by omega), if_pos (by omega), size_B, if_pos (by omega), Int.toNat_natCast]
  have e1 : (B (a ++ 10 :: b)).extract 0 (a.length + 1) = B (a ++ [10]) := dat_inj (by
    rw [dat_take, dat_B, dat_B, List.take_append, List.take_of_length_le (by omega), show a.length + 1 - a.length = 1 by omega]; rfl)
  have e2 : (B (a ++ 10 :: b)).extract (a.length + 1) (a ++ 10 :: b).length = B b := dat_inj (by
    rw [show (a ++ 10 :: b).length = (B (a ++ 10 :: b)).size from (size_B _).symm, dat_drop, dat_B, dat_B, List.drop_append, List.drop_eq_nil_of_le (by omega), show a.length + 1 - a.length = 1 by omega]; rfl)
  rw [e1, e2]

/-! ### pieces -/
def cutA : List UInt8 → List UInt8 → List (List UInt8)
  | acc, [] => [acc]
  | acc, b :: r => if b = 10 then (acc ++ [10]) :: (if r = [] then [] else cutA [] r) else cutA (acc ++ [b]) r
theorem cutA_no {l : List UInt8} (h : 10 ∉ l) (acc : List UInt8) : cutA acc l = [acc ++ l] := by
  induction l generalizing acc with
  | nil => simp [cutA]
  | cons b r ih =>
    rw [cutA, if_neg (fun e => h (by simp [e])), ih (fun hr => h (by simp [hr]))]
    simp
theorem cutA_yes {a b : List UInt8} (h : 10 ∉ a) (acc : List UInt8) : cutA acc (a ++ 10 :: b) = (acc ++ a ++ [10]) :: (if b = [] then [] else cutA [] b) := by
  induction a generalizing acc with
  | nil => simp [cutA]
  | cons c r ih =>
    rw [List.cons_append, cutA, if_neg (fun e => h (by simp [e])), ih (fun hr => h (by simp [hr]))]
    simp
def pcs (x : Tok) : List Tok := (cutA [] x.2).map fun p => (x.1, p)
theorem pcs_no {x : Tok} (h : 10 ∉ x.2) : pcs x = [x] := by simp [pcs, cutA_no h]
theorem pcs_yes {t : Int} {a b : List UInt8} (h : 10 ∉ a) : pcs (t, a ++ 10 :: b) = (t, a ++ [10]) :: (if b = [] then [] else pcs (t, b)) := by
  simp only [pcs]
  rw [cutA_yes h]
  by_cases hb : b = [] <;> simp [hb]
/-- A piece has no line feed, or one at its end. -/
def Piece (p : Tok) : Prop := 10 ∉ p.2 ∨ ∃ a, p.2 = a ++ [10] ∧ 10 ∉ a
theorem pcs_of_piece {p : Tok} (h : Piece p) : pcs p = [p] := by
  rcases h with h | ⟨a, e, h⟩
  · exact pcs_no h
  · obtain ⟨t, l⟩ := p
    simp only at e
    subst e
    rw [show a ++ [10] = a ++ 10 :: [] from rfl, pcs_yes h]; simp
theorem pcs_ind (n : Nat) : ∀ x : Tok, x.2.length ≤ n → (∀ p ∈ pcs x, Piece p ∧ p.1 = x.1) ∧ (pcs x).flatMap (fun p => p.2) = x.2 ∧ (pcs x).flatMap (fun p => List.replicate p.2.length p.1) = List.replicate x.2.length x.1 ∧ (pcs x).length ≤ x.2.length + 1 := by
  induction n with
  | zero =>
    intro ⟨t, l⟩ hl
    have : l = [] := List.eq_nil_of_length_eq_zero (by simpa using hl)
    subst this
    rw [pcs_no (by simp)]
    refine ⟨fun p hp => ?_, by simp, by simp, by simp⟩
    simp only [List.mem_singleton] at hp
    subst hp
    exact ⟨.inl (by simp), rfl⟩
  | succ n ih =>
    intro ⟨t, l⟩ hl
    rcases nl_cases l with h | ⟨a, b, rfl, h⟩
    · rw [pcs_no h]
      refine ⟨fun p hp => ?_, by simp, by simp, by simp⟩
      simp only [List.mem_singleton] at hp
      subst hp
      exact ⟨.inl h, rfl⟩
    · rw [pcs_yes h]
      by_cases hb : b = []
      · subst hb
        rw [if_pos rfl]
        refine ⟨fun p hp => ?_, by simp, by simp, by simp⟩
        simp only [List.mem_singleton] at hp
        subst hp
        exact ⟨.inr ⟨a, rfl, h⟩, rfl⟩
      · rw [if_neg hb]
        simp only [List.length_append, List.length_cons] at hl
        obtain ⟨h1, h2, h3, h4⟩ := ih (t, b) (by simp only; omega)
        refine ⟨fun p hp => ?_, ?_, ?_, ?_⟩
        · rcases List.mem_cons.1 hp with rfl | hp
          · exact ⟨.inr ⟨a, rfl, h⟩, rfl⟩
          · exact h1 p hp
        · rw [List.flatMap_cons, h2]; simp
        · rw [List.flatMap_cons, h3, List.replicate_append_replicate]
          congr 1; simp; omega
        · simp only [List.length_append, List.length_cons] at h4 ⊢; omega
theorem pcs_piece (x : Tok) : ∀ p ∈ pcs x, Piece p := fun p hp => ((pcs_ind _ x (Nat.le_refl _)).1 p hp).1
theorem pcs_text (x : Tok) : (pcs x).flatMap (fun p => p.2) = x.2 := (pcs_ind _ x (Nat.le_refl _)).2.1
theorem pcs_each (x : Tok) : (pcs x).flatMap (fun p => List.replicate p.2.length p.1) = List.replicate x.2.length x.1 := (pcs_ind _ x (Nat.le_refl _)).2.2.1
theorem pcs_len (x : Tok) : (pcs x).length ≤ x.2.length + 1 := (pcs_ind _ x (Nat.le_refl _)).2.2.2

/-! ### lines -/
def grp : List (List Tok) → List Tok → List Tok → List (List Tok)
  | out, line, [] => if line = [] then out else out ++ [line]
  | out, line, p :: ps => if 10 ∈ p.2 then grp (out ++ [line ++ [p]]) [] ps else grp out (line ++ [p]) ps
/-- The last line, if it is one empty token alone, goes. -/
def fin (out : List (List Tok)) : List (List Tok) := match out.getLast? with
  | some [x] => if x.2 = [] then out.dropLast else out
  | _ => out
def lines (l : List Tok) : List (List Tok) := fin (grp [] [] (l.flatMap pcs))
def wgt : List Tok → Nat
  | [] => 0
  | x :: r => x.2.length + 1 + wgt r
def mm (o : List (List Tok)) : List (List C) := o.map fun l => l.map mC
theorem rdLC (xs : List (List C)) (i : Nat) (h : i < xs.length) : xs.getD (i : Int).toNat ([] : List C) = xs[i] := by
  simp [List.getD_eq_getElem?_getD, h]
theorem fin_nil (init : List (List Tok)) : fin (init ++ [[]]) = init ++ [[]] := by
  unfold fin
  rw [List.getLast?_append]; rfl
theorem fin_one (init : List (List Tok)) (x : Tok) : fin (init ++ [[x]]) = if x.2 = [] then init else init ++ [[x]] := by
  unfold fin
  rw [List.getLast?_append, List.dropLast_concat]; rfl
theorem fin_two (init : List (List Tok)) (x y : Tok) (r : List Tok) : fin (init ++ [x :: y :: r]) = init ++ [x :: y :: r] := by
  unfold fin
  rw [List.getLast?_append]; rfl
theorem j2 (out : List (List Tok)) (hn : out.length ≤ 2147483647) : Evt (fun k => chroma_SplitTokensIntoLines.j2 k (mm out)) (mm (fin out)) := by
  rcases List.eq_nil_or_concat out with rfl | ⟨init, last, rfl⟩
  · exact Evt.step (h := fun _ => some _) (fun k => by simp only [chroma_SplitTokensIntoLines.j2]; rw [if_neg (by simp [mm])]; rfl) (Evt.pure _)
  · rw [List.concat_eq_append] at hn ⊢
    have hlen : (mm (init ++ [last])).length = init.length + 1 := by simp [mm]
    have hw : wrap64 (((mm (init ++ [last])).length : Int) - 1) = (init.length : Int) := by
      simp only [List.length_append, List.length_cons, List.length_nil] at hn
      rw [hlen, wrap_in (by omega) (by omega)]; omega
    have hlast : rd_L6 (mm (init ++ [last])) (init.length : Int) = last.map mC := by
      show (mm (init ++ [last])).getD (init.length : Int).toNat [] = _
      rw [rdLC _ _ (by omega)]
      simp [mm]
    refine Evt.step (h := fun _ => some _) (fun k => ?_) (Evt.pure _)
    simp only [chroma_SplitTokensIntoLines.j2]
    rw [if_pos (by omega), hw, if_pos (by omega), if_pos (by omega), hlast]
    match last with
    | [] => rw [if_neg (by simp), fin_nil]
    | [x] =>
      rw [if_pos (by simp), if_pos (by simp), fin_one]
      have hx : ((rd_T65 ([x].map mC) 0).f1).toList = x.2 := by
        have e := rdC ([x].map mC) 0 (by simp)
        rw [show ((0 : Nat) : Int) = 0 from rfl] at e
        rw [e, toList_dat]; simp [mC]
      rw [hx]
      by_cases h0 : x.2 = []
      · rw [if_pos h0, if_pos (by omega), if_pos h0]
        congr 1
        simp [mm, List.take_append]
      · rw [if_neg h0, if_neg h0]
    | x :: y :: r => rw [if_neg (by simp; omega), fin_two]
theorem l1 (xs : List C) (i : Nat) (t : Int) (P' : List Tok) (W M : Nat) (hM : M ≤ 1000000)
    (h0 : ∀ out line, out.length + line.length + W ≤ M → Evt (fun k => chroma_SplitTokensIntoLines.l0 k (mm out) (line.map mC) xs (xs.length : Int) (wrap64 ((i : Int) + 1))) (mm (fin (grp out line P')))) :
    ∀ (m : Nat) (out : List (List Tok)) (line : List Tok) (v : List UInt8), v.length ≤ m → out.length + line.length + (v.length + 1) + W ≤ M →
      Evt (fun k => chroma_SplitTokensIntoLines.l1 k (mm out) (line.map mC) xs (xs.length : Int) (i : Int) t (B v)) (mm (fin (grp out line (pcs (t, v) ++ P')))) := by
  intro m
  induction m with
  | zero =>
    intro out line v hv hb
    have : v = [] := List.eq_nil_of_length_eq_zero (by omega)
    subst this
    rw [pcs_no (by simp), List.singleton_append, grp, if_neg (by simp)]
    refine Evt.step (fun k => by simp only [chroma_SplitTokensIntoLines.l1]; rfl) ?_
    refine Evt.bind (contains_no (l := []) (by simp) (by simp)) ?_
    refine Evt.neg (by simp) ?_
    refine Evt.pos (by simp only [List.length_map]; omega) ?_
    have h1 := h0 out (line ++ [(t, [])]) (by simp only [List.length_append, List.length_cons, List.length_nil] at hb ⊢; omega)
    rw [List.map_append] at h1
    exact h1
  | succ m ih =>
    intro out line v hv hb
    refine Evt.step (fun k => by simp only [chroma_SplitTokensIntoLines.l1]; rfl) ?_
    rcases nl_cases v with h | ⟨a, b, rfl, h⟩
    · rw [pcs_no h, List.singleton_append, grp, if_neg h]
      refine Evt.bind (contains_no (by omega) h) ?_
      refine Evt.neg (by simp) ?_
      refine Evt.pos (by simp only [List.length_map]; omega) ?_
      have h1 := h0 out (line ++ [(t, v)]) (by simp only [List.length_append, List.length_cons, List.length_nil] at hb ⊢; omega)
      rw [List.map_append] at h1
      exact h1
    · rw [pcs_yes h]
      refine Evt.bind (contains_yes (by omega) h) ?_
      refine Evt.pos rfl ?_
      refine Evt.bind (split_at (by omega) h) ?_
      refine Evt.pos (by simp) ?_
      refine Evt.bind' (a := (t, B b)) rfl ?_
      refine Evt.pos (by simp) ?_
      refine Evt.pos (by simp only [List.length_map]; omega) ?_
      refine Evt.pos (by simp only [mm, List.length_map]; omega) ?_
      refine Evt.bind' (a := mm (out ++ [line ++ [(t, a ++ [10])]])) (by simp [mm, mC, rdOf]) ?_
      have hr1 : (rdOf ByteArray.empty [B (a ++ [10]), B b] 1) = B b := rfl
      rw [hr1]
      simp only [List.length_append, List.length_cons] at hb hv
      rw [List.cons_append, grp, if_pos (by simp)]
      by_cases hbn : b = []
      · subst hbn
        refine Evt.pos (by rw [size_B]; rfl) ?_
        rw [if_pos rfl, List.nil_append]
        exact h0 _ [] (by simp only [List.length_append, List.length_cons, List.length_nil]; omega)
      · refine Evt.neg (by rw [size_B]; have := List.length_pos_iff.2 hbn; omega) ?_
        rw [if_neg hbn]
        exact ih _ [] b (by omega) (by simp only [List.length_append, List.length_cons, List.length_nil]; omega)
theorem l0 (xs : List Tok) (M : Nat) (hM : M ≤ 1000000) (hn : xs.length ≤ 1000000) : ∀ (d i : Nat) (out : List (List Tok)) (line : List Tok), xs.length = i + d → out.length + line.length + wgt (xs.drop i) ≤ M →
    Evt (fun k => chroma_SplitTokensIntoLines.l0 k (mm out) (line.map mC) (xs.map mC) ((xs.map mC).length : Int) (i : Int)) (mm (fin (grp out line ((xs.drop i).flatMap pcs)))) := by
  intro d
  induction d with
  | zero =>
    intro i out line hi hb
    have hl : (xs.map mC).length = xs.length := List.length_map _
    rw [List.drop_eq_nil_of_le (by omega), List.flatMap_nil, grp]
    refine Evt.step (fun k => by simp only [chroma_SplitTokensIntoLines.l0]; rw [if_neg (by omega)]) ?_
    by_cases h : line = []
    · subst h
      rw [if_pos rfl]
      refine Evt.neg (by simp) ?_
      exact j2 out (by omega)
    · rw [if_neg h]
      have hp := List.length_pos_iff.2 h
      refine Evt.pos (by simp only [List.length_map]; omega) ?_
      refine Evt.pos (by simp only [mm, List.length_map]; omega) ?_
      have h1 := j2 (out ++ [line]) (by simp only [List.length_append, List.length_cons, List.length_nil]; omega)
      have e : mm (out ++ [line]) = mm out ++ [line.map mC] := by simp [mm]
      rw [e] at h1
      exact h1
  | succ d ih =>
    intro i out line hi hb
    have hl : (xs.map mC).length = xs.length := List.length_map _
    have hlt : i < xs.length := by omega
    rw [List.drop_eq_getElem_cons hlt] at hb
    have hd : (xs.drop i).flatMap pcs = pcs (xs[i].1, xs[i].2) ++ (xs.drop (i + 1)).flatMap pcs := by rw [List.drop_eq_getElem_cons hlt, List.flatMap_cons]
    rw [hd]
    simp only [wgt] at hb
    have hrd : rd_T65 (xs.map mC) (i : Int) = mC xs[i] := by rw [rdC _ _ (by omega)]; simp
    refine Evt.step (fun k => by simp only [chroma_SplitTokensIntoLines.l0]; rw [if_pos (by omega), if_pos (by omega), if_pos (by omega), hrd]) ?_
    refine l1 (xs.map mC) i xs[i].1 _ (wgt (xs.drop (i + 1))) M hM (fun o l hol => ?_) xs[i].2.length out line xs[i].2 (Nat.le_refl _) (by omega)
    rw [wrap_nat (by omega)]
    exact ih (i + 1) o l (by omega) hol
theorem wgt_eq (xs : List Tok) : wgt xs = (xs.flatMap fun x => x.2).length + xs.length := by
  induction xs with
  | nil => rfl
  | cons x r ih => simp only [wgt, ih, List.flatMap_cons, List.length_append, List.length_cons]; omega
theorem tokens (xs : List Tok) (hw : wgt xs ≤ 1000000) : Evt (fun k => chroma_SplitTokensIntoLines.f k (xs.map mC)) (mm (lines xs)) := by
  have hl := wgt_eq xs
  have h := l0 xs 1000000 (Nat.le_refl _) (by omega) xs.length 0 [] [] (by omega) (by simpa using hw)
  exact Evt.congr (fun k => rfl) h

/-! ### what lines are -/
def Opened (line : List Tok) : Prop := ∀ q ∈ line, 10 ∉ q.2
def Closed (line : List Tok) : Prop := ∃ init p a, line = init ++ [p] ∧ Opened init ∧ p.2 = a ++ [10] ∧ 10 ∉ a
theorem grp_flat (ps : List Tok) : ∀ out line, (grp out line ps).flatten = out.flatten ++ line ++ ps := by
  induction ps with
  | nil =>
    intro out line
    rw [grp]
    split <;> simp_all
  | cons p ps ih =>
    intro out line
    rw [grp]
    split
    · rw [ih]; simp
    · rw [ih]; simp
/-- Closed lines, and perhaps one that is not. -/
def Shape (g : List (List Tok)) (n : Nat) : Prop := ∃ cl tl, g = cl ++ tl ∧ (∀ c ∈ cl, Closed c) ∧ cl.length = n ∧ (tl = [] ∨ ∃ o, tl = [o] ∧ o ≠ [] ∧ Opened o)
def nls (ps : List Tok) : Nat := (ps.flatMap fun p => p.2).count 10
theorem grp_shape (ps : List Tok) : ∀ out line, (∀ c ∈ out, Closed c) → Opened line → (∀ p ∈ ps, Piece p) → Shape (grp out line ps) (out.length + nls ps) := by
  induction ps with
  | nil =>
    intro out line ho hl hp
    rw [grp]
    split
    · exact ⟨out, [], by simp, ho, by simp [nls], .inl rfl⟩
    · rename_i h
      exact ⟨out, [line], rfl, ho, by simp [nls], .inr ⟨line, rfl, h, hl⟩⟩
  | cons p ps ih =>
    intro out line ho hl hp
    have hps : ∀ q ∈ ps, Piece q := fun q hq => hp q (by simp [hq])
    have hn : nls (p :: ps) = p.2.count 10 + nls ps := by simp [nls, List.count_append]
    rw [grp]
    split
    · rename_i hm
      rcases hp p (by simp) with h | ⟨a, e, h⟩
      · exact absurd hm h
      · have := ih (out ++ [line ++ [p]]) [] (fun c hc => by
          rcases List.mem_append.1 hc with hc | hc
          · exact ho c hc
          · simp only [List.mem_singleton] at hc
            subst hc
            exact ⟨line, p, a, rfl, hl, e, h⟩) (fun q hq => absurd hq (by simp)) hps
        have hc : p.2.count 10 = 1 := by rw [e, List.count_append, List.count_eq_zero.2 h]; simp
        rw [hn, hc]
        simpa [Nat.add_assoc] using this
    · rename_i hm
      have := ih out (line ++ [p]) ho (fun q hq => by
        rcases List.mem_append.1 hq with hq | hq
        · exact hl q hq
        · simp only [List.mem_singleton] at hq
          subst hq; exact hm) hps
      rw [hn, List.count_eq_zero.2 hm, Nat.zero_add]
      exact this
theorem grp_open (line2 : List Tok) : ∀ (out : List (List Tok)) (line rest : List Tok), Opened line2 → grp out line (line2 ++ rest) = grp out (line ++ line2) rest := by
  induction line2 with
  | nil => intro out line rest _; simp
  | cons p ps ih =>
    intro out line rest h
    rw [List.cons_append, grp, if_neg (h p (by simp)), ih _ _ _ (fun q hq => h q (by simp [hq]))]
    simp
theorem grp_closed {c : List Tok} (hc : Closed c) (out : List (List Tok)) (rest : List Tok) : grp out [] (c ++ rest) = grp (out ++ [c]) [] rest := by
  obtain ⟨init, p, a, rfl, hi, e, h⟩ := hc
  rw [List.append_assoc, grp_open _ _ _ _ hi, List.nil_append, List.singleton_append, grp, if_pos (by rw [e]; simp)]
theorem grp_again {g : List (List Tok)} {n : Nat} (hg : Shape g n) : grp [] [] g.flatten = g := by
  obtain ⟨cl, tl, rfl, hcl, _, htl⟩ := hg
  have key : ∀ (cl out : List (List Tok)), (∀ c ∈ cl, Closed c) → grp out [] (cl ++ tl).flatten = out ++ cl ++ tl := by
    intro cl
    induction cl with
    | nil =>
      intro out _
      rcases htl with rfl | ⟨o, rfl, hne, ho⟩
      · simp [grp]
      · have := grp_open o out [] [] ho
        rw [List.append_nil, List.nil_append] at this
        simp only [List.nil_append, List.flatten_cons, List.flatten_nil, List.append_nil, this]
        rw [grp, if_neg hne]
    | cons c cs ih =>
      intro out h
      rw [List.cons_append, List.flatten_cons, grp_closed (h c (by simp)), ih _ (fun x hx => h x (by simp [hx]))]
      simp
  simpa using key cl [] hcl
theorem fin_cases (out : List (List Tok)) : (fin out = out) ∨ ∃ t, out = fin out ++ [[(t, [])]] := by
  rcases List.eq_nil_or_concat out with rfl | ⟨init, last, rfl⟩
  · exact .inl rfl
  · rw [List.concat_eq_append]
    match last with
    | [] => exact .inl (fin_nil _)
    | [(t, v)] =>
      rw [fin_one]
      by_cases h : v = []
      · subst h; exact .inr ⟨t, by simp⟩
      · exact .inl (by simp [h])
    | x :: y :: r => exact .inl (fin_two _ _ _ _)
theorem closed_ne {c : List Tok} (hc : Closed c) (t : Int) : c ≠ [(t, [])] := by
  obtain ⟨init, p, a, rfl, hi, e, h⟩ := hc
  intro he
  rcases List.eq_nil_or_concat init with rfl | ⟨i2, l2, rfl⟩
  · simp only [List.nil_append, List.cons.injEq, and_true] at he
    rw [he] at e
    simp at e
  · rw [List.concat_eq_append] at he
    have := congrArg List.length he
    simp at this
theorem fin_shape {g : List (List Tok)} {n : Nat} (hg : Shape g n) : Shape (fin g) n ∧ fin (fin g) = fin g := by
  rcases fin_cases g with h | ⟨t, h⟩
  · rw [h]; exact ⟨hg, h⟩
  · obtain ⟨cl, tl, e, hcl, hn, htl⟩ := hg
    have hcl2 : fin g = cl := by
      rcases htl with rfl | ⟨o, rfl, hne, ho⟩
      · rw [List.append_nil] at e
        exfalso
        have : [(t, [])] ∈ cl := by rw [← e, h]; simp
        exact closed_ne (hcl _ this) t rfl
      · exact (List.append_inj' (h.symm.trans e) (by simp)).1
    rw [hcl2]
    refine ⟨⟨cl, [], by simp, hcl, hn, .inl rfl⟩, ?_⟩
    rcases fin_cases cl with h2 | ⟨t2, h2⟩
    · exact h2
    · exfalso
      have : [(t2, [])] ∈ cl := by rw [h2]; simp
      exact closed_ne (hcl _ this) t2 rfl
theorem lines_shape (l : List Tok) : Shape (lines l) (nls l) ∧ fin (lines l) = lines l := by
  have hp : ∀ p ∈ l.flatMap pcs, Piece p := fun p hp => by
    obtain ⟨x, _, hx⟩ := List.mem_flatMap.1 hp
    exact pcs_piece x p hx
  have h := grp_shape (l.flatMap pcs) [] [] (fun c hc => absurd hc (by simp)) (fun q hq => absurd hq (by simp)) hp
  have hn : nls (l.flatMap pcs) = nls l := by
    unfold nls
    congr 1
    rw [List.flatMap_assoc]
    congr 1
    funext x
    exact pcs_text x
  rw [hn] at h
  have := fin_shape h
  simp only [List.length_nil, Nat.zero_add] at this
  exact this
theorem lines_pieces (l : List Tok) : ∀ p ∈ (lines l).flatten, Piece p := by
  intro p hp
  have hsub : ∀ q, q ∈ (lines l).flatten → q ∈ l.flatMap pcs := by
    intro q hq
    have e := grp_flat (l.flatMap pcs) [] []
    simp only [List.flatten_nil, List.nil_append] at e
    rw [← e]
    rcases fin_cases (grp [] [] (l.flatMap pcs)) with h | ⟨t, h⟩
    · rw [show lines l = _ from h] at hq; exact hq
    · rw [h, List.flatten_append]
      exact List.mem_append.2 (.inl hq)
  obtain ⟨x, _, hx⟩ := List.mem_flatMap.1 (hsub p hp)
  exact pcs_piece x p hx
theorem flatMap_pieces {ps : List Tok} (h : ∀ p ∈ ps, Piece p) : ps.flatMap pcs = ps := by
  induction ps with
  | nil => rfl
  | cons p r ih => rw [List.flatMap_cons, pcs_of_piece (h p (by simp)), ih (fun q hq => h q (by simp [hq]))]; rfl
theorem lines_again (l : List Tok) : lines (lines l).flatten = lines l := by
  obtain ⟨hs, hf⟩ := lines_shape l
  show fin (grp [] [] ((lines l).flatten.flatMap pcs)) = lines l
  rw [flatMap_pieces (lines_pieces l), grp_again hs, hf]
/-- Nothing that is made of texts, an empty one counting nothing, is lost. -/
theorem lines_flat {β : Type} (f : Tok → List β) (hf : ∀ t, f (t, []) = []) (hp : ∀ x, (pcs x).flatMap f = f x) (l : List Tok) : (lines l).flatten.flatMap f = l.flatMap f := by
  have e := grp_flat (l.flatMap pcs) [] []
  simp only [List.flatten_nil, List.nil_append] at e
  have e2 : (l.flatMap pcs).flatMap f = l.flatMap f := by
    rw [List.flatMap_assoc]
    congr 1
    funext x
    exact hp x
  rw [← e2, ← e]
  rcases fin_cases (grp [] [] (l.flatMap pcs)) with h | ⟨t, h⟩
  · rw [show lines l = _ from h]
  · have h' : grp [] [] (l.flatMap pcs) = lines l ++ [[(t, [])]] := h
    rw [h', List.flatten_append, List.flatMap_append]
    simp [hf]
theorem lines_text (l : List Tok) : (lines l).flatten.flatMap (fun p => p.2) = l.flatMap (fun p => p.2) := lines_flat _ (fun _ => rfl) pcs_text l
theorem lines_each (l : List Tok) : (lines l).flatten.flatMap (fun p => List.replicate p.2.length p.1) = l.flatMap (fun p => List.replicate p.2.length p.1) := lines_flat _ (fun _ => rfl) pcs_each l
theorem lines_len (l : List Tok) : (lines l).flatten.length ≤ wgt l := by
  have e := grp_flat (l.flatMap pcs) [] []
  simp only [List.flatten_nil, List.nil_append] at e
  have h1 : (lines l).flatten.length ≤ (l.flatMap pcs).length := by
    rw [← e]
    rcases fin_cases (grp [] [] (l.flatMap pcs)) with h | ⟨t, h⟩
    · rw [show lines l = _ from h]; exact Nat.le_refl _
    · have h' : grp [] [] (l.flatMap pcs) = lines l ++ [[(t, [])]] := h
      rw [h', List.flatten_append, List.length_append]; omega
  refine Nat.le_trans h1 ?_
  clear h1 e
  induction l with
  | nil => simp [wgt]
  | cons x r ih =>
    have := pcs_len x
    simp only [List.flatMap_cons, List.length_append, wgt]; omega
end Go.Proofs.YtmldahejeobohaaDoorSplit
set_option linter.unusedVariables false
set_option linter.unusedSimpArgs false
namespace Go.Proofs.YtmldahejeobohaaDoorLines
open Go.RowKit Go.Proofs.YtmldahejeobohaaDoorEvt Go.Proofs.YtmldahejeobohaaDoor.K Go.Proofs.YtmldahejeobohaaDoorW.PrintWords Go.Proofs.YtmldahejeobohaaDoorTok Go.Proofs.YtmldahejeobohaaDoorSplit

def mmT (o : List (List Tok)) : List (List T) := o.map fun l => l.map mT
theorem line_le {o : List (List Tok)} (i : Nat) (h : i < o.length) : o[i].length ≤ o.flatten.length := by
  have e : o.flatten = (o.take i).flatten ++ (o[i] ++ (o.drop (i + 1)).flatten) := by
    rw [← List.flatten_cons, ← List.drop_eq_getElem_cons h, ← List.flatten_append, List.take_append_drop]
  rw [e]; simp; omega
theorem nls_le (l : List Tok) : nls l ≤ wgt l := by
  have := wgt_eq l
  have h : nls l ≤ (l.flatMap fun p => p.2).length := List.count_le_length
  omega
theorem lines_count (l : List Tok) : nls l ≤ (lines l).length ∧ (lines l).length ≤ nls l + 1 := by
  obtain ⟨⟨cl, tl, e, _, hn, htl⟩, _⟩ := lines_shape l
  rw [e, List.length_append, hn]
  rcases htl with rfl | ⟨o, rfl, _⟩ <;> simp
theorem sl_loop (L : List (List Tok)) (hn : L.length ≤ 2000000) (hf : L.flatten.length ≤ 1000000) : ∀ (d i : Nat) (acc : List (List T)), L.length = i + d → acc.length ≤ i →
    Evt (fun k => impl_SplitLines.l0 k acc (mm L) ((mm L).length : Int) (i : Int)) (acc ++ mmT (L.drop i)) := by
  have hl : (mm L).length = L.length := List.length_map _
  intro d
  induction d with
  | zero =>
    intro i acc hi hacc
    rw [List.drop_eq_nil_of_le (by omega)]
    refine Evt.step (h := fun _ => some _) (fun k => ?_) (Evt.pure _)
    simp only [impl_SplitLines.l0]; rw [if_neg (by omega)]; simp [mmT]
  | succ d ih =>
    intro i acc hi hacc
    have hlt : i < L.length := by omega
    have hrd : rd_L6 (mm L) (i : Int) = L[i].map mC := by
      show (mm L).getD (i : Int).toNat [] = _
      rw [rdLC _ _ (by omega)]; simp [mm]
    have hm : (L[i].map mC).map toT = L[i].map mT := by rw [List.map_map]; rfl
    have h1 := ih (i + 1) (acc ++ [L[i].map mT]) (by omega) (by simp; omega)
    have e : acc ++ mmT (L.drop i) = acc ++ [L[i].map mT] ++ mmT (L.drop (i + 1)) := by
      rw [List.drop_eq_getElem_cons hlt]; simp only [mmT, List.map_cons, List.append_assoc, List.singleton_append]
    rw [e]
    have ho := outer (L[i].map mC) (by rw [List.length_map]; have := line_le i hlt; omega)
    rw [hm] at ho
    refine Evt.step (fun k => by simp only [impl_SplitLines.l0]; rw [if_pos (by omega), if_pos (by omega), if_pos (by omega), hrd]) ?_
    refine Evt.bind ho ?_
    refine Evt.pos (by omega) ?_
    rw [wrap_nat (by omega)]
    exact h1
theorem splitLines (xs : List Tok) (hw : wgt xs ≤ 900000) : Evt (fun k => impl_SplitLines.f k (xs.map mT)) (mmT (lines xs)) := by
  have hwe := wgt_eq xs
  have hi := inner (xs.map mT) (by rw [List.length_map]; omega)
  have hm : (xs.map mT).map toC = xs.map mC := by rw [List.map_map]; rfl
  rw [hm] at hi
  refine Evt.bind hi (Evt.bind (tokens xs (by omega)) ?_)
  have h := sl_loop (lines xs) (by have := (lines_count xs).2; have := nls_le xs; omega) (by have := lines_len xs; omega) (lines xs).length 0 [] (by omega) (by simp)
  simpa using h

/-! ### flat -/
def eac (xs : List Tok) : List Int := xs.flatMap fun p => List.replicate p.2.length p.1
theorem eac_len (xs : List Tok) : (eac xs).length ≤ wgt xs := by
  induction xs with
  | nil => simp [eac, wgt]
  | cons x r ih => simp only [eac, List.flatMap_cons, List.length_append, List.length_replicate, wgt] at ih ⊢; omega
theorem rdI (xs : List Int) (i : Nat) (h : i < xs.length) : rd xs (i : Int) = xs[i] := by simp [rd, List.getD_eq_getElem?_getD, h]
theorem waking : Evt (fun k => laws_waking.f k) true := by
  have h1 := splitLines [(1000, [105, 102, 10, 120]), (2000, [121])] (by simp [wgt])
  have e : lines [(1000, [105, 102, 10, 120]), (2000, [121])] = [[(1000, [105, 102, 10])], [(1000, [120]), (2000, [121])]] := by rfl
  rw [e] at h1
  refine Evt.bind h1 ?_
  refine Evt.pos (by simp [mmT]) ?_
  refine Evt.pos (by simp [mmT]) ?_
  have t1 := text [mT (1000, [105, 102, 10])] (by simp) (by decide)
  have t2 := text [mT (1000, [120]), mT (2000, [121])] (by simp) (by decide)
  refine Evt.bind t1 ?_
  refine Evt.pos (by rw [toList_dat, dat_B]; rfl) ?_
  refine Evt.pos (by simp [mmT]) ?_
  refine Evt.bind t2 ?_
  refine Evt.of (fun k => ?_)
  rw [toList_dat, dat_B]; rfl
end Go.Proofs.YtmldahejeobohaaDoorLines
set_option linter.unusedVariables false
set_option linter.unusedSimpArgs false
namespace Go.Proofs.YtmldahejeobohaaDoor.Pure
open Go.RowKit Go.Proofs.YtmldahejeobohaaDoorEvt Go.Proofs.YtmldahejeobohaaDoor.K Go.Proofs.YtmldahejeobohaaDoorW.PrintWords Go.Proofs.YtmldahejeobohaaDoorTok Go.Proofs.YtmldahejeobohaaDoorSplit Go.Proofs.YtmldahejeobohaaDoorLines
abbrev D := S29
theorem rdD (xs : List D) (i : Nat) (h : i < xs.length) : rd_T29 xs (i : Int) = xs[i] := by
  simp [rd_T29, List.getD_eq_getElem?_getD, h]
theorem cutting_loop (xs0 xs : List D) (hn : xs.length ≤ 2147483647) : ∀ (d i : Nat), xs.length = i + d →
    ∃ b, Evt (fun k => laws_cutting.l0 k xs0 xs (xs.length : Int) (i : Int)) b ∧ (b = true → xs0.length ≤ 100 ∧ ∀ x ∈ xs.drop i, 1 ≤ x.f1 ∧ x.f1 ≤ 4000 ∧ x.f0 ≠ 0) := by
  intro d
  induction d with
  | zero =>
    intro i hi
    refine ⟨decide ((xs0.length : Int) ≤ 100), Evt.step (h := fun _ => some _) (fun k => ?_) (Evt.pure _), fun h => ?_⟩
    · simp only [laws_cutting.l0]; rw [if_neg (by omega)]
    · rw [List.drop_eq_nil_of_le (by omega)]
      exact ⟨by have := of_decide_eq_true h; omega, by simp⟩
  | succ d ih =>
    intro i hi
    have hlt : i < xs.length := by omega
    have no : ∀ (hh : ∀ k, laws_cutting.l0 (k + 1) xs0 xs (xs.length : Int) (i : Int) = some false), ∃ b, Evt (fun k => laws_cutting.l0 k xs0 xs (xs.length : Int) (i : Int)) b ∧ (b = true → xs0.length ≤ 100 ∧ ∀ x ∈ xs.drop i, 1 ≤ x.f1 ∧ x.f1 ≤ 4000 ∧ x.f0 ≠ 0) :=
      fun hh => ⟨false, Evt.step (h := fun _ => some false) hh (Evt.pure _), fun h => absurd h (by simp)⟩
    by_cases h1 : xs[i].f1 < 1
    · exact no fun k => by simp only [laws_cutting.l0]; rw [if_pos (by omega), if_pos (by omega), if_pos (by omega), rdD _ _ hlt, if_pos h1]
    by_cases h2 : xs[i].f1 > 4000
    · exact no fun k => by simp only [laws_cutting.l0]; rw [if_pos (by omega), if_pos (by omega), if_pos (by omega), rdD _ _ hlt, if_neg h1, if_pos h2]
    by_cases h3 : xs[i].f0 = 0
    · exact no fun k => by simp only [laws_cutting.l0]; rw [if_pos (by omega), if_pos (by omega), if_pos (by omega), rdD _ _ hlt, if_neg h1, if_neg h2, if_pos h3]
    obtain ⟨b, g1, g2⟩ := ih (i + 1) (by omega)
    refine ⟨b, Evt.step (fun k => ?_) g1, fun hb => ?_⟩
    · simp only [laws_cutting.l0]; rw [if_pos (by omega), if_pos (by omega), if_pos (by omega), rdD _ _ hlt, if_neg h1, if_neg h2, if_neg h3, wrap_nat (by omega)]
    · obtain ⟨g3, g4⟩ := g2 hb
      rw [List.drop_eq_getElem_cons hlt]
      refine ⟨g3, fun x hx => ?_⟩
      rcases List.mem_cons.1 hx with rfl | hx
      · exact ⟨by omega, by omega, h3⟩
      · exact g4 x hx
theorem cutting (xs : List D) (hn : xs.length ≤ 2147483647) : ∃ b, Evt (fun k => laws_cutting.f k xs) b ∧ (b = true → xs.length ≤ 100 ∧ ∀ x ∈ xs, 1 ≤ x.f1 ∧ x.f1 ≤ 4000 ∧ x.f0 ≠ 0) := by
  obtain ⟨b, h1, h2⟩ := cutting_loop xs xs hn xs.length 0 (by omega)
  rw [List.drop_zero] at h2
  exact ⟨b, Evt.congr (fun k => rfl) h1, h2⟩
theorem nil_iff (s : ByteArray) : s.toList = ([] : List UInt8) ↔ s.size = 0 := by
  rw [toList_dat, size_dat]
  exact List.length_eq_zero_iff.symm
theorem hollow_loop (xs : List T) (hn : xs.length ≤ 2147483647) : ∀ (d i : Nat), xs.length = i + d →
    ∃ b, Evt (fun k => laws_hollow.l0 k xs (xs.length : Int) (i : Int)) b ∧ (b = false → ∀ x ∈ xs.drop i, x.f1.size ≠ 0) := by
  intro d
  induction d with
  | zero =>
    intro i hi
    refine ⟨false, Evt.step (h := fun _ => some _) (fun k => ?_) (Evt.pure _), fun h => ?_⟩
    · simp only [laws_hollow.l0]; rw [if_neg (by omega)]
    · rw [List.drop_eq_nil_of_le (by omega)]; simp
  | succ d ih =>
    intro i hi
    have hlt : i < xs.length := by omega
    by_cases h1 : xs[i].f1.size = 0
    · refine ⟨true, Evt.step (h := fun _ => some true) (fun k => ?_) (Evt.pure _), fun h => absurd h (by simp)⟩
      simp only [laws_hollow.l0]; rw [if_pos (by omega), if_pos (by omega), if_pos (by omega), rdT _ _ hlt, if_pos ((nil_iff _).2 h1)]
    obtain ⟨b, g1, g2⟩ := ih (i + 1) (by omega)
    refine ⟨b, Evt.step (fun k => ?_) g1, fun hb => ?_⟩
    · simp only [laws_hollow.l0]; rw [if_pos (by omega), if_pos (by omega), if_pos (by omega), rdT _ _ hlt, if_neg (fun h => h1 ((nil_iff _).1 h)), wrap_nat (by omega)]
    · rw [List.drop_eq_getElem_cons hlt]
      intro x hx
      rcases List.mem_cons.1 hx with rfl | hx
      · exact h1
      · exact g2 hb x hx
theorem hollow (xs : List T) (hn : xs.length ≤ 2147483647) : ∃ b, Evt (fun k => laws_hollow.f k xs) b ∧ (b = false → ∀ x ∈ xs, x.f1.size ≠ 0) := by
  obtain ⟨b, h1, h2⟩ := hollow_loop xs hn xs.length 0 (by omega)
  rw [List.drop_zero] at h2
  exact ⟨b, Evt.congr (fun k => rfl) h1, h2⟩
/-! ### what impl.Delegate makes -/
/-- Each byte of tokens with its type. -/
def bt (l : List T) : List (Int × UInt8) := l.flatMap fun x => (dat x.f1).map fun b => (x.f0, b)
def prs (l : List T) : List (Int × ByteArray) := l.map fun x => (x.f0, x.f1)
def prc (l : List D) : List (Int × Int) := l.map fun x => (x.f0, x.f1)
/-- What stands for the others. -/
def stm (r : List D) (l : List T) : List (Int × UInt8) := Go.Proofs.YtmldahejeobohaaDoorTake.bt2 (Go.Proofs.YtmldahejeobohaaDoorTake.pcsL ((prc r).map Go.Proofs.YtmldahejeobohaaDoorTake.mCt) ⟨(((bt l).filter fun p => decide (p.1 = -12)).map (·.2)).toArray⟩)
def dlg (r : List D) (l : List T) : List T := (Go.Proofs.YtmldahejeobohaaDoorTake.delP (prc r) (prs l)).map fun p => ⟨p.1, p.2⟩
theorem bt_prs (l : List T) : Go.Proofs.YtmldahejeobohaaDoorTake.bt2 ((prs l).map Go.Proofs.YtmldahejeobohaaDoorTake.mC) = bt l := by
  unfold Go.Proofs.YtmldahejeobohaaDoorTake.bt2 bt prs
  rw [List.map_map, List.flatMap_map]
  rfl
theorem bt_dlg (r : List D) (l : List T) : bt (dlg r l) = Go.Proofs.YtmldahejeobohaaDoorTake.inB (bt l) (stm r l) := by
  have h := Go.Proofs.YtmldahejeobohaaDoorTake.del_bt (Go.Proofs.YtmldahejeobohaaDoorTake.pcsL ((prc r).map Go.Proofs.YtmldahejeobohaaDoorTake.mCt)) ((prs l).map Go.Proofs.YtmldahejeobohaaDoorTake.mC) (fun x => Go.Proofs.YtmldahejeobohaaDoorTake.pcs_sz _ x)
  rw [Go.Proofs.YtmldahejeobohaaDoorTake.othL_bt, bt_prs] at h
  unfold stm
  rw [← h]
  unfold dlg Go.Proofs.YtmldahejeobohaaDoorTake.delP bt Go.Proofs.YtmldahejeobohaaDoorTake.bt2
  rw [List.map_map, List.flatMap_map]
  rfl
theorem stm_snd (r : List D) (l : List T) : (stm r l).map (·.2) = ((bt l).filter fun p => decide (p.1 = -12)).map (·.2) := by
  unfold stm
  rw [Go.Proofs.YtmldahejeobohaaDoorTake.bt2_snd, Go.Proofs.YtmldahejeobohaaDoorTake.pcs_bys]
theorem bt_snd (l : List T) : (bt l).map (·.2) = txt l := by
  unfold bt txt
  rw [List.map_flatMap]
  congr 1
  funext x
  rw [List.map_map]
  exact List.map_id _
theorem txt_dlg (r : List D) (l : List T) : txt (dlg r l) = txt l := by
  rw [← bt_snd, bt_dlg, ← bt_snd]
  exact Go.Proofs.YtmldahejeobohaaDoorTake.inB_map (fun p => p.2) _ _ (stm_snd r l)
theorem sum_nby (l : List T) : (l.map fun x => x.f1.size).sum = nby l := by
  induction l with
  | nil => rfl
  | cons x r ih => rw [List.map_cons, List.sum_cons, ih]; rfl
theorem dlg_len (r : List D) (l : List T) (hr : r.length ≤ 100) (hrz : ∀ x ∈ r, x.f0 ≠ 0) (hl : l.length ≤ 400) (hz : ∀ x ∈ l, x.f0 ≠ 0) : (dlg r l).length ≤ 990000 := by
  unfold dlg Go.Proofs.YtmldahejeobohaaDoorTake.delP
  rw [List.length_map, List.length_map]
  exact (Go.Proofs.YtmldahejeobohaaDoorTake.delL_facts _ _ _ (by unfold prc; rw [List.length_map, List.length_map]; omega) (fun c hc => by
    obtain ⟨p, hp, rfl⟩ := List.mem_map.1 hc
    obtain ⟨x, hx, rfl⟩ := List.mem_map.1 hp
    exact hrz x hx) (by unfold prs; rw [List.length_map, List.length_map]; omega) (fun c hc => by
    obtain ⟨p, hp, rfl⟩ := List.mem_map.1 hc
    obtain ⟨x, hx, rfl⟩ := List.mem_map.1 hp
    exact hz x hx)).1
end Go.Proofs.YtmldahejeobohaaDoor.Pure
set_option linter.unusedVariables false
set_option linter.unusedSimpArgs false
namespace Go.Proofs.YtmldahejeobohaaDoorKno
open Go.RowKit Go.Proofs.YtmldahejeobohaaDoorW.PrintWords Go.Proofs.YtmldahejeobohaaDoor.K Go.Proofs.YtmldahejeobohaaDoorFmt
abbrev T := S27
abbrev D := S29
abbrev kT : Kd T := k27
abbrev RT (w : World) (base : Nat) (v : Value) (xs : List T) : Prop := Kd.R kT 27 w base (fun _ => True) v xs
theorem infoT : (Tryd.prog.info? 27).map (fun i => (i.zero, i.size, i.bytes)) = some (some (.agg #[(.int .i64 0), (.string ⟨#[]⟩)]), 2, 24) := by kernel_rfl
/-- Whether a type is the language's own. -/
def knB (r : List D) (k : Int) : Bool := k != -12 && k != 8000 && r.all fun x => x.f0 != k
def mk (r : List D) (x : T) : T := ⟨if knB r x.f0 = true then x.f0 else -12, x.f1⟩
/-- Block Bc holds a slice of cuts. -/
structure CutK (w : World) (Bc : Nat) (A0 : Option Addr) (c0 : Nat) (l : List D) : Prop where
  bk : w.heap[Bc]? = some (.cells #[.slice A0 l.length c0] 22 (0, 0))
  hC : Kd.C k29 w A0 l.length l
  hc : l.length ≤ c0
theorem CutK.below {w w' : World} {Bk : Nat} {A0 : Option Addr} {c0 : Nat} {l : List D} (h : CutK w Bk A0 c0 l) (hB : Below w.heap.size w w') : CutK w' Bk A0 c0 l :=
  ⟨(hB.block _ (blk_lt h.bk)).trans h.bk, Kd.C_below h.hC hB, h.hc⟩
theorem rdk_mem {cs : List D} {x : Int} (h0 : 0 ≤ x) (h1 : x < cs.length) : cs.take (x.toNat + 1) = cs.take x.toNat ++ [rd_T29 cs x] := by
  have h : x.toNat < cs.length := by omega
  have e : rd_T29 cs x = cs[x.toNat] := by simp [rd_T29, List.getD_eq_getElem?_getD, h]
  rw [e]
  exact List.take_succ_eq_append_getElem h
theorem rdt_mem {cs : List T} {x : Int} (h0 : 0 ≤ x) (h1 : x < cs.length) : cs.take (x.toNat + 1) = cs.take x.toNat ++ [rd_T27 cs x] := by
  have h : x.toNat < cs.length := by omega
  have e : rd_T27 cs x = cs[x.toNat] := by simp [rd_T27, List.getD_eq_getElem?_getD, h]
  rw [e]
  exact List.take_succ_eq_append_getElem h
def knP (r : List D) (k : Int) (i : Nat) : Bool := (k != -12 && k != 8000) && (r.take i).all fun x => x.f0 != k
theorem knP_end (r : List D) (k : Int) (i : Nat) (h : r.length ≤ i) : knP r k i = knB r k := by
  unfold knP knB
  rw [List.take_of_length_le h]
theorem knP_next {r : List D} {k : Int} {i : Nat} {x : D} (h : r.take (i + 1) = r.take i ++ [x]) : knP r k (i + 1) = (knP r k i && (x.f0 != k)) := by
  unfold knP
  rw [h, List.all_append]
  simp [Bool.and_assoc]
set_option maxRecDepth 100000 in
set_option maxHeartbeats 8000000 in
theorem kn1_c (Bc : Nat) (A0 : Option Addr) (c0 : Nat) (cs : List D) (t : Int) (w : World) (h : CutK w Bc A0 c0 cs) :
    Calls Tryd.prog 10 #[.int .i64 t, .pointer (some ⟨Bc, 0, none⟩)] w fun e w' => e = .returned (.bool (knB cs t)) ∧ Below w.heap.size w w' := by
  have hmax : cs.length ≤ 9223372036854775807 := h.hC.2.1
  have hu := Tryd.underlying29
  have b0 : w.cell? ⟨Bc, 0, none⟩ = some (.slice A0 cs.length c0) := (blk_cell h.bk 0).trans rfl
  have lb := blk_lt h.bk
  have H := Aside0.mk h
  clear h
  have HS : Aside0 (((t != -12) = false → knP cs t 0 = false) ∧ ((t != -12) = true → knP cs t 0 = (t != 8000))) := ⟨fun h => by unfold knP; rw [h]; rfl, fun h => by unfold knP; rw [h]; simp⟩
  rcases Bool.eq_false_or_eq_true (t != -12) with q12 | q12
  all_goals
    go_enter Tryd.func10, Tryd.ntmps10
    go_wp2
    go_loopg [4, 15] (cs.length + 1) (fun kq v4 v15 wr => ∃ (x15 : Int), v15 = .int .i64 x15 ∧ v4 = .bool (knP cs t x15.toNat) ∧ Aside0 (0 ≤ x15 ∧ x15 ≤ cs.length ∧ cs.length - x15.toNat < kq) ∧ Aside0 (Below w.heap.size w wr))
    case atStart => exact ⟨0, rfl, by first | (show _ = Value.bool (knP cs t 0); rw [HS.out.1 q12]; done) | (show _ = Value.bool (knP cs t 0); rw [HS.out.2 q12]; done), ⟨by omega, by omega, by simp⟩, ⟨Below.refl _ _⟩⟩
    case round =>
      obtain ⟨x15, rfl, rfl, HK, HB⟩ := hrel
      cases gk with
      | zero => have := HK.out; omega
      | succ k1 =>
        by_cases hlt : x15 < (cs.length : Int)
        · have hx0 : 0 ≤ x15 := HK.out.1
          have c2b0 : decide (x15 < (cs.length : Int)) = true := decide_eq_true hlt
          have hCw := Kd.C_below H.out.hC HB.out
          obtain ⟨ad, e, hy0, hy1⟩ := at_T29 hCw x15 hx0 hlt
          cases e
          have HN := Aside0.mk (knP_next (k := t) (rdk_mem hx0 hlt))
          have hla := World.block_lt_of_cell? wr _ hy0
          have hwr : wrap64 (x15 + 1) = x15 + 1 := by unfold wrap64; omega
          have p1 := eq_true hx0
          have q1 := eq_true hlt
          generalize hrow : rd_T29 cs x15 = row at *
          generalize hb : knP cs t x15.toNat = b at *
          have HBn : Aside0 (∀ o, Below w.heap.size w (wr.alloc o)) := ⟨fun o => HB.out.alloc HB.out.size o⟩
          clear hCw hx0 hlt hb
          cases b
          all_goals
            go_wp2
            go_roundg k1
            case measure => omega
            case rel =>
              have hk := HK.out
              have e1 : (wrap64 (x15 + 1)).toNat = x15.toNat + 1 := by rw [hwr]; omega
              refine ⟨wrap64 (x15 + 1), rfl, ?_, ⟨by rw [hwr]; have := of_eq_true q1; omega⟩, ⟨HBn.out _⟩⟩
              rw [e1, HN.out]
              rfl
        · have hxe : cs.length ≤ x15.toNat := by have := HK.out; omega
          have c2b0 : decide (x15 < (cs.length : Int)) = false := decide_eq_false hlt
          have HE := Aside0.mk (knP_end cs t _ hxe)
          go_wp2
          go_ret
          exact ⟨by rw [← HE.out]; rfl, HB.out⟩
set_option maxRecDepth 100000 in
set_option maxHeartbeats 8000000 in
theorem mine_c (Bc : Nat) (A0 : Option Addr) (c0 : Nat) (cs : List D) (A1 : Option Addr) (c1 : Nat) (l : List T) (k : Nat) (r : List T) (w : World) (h : CutK w Bc A0 c0 cs) (hC : Kd.C kT w A1 l.length l) (hc : l.length ≤ c1) (hl : l.length ≤ 1000000) (hr : laws_runs.f k (l.map (mk cs)) = some r) :
    Calls Tryd.prog 13 #[.slice A1 l.length c1, .func (.func 10) #[] #[.pointer (some ⟨Bc, 0, none⟩)]] w fun e w' => ∃ v : Value, e = .returned v ∧ RT w' w.heap.size v r ∧ Below w.heap.size w w' := by
  have hu := Tryd.underlying27
  have lb := blk_lt h.bk
  have H := Aside0.mk h
  have HC := Aside0.mk (And.intro hC hc)
  have HR := Aside0.mk hr
  clear h hC hc hr
  go_enter Tryd.func13, Tryd.ntmps13
  go_wp2
  go_loopg [5, 10] (l.length + 1) (fun kq v5 v10 wr => ∃ (x10 : Int), v10 = .int .i64 x10 ∧ Aside0 (0 ≤ x10 ∧ x10 ≤ l.length ∧ l.length - x10.toNat < kq) ∧ Aside0 (Below w.heap.size w wr) ∧ Aside0 (RT wr w.heap.size v5 ((l.take x10.toNat).map (mk cs))))
  case atStart => exact ⟨0, rfl, ⟨by omega, by omega, by simp⟩, ⟨Below.refl _ _⟩, ⟨Kd.R_nil _ _ _ _ _⟩⟩
  case round =>
    obtain ⟨x10, rfl, HK, HB, HO⟩ := hrel
    cases gk with
    | zero => have := HK.out; omega
    | succ k1 =>
      by_cases hlt : x10 < (l.length : Int)
      · have hx0 : 0 ≤ x10 := HK.out.1
        have c2b0 : decide (x10 < (l.length : Int)) = true := decide_eq_true hlt
        have hCw := Kd.C_below HC.out.1 HB.out
        obtain ⟨ad, e, hy0, hy1⟩ := at_T27 hCw x10 hx0 hlt
        cases e
        have HN := Aside0.mk (rdt_mem hx0 hlt)
        have hla := World.block_lt_of_cell? wr _ hy0
        have hwr : wrap64 (x10 + 1) = x10 + 1 := by unfold wrap64; omega
        have p1 := eq_true hx0
        have q1 := eq_true hlt
        generalize hrow : rd_T27 l x10 = row at *
        obtain ⟨W, hW⟩ : ∃ W, W = wr.alloc (.cells #[.int .i64 row.f0, .string row.f1] 27) := ⟨_, rfl⟩
        have HBW : Aside0 (Below w.heap.size w W ∧ Below wr.heap.size wr W ∧ W.heap[wr.heap.size]? = some (.cells #[.int .i64 row.f0, .string row.f1] 27 (0, 0)) ∧ w.heap.size ≤ wr.heap.size) := ⟨by rw [hW]; exact HB.out.alloc HB.out.size _, by rw [hW]; exact (Below.refl _ _).alloc (Nat.le_refl _) _, by rw [hW]; exact blk_new _ _, HB.out.size⟩
        have HWe := Aside0.mk hW
        have hlen : Aside0 ((((l.take x10.toNat).map (mk cs)).length + 1) * 24 ≤ 140737488355328) := ⟨by rw [List.length_map, List.length_take]; omega⟩
        have hne : Aside0 (w.heap.size ≤ wr.heap.size) := ⟨HB.out.size⟩
        clear hCw hx0 hlt hW
        have HQ : Aside0 (∀ w1, Below W.heap.size W w1 → RT w1 w.heap.size u5 ((l.take x10.toNat).map (mk cs)) ∧ Below w.heap.size w w1 ∧ w1.heap[wr.heap.size]? = some (.cells #[.int .i64 row.f0, .string row.f1] 27 (0, 0)) ∧ ∀ v, RT (w1.setCell ⟨wr.heap.size, 0, none⟩ v) w.heap.size u5 ((l.take x10.toNat).map (mk cs)) ∧ Below w.heap.size w (w1.setCell ⟨wr.heap.size, 0, none⟩ v)) := ⟨fun w1 h1 =>
          have h2 := below_step HBW.out.1 h1
          ⟨Kd.R_below (Kd.R_below HO.out HBW.out.2.1) h1, h2, (h1.block _ (blk_lt HBW.out.2.2.1)).trans HBW.out.2.2.1, fun v => ⟨Kd.R_step HO.out (fun k _ hlt => (Below.heap_setCell _ ⟨wr.heap.size, 0, none⟩ _ k (Nat.ne_of_lt hlt)).trans ((below_step HBW.out.2.1 h1).block k hlt)), h2.setCell (p := ⟨wr.heap.size, 0, none⟩) HBW.out.2.2.2 v⟩⟩⟩
        by_cases hkn : knB cs row.f0 = true
        · go_wp2_with (first | (go_at_call 10; refine (kn1_c Bc A0 c0 cs row.f0 _ (by rw [← HWe.out]; exact H.out.below HBW.out.1)).mono ?_; rintro e w1 ⟨rfl, hB1⟩; rw [← HWe.out] at hB1; have G1 := Aside0.mk (HQ.out w1 hB1); have w1b0 : w1.cell? ⟨wr.heap.size, 0, none⟩ = some (.int .i64 row.f0) := (blk_cell G1.out.2.2.1 0).trans rfl; have w1b1 : w1.cell? ⟨wr.heap.size, 1, none⟩ = some (.string row.f1) := (blk_cell G1.out.2.2.1 1).trans rfl; have w1f0 := blk_frozen G1.out.2.2.1 0; have w1f1 := blk_frozen G1.out.2.2.1 1; have w1l := blk_lt G1.out.2.2.1; clear hB1) | ((with_reducible refine gate_builtin (b := .append) (xs := #[.tmp 20, .tmp 22]) rfl ?_); at_builtin; refine Kd.R_append kT (w0 := w) w.heap.size rfl (.tmp 20) (.tmp 22) 23 27 (.agg #[(.int .i64 0), (.string ⟨#[]⟩)]) 24 rfl Tryd.underlying23 infoT rfl (by decide) (by omega) u5 ((l.take x10.toNat).map (mk cs)) (⟨row.f0, row.f1⟩ : T) [.int .i64 row.f0, .string row.f1] (fun _ => True) (fun _ => False) rfl (by first | (go_simp; done) | (go_simp; rfl)) ?aP (fun _ hk => hk.elim) ?aF ?aO ?aB ?aS ?aL ?_; (case aP => exact k27_mkM _ _ _ (⟨row.f0, row.f1⟩ : T)); (case aB => exact G1.out.2.1); (case aF => exact (fun _ _ => trivial)); (case aO => exact G1.out.1); (case aS => exact (G1.out.2.1).size); (case aL => exact hlen.out); intro v1 w8 ho hb8 hg hat; have HO8 := Aside0.mk ho; have HB8 := Aside0.mk hb8; clear ho hb8 hg hat))
          go_roundg k1
          case measure => omega
          case rel =>
            have hk := HK.out
            have e1 : (wrap64 (x10 + 1)).toNat = x10.toNat + 1 := by rw [hwr]; omega
            refine ⟨wrap64 (x10 + 1), rfl, ⟨by rw [hwr]; have := of_eq_true q1; omega⟩, HB8, ?_⟩
            rw [e1, HN.out, List.map_append]
            have em : mk cs row = ⟨row.f0, row.f1⟩ := by unfold mk; rw [if_pos hkn]
            rw [List.map_singleton, em]
            exact HO8
        · have hkf : knB cs row.f0 = false := by simpa using hkn
          go_wp2_with (first | (go_at_call 10; refine (kn1_c Bc A0 c0 cs row.f0 _ (by rw [← HWe.out]; exact H.out.below HBW.out.1)).mono ?_; rintro e w1 ⟨rfl, hB1⟩; rw [← HWe.out] at hB1; have G1 := Aside0.mk (HQ.out w1 hB1); have w1b0 : w1.cell? ⟨wr.heap.size, 0, none⟩ = some (.int .i64 row.f0) := (blk_cell G1.out.2.2.1 0).trans rfl; have w1b1 : w1.cell? ⟨wr.heap.size, 1, none⟩ = some (.string row.f1) := (blk_cell G1.out.2.2.1 1).trans rfl; have w1f0 := blk_frozen G1.out.2.2.1 0; have w1f1 := blk_frozen G1.out.2.2.1 1; have w1l := blk_lt G1.out.2.2.1; clear hB1) | ((with_reducible refine gate_builtin (b := .append) (xs := #[.tmp 20, .tmp 22]) rfl ?_); at_builtin; refine Kd.R_append kT (w0 := w) w.heap.size rfl (.tmp 20) (.tmp 22) 23 27 (.agg #[(.int .i64 0), (.string ⟨#[]⟩)]) 24 rfl Tryd.underlying23 infoT rfl (by decide) (by omega) u5 ((l.take x10.toNat).map (mk cs)) (⟨(-12), row.f1⟩ : T) [.int .i64 (-12), .string row.f1] (fun _ => True) (fun _ => False) rfl (by first | (go_simp; done) | (go_simp; rfl)) ?aP (fun _ hk => hk.elim) ?aF ?aO ?aB ?aS ?aL ?_; (case aP => exact k27_mkM _ _ _ (⟨(-12), row.f1⟩ : T)); (case aB => exact (G1.out.2.2.2 _).2); (case aF => exact (fun _ _ => trivial)); (case aO => exact (G1.out.2.2.2 _).1); (case aS => exact ((G1.out.2.2.2 _).2).size); (case aL => exact hlen.out); intro v1 w8 ho hb8 hg hat; have HO8 := Aside0.mk ho; have HB8 := Aside0.mk hb8; clear ho hb8 hg hat))
          go_roundg k1
          case measure => omega
          case rel =>
            have hk := HK.out
            have e1 : (wrap64 (x10 + 1)).toNat = x10.toNat + 1 := by rw [hwr]; omega
            refine ⟨wrap64 (x10 + 1), rfl, ⟨by rw [hwr]; have := of_eq_true q1; omega⟩, HB8, ?_⟩
            rw [e1, HN.out, List.map_append]
            have em : mk cs row = ⟨-12, row.f1⟩ := by unfold mk; rw [if_neg hkn]
            rw [List.map_singleton, em]
            exact HO8
      · have hxe : l.length ≤ x10.toNat := by have := HK.out; omega
        have c2b0 : decide (x10 < (l.length : Int)) = false := decide_eq_false hlt
        obtain ⟨m, hm⟩ : ∃ m, m = l.map (mk cs) := ⟨_, rfl⟩
        have HO2 : Aside0 (RT wr w.heap.size u5 m) := ⟨by have := HO.out; rw [List.take_of_length_le hxe] at this; rw [hm]; exact this⟩
        have HR2 : Aside0 (laws_runs.f k m = some r) := ⟨by rw [hm]; exact HR.out⟩
        clear hm
        obtain ⟨A5, c5, e5, hc5, hC5⟩ := Kd.R_reads HO2.out
        subst e5
        have HC5 := Aside0.mk (And.intro hc5 hC5)
        clear hc5 hC5 HO
        go_wp2_with (go_at_call 26; refine (laws_runs.calls k A5 c5 m r _ HC5.out.2 HC5.out.1 HR2.out).mono ?_; rintro e w2 ⟨v2, rfl, hR2, hB2⟩)
        go_ret
        exact ⟨_, rfl, Kd.R_lower hR2 HB.out.size, below_step HB.out hB2⟩
end Go.Proofs.YtmldahejeobohaaDoorKno
set_option linter.unusedVariables false
set_option linter.unusedSimpArgs false
namespace Go.Proofs.YtmldahejeobohaaDoorKno
open Go.RowKit Go.Proofs.YtmldahejeobohaaDoorW.PrintWords Go.Proofs.YtmldahejeobohaaDoor.K Go.Proofs.YtmldahejeobohaaDoorFmt Go.Proofs.YtmldahejeobohaaDoorEvt
open Go.Proofs.YtmldahejeobohaaDoorTake (runsL isE bt2 btk bys eof)
open Go.Proofs.YtmldahejeobohaaDoor.Pure (nil_iff dlg stm stm_snd bt_dlg prs prc dlg_len txt_dlg sum_nby)
abbrev Cc := Go.Proofs.YtmldahejeobohaaDoorTake.C
def uC (x : T) : Cc := ⟨x.f0, x.f1⟩
def uT (x : Cc) : T := ⟨x.f0, x.f1⟩
theorem isE_of {p : Cc} (h : p.f0 ≠ 0) : isE p = false := by
  unfold isE
  rw [beq_eq_false_iff_ne.2 h]
  rfl
theorem runs_loop (xs : List T) (hn : xs.length ≤ 1000000) (hz : ∀ x ∈ xs, x.f0 ≠ 0) : ∀ (d i : Nat) (init : List T) (p : T), xs.length = i + d → init.length + 1 ≤ i → p.f0 ≠ 0 → p.f1.size + Go.Proofs.YtmldahejeobohaaDoorTok.nby (xs.drop i) ≤ 1000000 →
    Evt (fun k => laws_runs.l0 k (init ++ [p]) xs (xs.length : Int) (i : Int)) (init ++ (runsL (uC p) ((xs.drop i).map uC)).map uT) := by
  intro d
  induction d with
  | zero =>
    intro i init p hi hl hp hs
    refine Evt.step (h := fun _ => some _) (fun k => ?_) (Evt.pure _)
    simp only [laws_runs.l0]
    rw [if_neg (by omega), List.drop_eq_nil_of_le (by omega), List.map_nil]
    unfold runsL
    rw [if_neg (by rw [isE_of hp]; decide)]
    rfl
  | succ d ih =>
    intro i init p hi hl hp hs
    have hlt : i < xs.length := by omega
    have hx := hz _ (List.getElem_mem hlt)
    rw [List.drop_eq_getElem_cons hlt] at hs ⊢
    rw [List.map_cons]
    have hs' : p.f1.size + (xs[i].f1.size + Go.Proofs.YtmldahejeobohaaDoorTok.nby (xs.drop (i + 1))) ≤ 1000000 := hs
    have hlen : (init ++ [p]).length = init.length + 1 := by simp
    have hw : wrap64 (((init ++ [p]).length : Int) - 1) = ((init.length : Nat) : Int) := by rw [hlen, wrap_in (by omega) (by omega)]; omega
    have hrd : rd_T27 (init ++ [p]) ((init.length : Nat) : Int) = p := by rw [Go.Proofs.YtmldahejeobohaaDoorTok.rdT _ _ (by simp)]; simp
    unfold runsL
    by_cases h1 : xs[i].f1.size = 0
    · rw [if_pos (show (uC xs[i]).f1.size = 0 from h1)]
      refine Evt.step (fun k => ?_) (ih (i + 1) init p (by omega) (by omega) hp (by omega))
      simp only [laws_runs.l0]
      rw [if_pos (by omega), if_pos (by omega), if_pos (by omega), Go.Proofs.YtmldahejeobohaaDoorTok.rdT _ _ hlt, if_pos ((nil_iff _).2 h1), wrap_nat (by omega)]
    · have h1' : ¬ (uC xs[i]).f1.size = 0 := h1
      rw [if_neg h1', if_neg (by rw [isE_of (p := uC p) hp]; decide)]
      by_cases h3 : p.f0 = xs[i].f0
      · have h3' : (uC p).f0 = (uC xs[i]).f0 := h3
        rw [if_pos h3']
        have hq := ih (i + 1) init ⟨p.f0, p.f1 ++ xs[i].f1⟩ (by omega) (by omega) hp (by
          have e : (⟨p.f0, p.f1 ++ xs[i].f1⟩ : T).f1.size = p.f1.size + xs[i].f1.size := Go.Proofs.YtmldahejeobohaaDoorTake.size_cat _ _
          omega)
        refine Evt.step (fun k => ?_) hq
        simp only [laws_runs.l0]
        rw [if_pos (by omega), if_pos (by omega), if_pos (by omega), Go.Proofs.YtmldahejeobohaaDoorTok.rdT _ _ hlt, if_neg (fun h => h1 ((nil_iff _).1 h)), hw, if_pos (by omega), if_pos (by omega), if_pos (by omega), hrd, if_pos h3, if_pos (by omega), wrap_nat (by omega)]
        have hset : (init ++ [p]).set (((init.length : Nat) : Int)).toNat (⟨p.f0, p.f1 ++ xs[i].f1⟩ : T) = init ++ [⟨p.f0, p.f1 ++ xs[i].f1⟩] := by
          rw [Int.toNat_natCast, List.set_append_right _ _ (Nat.le_refl _), Nat.sub_self]; rfl
        rw [hset]
      · have h3' : ¬ (uC p).f0 = (uC xs[i]).f0 := h3
        rw [if_neg h3']
        have hq := ih (i + 1) (init ++ [p]) xs[i] (by omega) (by omega) hx (by omega)
        have e : init ++ List.map uT (uC p :: runsL (uC xs[i]) ((xs.drop (i + 1)).map uC)) = init ++ [p] ++ List.map uT (runsL (uC xs[i]) ((xs.drop (i + 1)).map uC)) := by simp [uT, uC]
        rw [e]
        refine Evt.step (fun k => ?_) hq
        simp only [laws_runs.l0]
        rw [if_pos (by omega), if_pos (by omega), if_pos (by omega), Go.Proofs.YtmldahejeobohaaDoorTok.rdT _ _ hlt, if_neg (fun h => h1 ((nil_iff _).1 h)), hw, if_pos (by omega), if_pos (by omega), if_pos (by omega), hrd, if_neg h3, if_pos (by omega), wrap_nat (by omega)]
theorem runs_loop0 (xs : List T) (hn : xs.length ≤ 1000000) (hz : ∀ x ∈ xs, x.f0 ≠ 0) : ∀ (d i : Nat), xs.length = i + d → Go.Proofs.YtmldahejeobohaaDoorTok.nby (xs.drop i) ≤ 1000000 →
    Evt (fun k => laws_runs.l0 k ([] : List T) xs (xs.length : Int) (i : Int)) ((runsL eof ((xs.drop i).map uC)).map uT) := by
  intro d
  induction d with
  | zero =>
    intro i hi hs
    refine Evt.step (h := fun _ => some _) (fun k => ?_) (Evt.pure _)
    simp only [laws_runs.l0]
    rw [if_neg (by omega), List.drop_eq_nil_of_le (by omega), List.map_nil]
    unfold runsL
    rw [if_pos (by rfl)]
    rfl
  | succ d ih =>
    intro i hi hs
    have hlt : i < xs.length := by omega
    have hx := hz _ (List.getElem_mem hlt)
    rw [List.drop_eq_getElem_cons hlt] at hs ⊢
    rw [List.map_cons]
    have hs' : xs[i].f1.size + Go.Proofs.YtmldahejeobohaaDoorTok.nby (xs.drop (i + 1)) ≤ 1000000 := hs
    unfold runsL
    by_cases h1 : xs[i].f1.size = 0
    · rw [if_pos (show (uC xs[i]).f1.size = 0 from h1)]
      refine Evt.step (fun k => ?_) (ih (i + 1) (by omega) (by omega))
      simp only [laws_runs.l0]
      rw [if_pos (by omega), if_pos (by omega), if_pos (by omega), Go.Proofs.YtmldahejeobohaaDoorTok.rdT _ _ hlt, if_pos ((nil_iff _).2 h1), wrap_nat (by omega)]
    · have h1' : ¬ (uC xs[i]).f1.size = 0 := h1
      rw [if_neg h1', if_pos (by rfl)]
      have hq := runs_loop xs hn hz d (i + 1) [] xs[i] (by omega) (by simp) hx (by omega)
      rw [List.nil_append, List.nil_append] at hq
      refine Evt.step (fun k => ?_) hq
      simp only [laws_runs.l0]
      rw [if_pos (by omega), if_pos (by omega), if_pos (by omega), Go.Proofs.YtmldahejeobohaaDoorTok.rdT _ _ hlt, if_neg (fun h => h1 ((nil_iff _).1 h)), if_neg (by simp), if_pos (by simp), wrap_nat (by omega)]
      rfl
theorem runs (xs : List T) (hn : xs.length ≤ 1000000) (hz : ∀ x ∈ xs, x.f0 ≠ 0) (hs : Go.Proofs.YtmldahejeobohaaDoorTok.nby xs ≤ 1000000) : Evt (fun k => laws_runs.f k xs) ((runsL eof (xs.map uC)).map uT) := by
  have h := runs_loop0 xs hn hz xs.length 0 (by omega) (by rw [List.drop_zero]; exact hs)
  rw [List.drop_zero] at h
  exact Evt.congr (fun k => rfl) h
/-! ### what is coalesced is known by its bytes -/
def Tidy : List Cc → Prop
  | [] => True
  | [x] => x.f1.size ≠ 0
  | x :: y :: r => x.f1.size ≠ 0 ∧ x.f0 ≠ y.f0 ∧ Tidy (y :: r)
theorem Tidy.tail {x : Cc} {r : List Cc} (h : Tidy (x :: r)) : Tidy r := by
  cases r with
  | nil => trivial
  | cons y r => exact h.2.2
theorem Tidy.head {x : Cc} {r : List Cc} (h : Tidy (x :: r)) : x.f1.size ≠ 0 := by
  cases r with
  | nil => exact h
  | cons y r => exact h.1
theorem tidy_runs : ∀ (l : List Cc) (p : Cc), (isE p = true ∨ p.f1.size ≠ 0) → Tidy (runsL p l) ∧ (isE p = false → ∃ v r, runsL p l = ⟨p.f0, v⟩ :: r)
  | [], p, h => by
    unfold runsL
    by_cases he : isE p = true
    · rw [if_pos he]; exact ⟨trivial, fun h => by rw [he] at h; cases h⟩
    · rw [if_neg he]
      rcases h with h | h
      · exact absurd h he
      · exact ⟨h, fun _ => ⟨p.f1, [], rfl⟩⟩
  | t :: r, p, h => by
    unfold runsL
    by_cases h1 : t.f1.size = 0
    · rw [if_pos h1]; exact tidy_runs r p h
    · rw [if_neg h1]
      by_cases he : isE p = true
      · rw [if_pos he]; exact ⟨(tidy_runs r t (.inr h1)).1, fun h => by rw [he] at h; cases h⟩
      · rw [if_neg he]
        have hp : p.f1.size ≠ 0 := by
          rcases h with h | h
          · exact absurd h he
          · exact h
        by_cases h3 : p.f0 = t.f0
        · rw [if_pos h3]
          have hs : (⟨p.f0, p.f1 ++ t.f1⟩ : Cc).f1.size ≠ 0 := by
            show (p.f1 ++ t.f1).size ≠ 0
            rw [Go.Proofs.YtmldahejeobohaaDoorTake.size_cat]; omega
          obtain ⟨a, b⟩ := tidy_runs r ⟨p.f0, p.f1 ++ t.f1⟩ (.inr hs)
          refine ⟨a, fun _ => ?_⟩
          refine b ?_
          unfold isE
          rw [beq_eq_false_iff_ne.2 hs, Bool.and_false]
        · rw [if_neg h3]
          obtain ⟨a, b⟩ := tidy_runs r t (.inr h1)
          obtain ⟨v, q, e⟩ := b (by unfold isE; rw [beq_eq_false_iff_ne.2 h1, Bool.and_false])
          rw [e] at a ⊢
          exact ⟨⟨hp, h3, a⟩, fun _ => ⟨p.f1, _, rfl⟩⟩
theorem bt2_cons (t : Cc) (l : List Cc) : bt2 (t :: l) = btk t ++ bt2 l := rfl
theorem tw_self (x : Cc) : (btk x).all (fun p => p.1 == x.f0) = true := by
  rw [List.all_eq_true]
  intro p hp
  obtain ⟨b, _, rfl⟩ := List.mem_map.1 hp
  simp
theorem tw_tidy {x : Cc} {r : List Cc} (h : Tidy (x :: r)) : (bt2 (x :: r)).takeWhile (fun p => p.1 == x.f0) = btk x := by
  rw [bt2_cons, List.takeWhile_append_of_pos (fun p hp => List.all_eq_true.1 (tw_self x) p hp)]
  cases r with
  | nil => simp [bt2]
  | cons y r =>
    have hy := h.2.2.head
    have hne : y.f0 ≠ x.f0 := fun e => h.2.1 e.symm
    rw [bt2_cons]
    have : ∃ b q, bys y.f1 = b :: q := by
      cases hb : bys y.f1 with
      | nil => exact absurd (by rw [← Go.Proofs.YtmldahejeobohaaDoorTake.bys_len, hb]; rfl) hy
      | cons b q => exact ⟨b, q, rfl⟩
    obtain ⟨b, q, e⟩ := this
    unfold btk
    rw [e, List.map_cons, List.cons_append, List.takeWhile_cons_of_neg (by simpa using hne), List.append_nil]
theorem tidy_eq : ∀ (a b : List Cc), Tidy a → Tidy b → bt2 a = bt2 b → a = b
  | [], [], _, _, _ => rfl
  | [], y :: s, _, hb, e => by
    have h := congrArg List.length e
    rw [bt2_cons, List.length_append, Go.Proofs.YtmldahejeobohaaDoorTake.btk_len] at h
    have := hb.head
    have h0 : (bt2 ([] : List Cc)).length = 0 := rfl
    rw [h0] at h
    omega
  | x :: r, [], ha, _, e => by
    have h := congrArg List.length e
    rw [bt2_cons, List.length_append, Go.Proofs.YtmldahejeobohaaDoorTake.btk_len] at h
    have := ha.head
    have h0 : (bt2 ([] : List Cc)).length = 0 := rfl
    rw [h0] at h
    omega
  | x :: r, y :: s, ha, hb, e => by
    have hxn : ∃ b q, bys x.f1 = b :: q := by
      cases hb : bys x.f1 with
      | nil => exact absurd (by rw [← Go.Proofs.YtmldahejeobohaaDoorTake.bys_len, hb]; rfl) ha.head
      | cons b q => exact ⟨b, q, rfl⟩
    have hyn : ∃ b q, bys y.f1 = b :: q := by
      cases hb2 : bys y.f1 with
      | nil => exact absurd (by rw [← Go.Proofs.YtmldahejeobohaaDoorTake.bys_len, hb2]; rfl) hb.head
      | cons b q => exact ⟨b, q, rfl⟩
    have h0 : x.f0 = y.f0 := by
      obtain ⟨b, q, e1⟩ := hxn
      obtain ⟨b2, q2, e2⟩ := hyn
      have h := e
      rw [bt2_cons, bt2_cons] at h
      unfold btk at h
      rw [e1, e2, List.map_cons, List.map_cons, List.cons_append, List.cons_append] at h
      injection h with h _
      exact congrArg Prod.fst h
    have h1 : btk x = btk y := by
      rw [← tw_tidy ha, ← tw_tidy hb, e, h0]
    have h2 : x = y := by
      have : (btk x).map (·.2) = (btk y).map (·.2) := by rw [h1]
      unfold btk at this
      rw [List.map_map, List.map_map] at this
      have e1 : bys x.f1 = bys y.f1 := by
        have i : ∀ (k : Int) (l : List UInt8), l.map ((fun p : Int × UInt8 => p.2) ∘ fun b => (k, b)) = l := fun k l => List.map_id _
        rw [i, i] at this
        exact this
      have e2 : x.f1 = y.f1 := dat_inj e1
      cases x; cases y
      simp only at h0 e2
      rw [h0, e2]
    rw [bt2_cons, bt2_cons, h1] at e
    have h3 := List.append_cancel_left e
    rw [h2, tidy_eq r s ha.tail hb.tail h3]
theorem runs_eq {a b : List Cc} (h : bt2 a = bt2 b) : runsL eof a = runsL eof b := by
  refine tidy_eq _ _ (tidy_runs a eof (.inl rfl)).1 (tidy_runs b eof (.inl rfl)).1 ?_
  rw [Go.Proofs.YtmldahejeobohaaDoorTake.runs_bt, Go.Proofs.YtmldahejeobohaaDoorTake.runs_bt, h]
/-! ### the law -/
def gk (r : List D) (p : Int × UInt8) : Int × UInt8 := (if knB r p.1 = true then p.1 else -12, p.2)
theorem bt_uC (l : List T) : bt2 (l.map uC) = Go.Proofs.YtmldahejeobohaaDoor.Pure.bt l := by
  unfold bt2 Go.Proofs.YtmldahejeobohaaDoor.Pure.bt
  rw [List.flatMap_map]
  rfl
theorem bt_mk (r : List D) (l : List T) : Go.Proofs.YtmldahejeobohaaDoor.Pure.bt (l.map (mk r)) = (Go.Proofs.YtmldahejeobohaaDoor.Pure.bt l).map (gk r) := by
  unfold Go.Proofs.YtmldahejeobohaaDoor.Pure.bt
  rw [List.flatMap_map, List.map_flatMap]
  congr 1
  funext x
  rw [List.map_map]
  rfl
theorem knB_oth (r : List D) : knB r (-12) = false := by unfold knB; rfl
theorem knB_txt (r : List D) : knB r 8000 = false := by unfold knB; rfl
theorem knB_root {r : List D} {c : D} (h : c ∈ r) : knB r c.f0 = false := by
  unfold knB
  have : (r.all fun x => x.f0 != c.f0) = false := by
    rw [List.all_eq_false]
    exact ⟨c, h, by simp⟩
  rw [this, Bool.and_false]
theorem pcs_types : ∀ (xs : List Go.Proofs.YtmldahejeobohaaDoorTake.Ct) (s : ByteArray), ∀ x ∈ Go.Proofs.YtmldahejeobohaaDoorTake.pcsL xs s, (∃ c ∈ xs, c.f0 = x.f0) ∨ x.f0 = 8000
  | [], s => by
    intro x hx
    unfold Go.Proofs.YtmldahejeobohaaDoorTake.pcsL at hx
    split at hx
    · rw [List.mem_singleton.1 hx]; exact .inr rfl
    · cases hx
  | c :: r, s => by
    intro x hx
    unfold Go.Proofs.YtmldahejeobohaaDoorTake.pcsL at hx
    rcases List.mem_cons.1 hx with rfl | hx
    · exact .inl ⟨c, List.mem_cons_self, rfl⟩
    · rcases pcs_types r _ x hx with ⟨q, hq, e⟩ | e
      · exact .inl ⟨q, List.mem_cons_of_mem _ hq, e⟩
      · exact .inr e
theorem stm_gk (r : List D) (l : List T) : (stm r l).map (gk r) = ((Go.Proofs.YtmldahejeobohaaDoor.Pure.bt l).filter fun p => decide (p.1 = -12)).map (gk r) := by
  have h1 : (stm r l).map (gk r) = ((stm r l).map (·.2)).map fun b => ((-12 : Int), b) := by
    rw [List.map_map]
    refine List.map_congr_left fun p hp => ?_
    unfold stm at hp
    obtain ⟨t, ht, hp⟩ := List.mem_flatMap.1 hp
    obtain ⟨b, _, rfl⟩ := List.mem_map.1 hp
    show ((if knB r t.f0 = true then t.f0 else -12), b) = (-12, b)
    have : knB r t.f0 = false := by
      rcases pcs_types _ _ t ht with ⟨c, hc, e⟩ | e
      · obtain ⟨q, hq, rfl⟩ := List.mem_map.1 hc
        obtain ⟨d, hd, rfl⟩ := List.mem_map.1 hq
        rw [← e]; exact knB_root hd
      · rw [e]; exact knB_txt r
    rw [this]; rfl
  have h2 : ((Go.Proofs.YtmldahejeobohaaDoor.Pure.bt l).filter fun p => decide (p.1 = -12)).map (gk r) = (((Go.Proofs.YtmldahejeobohaaDoor.Pure.bt l).filter fun p => decide (p.1 = -12)).map (·.2)).map fun b => ((-12 : Int), b) := by
    rw [List.map_map]
    refine List.map_congr_left fun p hp => ?_
    have h := of_decide_eq_true (List.mem_filter.1 hp).2
    show ((if knB r p.1 = true then p.1 else -12), p.2) = (-12, p.2)
    rw [h, knB_oth]; rfl
  rw [h1, h2, stm_snd]
theorem mine_bt (r : List D) (l : List T) : bt2 (((dlg r l).map (mk r)).map uC) = bt2 ((l.map (mk r)).map uC) := by
  rw [bt_uC, bt_uC, bt_mk, bt_mk, bt_dlg]
  exact Go.Proofs.YtmldahejeobohaaDoorTake.inB_map (gk r) _ _ (stm_gk r l)
theorem mk_nz (r : List D) {l : List T} (h : ∀ x ∈ l, x.f0 ≠ 0) : ∀ x ∈ l.map (mk r), x.f0 ≠ 0 := by
  intro x hx
  obtain ⟨y, hy, rfl⟩ := List.mem_map.1 hx
  show (if knB r y.f0 = true then y.f0 else -12) ≠ 0
  split
  · exact h y hy
  · decide
theorem mk_nby (r : List D) (l : List T) : Go.Proofs.YtmldahejeobohaaDoorTok.nby (l.map (mk r)) = Go.Proofs.YtmldahejeobohaaDoorTok.nby l := by
  induction l with
  | nil => rfl
  | cons x q ih => rw [List.map_cons]; show _ + _ = _ + _; rw [ih]; rfl
theorem dlg_nz (r : List D) (l : List T) (hr : r.length ≤ 100) (hrz : ∀ x ∈ r, x.f0 ≠ 0) (hl : l.length ≤ 400) (hz : ∀ x ∈ l, x.f0 ≠ 0) : ∀ x ∈ dlg r l, x.f0 ≠ 0 := by
  intro x hx
  unfold dlg Go.Proofs.YtmldahejeobohaaDoorTake.delP at hx
  rw [List.map_map] at hx
  obtain ⟨y, hy, rfl⟩ := List.mem_map.1 hx
  exact (Go.Proofs.YtmldahejeobohaaDoorTake.delL_facts _ _ _ (by unfold prc; rw [List.length_map, List.length_map]; omega) (fun c hc => by
    obtain ⟨p, hp, rfl⟩ := List.mem_map.1 hc
    obtain ⟨x, hx, rfl⟩ := List.mem_map.1 hp
    exact hrz x hx) (by unfold prs; rw [List.length_map, List.length_map]; omega) (fun c hc => by
    obtain ⟨p, hp, rfl⟩ := List.mem_map.1 hc
    obtain ⟨x, hx, rfl⟩ := List.mem_map.1 hp
    exact hz x hx)).2 y hy
/-- Both sides of the law. -/
theorem known_f (r : List D) (l : List T) (hr : r.length ≤ 100) (hrz : ∀ x ∈ r, x.f0 ≠ 0) (hl : l.length ≤ 400) (hz : ∀ x ∈ l, x.f0 ≠ 0) (hs : Go.Proofs.YtmldahejeobohaaDoorTok.nby l ≤ 4000) :
    ∃ (R : List T) (k : Nat), laws_runs.f k ((dlg r l).map (mk r)) = some R ∧ laws_runs.f k (l.map (mk r)) = some R ∧ laws_same.f k R R = some true ∧ laws_waking.f k = some true ∧ (dlg r l).length ≤ 990000 := by
  have hd := dlg_len r l hr hrz hl hz
  have hn : Go.Proofs.YtmldahejeobohaaDoorTok.nby (dlg r l) = Go.Proofs.YtmldahejeobohaaDoorTok.nby l := by rw [← Go.Proofs.YtmldahejeobohaaDoorTok.txt_length, txt_dlg, Go.Proofs.YtmldahejeobohaaDoorTok.txt_length]
  obtain ⟨k1, h1⟩ := runs ((dlg r l).map (mk r)) (by rw [List.length_map]; omega) (mk_nz r (dlg_nz r l hr hrz hl hz)) (by rw [mk_nby]; omega)
  obtain ⟨k2, h2⟩ := runs (l.map (mk r)) (by rw [List.length_map]; omega) (mk_nz r hz) (by rw [mk_nby]; omega)
  rw [runs_eq (mine_bt r l)] at h1
  have hlen : ((runsL eof ((l.map (mk r)).map uC)).map uT).length ≤ 2147483647 := by
    rw [List.length_map]
    have := Go.Proofs.YtmldahejeobohaaDoorTake.runsL_len ((l.map (mk r)).map uC) eof
    rw [List.length_map, List.length_map] at this
    omega
  obtain ⟨k3, h3⟩ := Go.Proofs.YtmldahejeobohaaDoorTok.same _ _ hlen
  obtain ⟨k4, h4⟩ := Go.Proofs.YtmldahejeobohaaDoorLines.waking
  refine ⟨_, k1 + k2 + k3 + k4, h1 _ (by omega), h2 _ (by omega), (h3 _ (by omega)).trans (by simp), h4 _ (by omega), hd⟩
end Go.Proofs.YtmldahejeobohaaDoorKno
set_option linter.unusedVariables false
set_option linter.unusedSimpArgs false
namespace Go.Proofs.YtmldahejeobohaaDoorKno
open Go.RowKit Go.Proofs.YtmldahejeobohaaDoorW.PrintWords Go.Proofs.YtmldahejeobohaaDoor.K Go.Proofs.YtmldahejeobohaaDoorFmt Go.Proofs.YtmldahejeobohaaDoorEvt
/-- The law's own box, with root. -/
structure Bx (w W : World) (A0 : Option Addr) (c0 : Nat) (l0 : List D) : Prop where
  hB : Below w.heap.size w W
  hK : CutK W w.heap.size A0 c0 l0
theorem Bx.step {w W W' : World} {A0 : Option Addr} {c0 : Nat} {l0 : List D} (h : Bx w W A0 c0 l0) (hb : Below W.heap.size W W') : Bx w W' A0 c0 l0 := ⟨below_step h.hB hb, h.hK.below hb⟩
theorem Bx.cell {w W : World} {A0 : Option Addr} {c0 : Nat} {l0 : List D} (h : Bx w W A0 c0 l0) : W.cell? ⟨w.heap.size, 0, none⟩ = some (.slice A0 l0.length c0) := (blk_cell h.hK.bk 0).trans rfl
theorem Bx.lt {w W : World} {A0 : Option Addr} {c0 : Nat} {l0 : List D} (h : Bx w W A0 c0 l0) : w.heap.size < W.heap.size := blk_lt h.hK.bk
theorem Bx.start {w : World} {A0 : Option Addr} {c0 : Nat} {l0 : List D} (hr : Kd.C k29 w A0 l0.length l0) (hc : l0.length ≤ c0) : Bx w (w.alloc (.cells #[.slice A0 l0.length c0] 22)) A0 c0 l0 :=
  ⟨(Below.refl _ _).alloc (Nat.le_refl _) _, blk_new _ _, Kd.C_below hr ((Below.refl _ _).alloc (Nat.le_refl _) _), hc⟩
theorem Bx.alloc {w W : World} {A0 : Option Addr} {c0 : Nat} {l0 : List D} (h : Bx w W A0 c0 l0) (o : Obj) : Bx w (W.alloc o) A0 c0 l0 := h.step ((Below.refl _ _).alloc (Nat.le_refl _) _)
set_option maxRecDepth 100000 in
set_option maxHeartbeats 4000000 in
theorem kn_e1 (A0 : Option Addr) (c0 : Nat) (l0 : List D) (A1 : Option Addr) (c1 : Nat) (l1 : List T) (w : World) (hr0 : Kd.C k29 w A0 l0.length l0) (hc0 : l0.length ≤ c0) (hr1 : Kd.C kT w A1 l1.length l1) (hc1 : l1.length ≤ c1) (h : (l0.length : Int) > 2147483647) :
    Calls Tryd.prog 3 #[.slice A0 l0.length c0, .slice A1 l1.length c1] w fun e w' => e = .returned (.bool true) ∧ Below w.heap.size w w' := by
  have X0 := Aside0.mk (Bx.start hr0 hc0)
  have HC := Aside0.mk (And.intro hr1 hc1)
  clear hr0 hc0 hr1 hc1
  go_enter Tryd.func3, Tryd.ntmps3
  go_wp2
  go_ret
  exact ⟨rfl, X0.out.hB⟩
set_option maxRecDepth 100000 in
set_option maxHeartbeats 4000000 in
theorem kn_e2 (A0 : Option Addr) (c0 : Nat) (l0 : List D) (A1 : Option Addr) (c1 : Nat) (l1 : List T) (w : World) (hr0 : Kd.C k29 w A0 l0.length l0) (hc0 : l0.length ≤ c0) (hr1 : Kd.C kT w A1 l1.length l1) (hc1 : l1.length ≤ c1) (h : ¬ (l0.length : Int) > 2147483647) (k : Nat) (hf : laws_zzFits4.f k l1 = some false) :
    Calls Tryd.prog 3 #[.slice A0 l0.length c0, .slice A1 l1.length c1] w fun e w' => e = .returned (.bool true) ∧ Below w.heap.size w w' := by
  have X0 := Aside0.mk (Bx.start hr0 hc0)
  have HC := Aside0.mk (And.intro hr1 hc1)
  have HF := Aside0.mk hf
  clear hf
  clear hr0 hc0 hr1 hc1
  go_enter Tryd.func3, Tryd.ntmps3
  go_wp2_with (first | (go_at_call 6; refine (laws_zzFits4.calls _ A1 c1 l1 _ _ (Kd.C_below HC.out.1 X0.out.hB) HC.out.2 HF.out).mono ?_; rintro e w1 ⟨rfl, hB⟩; have X1 := Aside0.mk (X0.out.step hB); have w1c := X1.out.cell; have w1l := X1.out.lt; clear hB))
  go_ret
  exact ⟨rfl, X1.out.hB⟩
set_option maxRecDepth 100000 in
set_option maxHeartbeats 4000000 in
theorem kn_e3 (A0 : Option Addr) (c0 : Nat) (l0 : List D) (A1 : Option Addr) (c1 : Nat) (l1 : List T) (w : World) (hr0 : Kd.C k29 w A0 l0.length l0) (hc0 : l0.length ≤ c0) (hr1 : Kd.C kT w A1 l1.length l1) (hc1 : l1.length ≤ c1) (h : ¬ (l0.length : Int) > 2147483647) (k : Nat) (hf : laws_zzFits4.f k l1 = some true) (k2 : Nat) (hg : laws_cutting.f k2 l0 = some false) :
    Calls Tryd.prog 3 #[.slice A0 l0.length c0, .slice A1 l1.length c1] w fun e w' => e = .returned (.bool true) ∧ Below w.heap.size w w' := by
  have X0 := Aside0.mk (Bx.start hr0 hc0)
  have HC := Aside0.mk (And.intro hr1 hc1)
  have HF := Aside0.mk hf
  have HG := Aside0.mk hg
  clear hf hg
  clear hr0 hc0 hr1 hc1
  go_enter Tryd.func3, Tryd.ntmps3
  go_wp2_with (first | (go_at_call 6; refine (laws_zzFits4.calls _ A1 c1 l1 _ _ (Kd.C_below HC.out.1 X0.out.hB) HC.out.2 HF.out).mono ?_; rintro e w1 ⟨rfl, hB⟩; have X1 := Aside0.mk (X0.out.step hB); have w1c := X1.out.cell; have w1l := X1.out.lt; clear hB) | (go_at_call 7; refine (laws_cutting.calls _ A0 c0 l0 _ _ X1.out.hK.hC X1.out.hK.hc HG.out).mono ?_; rintro e w2 ⟨rfl, hB⟩; have X2 := Aside0.mk (X1.out.step hB); have w2c := X2.out.cell; have w2l := X2.out.lt; clear hB))
  go_ret
  exact ⟨rfl, X2.out.hB⟩
set_option maxRecDepth 100000 in
set_option maxHeartbeats 4000000 in
theorem kn_e4 (A0 : Option Addr) (c0 : Nat) (l0 : List D) (A1 : Option Addr) (c1 : Nat) (l1 : List T) (w : World) (hr0 : Kd.C k29 w A0 l0.length l0) (hc0 : l0.length ≤ c0) (hr1 : Kd.C kT w A1 l1.length l1) (hc1 : l1.length ≤ c1) (h : ¬ (l0.length : Int) > 2147483647) (k : Nat) (hf : laws_zzFits4.f k l1 = some true) (k2 : Nat) (hg : laws_cutting.f k2 l0 = some true) (k3 : Nat) (hs : laws_small.f k3 l1 = some false) :
    Calls Tryd.prog 3 #[.slice A0 l0.length c0, .slice A1 l1.length c1] w fun e w' => e = .returned (.bool true) ∧ Below w.heap.size w w' := by
  have X0 := Aside0.mk (Bx.start hr0 hc0)
  have HC := Aside0.mk (And.intro hr1 hc1)
  have HF := Aside0.mk hf
  have HG := Aside0.mk hg
  have HS := Aside0.mk hs
  clear hf hg hs
  clear hr0 hc0 hr1 hc1
  go_enter Tryd.func3, Tryd.ntmps3
  go_wp2_with (first | (go_at_call 6; refine (laws_zzFits4.calls _ A1 c1 l1 _ _ (Kd.C_below HC.out.1 X0.out.hB) HC.out.2 HF.out).mono ?_; rintro e w1 ⟨rfl, hB⟩; have X1 := Aside0.mk (X0.out.step hB); have w1c := X1.out.cell; have w1l := X1.out.lt; clear hB) | (go_at_call 7; refine (laws_cutting.calls _ A0 c0 l0 _ _ X1.out.hK.hC X1.out.hK.hc HG.out).mono ?_; rintro e w2 ⟨rfl, hB⟩; have X2 := Aside0.mk (X1.out.step hB); have w2c := X2.out.cell; have w2l := X2.out.lt; clear hB) | (go_at_call 8; refine (laws_small.calls _ A1 c1 l1 _ _ (Kd.C_below HC.out.1 X2.out.hB) HC.out.2 HS.out).mono ?_; rintro e w3 ⟨rfl, hB⟩; have X3 := Aside0.mk (X2.out.step hB); have w3c := X3.out.cell; have w3l := X3.out.lt; clear hB))
  go_ret
  exact ⟨rfl, X3.out.hB⟩
set_option maxRecDepth 100000 in
set_option maxHeartbeats 4000000 in
theorem kn_e5 (A0 : Option Addr) (c0 : Nat) (l0 : List D) (A1 : Option Addr) (c1 : Nat) (l1 : List T) (w : World) (hr0 : Kd.C k29 w A0 l0.length l0) (hc0 : l0.length ≤ c0) (hr1 : Kd.C kT w A1 l1.length l1) (hc1 : l1.length ≤ c1) (h : ¬ (l0.length : Int) > 2147483647) (k : Nat) (hf : laws_zzFits4.f k l1 = some true) (k2 : Nat) (hg : laws_cutting.f k2 l0 = some true) (k3 : Nat) (hs : laws_small.f k3 l1 = some true) (k4 : Nat) (ho : laws_hollow.f k4 l1 = some true) :
    Calls Tryd.prog 3 #[.slice A0 l0.length c0, .slice A1 l1.length c1] w fun e w' => e = .returned (.bool true) ∧ Below w.heap.size w w' := by
  have X0 := Aside0.mk (Bx.start hr0 hc0)
  have HC := Aside0.mk (And.intro hr1 hc1)
  have HF := Aside0.mk hf
  have HG := Aside0.mk hg
  have HS := Aside0.mk hs
  have HO := Aside0.mk ho
  clear hf hg hs ho
  clear hr0 hc0 hr1 hc1
  go_enter Tryd.func3, Tryd.ntmps3
  go_wp2_with (first | (go_at_call 6; refine (laws_zzFits4.calls _ A1 c1 l1 _ _ (Kd.C_below HC.out.1 X0.out.hB) HC.out.2 HF.out).mono ?_; rintro e w1 ⟨rfl, hB⟩; have X1 := Aside0.mk (X0.out.step hB); have w1c := X1.out.cell; have w1l := X1.out.lt; clear hB) | (go_at_call 7; refine (laws_cutting.calls _ A0 c0 l0 _ _ X1.out.hK.hC X1.out.hK.hc HG.out).mono ?_; rintro e w2 ⟨rfl, hB⟩; have X2 := Aside0.mk (X1.out.step hB); have w2c := X2.out.cell; have w2l := X2.out.lt; clear hB) | (go_at_call 8; refine (laws_small.calls _ A1 c1 l1 _ _ (Kd.C_below HC.out.1 X2.out.hB) HC.out.2 HS.out).mono ?_; rintro e w3 ⟨rfl, hB⟩; have X3 := Aside0.mk (X2.out.step hB); have w3c := X3.out.cell; have w3l := X3.out.lt; clear hB) | (go_at_call 9; refine (laws_hollow.calls _ A1 c1 l1 _ _ (Kd.C_below HC.out.1 X3.out.hB) HC.out.2 HO.out).mono ?_; rintro e w4 ⟨rfl, hB⟩; have X4 := Aside0.mk (X3.out.step hB); have w4c := X4.out.cell; have w4l := X4.out.lt; clear hB))
  go_ret
  exact ⟨rfl, X4.out.hB⟩
theorem del_k (A0 : Option Addr) (c0 : Nat) (l0 : List D) (A1 : Option Addr) (c1 : Nat) (l1 : List T) (w : World) (hV : VarsOK w) (hr0 : Kd.C k29 w A0 l0.length l0) (hc0 : l0.length ≤ c0) (hr1 : Kd.C kT w A1 l1.length l1) (hc1 : l1.length ≤ c1)
    (g1 : l0.length ≤ 100) (g2 : ∀ x ∈ l0, x.f0 ≠ 0) (g3 : l1.length ≤ 400) (g4 : ∀ x ∈ l1, x.f0 ≠ 0) (g5 : Go.Proofs.YtmldahejeobohaaDoorTok.nby l1 ≤ 4000) (G : List T) (hG : G = Go.Proofs.YtmldahejeobohaaDoor.Pure.dlg l0 l1) :
    Calls Tryd.prog 11 #[.slice A0 l0.length c0, .slice A1 l1.length c1] w fun e w' => ∃ A6 c6, e = .returned (.tuple #[.slice A6 G.length c6, .bool true]) ∧ (G.length ≤ c6 ∧ Kd.C kT w' A6 G.length G) ∧ Below w.heap.size w w' := by
  subst hG
  have hC0 := Go.Proofs.YtmldahejeobohaaDoorTake.C_map (d := Go.Proofs.YtmldahejeobohaaDoorTake.pC) (f := fun c : D => (c.f0, c.f1)) hr0
  have hC1 := Go.Proofs.YtmldahejeobohaaDoorTake.C_map (d := Go.Proofs.YtmldahejeobohaaDoorTake.pT) (f := fun c : T => (c.f0, c.f1)) hr1
  have hm := Go.Proofs.YtmldahejeobohaaDoorTake.delP_c A0 c0 (Go.Proofs.YtmldahejeobohaaDoor.Pure.prc l0) A1 c1 (Go.Proofs.YtmldahejeobohaaDoor.Pure.prs l1) w hV (by unfold Go.Proofs.YtmldahejeobohaaDoor.Pure.prc; rw [List.length_map]; exact hC0) (by unfold Go.Proofs.YtmldahejeobohaaDoor.Pure.prc; rw [List.length_map]; exact hc0) (by unfold Go.Proofs.YtmldahejeobohaaDoor.Pure.prs; rw [List.length_map]; exact hC1) (by unfold Go.Proofs.YtmldahejeobohaaDoor.Pure.prs; rw [List.length_map]; exact hc1) (by unfold Go.Proofs.YtmldahejeobohaaDoor.Pure.prc; rw [List.length_map]; omega) (fun c hc => by
    obtain ⟨x, hx, rfl⟩ := List.mem_map.1 hc
    exact g2 x hx) (by unfold Go.Proofs.YtmldahejeobohaaDoor.Pure.prs; rw [List.length_map]; omega) (fun c hc => by
    obtain ⟨x, hx, rfl⟩ := List.mem_map.1 hc
    exact g4 x hx) (by unfold Go.Proofs.YtmldahejeobohaaDoor.Pure.prs; rw [List.map_map]; exact Nat.le_trans (Nat.le_of_eq (Go.Proofs.YtmldahejeobohaaDoor.Pure.sum_nby l1)) (by omega))
  have e1 : (Go.Proofs.YtmldahejeobohaaDoor.Pure.prc l0).length = l0.length := List.length_map _
  have e2 : (Go.Proofs.YtmldahejeobohaaDoor.Pure.prs l1).length = l1.length := List.length_map _
  rw [e1, e2] at hm
  refine hm.mono ?_
  rintro e w' ⟨v, rfl, hR, hB⟩
  have hR2 : Kd.R kT 27 w' w.heap.size (fun _ => True) v (Go.Proofs.YtmldahejeobohaaDoor.Pure.dlg l0 l1) := Go.Proofs.YtmldahejeobohaaDoorTake.R_unmap (d := Go.Proofs.YtmldahejeobohaaDoorTake.pT) (f := fun c : T => (c.f0, c.f1)) (by
    unfold Go.Proofs.YtmldahejeobohaaDoor.Pure.dlg
    rw [List.map_map]
    exact (List.map_id _).symm ▸ hR)
  obtain ⟨A6, c6, rfl, h1, h2⟩ := Kd.R_reads hR2
  exact ⟨A6, c6, rfl, ⟨h1, h2⟩, hB⟩
set_option maxRecDepth 100000 in
set_option maxHeartbeats 8000000 in
theorem kn_main (A0 : Option Addr) (c0 : Nat) (l0 : List D) (A1 : Option Addr) (c1 : Nat) (l1 : List T) (w : World) (hr0 : Kd.C k29 w A0 l0.length l0) (hc0 : l0.length ≤ c0) (hr1 : Kd.C kT w A1 l1.length l1) (hc1 : l1.length ≤ c1) (hV : VarsOK w) (h : ¬ (l0.length : Int) > 2147483647) (k : Nat) (hf : laws_zzFits4.f k l1 = some true) (k2 : Nat) (hg : laws_cutting.f k2 l0 = some true) (k3 : Nat) (hs : laws_small.f k3 l1 = some true) (k4 : Nat) (ho : laws_hollow.f k4 l1 = some false)
    (g1 : l0.length ≤ 100) (g2 : ∀ x ∈ l0, x.f0 ≠ 0) (g3 : l1.length ≤ 400) (g4 : ∀ x ∈ l1, x.f0 ≠ 0) (g5 : Go.Proofs.YtmldahejeobohaaDoorTok.nby l1 ≤ 4000) :
    Calls Tryd.prog 3 #[.slice A0 l0.length c0, .slice A1 l1.length c1] w fun e w' => e = .returned (.bool true) ∧ Below w.heap.size w w' := by
  have X0 := Aside0.mk (Bx.start hr0 hc0)
  have HC := Aside0.mk (And.intro hr1 hc1)
  have HF := Aside0.mk hf
  have HG := Aside0.mk hg
  have HS := Aside0.mk hs
  have HO := Aside0.mk ho
  have HV := Aside0.mk hV
  have HL : Aside0 (l0.length ≤ 100 ∧ (∀ x ∈ l0, x.f0 ≠ 0) ∧ l1.length ≤ 400 ∧ (∀ x ∈ l1, x.f0 ≠ 0) ∧ Go.Proofs.YtmldahejeobohaaDoorTok.nby l1 ≤ 4000) := ⟨g1, g2, g3, g4, g5⟩
  obtain ⟨R, kk, hR1, hR2, hSm, hWk, hD⟩ := known_f l0 l1 g1 g2 g3 g4 g5
  obtain ⟨G, hG⟩ : ∃ G, G = Go.Proofs.YtmldahejeobohaaDoor.Pure.dlg l0 l1 := ⟨_, rfl⟩
  rw [← hG] at hR1 hD
  have HGG := Aside0.mk hG
  have HR1 := Aside0.mk hR1
  have HR2 := Aside0.mk hR2
  have HSm := Aside0.mk hSm
  have HWk := Aside0.mk hWk
  have HD : Aside0 (G.length ≤ 1000000) := ⟨by omega⟩
  clear hG hf hg hs ho hV hR1 hR2 hSm hWk hD g1 g2 g3 g4 g5
  clear hr0 hc0 hr1 hc1
  have hu := Tryd.underlying27
  have hu2 := Tryd.underlying29
  have hmf : ∀ (fn : Fn) (first cap : Array Value) (w : World), (Instr.makeFunc fn first cap).run Tryd.prog w = .ok (.func fn first cap) w := fun _ _ _ _ => rfl
  go_enter Tryd.func3, Tryd.ntmps3
  go_wp2_with (first | (go_at_call 6; refine (laws_zzFits4.calls _ A1 c1 l1 _ _ (Kd.C_below HC.out.1 X0.out.hB) HC.out.2 HF.out).mono ?_; rintro e w1 ⟨rfl, hB⟩; have X1 := Aside0.mk (X0.out.step hB); have w1c := X1.out.cell; have w1l := X1.out.lt; clear hB) | (go_at_call 7; refine (laws_cutting.calls _ A0 c0 l0 _ _ X1.out.hK.hC X1.out.hK.hc HG.out).mono ?_; rintro e w2 ⟨rfl, hB⟩; have X2 := Aside0.mk (X1.out.step hB); have w2c := X2.out.cell; have w2l := X2.out.lt; clear hB) | (go_at_call 8; refine (laws_small.calls _ A1 c1 l1 _ _ (Kd.C_below HC.out.1 X2.out.hB) HC.out.2 HS.out).mono ?_; rintro e w3 ⟨rfl, hB⟩; have X3 := Aside0.mk (X2.out.step hB); have w3c := X3.out.cell; have w3l := X3.out.lt; clear hB) | (go_at_call 9; refine (laws_hollow.calls _ A1 c1 l1 _ _ (Kd.C_below HC.out.1 X3.out.hB) HC.out.2 HO.out).mono ?_; rintro e w4 ⟨rfl, hB⟩; have X4 := Aside0.mk (X3.out.step hB); have w4c := X4.out.cell; have w4l := X4.out.lt; clear hB))
  go_loopg [34] (l1.length + 1) (fun kq v34 wr => ∃ (x34 : Int), v34 = .int .i64 x34 ∧ Aside0 (0 ≤ x34 ∧ x34 ≤ l1.length ∧ l1.length - x34.toNat < kq) ∧ Aside0 (Bx w wr A0 c0 l0))
  case atStart => exact ⟨0, rfl, ⟨by omega, by omega, by simp⟩, X4⟩
  case round =>
    obtain ⟨x34, rfl, HK, X5⟩ := hrel
    clear X0 X1 X2 X3 X4
    obtain ⟨wo, hwo⟩ : ∃ wo, wo = wr := ⟨_, rfl⟩
    subst hwo
    cases gk with
    | zero => have := HK.out; omega
    | succ k1 =>
      have woc := X5.out.cell
      have wol := X5.out.lt
      by_cases hlt : x34 < (l1.length : Int)
      · have hx0 : 0 ≤ x34 := HK.out.1
        have c2b0 : decide (x34 < (l1.length : Int)) = true := decide_eq_true hlt
        have hCw := Kd.C_below HC.out.1 X5.out.hB
        obtain ⟨ad, e, hy0, hy1⟩ := at_T27 hCw x34 hx0 hlt
        cases e
        have hla := World.block_lt_of_cell? wo _ hy0
        have hwr : wrap64 (x34 + 1) = x34 + 1 := by have := HL.out.2.2.1; unfold wrap64; omega
        have p1 := eq_true hx0
        have q1 := eq_true hlt
        generalize hrow : rd_T27 l1 x34 = row at *
        have XW := Aside0.mk (X5.out.alloc (.cells #[.int .i64 row.f0, .string row.f1] 27))
        have HBx := Aside0.mk (blk_new wo (.cells #[.int .i64 row.f0, .string row.f1] 27))
        clear hCw hx0 hlt
        go_wp2
        go_loopg [40] (l0.length + 1) (fun kq v40 wr => ∃ (x40 : Int), v40 = .int .i64 x40 ∧ Aside0 (0 ≤ x40 ∧ x40 ≤ l0.length ∧ l0.length - x40.toNat < kq) ∧ Aside0 (Bx w wr A0 c0 l0) ∧ Aside0 (wr.heap[wo.heap.size]? = some (.cells #[.int .i64 row.f0, .string row.f1] 27 (0, 0))))
        case atStart => exact ⟨0, rfl, ⟨by omega, by omega, by simp⟩, XW, HBx⟩
        case round =>
          obtain ⟨x40, rfl, HK2, X6, HB6⟩ := hrel
          clear XW HBx woc wol hy0 hy1 hla
          have t0 : wr.cell? ⟨wo.heap.size, 0, none⟩ = some (.int .i64 row.f0) := (blk_cell HB6.out 0).trans rfl
          have tl := blk_lt HB6.out
          cases gk with
          | zero => have := HK2.out; omega
          | succ k2 =>
            by_cases hlt2 : x40 < (l0.length : Int)
            · have hx2 : 0 ≤ x40 := HK2.out.1
              have c3b0 : decide (x40 < (l0.length : Int)) = true := decide_eq_true hlt2
              obtain ⟨ad2, e, hz0, hz1⟩ := at_T29 X6.out.hK.hC x40 hx2 hlt2
              cases e
              have hlz := World.block_lt_of_cell? wr _ hz0
              have hwr2 : wrap64 (x40 + 1) = x40 + 1 := by unfold wrap64; omega
              have p2 := eq_true hx2
              have q2 := eq_true hlt2
              generalize hrow2 : rd_T29 l0 x40 = row2 at *
              have X7 : Aside0 (∀ o, Bx w (wr.alloc o) (some ad2) c0 l0 ∧ (wr.alloc o).heap[wo.heap.size]? = some (.cells #[.int .i64 row.f0, .string row.f1] 27 (0, 0))) := ⟨fun o => ⟨X6.out.alloc o, blk_alloc HB6.out o⟩⟩
              clear hx2 hlt2
              by_cases hq : row2.f0 = row.f0
              · have hqb : (row2.f0 == row.f0) = true := beq_iff_eq.2 hq
                have HQ := Aside0.mk hq
                clear hq
                go_wp2
                go_ret
                exact ⟨rfl, (X7.out _).1.hB⟩
              · have hqb : (row2.f0 == row.f0) = false := beq_eq_false_iff_ne.2 hq
                have HQ := Aside0.mk hq
                clear hq
                go_wp2
                go_roundg k2
                case measure => omega
                case rel =>
                  have hk := HK2.out
                  have e1 : (wrap64 (x40 + 1)).toNat = x40.toNat + 1 := by rw [hwr2]; omega
                  exact ⟨wrap64 (x40 + 1), rfl, ⟨by rw [hwr2]; have := of_eq_true q2; omega⟩, ⟨(X7.out _).1⟩, ⟨(X7.out _).2⟩⟩
            · have c3b0 : decide (x40 < (l0.length : Int)) = false := decide_eq_false hlt2
              clear hlt2
              by_cases hq : row.f0 = 8000
              · have hqb : (row.f0 == 8000) = true := beq_iff_eq.2 hq
                have HQ := Aside0.mk hq
                clear hq
                go_wp2
                go_ret
                exact ⟨rfl, X6.out.hB⟩
              · have hqb : (row.f0 == 8000) = false := beq_eq_false_iff_ne.2 hq
                have HQ := Aside0.mk hq
                clear hq
                go_wp2
                go_roundg k1
                case measure => omega
                case rel =>
                  have hk := HK.out
                  have e1 : (wrap64 (x34 + 1)).toNat = x34.toNat + 1 := by rw [hwr]; omega
                  exact ⟨wrap64 (x34 + 1), rfl, ⟨by rw [hwr]; have := of_eq_true q1; omega⟩, X6⟩
      · have c2b0 : decide (x34 < (l1.length : Int)) = false := decide_eq_false hlt
        clear hlt
        go_wp2_with (first | (go_at_call 11; with_reducible refine (del_k A0 c0 l0 A1 c1 l1 _ (HV.out.below X5.out.hB) X5.out.hK.hC X5.out.hK.hc (Kd.C_below HC.out.1 X5.out.hB) HC.out.2 HL.out.1 HL.out.2.1 HL.out.2.2.1 HL.out.2.2.2.1 HL.out.2.2.2.2 G HGG.out).mono ?_; rintro e w6 ⟨A6, c6, rfl, h6, hB⟩; have X6 := Aside0.mk (X5.out.step hB); have H6 := Aside0.mk h6; have w6c := X6.out.cell; have w6l := X6.out.lt; clear hB h6) | (go_at_call 13; with_reducible refine (mine_c w.heap.size A0 c0 l0 A6 c6 G kk R _ X6.out.hK H6.out.2 H6.out.1 HD.out HR1.out).mono ?_; rintro e w7 ⟨v7, rfl, hR7, hB⟩; have X7 := Aside0.mk (X6.out.step hB); have HR7 := Aside0.mk hR7; clear hB hR7) | (go_at_call 13; with_reducible refine (mine_c w.heap.size A0 c0 l0 A1 c1 l1 kk R _ X7.out.hK (Kd.C_below HC.out.1 X7.out.hB) HC.out.2 (by have := HL.out.2.2.1; omega) HR2.out).mono ?_; rintro e w8 ⟨v8, rfl, hR8, hB⟩; obtain ⟨A7, c7, e7, hc7, hC7⟩ := Kd.R_reads (Kd.R_below HR7.out hB); subst e7; have X8 := Aside0.mk (X7.out.step hB); obtain ⟨A8, c8, e8, hc8, hC8⟩ := Kd.R_reads hR8; subst e8; have H7 := Aside0.mk (And.intro hc7 hC7); have H8 := Aside0.mk (And.intro hc8 hC8); clear hB hR8 hc7 hC7 hc8 hC8) | (go_at_call 12; with_reducible refine (laws_same.calls kk A7 c7 R A8 c8 R true _ H7.out.2 H7.out.1 H8.out.2 H8.out.1 HSm.out).mono ?_; rintro e w9 ⟨rfl, hB⟩; have X9 := Aside0.mk (X8.out.step (Drawn0.below hB)); clear hB) | (go_at_call 14; with_reducible refine (laws_waking.calls kk true _ HWk.out).mono ?_; rintro e w10 ⟨rfl, hB⟩; have X10 := Aside0.mk (X9.out.step hB); clear hB))
        go_ret
        exact ⟨rfl, X10.out.hB⟩
theorem fnKnown_c (A0 : Option Addr) (c0 : Nat) (l0 : List D) (A1 : Option Addr) (c1 : Nat) (l1 : List T) (w : World) (hr0 : Kd.C k29 w A0 l0.length l0) (hc0 : l0.length ≤ c0) (hr1 : Kd.C kT w A1 l1.length l1) (hc1 : l1.length ≤ c1) (hV : VarsOK w) :
    Calls Tryd.prog 3 #[.slice A0 l0.length c0, .slice A1 l1.length c1] w fun e w' => e = .returned (.bool true) ∧ Below w.heap.size w w' := by
  by_cases h : (l0.length : Int) > 2147483647
  · exact kn_e1 A0 c0 l0 A1 c1 l1 w hr0 hc0 hr1 hc1 h
  obtain ⟨b1, f1, f2⟩ := Go.Proofs.YtmldahejeobohaaDoorTok.fits l1
  obtain ⟨k1, f1⟩ := f1.get
  cases b1 with
  | false => exact kn_e2 A0 c0 l0 A1 c1 l1 w hr0 hc0 hr1 hc1 h k1 f1
  | true =>
    obtain ⟨f3, f4⟩ := f2 rfl
    obtain ⟨b2, g1, g2⟩ := Go.Proofs.YtmldahejeobohaaDoor.Pure.cutting l0 (by omega)
    obtain ⟨k2, g1⟩ := g1.get
    cases b2 with
    | false => exact kn_e3 A0 c0 l0 A1 c1 l1 w hr0 hc0 hr1 hc1 h k1 f1 k2 g1
    | true =>
      obtain ⟨b3, s1, s2⟩ := Go.Proofs.YtmldahejeobohaaDoorTok.small l1 f3 f4
      obtain ⟨k3, s1⟩ := s1.get
      cases b3 with
      | false => exact kn_e4 A0 c0 l0 A1 c1 l1 w hr0 hc0 hr1 hc1 h k1 f1 k2 g1 k3 s1
      | true =>
        obtain ⟨b4, o1, o2⟩ := Go.Proofs.YtmldahejeobohaaDoor.Pure.hollow l1 f3
        obtain ⟨k4, o1⟩ := o1.get
        cases b4 with
        | true => exact kn_e5 A0 c0 l0 A1 c1 l1 w hr0 hc0 hr1 hc1 h k1 f1 k2 g1 k3 s1 k4 o1
        | false =>
          obtain ⟨g3, g4⟩ := g2 rfl
          obtain ⟨s3, s4, s5⟩ := s2 rfl
          exact kn_main A0 c0 l0 A1 c1 l1 w hr0 hc0 hr1 hc1 hV h k1 f1 k2 g1 k3 s1 k4 o1 g3 (fun x hx => (g4 x hx).2.2) s3 s5 s4
end Go.Proofs.YtmldahejeobohaaDoorKno
