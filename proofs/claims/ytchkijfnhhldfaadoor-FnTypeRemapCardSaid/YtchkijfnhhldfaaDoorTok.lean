/- Plain lemmas on the token functions of the laws and of the thin package: guards, maps, texts, comparisons. -/
import Derived.Test.YtchkijfnhhldfaaDoorRx
import Derived.Test.YtchkijfnhhldfaaDoorEvt
set_option linter.unusedVariables false
set_option linter.unusedSimpArgs false
namespace Go.Proofs.YtchkijfnhhldfaaDoorTok
open Go.RowKit Go.Proofs.YtchkijfnhhldfaaDoorEvt Go.Proofs.YtchkijfnhhldfaaDoor.R Go.Proofs.YtchkijfnhhldfaaDoorW.PrintWords

abbrev T := S30
abbrev C := S62
theorem rdT (xs : List T) (i : Nat) (h : i < xs.length) : rd_T30 xs (i : Int) = xs[i] := by
  simp [rd_T30, List.getD_eq_getElem?_getD, h]
theorem rdC (xs : List C) (i : Nat) (h : i < xs.length) : rd_T62 xs (i : Int) = xs[i] := by
  simp [rd_T62, List.getD_eq_getElem?_getD, h]

/-! ### the guards -/
theorem fits_loop (xs : List T) (hn : xs.length ≤ 2147483647) : ∀ d i : Nat, xs.length = i + d →
    ∃ b, Evt (fun k => laws_zzFits4.l0 k xs (xs.length : Int) (i : Int)) b ∧ (b = true → ∀ x ∈ xs.drop i, x.f1.size ≤ 2147483647) := by
  intro d
  induction d with
  | zero =>
    intro i hi
    refine ⟨true, Evt.step (h := fun _ => some true) (fun k => ?_) (Evt.pure _), fun _ x hx => ?_⟩
    · simp only [laws_zzFits4.l0]; rw [if_neg (by omega)]
    · rw [List.drop_eq_nil_of_le (by omega)] at hx; exact absurd hx (by simp)
  | succ d ih =>
    intro i hi
    have hlt : i < xs.length := by omega
    by_cases hb : 2147483647 < (xs[i].f1.size : Int)
    · refine ⟨false, Evt.step (h := fun _ => some false) (fun k => ?_) (Evt.pure _), fun h => absurd h (by simp)⟩
      simp only [laws_zzFits4.l0]; rw [if_pos (by omega), if_pos (by omega), if_pos (by omega), rdT _ _ hlt, laws_zzFits5.f, if_pos hb]; rfl
    · obtain ⟨b, h1, h2⟩ := ih (i + 1) (by omega)
      refine ⟨b, Evt.step (fun k => ?_) h1, fun hbt x hx => ?_⟩
      · simp only [laws_zzFits4.l0]; rw [if_pos (by omega), if_pos (by omega), if_pos (by omega), rdT _ _ hlt, laws_zzFits5.f, if_neg hb, wrap_nat (by omega)]; rfl
      · rw [List.drop_eq_getElem_cons hlt] at hx
        rcases List.mem_cons.1 hx with rfl | hx
        · omega
        · exact h2 hbt x hx
theorem fits (xs : List T) : ∃ b, Evt (fun k => laws_zzFits4.f k xs) b ∧ (b = true → xs.length ≤ 2147483647 ∧ ∀ x ∈ xs, x.f1.size ≤ 2147483647) := by
  by_cases hb : (xs.length : Int) > 2147483647
  · exact ⟨false, Evt.of (fun k => by rw [laws_zzFits4.f, if_pos hb]), fun h => absurd h (by simp)⟩
  · obtain ⟨b, h1, h2⟩ := fits_loop xs (by omega) xs.length 0 (by omega)
    exact ⟨b, Evt.congr (fun k => by rw [laws_zzFits4.f, if_neg hb]; rfl) h1, fun h => ⟨by omega, fun x hx => h2 h x (by simpa using hx)⟩⟩

/-- How many nby tokens have together. -/
def nby : List T → Nat
  | [] => 0
  | x :: r => x.f1.size + nby r
theorem nby_append (a b : List T) : nby (a ++ b) = nby a + nby b := by
  induction a with
  | nil => simp [nby]
  | cons x r ih => simp [nby, ih, Nat.add_assoc]
theorem small_loop (xs0 xs : List T) (hn : xs.length ≤ 2147483647) (hs : ∀ x ∈ xs, x.f1.size ≤ 2147483647) : ∀ (d i acc : Nat), xs.length = i + d → acc ≤ 4000 →
    ∃ b, Evt (fun k => laws_small.l0 k xs0 (acc : Int) xs (xs.length : Int) (i : Int)) b ∧ (b = true → xs0.length ≤ 400 ∧ acc + nby (xs.drop i) ≤ 4000 ∧ ∀ x ∈ xs.drop i, x.f0 ≠ 0) := by
  intro d
  induction d with
  | zero =>
    intro i acc hi hacc
    refine ⟨decide ((xs0.length : Int) ≤ 400), Evt.step (h := fun _ => some _) (fun k => ?_) (Evt.pure _), fun h => ?_⟩
    · simp only [laws_small.l0]; rw [if_neg (by omega)]
    · rw [List.drop_eq_nil_of_le (by omega)]
      refine ⟨by have := of_decide_eq_true h; omega, by simpa [nby] using hacc, by simp⟩
  | succ d ih =>
    intro i acc hi hacc
    have hlt : i < xs.length := by omega
    have hsz := hs _ (List.getElem_mem hlt)
    by_cases h0 : xs[i].f0 = 0
    · refine ⟨false, Evt.step (h := fun _ => some false) (fun k => ?_) (Evt.pure _), fun h => absurd h (by simp)⟩
      simp only [laws_small.l0]; rw [if_pos (by omega), if_pos (by omega), if_pos (by omega), rdT _ _ hlt, if_pos h0]
    have hw : wrap64 ((acc : Int) + (xs[i].f1.size : Int)) = ((acc + xs[i].f1.size : Nat) : Int) := by rw [wrap_in (by omega) (by omega)]; omega
    by_cases hb : 4000 < acc + xs[i].f1.size
    · refine ⟨false, Evt.step (h := fun _ => some false) (fun k => ?_) (Evt.pure _), fun h => absurd h (by simp)⟩
      simp only [laws_small.l0]; rw [if_pos (by omega), if_pos (by omega), if_pos (by omega), rdT _ _ hlt, if_neg h0, hw, if_pos (by omega)]
    · obtain ⟨b, h1, h2⟩ := ih (i + 1) (acc + xs[i].f1.size) (by omega) (by omega)
      refine ⟨b, Evt.step (fun k => ?_) h1, fun hbt => ?_⟩
      · simp only [laws_small.l0]; rw [if_pos (by omega), if_pos (by omega), if_pos (by omega), rdT _ _ hlt, if_neg h0, hw, if_neg (by omega), wrap_nat (by omega)]
      · obtain ⟨g1, g2, g3⟩ := h2 hbt
        rw [List.drop_eq_getElem_cons hlt]
        refine ⟨g1, by simp only [nby]; omega, fun x hx => ?_⟩
        rcases List.mem_cons.1 hx with rfl | hx
        · exact h0
        · exact g3 x hx
theorem small (xs : List T) (hn : xs.length ≤ 2147483647) (hs : ∀ x ∈ xs, x.f1.size ≤ 2147483647) :
    ∃ b, Evt (fun k => laws_small.f k xs) b ∧ (b = true → xs.length ≤ 400 ∧ nby xs ≤ 4000 ∧ ∀ x ∈ xs, x.f0 ≠ 0) := by
  obtain ⟨b, h1, h2⟩ := small_loop xs xs hn hs xs.length 0 0 (by omega) (by omega)
  refine ⟨b, Evt.congr (fun k => rfl) h1, fun h => ?_⟩
  have := h2 h
  simp only [List.drop_zero, Nat.zero_add] at this
  exact this

/-! ### inner, outer -/
def toC (x : T) : C := ⟨x.f0, x.f1⟩
def toT (x : C) : T := ⟨x.f0, x.f1⟩
theorem toT_toC (x : T) : toT (toC x) = x := rfl
theorem toC_toT (x : C) : toC (toT x) = x := rfl
theorem inner_loop (xs : List T) (hn : xs.length ≤ 2147483647) : ∀ (d i : Nat) (acc : List C), xs.length = i + d → acc.length ≤ i →
    Evt (fun k => impl_inner.l0 k acc xs (xs.length : Int) (i : Int)) (acc ++ (xs.drop i).map toC) := by
  intro d
  induction d with
  | zero =>
    intro i acc hi hacc
    refine Evt.step (h := fun _ => some _) (fun k => ?_) (Evt.pure _)
    simp only [impl_inner.l0]; rw [if_neg (by omega), List.drop_eq_nil_of_le (by omega)]; simp
  | succ d ih =>
    intro i acc hi hacc
    have hlt : i < xs.length := by omega
    have h1 := ih (i + 1) (acc ++ [toC xs[i]]) (by omega) (by simp; omega)
    rw [List.drop_eq_getElem_cons hlt, List.map_cons, ← List.singleton_append, ← List.append_assoc]
    refine Evt.step (fun k => ?_) h1
    simp only [impl_inner.l0]; rw [if_pos (by omega), if_pos (by omega), if_pos (by omega), rdT _ _ hlt, if_pos (by omega), wrap_nat (by omega)]; rfl
theorem inner (xs : List T) (hn : xs.length ≤ 2147483647) : Evt (fun k => impl_inner.f k xs) (xs.map toC) := by
  have h := inner_loop xs hn xs.length 0 [] (by omega) (by simp)
  refine Evt.congr (h := fun k => impl_inner.l0 k [] xs (xs.length : Int) 0) (fun k => rfl) ?_
  simpa using h
theorem outer_loop (xs : List C) (hn : xs.length ≤ 2147483647) : ∀ (d i : Nat) (acc : List T), xs.length = i + d → acc.length ≤ i →
    Evt (fun k => impl_outer.l0 k acc xs (xs.length : Int) (i : Int)) (acc ++ (xs.drop i).map toT) := by
  intro d
  induction d with
  | zero =>
    intro i acc hi hacc
    refine Evt.step (h := fun _ => some _) (fun k => ?_) (Evt.pure _)
    simp only [impl_outer.l0]; rw [if_neg (by omega), List.drop_eq_nil_of_le (by omega)]; simp
  | succ d ih =>
    intro i acc hi hacc
    have hlt : i < xs.length := by omega
    have h1 := ih (i + 1) (acc ++ [toT xs[i]]) (by omega) (by simp; omega)
    rw [List.drop_eq_getElem_cons hlt, List.map_cons, ← List.singleton_append, ← List.append_assoc]
    refine Evt.step (fun k => ?_) h1
    simp only [impl_outer.l0]; rw [if_pos (by omega), if_pos (by omega), if_pos (by omega), rdC _ _ hlt, if_pos (by omega), wrap_nat (by omega)]; rfl
theorem outer (xs : List C) (hn : xs.length ≤ 2147483647) : Evt (fun k => impl_outer.f k xs) (xs.map toT) := by
  have h := outer_loop xs hn xs.length 0 [] (by omega) (by simp)
  refine Evt.congr (h := fun k => impl_outer.l0 k [] xs (xs.length : Int) 0) (fun k => rfl) ?_
  simpa using h

/-! ### the text of tokens -/
def txt (xs : List T) : List UInt8 := xs.flatMap fun x => dat x.f1
theorem txt_length (xs : List T) : (txt xs).length = nby xs := by
  induction xs with
  | nil => rfl
  | cons x r ih => simp only [txt, List.flatMap_cons, List.length_append, nby] at ih ⊢; rw [ih, size_dat]
theorem text_loop (xs : List T) (hn : xs.length ≤ 2147483647) (hb : nby xs ≤ 2147483647) : ∀ (d i : Nat), xs.length = i + d →
    Evt (fun k => laws_text.l0 k ((txt (xs.take i)).map fun b => (b.toNat : Int)) xs (xs.length : Int) (i : Int)) (B (txt xs)) := by
  intro d
  induction d with
  | zero =>
    intro i hi
    refine Evt.step (h := fun _ => some _) (fun k => ?_) (Evt.pure _)
    simp only [laws_text.l0]; rw [if_neg (by omega), List.take_of_length_le (by omega)]
    congr 1
    exact dat_inj (by rw [strOfNums_bytes, dat_B])
  | succ d ih =>
    intro i hi
    have hlt : i < xs.length := by omega
    have h1 := ih (i + 1) (by omega)
    have ht : txt (xs.take (i + 1)) = txt (xs.take i) ++ dat xs[i].f1 := by
      rw [List.take_succ_eq_append_getElem hlt]; simp only [txt, List.flatMap_append, List.flatMap_cons, List.flatMap_nil, List.append_nil]
    have hlen : (txt (xs.take i)).length + xs[i].f1.size ≤ 2147483647 := by
      have e : nby xs = nby (xs.take (i + 1)) + nby (xs.drop (i + 1)) := by rw [← nby_append, List.take_append_drop]
      have e2 : (txt (xs.take (i + 1))).length = (txt (xs.take i)).length + xs[i].f1.size := by rw [ht, List.length_append, size_dat]
      rw [txt_length] at e2
      omega
    rw [ht, List.map_append] at h1
    refine Evt.step (fun k => ?_) h1
    simp only [laws_text.l0]; rw [if_pos (by omega), if_pos (by omega), if_pos (by omega), rdT _ _ hlt, if_pos (by rw [List.length_map]; omega), wrap_nat (by omega), bytesOf_dat]
theorem text (xs : List T) (hn : xs.length ≤ 2147483647) (hb : nby xs ≤ 2147483647) : Evt (fun k => laws_text.f k xs) (B (txt xs)) := by
  have h := text_loop xs hn hb xs.length 0 (by omega)
  exact Evt.congr (fun k => rfl) h

/-! ### flat -/
theorem rdLT (xs : List (List T)) (i : Nat) (h : i < xs.length) : xs.getD (i : Int).toNat ([] : List T) = xs[i] := by
  simp [List.getD_eq_getElem?_getD, h]
theorem len_flat_take (xs : List (List T)) (i : Nat) (h : i < xs.length) : (xs.take i).flatten.length + xs[i].length ≤ xs.flatten.length := by
  have e : xs.flatten = (xs.take (i + 1)).flatten ++ (xs.drop (i + 1)).flatten := by rw [← List.flatten_append, List.take_append_drop]
  have e2 : (xs.take (i + 1)).flatten = (xs.take i).flatten ++ xs[i] := by
    rw [List.take_succ_eq_append_getElem h]; simp only [List.flatten_append, List.flatten_cons, List.flatten_nil, List.append_nil]
  rw [e, e2]; simp

/-! ### same -/
attribute [local instance] Classical.propDecidable
theorem same_loop (a b : List T) (hn : a.length ≤ 2147483647) (hl : a.length = b.length) : ∀ (d i : Nat), a.length = i + d →
    Evt (fun k => laws_same.l0 k a b (a.length : Int) (i : Int)) (decide (a.drop i = b.drop i)) := by
  intro d
  induction d with
  | zero =>
    intro i hi
    rw [List.drop_eq_nil_of_le (by omega), List.drop_eq_nil_of_le (by omega)]
    refine Evt.step (h := fun _ => some _) (fun k => ?_) (Evt.pure _)
    simp only [laws_same.l0]; rw [if_neg (by omega)]; rfl
  | succ d ih =>
    intro i hi
    have hlt : i < a.length := by omega
    have hlb : i < b.length := by omega
    have h1 := ih (i + 1) (by omega)
    rw [List.drop_eq_getElem_cons hlt, List.drop_eq_getElem_cons hlb]
    have hx : (!(a[i].f0 == b[i].f0) || (!(a[i].f1.toList == b[i].f1.toList))) = true ↔ a[i] ≠ b[i] := by
      have e : a[i] = b[i] ↔ a[i].f0 = b[i].f0 ∧ a[i].f1 = b[i].f1 := by
        constructor
        · intro h; rw [h]; exact ⟨rfl, rfl⟩
        · intro ⟨h1, h2⟩
          generalize a[i] = p at h1 h2 ⊢
          generalize b[i] = q at h1 h2 ⊢
          cases p; cases q; simp_all
      rw [toList_dat, toList_dat, Ne, e, dat_ext]
      simp only [Bool.or_eq_true, Bool.not_eq_true', beq_eq_false_iff_ne, ne_eq]
      exact Classical.not_and_iff_not_or_not.symm
    by_cases he : a[i] = b[i]
    · have : decide (a[i] :: a.drop (i + 1) = b[i] :: b.drop (i + 1)) = decide (a.drop (i + 1) = b.drop (i + 1)) := by rw [decide_eq_decide, List.cons.injEq]; exact ⟨fun h => h.2, fun h => ⟨he, h⟩⟩
      rw [this]
      refine Evt.step (fun k => ?_) h1
      simp only [laws_same.l0]; rw [if_pos (by omega), if_pos (by omega), if_pos (by omega), if_pos (by omega), rdT _ _ hlt, rdT _ _ hlb, if_neg (by rw [hx]; exact fun h => h he), wrap_nat (by omega)]
    · have : decide (a[i] :: a.drop (i + 1) = b[i] :: b.drop (i + 1)) = false := by rw [decide_eq_false_iff_not, List.cons.injEq]; exact fun h => he h.1
      rw [this]
      refine Evt.step (h := fun _ => some _) (fun k => ?_) (Evt.pure _)
      simp only [laws_same.l0]; rw [if_pos (by omega), if_pos (by omega), if_pos (by omega), if_pos (by omega), rdT _ _ hlt, rdT _ _ hlb, if_pos (by rw [hx]; exact he)]
theorem same (a b : List T) (hn : a.length ≤ 2147483647) : Evt (fun k => laws_same.f k a b) (decide (a = b)) := by
  by_cases hl : a.length = b.length
  · have h := same_loop a b hn hl a.length 0 (by omega)
    rw [List.drop_zero, List.drop_zero] at h
    refine Evt.congr (fun k => ?_) h
    simp only [laws_same.f]; rw [if_pos (by omega)]; rfl
  · have : decide (a = b) = false := by
      rw [decide_eq_false_iff_not]; intro h; exact hl (by rw [h])
    rw [this]
    refine Evt.of (fun k => ?_)
    simp only [laws_same.f]; rw [if_neg (by omega)]
end Go.Proofs.YtchkijfnhhldfaaDoorTok
