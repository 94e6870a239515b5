/- Plain lemmas on the thin package's SplitLines and on the helpers of the laws on lines. -/
import Derived.Test.YtchkijfnhhldfaaDoorSplit
set_option linter.unusedVariables false
set_option linter.unusedSimpArgs false
namespace Go.Proofs.YtchkijfnhhldfaaDoorLines
open Go.RowKit Go.Proofs.YtchkijfnhhldfaaDoorEvt Go.Proofs.YtchkijfnhhldfaaDoor.R Go.Proofs.YtchkijfnhhldfaaDoorW.PrintWords Go.Proofs.YtchkijfnhhldfaaDoorTok Go.Proofs.YtchkijfnhhldfaaDoorSplit

def mmT (o : List (List Tok)) : List (List T) := o.map fun l => l.map mT
theorem line_le {o : List (List Tok)} (i : Nat) (h : i < o.length) : o[i].length ≤ o.flatten.length := by
  have e : o.flatten = (o.take i).flatten ++ (o[i] ++ (o.drop (i + 1)).flatten) := by
    rw [← List.flatten_cons, ← List.drop_eq_getElem_cons h, ← List.flatten_append, List.take_append_drop]
  rw [e]; simp; omega
theorem nls_le (l : List Tok) : nls l ≤ wgt l := by
  have := wgt_eq l
  have h : nls l ≤ (l.flatMap fun p => p.2).length := List.count_le_length
  omega
theorem lines_count (l : List Tok) : nls l ≤ (lines l).length ∧ (lines l).length ≤ nls l + 1 := by
  obtain ⟨⟨cl, tl, e, _, hn, htl⟩, _⟩ := lines_shape l
  rw [e, List.length_append, hn]
  rcases htl with rfl | ⟨o, rfl, _⟩ <;> simp
theorem sl_loop (L : List (List Tok)) (hn : L.length ≤ 2000000) (hf : L.flatten.length ≤ 1000000) : ∀ (d i : Nat) (acc : List (List T)), L.length = i + d → acc.length ≤ i →
    Evt (fun k => impl_SplitLines.l0 k acc (mm L) ((mm L).length : Int) (i : Int)) (acc ++ mmT (L.drop i)) := by
  have hl : (mm L).length = L.length := List.length_map _
  intro d
  induction d with
  | zero =>
    intro i acc hi hacc
    rw [List.drop_eq_nil_of_le (by omega)]
    refine Evt.step (h := fun _ => some _) (fun k => ?_) (Evt.pure _)
    simp only [impl_SplitLines.l0]; rw [if_neg (by omega)]; simp [mmT]
  | succ d ih =>
    intro i acc hi hacc
    have hlt : i < L.length := by omega
    have hrd : rd_L8 (mm L) (i : Int) = L[i].map mC := by
      show (mm L).getD (i : Int).toNat [] = _
      rw [rdLC _ _ (by omega)]; simp [mm]
    have hm : (L[i].map mC).map toT = L[i].map mT := by rw [List.map_map]; rfl
    have h1 := ih (i + 1) (acc ++ [L[i].map mT]) (by omega) (by simp; omega)
    have e : acc ++ mmT (L.drop i) = acc ++ [L[i].map mT] ++ mmT (L.drop (i + 1)) := by
      rw [List.drop_eq_getElem_cons hlt]; simp only [mmT, List.map_cons, List.append_assoc, List.singleton_append]
    rw [e]
    have ho := outer (L[i].map mC) (by rw [List.length_map]; have := line_le i hlt; omega)
    rw [hm] at ho
    refine Evt.step (fun k => by simp only [impl_SplitLines.l0]; rw [if_pos (by omega), if_pos (by omega), if_pos (by omega), hrd]) ?_
    refine Evt.bind ho ?_
    refine Evt.pos (by omega) ?_
    rw [wrap_nat (by omega)]
    exact h1
theorem splitLines (xs : List Tok) (hw : wgt xs ≤ 900000) : Evt (fun k => impl_SplitLines.f k (xs.map mT)) (mmT (lines xs)) := by
  have hwe := wgt_eq xs
  have hi := inner (xs.map mT) (by rw [List.length_map]; omega)
  have hm : (xs.map mT).map toC = xs.map mC := by rw [List.map_map]; rfl
  rw [hm] at hi
  refine Evt.bind hi (Evt.bind (tokens xs (by omega)) ?_)
  have h := sl_loop (lines xs) (by have := (lines_count xs).2; have := nls_le xs; omega) (by have := lines_len xs; omega) (lines xs).length 0 [] (by omega) (by simp)
  simpa using h

/-! ### flat -/
def eac (xs : List Tok) : List Int := xs.flatMap fun p => List.replicate p.2.length p.1
theorem eac_len (xs : List Tok) : (eac xs).length ≤ wgt xs := by
  induction xs with
  | nil => simp [eac, wgt]
  | cons x r ih => simp only [eac, List.flatMap_cons, List.length_append, List.length_replicate, wgt] at ih ⊢; omega
theorem rdI (xs : List Int) (i : Nat) (h : i < xs.length) : rd xs (i : Int) = xs[i] := by simp [rd, List.getD_eq_getElem?_getD, h]
theorem waking : Evt (fun k => laws_waking.f k) true := by
  have h1 := splitLines [(1000, [105, 102, 10, 120]), (2000, [121])] (by simp [wgt])
  have e : lines [(1000, [105, 102, 10, 120]), (2000, [121])] = [[(1000, [105, 102, 10])], [(1000, [120]), (2000, [121])]] := by rfl
  rw [e] at h1
  refine Evt.bind h1 ?_
  refine Evt.pos (by simp [mmT]) ?_
  refine Evt.pos (by simp [mmT]) ?_
  have t1 := text [mT (1000, [105, 102, 10])] (by simp) (by decide)
  have t2 := text [mT (1000, [120]), mT (2000, [121])] (by simp) (by decide)
  refine Evt.bind t1 ?_
  refine Evt.pos (by rw [toList_dat, dat_B]; rfl) ?_
  refine Evt.pos (by simp [mmT]) ?_
  refine Evt.bind t2 ?_
  refine Evt.of (fun k => ?_)
  rw [toList_dat, dat_B]; rfl
end Go.Proofs.YtchkijfnhhldfaaDoorLines
