/- What a delegating lexer makes of a language's tokens and of a root's: plain. -/
import Derived.Test.YtmldahejeobohaaDoorCoaP
import Derived.Lib.Strings
set_option linter.unusedVariables false
set_option linter.unusedSimpArgs false
namespace Go.Proofs.YtmldahejeobohaaDoorTake
open Go.RowKit Go.Proofs.YtmldahejeobohaaDoorW.PrintWords Go.Proofs.YtmldahejeobohaaDoor.A Go.Proofs.YtmldahejeobohaaDoorFmt
/-- The bytes of a string; a part of it. -/
abbrev bys (s : ByteArray) : List UInt8 := s.data.toList
abbrev lef (s : ByteArray) (n : Nat) : ByteArray := s.extract 0 n
abbrev rig (s : ByteArray) (n : Nat) : ByteArray := s.extract n s.size
theorem bys_len (s : ByteArray) : (bys s).length = s.size := by
  show s.data.toList.length = s.data.size
  rw [Array.length_toList]
theorem bys_cat (a b : ByteArray) : bys (a ++ b) = bys a ++ bys b := by simp [bys]
theorem bys_ext (s : ByteArray) (a b : Nat) : bys (s.extract a b) = ((bys s).drop a).take (b - a) := Lib.extract_data s a b
theorem bys_lef (s : ByteArray) (n : Nat) : bys (lef s n) = (bys s).take n := by rw [bys_ext]; simp
theorem bys_rig (s : ByteArray) (n : Nat) : bys (rig s n) = (bys s).drop n := by
  rw [bys_ext, List.take_of_length_le]
  rw [List.length_drop, bys_len]; exact Nat.le_refl _
/-- Each byte with its type. -/
def btk (t : C) : List (Int × UInt8) := (bys t.f1).map fun b => (t.f0, b)
def bt2 (l : List C) : List (Int × UInt8) := l.flatMap btk
theorem btk_len (t : C) : (btk t).length = t.f1.size := by unfold btk; rw [List.length_map, bys_len]
theorem bt2_cons (t : C) (l : List C) : bt2 (t :: l) = btk t ++ bt2 l := rfl
theorem bt2_app (a b : List C) : bt2 (a ++ b) = bt2 a ++ bt2 b := List.flatMap_append
theorem bt2_len : ∀ l : List C, (bt2 l).length = szL l
  | [] => rfl
  | t :: r => by rw [bt2_cons, List.length_append, btk_len, bt2_len r, szL_cons]
/-- Coalescing leaves each byte with its type. -/
theorem runsL_bt : ∀ (l : List C) (p : C), bt2 (runsL p l) = btk p ++ bt2 l
  | [], p => by
    unfold runsL
    split
    · rename_i h; rw [isE_eof h]; rfl
    · rfl
  | t :: r, p => by
    unfold runsL
    rw [bt2_cons]
    split
    · rename_i h
      rw [runsL_bt r p]
      have : btk t = [] := by unfold btk; rw [List.map_eq_nil_iff]; exact List.eq_nil_of_length_eq_zero (by rw [bys_len]; exact h)
      rw [this]; rfl
    · split
      · rename_i h; rw [runsL_bt r t, isE_eof h]; rfl
      · split
        · rename_i h
          rw [runsL_bt r]
          have : btk ⟨p.f0, p.f1 ++ t.f1⟩ = btk p ++ btk t := by unfold btk; rw [bys_cat, List.map_append, ← h]
          rw [this, List.append_assoc]
        · rw [bt2_cons, runsL_bt r t]
abbrev oth : Int := -12
/-- The language's bytes with the others from a stream. -/
def inter : List C → List (Int × UInt8) → List (Int × UInt8)
  | [], s => s
  | t :: r, s => if t.f0 = oth then s.take t.f1.size ++ inter r (s.drop t.f1.size) else btk t ++ inter r s
/-- How many bytes are others. -/
def osz : List C → Nat
  | [] => 0
  | t :: r => (if t.f0 = oth then t.f1.size else 0) + osz r
structure Ins where
  st : Nat
  en : Nat
  tk : List C
mutual
/-- The insertions of a language's tokens, the last one having been another's .. -/
def insL (off : Nat) : List C → List Ins
  | [] => []
  | t :: r => if t.f0 = oth then insL (off + t.f1.size) r else insO off [t] (off + t.f1.size) r
/-- .. or one of its own. -/
def insO (st : Nat) (tk : List C) (off : Nat) : List C → List Ins
  | [] => [⟨st, 0, tk⟩]
  | t :: r => if t.f0 = oth then ⟨st, off, tk⟩ :: insL (off + t.f1.size) r else insO st (tk ++ [t]) (off + t.f1.size) r
end
/-- Root's tokens q and insertions, put together from place m of the text on. -/
def merge : List C → List Ins → Nat → List C
  | q, [], _ => q
  | [], i :: r, m => i.tk ++ merge [] r (m + (i.en - i.st))
  | t :: q, i :: r, m => if i.st < m + t.f1.size then (if i.st - m = 0 then i.tk ++ merge (t :: q) r (m + (i.en - i.st)) else ⟨t.f0, lef t.f1 (i.st - m)⟩ :: (i.tk ++ merge (⟨t.f0, rig t.f1 (i.st - m)⟩ :: q) r (i.st + (i.en - i.st)))) else t :: merge q (i :: r) (m + t.f1.size)
termination_by q r _ => (r.length, q.length)
/-- Where insertions stand. -/
def WFi : Nat → List Ins → Prop
  | _, [] => True
  | m, i :: r => m ≤ i.st ∧ (r ≠ [] → i.st ≤ i.en) ∧ WFi i.en r
def gaps : Nat → List Ins → Nat
  | _, [] => 0
  | m, i :: r => (i.st - m) + gaps i.en r
theorem merge_first (i : Ins) (r : List Ins) : ∀ (q : List C) (m : Nat), m ≤ i.st → i.st - m ≤ szL q →
    ∃ q', bt2 (merge q (i :: r) m) = (bt2 q).take (i.st - m) ++ (bt2 i.tk ++ bt2 (merge q' r (i.st + (i.en - i.st)))) ∧ bt2 q' = (bt2 q).drop (i.st - m)
  | [], m, h1, h2 => by
    have e : i.st = m := by have : szL ([] : List C) = 0 := rfl; omega
    refine ⟨[], ?_, by simp [bt2]⟩
    rw [merge, bt2_app, e]
    simp [bt2]
  | t :: q, m, h1, h2 => by
    rw [szL_cons] at h2
    by_cases hlt : i.st < m + t.f1.size
    · by_cases h0 : i.st - m = 0
      · have e : i.st = m := by omega
        refine ⟨t :: q, ?_, by rw [h0]; rfl⟩
        rw [merge, if_pos hlt, if_pos h0, bt2_app, h0, e]
        rfl
      · refine ⟨⟨t.f0, rig t.f1 (i.st - m)⟩ :: q, ?_, ?_⟩
        · rw [merge, if_pos hlt, if_neg h0, bt2_cons, bt2_app, bt2_cons]
          have e1 : btk ⟨t.f0, lef t.f1 (i.st - m)⟩ = (btk t).take (i.st - m) := by unfold btk; rw [bys_lef, List.map_take]
          rw [e1, List.take_append_of_le_length (by rw [btk_len]; omega)]
        · rw [bt2_cons, bt2_cons, List.drop_append_of_le_length (by rw [btk_len]; omega)]
          congr 1
          unfold btk
          rw [bys_rig, List.map_drop]
    · obtain ⟨q', h3, h4⟩ := merge_first i r q (m + t.f1.size) (by omega) (by omega)
      have e : i.st - m = (btk t).length + (i.st - (m + t.f1.size)) := by rw [btk_len]; omega
      refine ⟨q', ?_, ?_⟩
      · rw [merge, if_neg hlt, bt2_cons, h3, bt2_cons, e, List.take_length_add_append, List.append_assoc]
      · rw [h4, bt2_cons, e, List.drop_length_add_append]
mutual
theorem merge_L (R : List C) (ro m : Nat) (q : List C) (h1 : m ≤ ro) (h2 : (ro - m) + osz R ≤ szL q) :
    bt2 (merge q (insL ro R) m) = (bt2 q).take (ro - m) ++ inter R ((bt2 q).drop (ro - m)) := by
  match R with
  | [] =>
    rw [insL, merge]
    · show _ = _ ++ (bt2 q).drop (ro - m)
      rw [List.take_append_drop]
  | t :: r =>
    rw [insL]
    rw [osz] at h2
    by_cases h : t.f0 = oth
    · rw [if_pos h] at h2 ⊢
      rw [merge_L r (ro + t.f1.size) m q (by omega) (by omega), inter, if_pos h]
      have e : ro + t.f1.size - m = (ro - m) + t.f1.size := by omega
      rw [e, List.take_add, List.append_assoc, List.drop_drop]
    · rw [if_neg h] at h2 ⊢
      rw [merge_O r ro [t] (ro + t.f1.size) m q h1 (by omega) (by show _ = _ + (t.f1.size + 0); omega) , inter, if_neg h, bt2_cons]
      show _ ++ ((btk t ++ []) ++ _) = _
      rw [List.append_nil]
theorem merge_O (R : List C) (st : Nat) (tk : List C) (ro m : Nat) (q : List C) (h1 : m ≤ st) (h2 : (st - m) + osz R ≤ szL q) (h3 : ro = st + szL tk) :
    bt2 (merge q (insO st tk ro R) m) = (bt2 q).take (st - m) ++ (bt2 tk ++ inter R ((bt2 q).drop (st - m))) := by
  match R with
  | [] =>
    rw [insO]
    obtain ⟨q', h4, h5⟩ := merge_first ⟨st, 0, tk⟩ [] q m h1 (by show st - m ≤ _; omega)
    rw [h4, merge, h5]
    · rfl
  | t :: r =>
    rw [insO]
    rw [osz] at h2
    by_cases h : t.f0 = oth
    · rw [if_pos h] at h2 ⊢
      obtain ⟨q', h4, h5⟩ := merge_first ⟨st, ro, tk⟩ (insL (ro + t.f1.size) r) q m h1 (by show st - m ≤ _; omega)
      have e : st + (ro - st) = ro := by omega
      have hq : szL q' = szL q - (st - m) := by rw [← bt2_len, h5, List.length_drop, bt2_len]
      rw [h4]
      show _ ++ (_ ++ bt2 (merge q' _ (st + (ro - st)))) = _
      rw [e, merge_L r (ro + t.f1.size) ro q' (by omega) (by omega), h5, inter, if_pos h]
      have e2 : ro + t.f1.size - ro = t.f1.size := by omega
      rw [e2]
    · rw [if_neg h] at h2 ⊢
      rw [merge_O r st (tk ++ [t]) (ro + t.f1.size) m q h1 (by omega) (by rw [h3]; unfold szL; rw [List.map_append, List.sum_append]; show _ = _ + (_ + (t.f1.size + 0)); omega), inter, if_neg h, bt2_app, List.append_assoc]
      show _ ++ (_ ++ ((btk t ++ []) ++ _)) = _
      rw [List.append_nil]
end
mutual
theorem wf_L (R : List C) (ro m : Nat) (h : m ≤ ro) : WFi m (insL ro R) ∧ gaps m (insL ro R) ≤ (ro - m) + osz R := by
  match R with
  | [] => exact ⟨trivial, Nat.zero_le _⟩
  | t :: r =>
    rw [insL, osz]
    by_cases h0 : t.f0 = oth
    · rw [if_pos h0, if_pos h0]
      obtain ⟨a, b⟩ := wf_L r (ro + t.f1.size) m (by omega)
      exact ⟨a, by omega⟩
    · rw [if_neg h0, if_neg h0]
      obtain ⟨a, b⟩ := wf_O r ro [t] (ro + t.f1.size) m h (by omega)
      exact ⟨a, by omega⟩
theorem wf_O (R : List C) (st : Nat) (tk : List C) (ro m : Nat) (h : m ≤ st) (h2 : st ≤ ro) : WFi m (insO st tk ro R) ∧ gaps m (insO st tk ro R) ≤ (st - m) + osz R := by
  match R with
  | [] => exact ⟨⟨h, fun h => absurd rfl h, trivial⟩, by show (st - m) + 0 ≤ _; omega⟩
  | t :: r =>
    rw [insO, osz]
    by_cases h0 : t.f0 = oth
    · rw [if_pos h0, if_pos h0]
      obtain ⟨a, b⟩ := wf_L r (ro + t.f1.size) ro (by omega)
      exact ⟨⟨h, fun _ => h2, a⟩, by show (st - m) + gaps ro _ ≤ _; omega⟩
    · rw [if_neg h0, if_neg h0]
      obtain ⟨a, b⟩ := wf_O r st (tk ++ [t]) (ro + t.f1.size) m h (by omega)
      exact ⟨a, by omega⟩
end
end Go.Proofs.YtmldahejeobohaaDoorTake
