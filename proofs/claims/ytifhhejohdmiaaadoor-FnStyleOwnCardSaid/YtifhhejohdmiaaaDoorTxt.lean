/- An entry's text: its words, joined by one blank each, are read as the entry. Plain. -/
import Derived.Lib.Join
import Derived.Test.YtifhhejohdmiaaaDoorColMath
import Derived.Test.YtifhhejohdmiaaaDoorPar
set_option linter.unusedVariables false
set_option linter.unusedSimpArgs false
namespace Go.Proofs.YtifhhejohdmiaaaDoorEnt
open Go.RowKit Go.Proofs.YtifhhejohdmiaaaDoorW.PrintWords Go.Proofs.YtifhhejohdmiaaaDoorFmt Go.Proofs.YtifhhejohdmiaaaDoorFld
/-! ### the pieces of words joined by a blank -/
/-- A word: at least one byte, none of them a blank, all of them plain. -/
def okB (c : UInt8) : Prop := c.toNat < 128 ∧ Lib.isSp c = false
def Wd (u : List UInt8) : Prop := u ≠ [] ∧ ∀ c ∈ u, okB c
theorem byt_drop {s : ByteArray} {i : Nat} {c : UInt8} {r : List UInt8} (h : s.data.toList.drop i = c :: r) : i < s.size ∧ byt s i = c ∧ s.data.toList.drop (i + 1) = r := by
  have hlt : i < s.data.toList.length := by
    rcases Nat.lt_or_ge i s.data.toList.length with h1 | h1
    · exact h1
    · rw [List.drop_eq_nil_of_le h1] at h; cases h
  have hsz : i < s.size := by rw [← data_length]; exact hlt
  rw [List.drop_eq_getElem_cons hlt] at h
  injection h with h1 h2
  refine ⟨hsz, ?_, h2⟩
  unfold byt
  rw [dif_pos hsz, ← h1]
  rfl
theorem fsq_word (s : ByteArray) : ∀ (u : List UInt8) (i g b : Nat) (r : List UInt8), (∀ c ∈ u, okB c) → s.data.toList.drop i = u ++ r → fsq s (u.length + g) i (some b) = fsq s g (i + u.length) (some b)
  | [], i, g, b, r, _, _ => by simp
  | c :: u, i, g, b, r, hu, h => by
    obtain ⟨hlt, hb, hd⟩ := byt_drop h
    have hc := hu c List.mem_cons_self
    have hw : wid s i = 1 := by unfold wid; rw [hb, if_pos hc.1]
    have hbl : Go.Proofs.YtifhhejohdmiaaaDoorFld.blank s i = false := by unfold Go.Proofs.YtifhhejohdmiaaaDoorFld.blank; rw [hb, if_pos hc.1]; exact hc.2
    rw [show (c :: u).length + g = (u.length + g) + 1 by simp; omega, fsq, if_pos hlt, hbl, hw, if_neg (by decide)]
    rw [show ((some b : Option Nat).getD i) = b from rfl, fsq_word s u (i + 1) g b r (fun x hx => hu x (List.mem_cons_of_mem _ hx)) hd]
    congr 1
    simp; omega
theorem fsq_start (s : ByteArray) (c : UInt8) (u : List UInt8) (i g : Nat) (r : List UInt8) (hu : ∀ x ∈ c :: u, okB x) (h : s.data.toList.drop i = c :: u ++ r) : fsq s ((c :: u).length + g) i none = fsq s g (i + (c :: u).length) (some i) := by
  obtain ⟨hlt, hb, hd⟩ := byt_drop h
  have hc := hu c List.mem_cons_self
  have hw : wid s i = 1 := by unfold wid; rw [hb, if_pos hc.1]
  have hbl : Go.Proofs.YtifhhejohdmiaaaDoorFld.blank s i = false := by unfold Go.Proofs.YtifhhejohdmiaaaDoorFld.blank; rw [hb, if_pos hc.1]; exact hc.2
  rw [show (c :: u).length + g = (u.length + g) + 1 by simp; omega, fsq, if_pos hlt, hbl, hw, if_neg (by decide)]
  rw [show ((none : Option Nat).getD i) = i from rfl, fsq_word s u (i + 1) g i r (fun x hx => hu x (List.mem_cons_of_mem _ hx)) hd]
  congr 1
  simp; omega
theorem ext_l (s : ByteArray) (i j : Nat) : (s.extract i j).data.toList = (s.data.toList.drop i).take (j - i) := by
  rw [ByteArray.data_extract, Array.toList_extract, List.extract_eq_take_drop]
theorem ext_word {s : ByteArray} {i : Nat} {u r : List UInt8} (h : s.data.toList.drop i = u ++ r) : s.extract i (i + u.length) = ⟨u.toArray⟩ := by
  refine bytes_eq ?_
  rw [ext_l, Nat.add_sub_cancel_left, h, List.take_left' rfl]
theorem fs_join (s : ByteArray) : ∀ (ws : List (List UInt8)) (i g : Nat), (∀ u ∈ ws, Wd u) → s.data.toList.drop i = Lib.join ws [32] → (Lib.join ws [32]).length + 1 ≤ g → fsq s g i none = ws.map (fun u => (⟨u.toArray⟩ : ByteArray))
  | [], i, g, _, h, hg => by
    obtain ⟨g, rfl⟩ : ∃ k, g = k + 1 := ⟨g - 1, by omega⟩
    rw [Lib.join_nil] at h
    have : s.size ≤ i := by rw [← data_length]; exact List.drop_eq_nil_iff.1 h
    rw [fsq, if_neg (by omega)]; rfl
  | [u], i, g, hw, h, hg => by
    rw [Lib.join_one] at h hg
    obtain ⟨hne, hok⟩ := hw u List.mem_cons_self
    obtain ⟨c, v, rfl⟩ := List.exists_cons_of_ne_nil hne
    obtain ⟨g, rfl⟩ : ∃ k, g = (c :: v).length + (k + 1) := ⟨g - (c :: v).length - 1, by omega⟩
    have h' : s.data.toList.drop i = c :: v ++ [] := by rw [List.append_nil]; exact h
    have hend : i + (c :: v).length = s.size := by
      have := congrArg List.length h
      have hlt := (byt_drop h).1
      rw [List.length_drop, data_length] at this
      omega
    rw [fsq_start s c v i (g + 1) [] hok h', fsq, if_neg (by omega), ← hend]
    show [s.extract i (i + (c :: v).length)] = _
    rw [ext_word h']; rfl
  | u :: u2 :: ws, i, g, hw, h, hg => by
    have hj : Lib.join (u :: u2 :: ws) [32] = u ++ (32 :: Lib.join (u2 :: ws) [32]) := by
      rw [Lib.join_cons, Lib.join_cons]; simp [Lib.joinTail]
    rw [hj] at h hg
    obtain ⟨hne, hok⟩ := hw u List.mem_cons_self
    obtain ⟨c, v, rfl⟩ := List.exists_cons_of_ne_nil hne
    rw [List.length_append, List.length_cons (a := (32 : UInt8))] at hg
    obtain ⟨g, rfl⟩ : ∃ k, g = (c :: v).length + (k + 1) := ⟨g - (c :: v).length - 1, by omega⟩
    have hd : s.data.toList.drop (i + (c :: v).length) = 32 :: Lib.join (u2 :: ws) [32] := by
      rw [← List.drop_drop, h, List.drop_left' rfl]
    obtain ⟨hlt, hb, hd2⟩ := byt_drop hd
    have hbl : Go.Proofs.YtifhhejohdmiaaaDoorFld.blank s (i + (c :: v).length) = true := by unfold Go.Proofs.YtifhhejohdmiaaaDoorFld.blank; rw [hb, if_pos (by decide)]; decide
    have hwd : wid s (i + (c :: v).length) = 1 := by unfold wid; rw [hb, if_pos (by decide)]
    rw [fsq_start s c v i (g + 1) _ hok h, fsq, if_pos hlt, if_pos hbl, hwd, fs_join s (u2 :: ws) _ g (fun x hx => hw x (List.mem_cons_of_mem _ hx)) hd2 (by omega)]
    show [s.extract i (i + (c :: v).length)] ++ _ = _
    rw [ext_word h]; rfl
theorem fields_join (ws : List (List UInt8)) (hw : ∀ u ∈ ws, Wd u) : fields ⟨(Lib.join ws [32]).toArray⟩ = ws.map (fun u => (⟨u.toArray⟩ : ByteArray)) := by
  unfold fields
  refine fs_join _ ws 0 _ hw (by simp) ?_
  rw [← data_length]
  exact Nat.le_refl _
/-! ### the words of an entry -/
def triW (n : Int) (w : List UInt8) : List (List UInt8) := if n = 0 then [] else if n = 1 then [w] else [110 :: 111 :: w]
def niW (ni : Bool) : List (List UInt8) := if ni then [[110, 111, 105, 110, 104, 101, 114, 105, 116]] else []
def colW (p : List UInt8) (c : Int) : List (List UInt8) := if c = 0 then [] else [p ++ 35 :: digs 6 (c - 1).toNat]
def wds (e : Ent) : List (List UInt8) :=
  triW e.bo [98, 111, 108, 100] ++ (triW e.it [105, 116, 97, 108, 105, 99] ++ (triW e.un [117, 110, 100, 101, 114, 108, 105, 110, 101] ++ (niW e.ni ++ (colW [] e.c ++ (colW [98, 103, 58] e.b ++ colW [98, 111, 114, 100, 101, 114, 58] e.o)))))
def mkB (l : List (List UInt8)) : List ByteArray := l.map (fun u => (⟨u.toArray⟩ : ByteArray))
/-- A colour of three parts, or none. -/
def colR (c : Int) : Prop := c = 0 ∨ 1 ≤ c ∧ c ≤ 16777216
def triR (n : Int) : Prop := n = 0 ∨ n = 1 ∨ n = 2
theorem digs_ok : ∀ (k n : Nat), ∀ c ∈ digs k n, okB c
  | 0, n, c, hc => by simp [digs] at hc
  | k + 1, n, c, hc => by
    have h16 : ∀ d, d < 16 → (hexD d).toNat < 128 ∧ Lib.isSp (hexD d) = false := by decide +kernel
    rw [digs, List.mem_append, List.mem_singleton] at hc
    rcases hc with h | rfl
    · exact digs_ok k _ c h
    · exact h16 _ (Nat.mod_lt _ (by decide))
theorem ok_app {u v : List UInt8} (hu : ∀ c ∈ u, okB c) (hv : ∀ c ∈ v, okB c) : ∀ c ∈ u ++ v, okB c := fun c hc => by
  rcases List.mem_append.1 hc with h | h
  · exact hu c h
  · exact hv c h
instance (c : UInt8) : Decidable (okB c) := inferInstanceAs (Decidable (_ ∧ _))
theorem tri_ok (n : Int) (w : List UInt8) (h0 : w ≠ []) (hw : ∀ c ∈ w, okB c) : ∀ u ∈ triW n w, Wd u := by
  intro u hu
  unfold triW at hu
  by_cases h1 : n = 0
  · rw [if_pos h1] at hu; cases hu
  · rw [if_neg h1] at hu
    by_cases h2 : n = 1
    · rw [if_pos h2, List.mem_singleton] at hu; subst hu; exact ⟨h0, hw⟩
    · rw [if_neg h2, List.mem_singleton] at hu; subst hu
      exact ⟨by simp, ok_app (u := [110, 111]) (by decide) hw⟩
theorem col_ok (p : List UInt8) (c : Int) (hp : ∀ c ∈ p, okB c) : ∀ u ∈ colW p c, Wd u := by
  intro u hu
  unfold colW at hu
  by_cases h1 : c = 0
  · rw [if_pos h1] at hu; cases hu
  · rw [if_neg h1, List.mem_singleton] at hu; subst hu
    exact ⟨by simp, ok_app hp (ok_app (u := [35]) (v := digs 6 (c - 1).toNat) (by decide) (digs_ok 6 _))⟩
theorem wds_ok (e : Ent) : ∀ u ∈ wds e, Wd u := by
  intro u hu
  unfold wds at hu
  simp only [List.mem_append] at hu
  rcases hu with h | h | h | h | h | h | h
  · exact tri_ok _ _ (by decide) (by decide) u h
  · exact tri_ok _ _ (by decide) (by decide) u h
  · exact tri_ok _ _ (by decide) (by decide) u h
  · unfold niW at h
    cases hn : e.ni <;> rw [hn] at h
    · cases h
    · simp at h; subst h; exact ⟨by decide, by decide⟩
  · exact col_ok _ _ (by decide) u h
  · exact col_ok _ _ (by decide) u h
  · exact col_ok _ _ (by decide) u h
/-! ### the words are read as the entry -/
theorem ne_l {u v : List UInt8} (h : u ≠ v) : ¬ (⟨u.toArray⟩ : ByteArray) = ⟨v.toArray⟩ := fun e => h (by simpa using congrArg (fun b : ByteArray => b.data.toList) e)
theorem rd_bo (e : Ent) (n : Int) (h : triR n) (h0 : e.bo = 0) : psL (mkB (triW n [98, 111, 108, 100])) e = some { e with bo := n } := by
  rcases h with rfl | rfl | rfl
  · have hh : ({ e with bo := 0 } : Ent) = e := by
      obtain ⟨_, _, _, _, _, _, _⟩ := e; simp only at h0; subst h0; rfl
    rw [hh]; rfl
  · simp [triW, mkB, psL, stepE]
  · simp [triW, mkB, psL, stepE]
theorem rd_it (e : Ent) (n : Int) (h : triR n) (h0 : e.it = 0) : psL (mkB (triW n [105, 116, 97, 108, 105, 99])) e = some { e with it := n } := by
  rcases h with rfl | rfl | rfl
  · have hh : ({ e with it := 0 } : Ent) = e := by
      obtain ⟨_, _, _, _, _, _, _⟩ := e; simp only at h0; subst h0; rfl
    rw [hh]; rfl
  · simp [triW, mkB, psL, stepE]
  · simp [triW, mkB, psL, stepE]
theorem rd_un (e : Ent) (n : Int) (h : triR n) (h0 : e.un = 0) : psL (mkB (triW n [117, 110, 100, 101, 114, 108, 105, 110, 101])) e = some { e with un := n } := by
  rcases h with rfl | rfl | rfl
  · have hh : ({ e with un := 0 } : Ent) = e := by
      obtain ⟨_, _, _, _, _, _, _⟩ := e; simp only at h0; subst h0; rfl
    rw [hh]; rfl
  · simp [triW, mkB, psL, stepE]
  · simp [triW, mkB, psL, stepE]
theorem rd_ni (e : Ent) (n : Bool) (h0 : e.ni = false) : psL (mkB (niW n)) e = some { e with ni := n } := by
  cases n
  · have hh : ({ e with ni := false } : Ent) = e := by
      obtain ⟨_, _, _, _, _, _, _⟩ := e; simp only at h0; subst h0; rfl
    rw [hh]; rfl
  · simp [niW, mkB, psL, stepE]
theorem rd_c (e : Ent) (c : Int) (h : colR c) (h0 : e.c = 0) : psL (mkB (colW [] c)) e = some { e with c := c } := by
  rcases h with rfl | ⟨h1, h2⟩
  · have hh : ({ e with c := 0 } : Ent) = e := by
      obtain ⟨_, _, _, _, _, _, _⟩ := e; simp only at h0; subst h0; rfl
    rw [hh]; rfl
  · obtain ⟨n, rfl⟩ : ∃ n : Nat, c = (n : Int) + 1 := ⟨(c - 1).toNat, by omega⟩
    have hn : n < 16777216 := by omega
    unfold colW
    rw [if_neg (by omega), show ((n : Int) + 1 - 1).toNat = n by omega]
    show (stepE e ⟨(35 :: digs 6 n).toArray⟩).bind (psL []) = _
    have hp := pcol_digs n hn
    have hs : stepE e ⟨(35 :: digs 6 n).toArray⟩ = some { e with c := (n : Int) + 1 } := by
      unfold stepE
      rw [if_neg (ne_l (by simp)), if_neg (ne_l (by simp)), if_neg (ne_l (by simp)), if_neg (ne_l (by simp)), if_neg (ne_l (by simp)), if_neg (ne_l (by simp)), if_neg (ne_l (by simp)), if_neg (ne_l (by simp)), if_neg (ne_l (by simp))]
      rw [if_neg (by simp [Lib.hasPrefix]), if_neg (by simp [Lib.hasPrefix]), if_pos (by simp [Lib.hasPrefix]), hp, if_neg (by omega)]
    rw [hs]; rfl
theorem ex_pre (p u : List UInt8) : (⟨(p ++ u).toArray⟩ : ByteArray).extract p.length (⟨(p ++ u).toArray⟩ : ByteArray).size = ⟨u.toArray⟩ := by
  refine bytes_eq ?_
  rw [ext_l, ← data_length]
  show ((p ++ u).drop p.length).take _ = u
  rw [List.drop_left' rfl, List.take_of_length_le]
  show u.length ≤ (p ++ u).length - p.length
  rw [List.length_append]; omega
theorem rd_b (e : Ent) (c : Int) (h : colR c) (h0 : e.b = 0) : psL (mkB (colW [98, 103, 58] c)) e = some { e with b := c } := by
  rcases h with rfl | ⟨h1, h2⟩
  · have hh : ({ e with b := 0 } : Ent) = e := by
      obtain ⟨_, _, _, _, _, _, _⟩ := e; simp only at h0; subst h0; rfl
    rw [hh]; rfl
  · obtain ⟨n, rfl⟩ : ∃ n : Nat, c = (n : Int) + 1 := ⟨(c - 1).toNat, by omega⟩
    have hn : n < 16777216 := by omega
    unfold colW
    rw [if_neg (by omega), show ((n : Int) + 1 - 1).toNat = n by omega]
    show (stepE e ⟨([98, 103, 58] ++ 35 :: digs 6 n).toArray⟩).bind (psL []) = _
    have hp := pcol_digs n hn
    have hx := ex_pre [98, 103, 58] (35 :: digs 6 n)
    rw [show ([98, 103, 58] : List UInt8).length = 3 from rfl] at hx
    have hs : stepE e ⟨([98, 103, 58] ++ 35 :: digs 6 n).toArray⟩ = some { e with b := (n : Int) + 1 } := by
      unfold stepE
      rw [if_neg (ne_l (by simp)), if_neg (ne_l (by simp)), if_neg (ne_l (by simp)), if_neg (ne_l (by simp)), if_neg (ne_l (by simp)), if_neg (ne_l (by simp)), if_neg (ne_l (by simp)), if_neg (ne_l (by simp)), if_neg (ne_l (by simp))]
      rw [if_pos (by simp [Lib.hasPrefix]), hx, hp, if_neg (by omega)]
    rw [hs]; rfl
theorem rd_o (e : Ent) (c : Int) (h : colR c) (h0 : e.o = 0) : psL (mkB (colW [98, 111, 114, 100, 101, 114, 58] c)) e = some { e with o := c } := by
  rcases h with rfl | ⟨h1, h2⟩
  · have hh : ({ e with o := 0 } : Ent) = e := by
      obtain ⟨_, _, _, _, _, _, _⟩ := e; simp only at h0; subst h0; rfl
    rw [hh]; rfl
  · obtain ⟨n, rfl⟩ : ∃ n : Nat, c = (n : Int) + 1 := ⟨(c - 1).toNat, by omega⟩
    have hn : n < 16777216 := by omega
    unfold colW
    rw [if_neg (by omega), show ((n : Int) + 1 - 1).toNat = n by omega]
    show (stepE e ⟨([98, 111, 114, 100, 101, 114, 58] ++ 35 :: digs 6 n).toArray⟩).bind (psL []) = _
    have hp := pcol_digs n hn
    have hx := ex_pre [98, 111, 114, 100, 101, 114, 58] (35 :: digs 6 n)
    rw [show ([98, 111, 114, 100, 101, 114, 58] : List UInt8).length = 7 from rfl] at hx
    have hs : stepE e ⟨([98, 111, 114, 100, 101, 114, 58] ++ 35 :: digs 6 n).toArray⟩ = some { e with o := (n : Int) + 1 } := by
      unfold stepE
      rw [if_neg (ne_l (by simp)), if_neg (ne_l (by simp)), if_neg (ne_l (by simp)), if_neg (ne_l (by simp)), if_neg (ne_l (by simp)), if_neg (ne_l (by simp)), if_neg (ne_l (by simp)), if_neg (ne_l (by simp)), if_neg (ne_l (by simp))]
      rw [if_neg (by simp [Lib.hasPrefix]), if_pos (by simp [Lib.hasPrefix]), hx, hp, if_neg (by omega)]
    rw [hs]; rfl
def entT (e : Ent) : ByteArray := ⟨(Lib.join (wds e) [32]).toArray⟩
theorem mkB_app (a b : List (List UInt8)) : mkB (a ++ b) = mkB a ++ mkB b := List.map_append
theorem pse_entT (e : Ent) (h : colR e.c ∧ colR e.b ∧ colR e.o ∧ triR e.bo ∧ triR e.it ∧ triR e.un) : pse (entT e) = some e := by
  obtain ⟨h1, h2, h3, h4, h5, h6⟩ := h
  unfold pse entT
  rw [fields_join _ (wds_ok e)]
  show psL (mkB (wds e)) zeroE = some e
  unfold wds
  simp only [mkB_app]
  rw [psL_append, rd_bo zeroE _ h4 rfl, Option.bind_some, psL_append, rd_it _ _ h5 rfl, Option.bind_some, psL_append, rd_un _ _ h6 rfl, Option.bind_some, psL_append, rd_ni _ _ rfl, Option.bind_some, psL_append, rd_c _ _ h1 rfl, Option.bind_some, psL_append, rd_b _ _ h2 rfl, Option.bind_some, rd_o _ _ h3 rfl]
theorem eParse_entT (e : Ent) (h : colR e.c ∧ colR e.b ∧ colR e.o ∧ triR e.bo ∧ triR e.it ∧ triR e.un) : (match pse (entT e) with | some x => (x, true) | none => (zeroE, false)) = (e, true) := by rw [pse_entT e h]
end Go.Proofs.YtifhhejohdmiaaaDoorEnt
