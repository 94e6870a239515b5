/- The law FnStyleOwn: the printed statement. -/
import Derived.Test.YtifhhejohdmiaaaDoorGx5
import Derived.Test.YtifhhejohdmiaaaDoorTxt
set_option linter.unusedVariables false
set_option linter.unusedSimpArgs false
namespace Go.Proofs.YtifhhejohdmiaaaDoor.Pure
open Go.RowKit Go.Proofs.YtifhhejohdmiaaaDoorW.PrintWords Go.Proofs.YtifhhejohdmiaaaDoorFmt Go.Proofs.YtifhhejohdmiaaaDoorEnt Go.Proofs.YtifhhejohdmiaaaDoor.G
abbrev P := S49
/-! ### usual and lines -/
def okc (c : Int) : Prop := c = 0 ∨ 1 ≤ c ∧ c ≤ 16777216
instance (c : Int) : Decidable (okc c) := inferInstanceAs (Decidable (_ ∨ _))
def usB (e : Ent) : Bool := decide (okc e.c ∧ okc e.b ∧ okc e.o ∧ e.bo ≤ 2 ∧ e.it ≤ 2 ∧ e.un ≤ 2)
theorem us_step (l : List Int) (i : Nat) (hi : i < l.length) (hl : l.length ≤ 10) (k : Nat) (e : Ent) :
    laws_usual.l0 (k + 1) l (l.length : Int) (i : Int) e.c e.b e.o e.bo e.it e.un e.ni = if okc l[i] then laws_usual.l0 k l (l.length : Int) ((i + 1 : Nat) : Int) e.c e.b e.o e.bo e.it e.un e.ni else some false := by
  have ei : wrap64 ((i : Int) + 1) = ((i + 1 : Nat) : Int) := by unfold wrap64; omega
  have hr : rd l (i : Int) = l[i] := by
    show l.getD ((i : Int)).toNat 0 = _
    rw [Int.toNat_natCast, List.getD_eq_getElem?_getD, List.getElem?_eq_getElem hi]; rfl
  rw [laws_usual.l0, if_pos (by omega), if_pos (by omega), if_pos (by omega), hr, ei]
  generalize l[i] = c
  by_cases h0 : c = 0
  · rw [if_pos h0, if_pos (show okc c from Or.inl h0)]
  · rw [if_neg h0, laws_plain.f]
    by_cases h1 : 1 ≤ c
    · rw [if_pos h1, Option.bind_some]
      by_cases h2 : c ≤ 16777216
      · rw [if_pos (by simpa using h2), if_pos (show okc c from Or.inr ⟨h1, h2⟩)]
      · rw [if_neg (by simpa using h2), if_neg (show ¬ okc c by rintro (h | h) <;> omega)]
    · rw [if_neg h1, Option.bind_some, if_neg (by decide), if_neg (show ¬ okc c by rintro (h | h) <;> omega)]
theorem us_end (l : List Int) (k : Nat) (e : Ent) :
    laws_usual.l0 (k + 1) l (l.length : Int) (l.length : Int) e.c e.b e.o e.bo e.it e.un e.ni = some (decide (e.bo ≤ 2 ∧ e.it ≤ 2 ∧ e.un ≤ 2)) := by
  rw [laws_usual.l0, if_neg (by omega)]
  by_cases h1 : e.bo ≤ 2 <;> by_cases h2 : e.it ≤ 2 <;> simp [h1, h2]
theorem usual_f (e : Ent) (k : Nat) : laws_usual.f (k + 4) e.c e.b e.o e.bo e.it e.un e.ni = some (usB e) := by
  have h0 := us_step [e.c, e.b, e.o] 0 (by simp) (by simp) (k + 3) e
  have h1 := us_step [e.c, e.b, e.o] 1 (by simp) (by simp) (k + 2) e
  have h2 := us_step [e.c, e.b, e.o] 2 (by simp) (by simp) (k + 1) e
  have h3 := us_end [e.c, e.b, e.o] k e
  unfold laws_usual.f
  rw [Option.bind_some]
  refine h0.trans ?_
  rw [show ((0 + 1 : Nat) : Int) = ((1 : Nat) : Int) from rfl, h1, show ((1 + 1 : Nat) : Int) = ((2 : Nat) : Int) from rfl, h2, show ((2 + 1 : Nat) : Int) = (([e.c, e.b, e.o] : List Int).length : Int) from rfl, h3]
  simp only [List.getElem_cons_zero, List.getElem_cons_succ, usB]
  by_cases q0 : okc e.c <;> by_cases q1 : okc e.b <;> by_cases q2 : okc e.o <;> simp [q0, q1, q2]

/-! ### the entry's text -/
theorem colstr (n : Nat) (hn : n < 16777216) : chroma_Colour_String.f ((n : Int) + 1) = some ⟨(35 :: digs 6 n).toArray⟩ := by
  have e : wrap64 (wrap32 ((n : Int) + 1 - 1)) = (n : Int) := by unfold wrap64 wrap32; omega
  unfold chroma_Colour_String.f chroma_zzHex6.f
  rw [e, if_pos (by omega), if_pos (by omega), hex6_eq n hn, Option.bind_some]
  have hs : (⟨(digs 6 n).toArray⟩ : ByteArray).size = 6 := by rw [← data_length]; exact digs_len 6 n
  rw [hs, if_pos (by decide)]
  exact congrArg some (bytes_eq (by simp))
theorem mk_snoc (ws : List (List UInt8)) (u : List UInt8) : mkB ws ++ [(⟨u.toArray⟩ : ByteArray)] = mkB (ws ++ [u]) := by rw [mkB_app]; rfl
theorem mk_len (ws : List (List UInt8)) : (mkB ws).length = ws.length := List.length_map _
theorem bind_id (o : Option ByteArray) : (o.bind fun t => some t) = o := by cases o <;> rfl
theorem b5 (ws : List (List UInt8)) (hw : ws.length ≤ 100) (e : Ent) (h : colR e.o) (k : Nat) :
    chroma_StyleEntry_String.j5 (k + 1) (mkB ws) e.c e.b e.o e.bo e.it e.un e.ni = strings_Join.f (mkB (ws ++ colW [98, 111, 114, 100, 101, 114, 58] e.o)) ⟨#[32]⟩ := by
  rw [chroma_StyleEntry_String.j5, chroma_Colour_IsSet.f, Option.bind_some]
  rcases h with h | ⟨h1, h2⟩
  · rw [h, if_neg (by decide), bind_id, colW, if_pos rfl, List.append_nil]
  · obtain ⟨n, hn⟩ : ∃ n : Nat, e.o = (n : Int) + 1 := ⟨(e.o - 1).toNat, by omega⟩
    have hs : (⟨(35 :: digs 6 n).toArray⟩ : ByteArray).size = 7 := by rw [← data_length]; show (35 :: digs 6 n).length = 7; rw [List.length_cons, digs_len]
    have hb : (⟨#[98, 111, 114, 100, 101, 114, 58]⟩ : ByteArray) ++ ⟨(35 :: digs 6 n).toArray⟩ = ⟨([98, 111, 114, 100, 101, 114, 58] ++ 35 :: digs 6 n).toArray⟩ := bytes_eq (by simp)
    rw [if_pos (by simp; omega), hn, colstr n (by omega), Option.bind_some, hs, if_pos (by decide), if_pos (by rw [mk_len]; omega), hb, mk_snoc, bind_id, colW, if_neg (by omega), show ((n : Int) + 1 - 1).toNat = n by omega]
theorem b4 (ws : List (List UInt8)) (hw : ws.length ≤ 99) (e : Ent) (h : colR e.o) (h4 : colR e.b) (k : Nat) :
    chroma_StyleEntry_String.j4 (k + 2) (mkB ws) e.c e.b e.o e.bo e.it e.un e.ni = strings_Join.f (mkB (ws ++ (colW [98, 103, 58] e.b ++ colW [98, 111, 114, 100, 101, 114, 58] e.o))) ⟨#[32]⟩ := by
  rw [chroma_StyleEntry_String.j4, chroma_Colour_IsSet.f, Option.bind_some]
  rcases h4 with q | ⟨h1, h2⟩
  · rw [if_neg (by rw [q]; decide), b5 ws (by omega) e h, show colW [98, 103, 58] e.b = [] by rw [q]; rfl, List.nil_append]
  · obtain ⟨n, hn⟩ : ∃ n : Nat, e.b = (n : Int) + 1 := ⟨(e.b - 1).toNat, by omega⟩
    have hs : (⟨(35 :: digs 6 n).toArray⟩ : ByteArray).size = 7 := by rw [← data_length]; show (35 :: digs 6 n).length = 7; rw [List.length_cons, digs_len]
    have hb : (⟨#[98, 103, 58]⟩ : ByteArray) ++ ⟨(35 :: digs 6 n).toArray⟩ = ⟨([98, 103, 58] ++ 35 :: digs 6 n).toArray⟩ := bytes_eq (by simp)
    have hc : colW [98, 103, 58] e.b = [[98, 103, 58] ++ 35 :: digs 6 n] := by
      unfold colW
      rw [if_neg (by omega), hn, show ((n : Int) + 1 - 1).toNat = n by omega]
    have hcs : chroma_Colour_String.f e.b = _ := (congrArg _ hn).trans (colstr n (by omega))
    rw [if_pos (by simp; omega), hcs, Option.bind_some, hs, if_pos (by decide), if_pos (by rw [mk_len]; omega), hb, mk_snoc, b5 _ (by simp; omega) e h, hc, List.append_assoc]
theorem b3 (ws : List (List UInt8)) (hw : ws.length ≤ 98) (e : Ent) (h : colR e.o) (h4 : colR e.b) (h3 : colR e.c) (k : Nat) :
    chroma_StyleEntry_String.j3 (k + 3) (mkB ws) e.c e.b e.o e.bo e.it e.un e.ni = strings_Join.f (mkB (ws ++ (colW [] e.c ++ (colW [98, 103, 58] e.b ++ colW [98, 111, 114, 100, 101, 114, 58] e.o)))) ⟨#[32]⟩ := by
  rw [chroma_StyleEntry_String.j3, chroma_Colour_IsSet.f, Option.bind_some]
  rcases h3 with q | ⟨h1, h2⟩
  · rw [if_neg (by rw [q]; decide), b4 ws (by omega) e h h4, show colW [] e.c = [] by rw [q]; rfl, List.nil_append]
  · obtain ⟨n, hn⟩ : ∃ n : Nat, e.c = (n : Int) + 1 := ⟨(e.c - 1).toNat, by omega⟩
    have hc : colW [] e.c = [35 :: digs 6 n] := by
      unfold colW
      rw [if_neg (by omega), hn, show ((n : Int) + 1 - 1).toNat = n by omega]
      rfl
    have hcs : chroma_Colour_String.f e.c = _ := (congrArg _ hn).trans (colstr n (by omega))
    rw [if_pos (by simp; omega), hcs, Option.bind_some, if_pos (by rw [mk_len]; omega), mk_snoc, b4 _ (by simp; omega) e h h4, hc, List.append_assoc]
theorem b2 (ws : List (List UInt8)) (hw : ws.length ≤ 97) (e : Ent) (h : colR e.o) (h4 : colR e.b) (h3 : colR e.c) (k : Nat) :
    chroma_StyleEntry_String.j2 (k + 4) (mkB ws) e.c e.b e.o e.bo e.it e.un e.ni = strings_Join.f (mkB (ws ++ (niW e.ni ++ (colW [] e.c ++ (colW [98, 103, 58] e.b ++ colW [98, 111, 114, 100, 101, 114, 58] e.o))))) ⟨#[32]⟩ := by
  rw [chroma_StyleEntry_String.j2]
  by_cases q : e.ni = true
  · rw [if_pos q, if_pos (by rw [mk_len]; omega), show (⟨#[110, 111, 105, 110, 104, 101, 114, 105, 116]⟩ : ByteArray) = ⟨([110, 111, 105, 110, 104, 101, 114, 105, 116] : List UInt8).toArray⟩ from rfl, mk_snoc, b3 _ (by simp; omega) e h h4 h3, show niW e.ni = [[110, 111, 105, 110, 104, 101, 114, 105, 116]] by rw [q]; rfl, List.append_assoc]
  · rw [if_neg q, b3 ws (by omega) e h h4 h3, show niW e.ni = [] by rw [show e.ni = false by simpa using q]; rfl, List.nil_append]
theorem tri_f (n : Int) (w : List UInt8) (hw : w.length ≤ 100) (h : n = 1 ∨ n = 2) : ∃ u, chroma_Trilean_Prefix.f n ⟨w.toArray⟩ = some ⟨u.toArray⟩ ∧ triW n w = [u] := by
  have hs : (⟨w.toArray⟩ : ByteArray).size = w.length := rfl
  rcases h with rfl | rfl
  · exact ⟨w, rfl, rfl⟩
  · refine ⟨110 :: 111 :: w, ?_, rfl⟩
    unfold chroma_Trilean_Prefix.f
    rw [if_neg (by decide), if_pos rfl, hs, if_pos (by omega)]
    exact congrArg some (bytes_eq (by simp))
theorem b1 (ws : List (List UInt8)) (hw : ws.length ≤ 96) (e : Ent) (h : colR e.o) (h4 : colR e.b) (h3 : colR e.c) (h5 : triR e.un) (k : Nat) :
    chroma_StyleEntry_String.j1 (k + 5) (mkB ws) e.c e.b e.o e.bo e.it e.un e.ni = strings_Join.f (mkB (ws ++ (triW e.un [117, 110, 100, 101, 114, 108, 105, 110, 101] ++ (niW e.ni ++ (colW [] e.c ++ (colW [98, 103, 58] e.b ++ colW [98, 111, 114, 100, 101, 114, 58] e.o)))))) ⟨#[32]⟩ := by
  rw [chroma_StyleEntry_String.j1]
  rcases h5 with q | q
  · rw [if_pos q, b2 ws (by omega) e h h4 h3, show triW e.un [117, 110, 100, 101, 114, 108, 105, 110, 101] = [] by rw [q]; rfl, List.nil_append]
  · obtain ⟨u, hu, ht⟩ := tri_f e.un [117, 110, 100, 101, 114, 108, 105, 110, 101] (by decide) q
    rw [if_neg (by omega), hu, Option.bind_some, if_pos (by rw [mk_len]; omega), mk_snoc, b2 _ (by simp; omega) e h h4 h3, ht, List.append_assoc]
theorem b0 (ws : List (List UInt8)) (hw : ws.length ≤ 95) (e : Ent) (h : colR e.o) (h4 : colR e.b) (h3 : colR e.c) (h5 : triR e.un) (h6 : triR e.it) (k : Nat) :
    chroma_StyleEntry_String.j0 (k + 6) (mkB ws) e.c e.b e.o e.bo e.it e.un e.ni = strings_Join.f (mkB (ws ++ (triW e.it [105, 116, 97, 108, 105, 99] ++ (triW e.un [117, 110, 100, 101, 114, 108, 105, 110, 101] ++ (niW e.ni ++ (colW [] e.c ++ (colW [98, 103, 58] e.b ++ colW [98, 111, 114, 100, 101, 114, 58] e.o))))))) ⟨#[32]⟩ := by
  rw [chroma_StyleEntry_String.j0]
  rcases h6 with q | q
  · rw [if_pos q, b1 ws (by omega) e h h4 h3 h5, show triW e.it [105, 116, 97, 108, 105, 99] = [] by rw [q]; rfl, List.nil_append]
  · obtain ⟨u, hu, ht⟩ := tri_f e.it [105, 116, 97, 108, 105, 99] (by decide) q
    rw [if_neg (by omega), hu, Option.bind_some, if_pos (by rw [mk_len]; omega), mk_snoc, b1 _ (by simp; omega) e h h4 h3 h5, ht, List.append_assoc]
theorem str_join (e : Ent) (h : colR e.o) (h4 : colR e.b) (h3 : colR e.c) (h5 : triR e.un) (h6 : triR e.it) (h7 : triR e.bo) (k : Nat) :
    chroma_StyleEntry_String.f (k + 6) e.c e.b e.o e.bo e.it e.un e.ni = strings_Join.f (mkB (wds e)) ⟨#[32]⟩ := by
  unfold chroma_StyleEntry_String.f
  rw [Option.bind_some]
  rcases h7 with q | q
  · rw [if_pos q, show ([] : List ByteArray) = mkB [] from rfl, b0 [] (by simp) e h h4 h3 h5 h6]
    unfold wds
    rw [show triW e.bo [98, 111, 108, 100] = [] by rw [q]; rfl]
  · obtain ⟨u, hu, ht⟩ := tri_f e.bo [98, 111, 108, 100] (by decide) q
    rw [if_neg (by omega), hu, Option.bind_some, if_pos (by decide), show ([] : List ByteArray) ++ [(⟨u.toArray⟩ : ByteArray)] = mkB [u] from rfl, b0 _ (by simp) e h h4 h3 h5 h6]
    unfold wds
    rw [ht]
theorem join_le : ∀ (ws : List (List UInt8)), (∀ u ∈ ws, u.length ≤ 20) → (Lib.join ws [32]).length ≤ 21 * ws.length
  | [], _ => by rw [Lib.join_nil]; simp
  | [u], h => by rw [Lib.join_one]; have := h u List.mem_cons_self; simp; omega
  | u :: u2 :: ws, h => by
    have hj : Lib.join (u :: u2 :: ws) [32] = u ++ (32 :: Lib.join (u2 :: ws) [32]) := by
      rw [Lib.join_cons, Lib.join_cons]; simp [Lib.joinTail]
    have h1 := h u List.mem_cons_self
    have h2 := join_le (u2 :: ws) (fun x hx => h x (List.mem_cons_of_mem _ hx))
    rw [hj, List.length_append, List.length_cons, List.length_cons (a := u)]
    omega
theorem tri_le (n : Int) (w : List UInt8) (hw : w.length ≤ 18) : (triW n w).length ≤ 1 ∧ ∀ u ∈ triW n w, u.length ≤ 20 := by
  unfold triW
  by_cases h1 : n = 0
  · rw [if_pos h1]; simp
  · rw [if_neg h1]
    by_cases h2 : n = 1
    · rw [if_pos h2]; simp; omega
    · rw [if_neg h2]; simp; omega
theorem col_le (p : List UInt8) (c : Int) (hp : p.length ≤ 10) : (colW p c).length ≤ 1 ∧ ∀ u ∈ colW p c, u.length ≤ 20 := by
  unfold colW
  by_cases h1 : c = 0
  · rw [if_pos h1]; simp
  · rw [if_neg h1]
    have := digs_len 6 (c - 1).toNat
    refine ⟨by simp, fun u hu => ?_⟩
    rw [List.mem_singleton] at hu
    rw [hu, List.length_append, List.length_cons, this]; omega
theorem ni_le (b : Bool) : (niW b).length ≤ 1 ∧ ∀ u ∈ niW b, u.length ≤ 20 := by cases b <;> simp [niW]
theorem wds_le (e : Ent) : (wds e).length ≤ 7 ∧ ∀ u ∈ wds e, u.length ≤ 20 := by
  have h1 := tri_le e.bo [98, 111, 108, 100] (by decide)
  have h2 := tri_le e.it [105, 116, 97, 108, 105, 99] (by decide)
  have h3 := tri_le e.un [117, 110, 100, 101, 114, 108, 105, 110, 101] (by decide)
  have h4 := ni_le e.ni
  have h5 := col_le [] e.c (by decide)
  have h6 := col_le [98, 103, 58] e.b (by decide)
  have h7 := col_le [98, 111, 114, 100, 101, 114, 58] e.o (by decide)
  unfold wds
  refine ⟨by simp only [List.length_append]; omega, fun u hu => ?_⟩
  simp only [List.mem_append] at hu
  rcases hu with h | h | h | h | h | h | h
  · exact h1.2 u h
  · exact h2.2 u h
  · exact h3.2 u h
  · exact h4.2 u h
  · exact h5.2 u h
  · exact h6.2 u h
  · exact h7.2 u h
theorem join_ent (e : Ent) : strings_Join.f (mkB (wds e)) ⟨#[32]⟩ = some (entT e) := by
  have hm : (mkB (wds e)).map (·.data.toList) = wds e := by
    unfold mkB
    rw [List.map_map]
    exact List.map_id _
  obtain ⟨h1, h2⟩ := wds_le e
  have h3 := join_le _ h2
  unfold strings_Join.f
  rw [hm, if_pos (by rw [mk_len]; omega)]
  rw [if_pos (by show (Lib.join (wds e) [32]).length ≤ _; omega)]
  rfl
theorem entT_size (e : Ent) : (entT e).size ≤ 147 := by
  obtain ⟨h1, h2⟩ := wds_le e
  have h3 := join_le _ h2
  rw [← data_length]
  show (Lib.join (wds e) [32]).length ≤ _
  omega
/-! ### the tests at the beginning -/
theorem rdP (l : List P) (i : Nat) (hi : i < l.length) : rd_T49 l (i : Int) = l[i] := by
  unfold rd_T49
  rw [Int.toNat_natCast, List.getD_eq_getElem?_getD, List.getElem?_eq_getElem hi]; rfl
theorem wsucc (i n : Nat) (hi : i < n) (hn : n ≤ 9223372036854775807) : wrap64 ((i : Int) + 1) = ((i + 1 : Nat) : Int) := by unfold wrap64; omega
theorem fits_l (l : List P) (hl : l.length ≤ 9223372036854775807) : ∀ (m i : Nat), i + m = l.length → ∃ b, Ev (fun k => laws_zzFits2.l0 k l (l.length : Int) (i : Int)) b := by
  intro m
  induction m with
  | zero =>
    intro i h
    exact ⟨true, Ev.step (f := fun _ => some true) (fun k => by rw [laws_zzFits2.l0, if_neg (by omega)]) (Ev.now true)⟩
  | succ m ih =>
    intro i h
    have hi : i < l.length := by omega
    obtain ⟨b, hb⟩ := ih (i + 1) (by omega)
    by_cases hz : ((l[i].f1).size : Int) > 2147483647
    · exact ⟨false, Ev.step (f := fun _ => some false) (fun k => by
        rw [laws_zzFits2.l0, if_pos (by omega), if_pos (by omega), if_pos (by omega), rdP l i hi, laws_zzFits3.f, if_pos hz]; rfl) (Ev.now false)⟩
    · exact ⟨b, Ev.step (fun k => by
        rw [laws_zzFits2.l0, if_pos (by omega), if_pos (by omega), if_pos (by omega), rdP l i hi, laws_zzFits3.f, if_neg hz, Option.bind_some, if_pos rfl, wsucc i _ hi hl]) hb⟩
theorem fits_ev (l : List P) (hl : l.length ≤ 9223372036854775807) : ∃ b, Ev (fun k => laws_zzFits2.f k l) b := by
  by_cases h : (l.length : Int) > 2147483647
  · exact ⟨false, Ev.congr (f := fun _ => some false) (fun k => by rw [laws_zzFits2.f, if_pos h]) (Ev.now false)⟩
  · obtain ⟨b, hb⟩ := fits_l l hl l.length 0 (by omega)
    exact ⟨b, Ev.congr (fun k => by rw [laws_zzFits2.f, if_neg h]; rfl) hb⟩
/-- Few lines, each short, and few types asked. -/
def Few (l : List P) (ask : List Int) : Prop := l.length ≤ 30 ∧ ask.length ≤ 30 ∧ ∀ p ∈ l, p.f1.size ≤ 100
theorem few_l (l : List P) (ask : List Int) (hl : l.length ≤ 9223372036854775807) : ∀ (m i : Nat), i + m = l.length → (∀ p ∈ l.take i, p.f1.size ≤ 100) →
    Ev (fun k => laws_few.l0 k l ask l (l.length : Int) (i : Int)) false ∨ (Ev (fun k => laws_few.l0 k l ask l (l.length : Int) (i : Int)) true ∧ Few l ask) := by
  intro m
  induction m with
  | zero =>
    intro i h hp
    have hi : i = l.length := by omega
    subst hi
    rw [List.take_length] at hp
    by_cases h1 : (l.length : Int) ≤ 30
    · by_cases h2 : (ask.length : Int) ≤ 30
      · exact .inr ⟨Ev.step (f := fun _ => some true) (fun k => by rw [laws_few.l0, if_neg (by omega), if_pos h1, decide_eq_true h2]) (Ev.now true), by omega, by omega, hp⟩
      · exact .inl (Ev.step (f := fun _ => some false) (fun k => by rw [laws_few.l0, if_neg (by omega), if_pos h1, decide_eq_false h2]) (Ev.now false))
    · exact .inl (Ev.step (f := fun _ => some false) (fun k => by rw [laws_few.l0, if_neg (by omega), if_neg h1]) (Ev.now false))
  | succ m ih =>
    intro i h hp
    have hi : i < l.length := by omega
    by_cases hz : ((l[i].f1).size : Int) > 100
    · exact .inl (Ev.step (f := fun _ => some false) (fun k => by
        rw [laws_few.l0, if_pos (by omega), if_pos (by omega), if_pos (by omega), rdP l i hi, if_pos hz]) (Ev.now false))
    · have hst : ∀ k, laws_few.l0 (k + 1) l ask l (l.length : Int) (i : Int) = laws_few.l0 k l ask l (l.length : Int) ((i + 1 : Nat) : Int) := fun k => by
        rw [laws_few.l0, if_pos (by omega), if_pos (by omega), if_pos (by omega), rdP l i hi, if_neg hz, wsucc i _ hi hl]
      rcases ih (i + 1) (by omega) (fun p hm => by
        rw [List.take_succ_eq_append_getElem hi, List.mem_append, List.mem_singleton] at hm
        rcases hm with hm | rfl
        · exact hp p hm
        · omega) with h1 | ⟨h1, h2⟩
      · exact .inl (Ev.step hst h1)
      · exact .inr ⟨Ev.step hst h1, h2⟩
theorem few_ev (l : List P) (ask : List Int) (hl : l.length ≤ 9223372036854775807) : Ev (fun k => laws_few.f k l ask) false ∨ (Ev (fun k => laws_few.f k l ask) true ∧ Few l ask) :=
  few_l l ask hl l.length 0 (by omega) (fun p hp => by rw [List.take_zero] at hp; cases hp)
theorem okP_few {l : List P} {ask : List Int} (h : Few l ask) (hw : ∀ x ∈ l, wf_S49 x) : impl_StyleGet.okP l = true := by
  unfold impl_StyleGet.okP
  rw [Bool.and_eq_true, decide_eq_true_eq, List.all_eq_true]
  refine ⟨by have := h.1; omega, fun x hx => ?_⟩
  rw [Bool.and_eq_true, decide_eq_true_eq]
  refine ⟨?_, by have := h.2.2 x hx; omega⟩
  have := (hw x hx).1
  simpa [Lit.wf] using this
theorem okA_few {l : List P} {ask : List Int} (h : Few l ask) (hw : ∀ x ∈ ask, IntKind.i64.min ≤ x ∧ x ≤ IntKind.i64.max) : impl_StyleGet.okA ask = true := by
  unfold impl_StyleGet.okA
  rw [Bool.and_eq_true, decide_eq_true_eq, List.all_eq_true]
  refine ⟨by have := h.2.1; omega, fun x hx => ?_⟩
  have := hw x hx
  simpa [Lit.wf] using this
/-! ### one line more, that does not inherit -/
theorem lineF_more (l : List (Int × ByteArray)) (p : Int × ByteArray) (y : Int) : lineF (l ++ [p]) y = if y = p.1 then some p.2 else lineF l y := by rw [lineF_snoc]
theorem bad_more (l : List (Int × ByteArray)) (t : Int) (s : ByteArray) (e : Ent) (hp : pse s = some e) (h : badL l = false) : badL (l ++ [(t, s)]) = false := by
  unfold badL at h ⊢
  rw [List.any_eq_false] at h ⊢
  rintro ⟨k, u⟩ hm
  simp only [Bool.and_eq_true, decide_eq_true_eq, not_and, lineF_more]
  intro h1
  by_cases hk : k = t
  · rw [if_pos hk] at h1
    obtain rfl := Option.some.inj h1
    rw [hp]
    simp
  · rw [if_neg hk] at h1
    have := h (k, u) (lineF_mem l k u h1)
    simp only [Bool.and_eq_true, decide_eq_true_eq, not_and] at this
    exact this h1
theorem inhL_stop (e : Ent) (l : List Ent) (h : e.ni = true) : inhL e l = e := fold_stop e _ h
theorem full_own (l : List (Int × ByteArray)) (t : Int) (s : ByteArray) (e : Ent) (hp : pse s = some e) (hn : e.ni = true) : fullS [lineE (l ++ [(t, s)])] t = e := by
  have h0 : at0 (lineE (l ++ [(t, s)])) t = e := by
    unfold at0 lineE
    rw [lineF_more, if_pos rfl, Option.bind_some, hp]
    rfl
  have hz : isZ e = false := by
    unfold isZ
    rw [hn]
    simp
  have hg : getS [lineE (l ++ [(t, s)])] t = e := by
    unfold getS
    rw [h0, if_neg (by rw [hz]; decide)]
  unfold fullS
  rw [hg, inhL_stop e _ hn]
theorem FnStyleOwn : laws_FnStyleOwn.Pure := by
  intro l t c b o bo it un ni hl ht hw
  obtain ⟨hl, hws⟩ := hl
  have hmin : IntKind.u8.min = 0 := by decide
  have hw' : wf_S23 (⟨c, b, o, bo, it, un, ni⟩ : S23) := hw
  unfold wf_S23 at hw'
  simp only [hmin] at hw'
  apply Ev.rounds
  obtain ⟨fb, hfb⟩ := fits_ev l hl
  have hj : ∀ k, laws_FnStyleOwn.j0 (k + 1) l t true c b o bo it un ni = some true := fun k => by rw [laws_FnStyleOwn.j0, if_pos rfl]
  have hj0 : Ev (fun k => laws_FnStyleOwn.j0 k l t true c b o bo it un ni) true := Ev.step (f := fun _ => some true) hj (Ev.now true)
  have hus : Ev (fun k => laws_usual.f k c b o bo it un ni) (usB ⟨c, b, o, bo, it, un, ni⟩) := ⟨4, fun k hk => by
    obtain ⟨m, rfl⟩ : ∃ m, k = m + 4 := ⟨k - 4, by omega⟩
    exact usual_f ⟨c, b, o, bo, it, un, ni⟩ m⟩
  refine Ev.bind hfb ?_
  cases fb with
  | false => exact Ev.congr (f := fun _ => some true) (fun k => by rw [if_neg (by decide)]) (Ev.now true)
  | true =>
    refine Ev.congr (fun k => by rw [if_pos rfl]) ?_
    rcases few_ev l ([] : List Int) hl with h | ⟨h, hf⟩
    · exact Ev.bind h (Ev.congr (fun k => by rw [if_neg (by decide)]) hj0)
    · refine Ev.bind h (Ev.congr (fun k => by rw [if_pos rfl]) (Ev.bind hus ?_))
      cases hu : usB ⟨c, b, o, bo, it, un, ni⟩ with
      | false => exact hj0
      | true =>
        unfold usB at hu
        have hu' := of_decide_eq_true hu
        simp only at hu'
        obtain ⟨h1, h2, h3, h4, h5, h6⟩ := hu'
        have t4 : triR bo := by unfold triR; omega
        have t5 : triR it := by unfold triR; omega
        have t6 : triR un := by unfold triR; omega
        have hP := okP_few hf hws
        have hA : impl_StyleGet.okA [] = true := by decide
        have hg1 : impl_StyleGet.f l [] = some ([], !badL (l.map impl_StyleGet.toP)) := by
          unfold impl_StyleGet.f
          rw [if_pos hP, if_pos hA]
          cases badL (l.map impl_StyleGet.toP) with
          | true => rw [if_pos rfl]; rfl
          | false => rw [if_neg (by decide)]; rfl
        have hst : ∀ k, laws_FnStyleOwn.j0 (k + 1) l t (!true) c b o bo it un ni = _ := fun k => by rw [laws_FnStyleOwn.j0, if_neg (by decide), hg1, Option.bind_some]
        refine Ev.step hst ?_
        cases hb : badL (l.map impl_StyleGet.toP) with
        | true => exact Ev.congr (f := fun _ => some true) (fun k => by simp only; rw [if_neg (by decide)]; rfl) (Ev.now true)
        | false =>
          refine Ev.congr (fun k => by simp only; rw [if_pos (by decide), if_pos (by have := hf.1; simp; omega), Option.bind_some, List.nil_append]) ?_
          have hs : Ev (fun k => impl_EntryString.f k c b o bo it un true) (entT ⟨c, b, o, bo, it, un, true⟩) := ⟨6, fun k hk => by
            obtain ⟨m, rfl⟩ : ∃ m, k = m + 6 := ⟨k - 6, by omega⟩
            unfold impl_EntryString.f
            simp only [impl_entered.f, Option.bind_some]
            have := str_join ⟨c, b, o, bo, it, un, true⟩ h3 h2 h1 t6 t5 t4 m
            rw [join_ent] at this
            rw [this]
            rfl⟩
          have hps : pse (entT ⟨c, b, o, bo, it, un, true⟩) = some ⟨c, b, o, bo, it, un, true⟩ := pse_entT _ ⟨h1, h2, h3, t4, t5, t6⟩
          have hsz := entT_size ⟨c, b, o, bo, it, un, true⟩
          have hg2 : impl_StyleGet.f (l ++ [(⟨t, entT ⟨c, b, o, bo, it, un, true⟩⟩ : P)]) [t] = some ([(⟨c, b, o, bo, it, un, true⟩ : S23)], true) := by
            have hP2 : impl_StyleGet.okP (l ++ [(⟨t, entT ⟨c, b, o, bo, it, un, true⟩⟩ : P)]) = true := by
              unfold impl_StyleGet.okP at hP ⊢
              rw [Bool.and_eq_true, decide_eq_true_eq, List.all_eq_true] at hP ⊢
              refine ⟨by have := hf.1; simp; omega, fun x hx => ?_⟩
              rcases List.mem_append.1 hx with hx | hx
              · exact hP.2 x hx
              · rw [List.mem_singleton] at hx
                subst hx
                rw [Bool.and_eq_true, decide_eq_true_eq]
                exact ⟨ht, by show (entT ⟨c, b, o, bo, it, un, true⟩).size ≤ _; omega⟩
            have hA2 : impl_StyleGet.okA [t] = true := by
              unfold impl_StyleGet.okA
              rw [Bool.and_eq_true, decide_eq_true_eq, List.all_eq_true]
              exact ⟨by simp, fun x hx => by rw [List.mem_singleton] at hx; rw [hx]; exact ht⟩
            unfold impl_StyleGet.f
            rw [if_pos hP2, if_pos hA2, List.map_append, List.map_singleton]
            rw [show impl_StyleGet.toP (⟨t, entT ⟨c, b, o, bo, it, un, true⟩⟩ : P) = (t, entT ⟨c, b, o, bo, it, un, true⟩) from rfl]
            rw [if_neg (by rw [bad_more _ t _ _ hps hb]; decide), List.map_singleton, List.map_singleton, full_own _ t _ _ hps rfl]
            rfl
          refine Ev.bind hs (Ev.congr (f := fun _ => some true) (fun k => ?_) (Ev.now true))
          rw [Option.bind_some, if_pos (by have := hf.1; simp; omega), hg2, Option.bind_some]
          simp only
          have hlen : (([(⟨c, b, o, bo, it, un, true⟩ : S23)].length : Nat) : Int) = 1 := rfl
          rw [if_pos trivial, hlen, if_pos rfl, if_pos (by decide)]
          have hr : rd_T23 [(⟨c, b, o, bo, it, un, true⟩ : S23)] 0 = ⟨c, b, o, bo, it, un, true⟩ := rfl
          rw [hr, if_pos (by simp)]
          rfl
end Go.Proofs.YtifhhejohdmiaaaDoor.Pure
