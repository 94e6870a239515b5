/- The law FnEntryText: the printed statement. -/
import Derived.Test.YtifhhejohdmiaaaGreatDoorXx3
import Derived.Test.YtifhhejohdmiaaaGreatDoorTxt
import Derived.Test.YtifhhejohdmiaaaGreatDoorStr
set_option linter.unusedVariables false
set_option linter.unusedSimpArgs false
namespace Go.Proofs.YtifhhejohdmiaaaGreatDoor.Pure
open Go.RowKit Go.Proofs.YtifhhejohdmiaaaGreatDoorW.PrintWords Go.Proofs.YtifhhejohdmiaaaGreatDoorFmt Go.Proofs.YtifhhejohdmiaaaGreatDoorEnt Go.Proofs.YtifhhejohdmiaaaGreatDoor.X
/-! ### usual and lines -/
theorem us_step (l : List Int) (i : Nat) (hi : i < l.length) (hl : l.length ≤ 10) (k : Nat) (e : Ent) :
    laws_usual.l0 (k + 1) l (l.length : Int) (i : Int) e.c e.b e.o e.bo e.it e.un e.ni = if okc l[i] then laws_usual.l0 k l (l.length : Int) ((i + 1 : Nat) : Int) e.c e.b e.o e.bo e.it e.un e.ni else some false := by
  have ei : wrap64 ((i : Int) + 1) = ((i + 1 : Nat) : Int) := by unfold wrap64; omega
  have hr : rd l (i : Int) = l[i] := by
    show l.getD ((i : Int)).toNat 0 = _
    rw [Int.toNat_natCast, List.getD_eq_getElem?_getD, List.getElem?_eq_getElem hi]; rfl
  rw [laws_usual.l0, if_pos (by omega), if_pos (by omega), if_pos (by omega), hr, ei]
  generalize l[i] = c
  by_cases h0 : c = 0
  · rw [if_pos h0, if_pos (show okc c from Or.inl h0)]
  · rw [if_neg h0, laws_plain.f]
    by_cases h1 : 1 ≤ c
    · rw [if_pos h1, Option.bind_some]
      by_cases h2 : c ≤ 16777216
      · rw [if_pos (by simpa using h2), if_pos (show okc c from Or.inr ⟨h1, h2⟩)]
      · rw [if_neg (by simpa using h2), if_neg (show ¬ okc c by rintro (h | h) <;> omega)]
    · rw [if_neg h1, Option.bind_some, if_neg (by decide), if_neg (show ¬ okc c by rintro (h | h) <;> omega)]
theorem us_end (l : List Int) (k : Nat) (e : Ent) :
    laws_usual.l0 (k + 1) l (l.length : Int) (l.length : Int) e.c e.b e.o e.bo e.it e.un e.ni = some (decide (e.bo ≤ 2 ∧ e.it ≤ 2 ∧ e.un ≤ 2)) := by
  rw [laws_usual.l0, if_neg (by omega)]
  by_cases h1 : e.bo ≤ 2 <;> by_cases h2 : e.it ≤ 2 <;> simp [h1, h2]
theorem usual_f (e : Ent) (k : Nat) : laws_usual.f (k + 4) e.c e.b e.o e.bo e.it e.un e.ni = some (usB e) := by
  have h0 := us_step [e.c, e.b, e.o] 0 (by simp) (by simp) (k + 3) e
  have h1 := us_step [e.c, e.b, e.o] 1 (by simp) (by simp) (k + 2) e
  have h2 := us_step [e.c, e.b, e.o] 2 (by simp) (by simp) (k + 1) e
  have h3 := us_end [e.c, e.b, e.o] k e
  unfold laws_usual.f
  rw [Option.bind_some]
  refine h0.trans ?_
  rw [show ((0 + 1 : Nat) : Int) = ((1 : Nat) : Int) from rfl, h1, show ((1 + 1 : Nat) : Int) = ((2 : Nat) : Int) from rfl, h2, show ((2 + 1 : Nat) : Int) = (([e.c, e.b, e.o] : List Int).length : Int) from rfl, h3]
  simp only [List.getElem_cons_zero, List.getElem_cons_succ, usB]
  by_cases q0 : okc e.c <;> by_cases q1 : okc e.b <;> by_cases q2 : okc e.o <;> simp [q0, q1, q2]

/-! ### the entry's text -/
theorem colstr (n : Nat) (hn : n < 16777216) : chroma_Colour_String.f ((n : Int) + 1) = some ⟨(35 :: digs 6 n).toArray⟩ := by
  have e : wrap64 (wrap32 ((n : Int) + 1 - 1)) = (n : Int) := by unfold wrap64 wrap32; omega
  unfold chroma_Colour_String.f chroma_zzHex6.f
  rw [e, if_pos (by omega), if_pos (by omega), hex6_eq n hn, Option.bind_some]
  have hs : (⟨(digs 6 n).toArray⟩ : ByteArray).size = 6 := by rw [← data_length]; exact digs_len 6 n
  rw [hs, if_pos (by decide)]
  exact congrArg some (bytes_eq (by simp))
theorem mk_snoc (ws : List (List UInt8)) (u : List UInt8) : mkB ws ++ [(⟨u.toArray⟩ : ByteArray)] = mkB (ws ++ [u]) := by rw [mkB_app]; rfl
theorem mk_len (ws : List (List UInt8)) : (mkB ws).length = ws.length := List.length_map _
theorem bind_id (o : Option ByteArray) : (o.bind fun t => some t) = o := by cases o <;> rfl
theorem b5 (ws : List (List UInt8)) (hw : ws.length ≤ 100) (e : Ent) (h : colR e.o) (k : Nat) :
    chroma_StyleEntry_String.j5 (k + 1) (mkB ws) e.c e.b e.o e.bo e.it e.un e.ni = strings_Join.f (mkB (ws ++ colW [98, 111, 114, 100, 101, 114, 58] e.o)) ⟨#[32]⟩ := by
  rw [chroma_StyleEntry_String.j5, chroma_Colour_IsSet.f, Option.bind_some]
  rcases h with h | ⟨h1, h2⟩
  · rw [h, if_neg (by decide), bind_id, colW, if_pos rfl, List.append_nil]
  · obtain ⟨n, hn⟩ : ∃ n : Nat, e.o = (n : Int) + 1 := ⟨(e.o - 1).toNat, by omega⟩
    have hs : (⟨(35 :: digs 6 n).toArray⟩ : ByteArray).size = 7 := by rw [← data_length]; show (35 :: digs 6 n).length = 7; rw [List.length_cons, digs_len]
    have hb : (⟨#[98, 111, 114, 100, 101, 114, 58]⟩ : ByteArray) ++ ⟨(35 :: digs 6 n).toArray⟩ = ⟨([98, 111, 114, 100, 101, 114, 58] ++ 35 :: digs 6 n).toArray⟩ := bytes_eq (by simp)
    rw [if_pos (by simp; omega), hn, colstr n (by omega), Option.bind_some, hs, if_pos (by decide), if_pos (by rw [mk_len]; omega), hb, mk_snoc, bind_id, colW, if_neg (by omega), show ((n : Int) + 1 - 1).toNat = n by omega]
theorem b4 (ws : List (List UInt8)) (hw : ws.length ≤ 99) (e : Ent) (h : colR e.o) (h4 : colR e.b) (k : Nat) :
    chroma_StyleEntry_String.j4 (k + 2) (mkB ws) e.c e.b e.o e.bo e.it e.un e.ni = strings_Join.f (mkB (ws ++ (colW [98, 103, 58] e.b ++ colW [98, 111, 114, 100, 101, 114, 58] e.o))) ⟨#[32]⟩ := by
  rw [chroma_StyleEntry_String.j4, chroma_Colour_IsSet.f, Option.bind_some]
  rcases h4 with q | ⟨h1, h2⟩
  · rw [if_neg (by rw [q]; decide), b5 ws (by omega) e h, show colW [98, 103, 58] e.b = [] by rw [q]; rfl, List.nil_append]
  · obtain ⟨n, hn⟩ : ∃ n : Nat, e.b = (n : Int) + 1 := ⟨(e.b - 1).toNat, by omega⟩
    have hs : (⟨(35 :: digs 6 n).toArray⟩ : ByteArray).size = 7 := by rw [← data_length]; show (35 :: digs 6 n).length = 7; rw [List.length_cons, digs_len]
    have hb : (⟨#[98, 103, 58]⟩ : ByteArray) ++ ⟨(35 :: digs 6 n).toArray⟩ = ⟨([98, 103, 58] ++ 35 :: digs 6 n).toArray⟩ := bytes_eq (by simp)
    have hc : colW [98, 103, 58] e.b = [[98, 103, 58] ++ 35 :: digs 6 n] := by
      unfold colW
      rw [if_neg (by omega), hn, show ((n : Int) + 1 - 1).toNat = n by omega]
    have hcs : chroma_Colour_String.f e.b = _ := (congrArg _ hn).trans (colstr n (by omega))
    rw [if_pos (by simp; omega), hcs, Option.bind_some, hs, if_pos (by decide), if_pos (by rw [mk_len]; omega), hb, mk_snoc, b5 _ (by simp; omega) e h, hc, List.append_assoc]
theorem b3 (ws : List (List UInt8)) (hw : ws.length ≤ 98) (e : Ent) (h : colR e.o) (h4 : colR e.b) (h3 : colR e.c) (k : Nat) :
    chroma_StyleEntry_String.j3 (k + 3) (mkB ws) e.c e.b e.o e.bo e.it e.un e.ni = strings_Join.f (mkB (ws ++ (colW [] e.c ++ (colW [98, 103, 58] e.b ++ colW [98, 111, 114, 100, 101, 114, 58] e.o)))) ⟨#[32]⟩ := by
  rw [chroma_StyleEntry_String.j3, chroma_Colour_IsSet.f, Option.bind_some]
  rcases h3 with q | ⟨h1, h2⟩
  · rw [if_neg (by rw [q]; decide), b4 ws (by omega) e h h4, show colW [] e.c = [] by rw [q]; rfl, List.nil_append]
  · obtain ⟨n, hn⟩ : ∃ n : Nat, e.c = (n : Int) + 1 := ⟨(e.c - 1).toNat, by omega⟩
    have hc : colW [] e.c = [35 :: digs 6 n] := by
      unfold colW
      rw [if_neg (by omega), hn, show ((n : Int) + 1 - 1).toNat = n by omega]
      rfl
    have hcs : chroma_Colour_String.f e.c = _ := (congrArg _ hn).trans (colstr n (by omega))
    rw [if_pos (by simp; omega), hcs, Option.bind_some, if_pos (by rw [mk_len]; omega), mk_snoc, b4 _ (by simp; omega) e h h4, hc, List.append_assoc]
theorem b2 (ws : List (List UInt8)) (hw : ws.length ≤ 97) (e : Ent) (h : colR e.o) (h4 : colR e.b) (h3 : colR e.c) (k : Nat) :
    chroma_StyleEntry_String.j2 (k + 4) (mkB ws) e.c e.b e.o e.bo e.it e.un e.ni = strings_Join.f (mkB (ws ++ (niW e.ni ++ (colW [] e.c ++ (colW [98, 103, 58] e.b ++ colW [98, 111, 114, 100, 101, 114, 58] e.o))))) ⟨#[32]⟩ := by
  rw [chroma_StyleEntry_String.j2]
  by_cases q : e.ni = true
  · rw [if_pos q, if_pos (by rw [mk_len]; omega), show (⟨#[110, 111, 105, 110, 104, 101, 114, 105, 116]⟩ : ByteArray) = ⟨([110, 111, 105, 110, 104, 101, 114, 105, 116] : List UInt8).toArray⟩ from rfl, mk_snoc, b3 _ (by simp; omega) e h h4 h3, show niW e.ni = [[110, 111, 105, 110, 104, 101, 114, 105, 116]] by rw [q]; rfl, List.append_assoc]
  · rw [if_neg q, b3 ws (by omega) e h h4 h3, show niW e.ni = [] by rw [show e.ni = false by simpa using q]; rfl, List.nil_append]
theorem tri_f (n : Int) (w : List UInt8) (hw : w.length ≤ 100) (h : n = 1 ∨ n = 2) : ∃ u, chroma_Trilean_Prefix.f n ⟨w.toArray⟩ = some ⟨u.toArray⟩ ∧ triW n w = [u] := by
  have hs : (⟨w.toArray⟩ : ByteArray).size = w.length := rfl
  rcases h with rfl | rfl
  · exact ⟨w, rfl, rfl⟩
  · refine ⟨110 :: 111 :: w, ?_, rfl⟩
    unfold chroma_Trilean_Prefix.f
    rw [if_neg (by decide), if_pos rfl, hs, if_pos (by omega)]
    exact congrArg some (bytes_eq (by simp))
theorem b1 (ws : List (List UInt8)) (hw : ws.length ≤ 96) (e : Ent) (h : colR e.o) (h4 : colR e.b) (h3 : colR e.c) (h5 : triR e.un) (k : Nat) :
    chroma_StyleEntry_String.j1 (k + 5) (mkB ws) e.c e.b e.o e.bo e.it e.un e.ni = strings_Join.f (mkB (ws ++ (triW e.un [117, 110, 100, 101, 114, 108, 105, 110, 101] ++ (niW e.ni ++ (colW [] e.c ++ (colW [98, 103, 58] e.b ++ colW [98, 111, 114, 100, 101, 114, 58] e.o)))))) ⟨#[32]⟩ := by
  rw [chroma_StyleEntry_String.j1]
  rcases h5 with q | q
  · rw [if_pos q, b2 ws (by omega) e h h4 h3, show triW e.un [117, 110, 100, 101, 114, 108, 105, 110, 101] = [] by rw [q]; rfl, List.nil_append]
  · obtain ⟨u, hu, ht⟩ := tri_f e.un [117, 110, 100, 101, 114, 108, 105, 110, 101] (by decide) q
    rw [if_neg (by omega), hu, Option.bind_some, if_pos (by rw [mk_len]; omega), mk_snoc, b2 _ (by simp; omega) e h h4 h3, ht, List.append_assoc]
theorem b0 (ws : List (List UInt8)) (hw : ws.length ≤ 95) (e : Ent) (h : colR e.o) (h4 : colR e.b) (h3 : colR e.c) (h5 : triR e.un) (h6 : triR e.it) (k : Nat) :
    chroma_StyleEntry_String.j0 (k + 6) (mkB ws) e.c e.b e.o e.bo e.it e.un e.ni = strings_Join.f (mkB (ws ++ (triW e.it [105, 116, 97, 108, 105, 99] ++ (triW e.un [117, 110, 100, 101, 114, 108, 105, 110, 101] ++ (niW e.ni ++ (colW [] e.c ++ (colW [98, 103, 58] e.b ++ colW [98, 111, 114, 100, 101, 114, 58] e.o))))))) ⟨#[32]⟩ := by
  rw [chroma_StyleEntry_String.j0]
  rcases h6 with q | q
  · rw [if_pos q, b1 ws (by omega) e h h4 h3 h5, show triW e.it [105, 116, 97, 108, 105, 99] = [] by rw [q]; rfl, List.nil_append]
  · obtain ⟨u, hu, ht⟩ := tri_f e.it [105, 116, 97, 108, 105, 99] (by decide) q
    rw [if_neg (by omega), hu, Option.bind_some, if_pos (by rw [mk_len]; omega), mk_snoc, b1 _ (by simp; omega) e h h4 h3 h5, ht, List.append_assoc]
theorem str_join (e : Ent) (h : colR e.o) (h4 : colR e.b) (h3 : colR e.c) (h5 : triR e.un) (h6 : triR e.it) (h7 : triR e.bo) (k : Nat) :
    chroma_StyleEntry_String.f (k + 6) e.c e.b e.o e.bo e.it e.un e.ni = strings_Join.f (mkB (wds e)) ⟨#[32]⟩ := by
  unfold chroma_StyleEntry_String.f
  rw [Option.bind_some]
  rcases h7 with q | q
  · rw [if_pos q, show ([] : List ByteArray) = mkB [] from rfl, b0 [] (by simp) e h h4 h3 h5 h6]
    unfold wds
    rw [show triW e.bo [98, 111, 108, 100] = [] by rw [q]; rfl]
  · obtain ⟨u, hu, ht⟩ := tri_f e.bo [98, 111, 108, 100] (by decide) q
    rw [if_neg (by omega), hu, Option.bind_some, if_pos (by decide), show ([] : List ByteArray) ++ [(⟨u.toArray⟩ : ByteArray)] = mkB [u] from rfl, b0 _ (by simp) e h h4 h3 h5 h6]
    unfold wds
    rw [ht]
theorem join_le : ∀ (ws : List (List UInt8)), (∀ u ∈ ws, u.length ≤ 20) → (Lib.join ws [32]).length ≤ 21 * ws.length
  | [], _ => by rw [Lib.join_nil]; simp
  | [u], h => by rw [Lib.join_one]; have := h u List.mem_cons_self; simp; omega
  | u :: u2 :: ws, h => by
    have hj : Lib.join (u :: u2 :: ws) [32] = u ++ (32 :: Lib.join (u2 :: ws) [32]) := by
      rw [Lib.join_cons, Lib.join_cons]; simp [Lib.joinTail]
    have h1 := h u List.mem_cons_self
    have h2 := join_le (u2 :: ws) (fun x hx => h x (List.mem_cons_of_mem _ hx))
    rw [hj, List.length_append, List.length_cons, List.length_cons (a := u)]
    omega
theorem tri_le (n : Int) (w : List UInt8) (hw : w.length ≤ 18) : (triW n w).length ≤ 1 ∧ ∀ u ∈ triW n w, u.length ≤ 20 := by
  unfold triW
  by_cases h1 : n = 0
  · rw [if_pos h1]; simp
  · rw [if_neg h1]
    by_cases h2 : n = 1
    · rw [if_pos h2]; simp; omega
    · rw [if_neg h2]; simp; omega
theorem col_le (p : List UInt8) (c : Int) (hp : p.length ≤ 10) : (colW p c).length ≤ 1 ∧ ∀ u ∈ colW p c, u.length ≤ 20 := by
  unfold colW
  by_cases h1 : c = 0
  · rw [if_pos h1]; simp
  · rw [if_neg h1]
    have := digs_len 6 (c - 1).toNat
    refine ⟨by simp, fun u hu => ?_⟩
    rw [List.mem_singleton] at hu
    rw [hu, List.length_append, List.length_cons, this]; omega
theorem ni_le (b : Bool) : (niW b).length ≤ 1 ∧ ∀ u ∈ niW b, u.length ≤ 20 := by cases b <;> simp [niW]
theorem wds_le (e : Ent) : (wds e).length ≤ 7 ∧ ∀ u ∈ wds e, u.length ≤ 20 := by
  have h1 := tri_le e.bo [98, 111, 108, 100] (by decide)
  have h2 := tri_le e.it [105, 116, 97, 108, 105, 99] (by decide)
  have h3 := tri_le e.un [117, 110, 100, 101, 114, 108, 105, 110, 101] (by decide)
  have h4 := ni_le e.ni
  have h5 := col_le [] e.c (by decide)
  have h6 := col_le [98, 103, 58] e.b (by decide)
  have h7 := col_le [98, 111, 114, 100, 101, 114, 58] e.o (by decide)
  unfold wds
  refine ⟨by simp only [List.length_append]; omega, fun u hu => ?_⟩
  simp only [List.mem_append] at hu
  rcases hu with h | h | h | h | h | h | h
  · exact h1.2 u h
  · exact h2.2 u h
  · exact h3.2 u h
  · exact h4.2 u h
  · exact h5.2 u h
  · exact h6.2 u h
  · exact h7.2 u h
theorem join_ent (e : Ent) : strings_Join.f (mkB (wds e)) ⟨#[32]⟩ = some (entT e) := by
  have hm : (mkB (wds e)).map (·.data.toList) = wds e := by
    unfold mkB
    rw [List.map_map]
    exact List.map_id _
  obtain ⟨h1, h2⟩ := wds_le e
  have h3 := join_le _ h2
  unfold strings_Join.f
  rw [hm, if_pos (by rw [mk_len]; omega)]
  rw [if_pos (by show (Lib.join (wds e) [32]).length ≤ _; omega)]
  rfl
theorem FnEntryText : laws_FnEntryText.Pure := by
  intro c b o bo it un ni hw
  have hmin : IntKind.u8.min = 0 := by decide
  have hw' : wf_S23 (⟨c, b, o, bo, it, un, ni⟩ : S23) := hw
  unfold wf_S23 at hw'
  refine ⟨6, ?_⟩
  unfold laws_FnEntryText.f
  rw [usual_f ⟨c, b, o, bo, it, un, ni⟩ 2, Option.bind_some]
  cases hus : usB ⟨c, b, o, bo, it, un, ni⟩ with
  | false => rw [if_neg (by decide)]
  | true =>
    have hu := of_decide_eq_true hus
    simp only at hu
    obtain ⟨h1, h2, h3, h4, h5, h6⟩ := hu
    simp only [hmin] at hw'
    have t4 : triR bo := by unfold triR; omega
    have t5 : triR it := by unfold triR; omega
    have t6 : triR un := by unfold triR; omega
    have hs : impl_EntryString.f 6 c b o bo it un ni = some (entT ⟨c, b, o, bo, it, un, ni⟩) := by
      unfold impl_EntryString.f
      simp only [impl_entered.f, Option.bind_some]
      have := str_join ⟨c, b, o, bo, it, un, ni⟩ h3 h2 h1 t6 t5 t4 0
      rw [join_ent] at this
      rw [show (6 : Nat) = 0 + 6 from rfl, this]
      rfl
    have hp : spec_EntryString.f c b o bo it un ni = some (entT ⟨c, b, o, bo, it, un, ni⟩, 1) := by
      unfold spec_EntryString.f
      rw [if_pos hus, out7_eq _ ⟨t4, t5, t6⟩]
    rw [if_pos rfl, hp, Option.bind_some]
    simp only
    rw [if_neg (by decide), hs, Option.bind_some, if_pos rfl]
    rfl
end Go.Proofs.YtifhhejohdmiaaaGreatDoor.Pure
