/- Style.get at any style, Style.Get, impl.entries, impl.StyleGet. -/
import Derived.Test.YtifhhejohdmiaaaDoorGet
set_option linter.unusedVariables false
set_option linter.unusedSimpArgs false
namespace Go.Proofs.YtifhhejohdmiaaaDoorEnt
open Go.RowKit Go.Shelf Go.Proofs.YtifhhejohdmiaaaDoorW.PrintWords Go.Proofs.YtifhhejohdmiaaaDoorFmt Go.Proofs.YtifhhejohdmiaaaDoorMapI Go.Proofs.YtifhhejohdmiaaaDoorFlt Go.Proofs.YtifhhejohdmiaaaDoor
/-- What a style (its own entries first, then those of the styles above) says of a type by itself, or makes up. -/
def getS : List (Int → Option Ent) → Int → Ent
  | [], _ => zeroE
  | [f], t => if isZ (at0 f t) = true then (if synt t = true then synE (at0 f (-1)) t else at0 f t) else at0 f t
  | f :: g :: fs, t => if isZ (at0 f t) = true then getS (g :: fs) t else at0 f t
/-- A style with the styles above it, in memory. -/
def StyAt (n : Nat) (W : World) : List (Int → Option Ent) → Option Addr → Prop
  | [], a => a = none
  | f :: fs, a => ∃ b m nm cp pa, a = some ⟨b, 0, none⟩ ∧ StyCell W b m nm cp pa ∧ ME W m n f ∧ StyAt n W fs pa
theorem StyAt.below {n : Nat} {W W' : World} (hb : Below W.heap.size W W') : ∀ {L : List (Int → Option Ent)} {a : Option Addr}, StyAt n W L a → StyAt n W' L a
  | [], _, h => h
  | f :: fs, a, ⟨b, m, nm, cp, pa, h1, h2, h3, h4⟩ => ⟨b, m, nm, cp, pa, h1, (hb.block _ (blk_lt h2)).trans h2, MapI.below h3 hb h3.lt, StyAt.below hb h4⟩
theorem ok_m1 : Ok (-1) := ok_of (by decide) (by decide)
theorem get_c : ∀ (L : List (Int → Option Ent)) (a : Option Addr) (n : Nat) (t : Int), Ok t → ∀ w, L ≠ [] → StyAt n w L a →
    Calls Tryd.prog 69 #[.pointer a, .int .i64 t] w fun x w' => x = .returned (getS L t).val ∧ Below w.heap.size w w'
  | [], _, _, _, _, _, h, _ => absurd rfl h
  | [f], a, n, t, ht, w, _, h => by
    obtain ⟨b, m, nm, cp, pa, rfl, h2, h3, h4⟩ := h
    obtain rfl : pa = none := h4
    refine (get_step b m n nm cp none f t ht w h2 h3 zeroE (synE (at0 f (-1)) t) (fun _ h => absurd rfl h) (fun _ _ _ W hW => syn_step b t (at0 f (-1)) W (fun W' hW' => ?_))).mono ?_
    · have hb := hW.trans (hW'.mono hW.size)
      refine (get_step b m n nm cp none f (-1) ok_m1 W' ((hb.block _ (blk_lt h2)).trans h2) (MapI.below h3 hb h3.lt) zeroE zeroE (fun _ h => absurd rfl h) (fun _ _ h => by cases h)).mono ?_
      rintro x W2 ⟨rfl, h5⟩
      refine ⟨?_, h5⟩
      have : synt (-1) = false := rfl
      simp [this]
    · rintro x w' ⟨rfl, h5⟩
      exact ⟨by simp [getS], h5⟩
  | f :: g :: fs, a, n, t, ht, w, _, h => by
    obtain ⟨b, m, nm, cp, pa, rfl, h2, h3, h4⟩ := h
    have hpa : pa ≠ none := by
      obtain ⟨b', m', nm', cp', pa', h5, _⟩ := h4
      rw [h5]; simp
    refine (get_step b m n nm cp pa f t ht w h2 h3 (getS (g :: fs) t) zeroE (fun _ _ W hW => get_c (g :: fs) pa n t ht W (by simp) (StyAt.below hW h4)) (fun _ h => absurd h hpa)).mono ?_
    rintro x w' ⟨rfl, h5⟩
    exact ⟨by simp [getS, hpa], h5⟩
def catOf (t : Int) : Int := wrap64 ((wrap64 (Int.tdiv t 1000)) * 1000)
def subOf (t : Int) : Int := wrap64 ((wrap64 (Int.tdiv t 100)) * 100)
/-- What Style.Get tells. -/
def fullS (L : List (Int → Option Ent)) (t : Int) : Ent := inhL (getS L t) [getS L (-1), getS L 8000, getS L (catOf t), getS L (subOf t)]
theorem ents4 {W : World} {g : Nat} (e1 e2 e3 e4 : Ent) (h : W.heap[g]? = some (.cells #[.int .i32 e1.c, .int .i32 e1.b, .int .i32 e1.o, .int .u8 e1.bo, .int .u8 e1.it, .int .u8 e1.un, .bool e1.ni, .int .i32 e2.c, .int .i32 e2.b, .int .i32 e2.o, .int .u8 e2.bo, .int .u8 e2.it, .int .u8 e2.un, .bool e2.ni, .int .i32 e3.c, .int .i32 e3.b, .int .i32 e3.o, .int .u8 e3.bo, .int .u8 e3.it, .int .u8 e3.un, .bool e3.ni, .int .i32 e4.c, .int .i32 e4.b, .int .i32 e4.o, .int .u8 e4.bo, .int .u8 e4.it, .int .u8 e4.un, .bool e4.ni] 57 (0, 0))) :
    Ents W g 0 [e1, e2, e3, e4] := by
  intro i hi
  have : i = 0 ∨ i = 1 ∨ i = 2 ∨ i = 3 := by simp at hi; omega
  rcases this with rfl | rfl | rfl | rfl
  · exact ⟨(blk_cell h 0).trans rfl, (blk_cell h 1).trans rfl, (blk_cell h 2).trans rfl, (blk_cell h 3).trans rfl, (blk_cell h 4).trans rfl, (blk_cell h 5).trans rfl, (blk_cell h 6).trans rfl⟩
  · exact ⟨(blk_cell h 7).trans rfl, (blk_cell h 8).trans rfl, (blk_cell h 9).trans rfl, (blk_cell h 10).trans rfl, (blk_cell h 11).trans rfl, (blk_cell h 12).trans rfl, (blk_cell h 13).trans rfl⟩
  · exact ⟨(blk_cell h 14).trans rfl, (blk_cell h 15).trans rfl, (blk_cell h 16).trans rfl, (blk_cell h 17).trans rfl, (blk_cell h 18).trans rfl, (blk_cell h 19).trans rfl, (blk_cell h 20).trans rfl⟩
  · exact ⟨(blk_cell h 21).trans rfl, (blk_cell h 22).trans rfl, (blk_cell h 23).trans rfl, (blk_cell h 24).trans rfl, (blk_cell h 25).trans rfl, (blk_cell h 26).trans rfl, (blk_cell h 27).trans rfl⟩
theorem below_on {n : Nat} {w W W' : World} (h : Below n w W) (hb : Below W.heap.size W W') (hn : n ≤ W.heap.size) : Below n w W' := h.trans (hb.mono hn)
set_option maxRecDepth 100000 in
set_option maxHeartbeats 8000000 in
theorem full_c (L : List (Int → Option Ent)) (hL : L ≠ []) (a : Option Addr) (n : Nat) (t : Int) (ht : Ok t) (w : World) (hS : StyAt n w L a) :
    Calls Tryd.prog 54 #[.pointer a, .int .i64 t] w fun x w' => x = .returned (fullS L t).val ∧ Below w.heap.size w w' := by
  have hsk : ∃ W0, w.alloc (.cells #[.int .i32 0, .int .i32 0, .int .i32 0, .int .u8 0, .int .u8 0, .int .u8 0, .bool false] 57) = W0 ∧ W0.heap[w.heap.size]? = some (.cells (cells zeroE) 57 (0, 0)) ∧ Below w.heap.size w W0 ∧ w.heap.size < W0.heap.size := ⟨_, rfl, blk_new _ _, below_alloc (Below.refl _ _) _, by simp⟩
  obtain ⟨W0, hW0, hR0, hBw, hlt⟩ := hsk
  have hS0 : StyAt n W0 L a := StyAt.below hBw hS
  have kG : Aside0 (∀ t W, Ok t → Below W0.heap.size W0 W → Calls Tryd.prog 69 #[.pointer a, .int .i64 t] W fun x W' => x = .returned (.agg #[.int .i32 (getS L t).c, .int .i32 (getS L t).b, .int .i32 (getS L t).o, .int .u8 (getS L t).bo, .int .u8 (getS L t).it, .int .u8 (getS L t).un, .bool (getS L t).ni]) ∧ Below W0.heap.size W0 W') := ⟨fun t W ht hW => (get_c L a n t ht W hL (StyAt.below hW hS0)).mono fun x W' h => ⟨h.1, below_on hW h.2 hW.size⟩⟩
  have kC : Aside0 (∀ W, Below W0.heap.size W0 W → Calls Tryd.prog 70 #[.int .i64 t] W fun x W' => x = .returned (.int .i64 (catOf t)) ∧ Below W0.heap.size W0 W') := ⟨fun W hW => (A.chroma_TokenType_Category.calls t (catOf t) W rfl).mono fun x W' h => ⟨h.1, below_on hW h.2.below hW.size⟩⟩
  have kB : Aside0 (∀ W, Below W0.heap.size W0 W → Calls Tryd.prog 71 #[.int .i64 t] W fun x W' => x = .returned (.int .i64 (subOf t)) ∧ Below W0.heap.size W0 W') := ⟨fun W hW => (A.chroma_TokenType_SubCategory.calls t (subOf t) W rfl).mono fun x W' h => ⟨h.1, below_on hW h.2.below hW.size⟩⟩
  have hO1 := Aside0.mk ht
  have hO2 := Aside0.mk ok_m1
  have hO3 : Aside0 (Ok 8000) := ⟨ok_of (by decide) (by decide)⟩
  have hO4 : Aside0 (Ok (catOf t)) := ⟨wrap64_wf _⟩
  have hO5 : Aside0 (Ok (subOf t)) := ⟨wrap64_wf _⟩
  have hf : fullS L t = inhL (getS L t) [getS L (-1), getS L 8000, getS L (catOf t), getS L (subOf t)] := rfl
  have HF := Aside0.mk hf
  clear hf ht hS
  generalize catOf t = tc at *
  generalize subOf t = ts at *
  generalize getS L = gs at *
  have HB0 : Below W0.heap.size W0 W0 := Below.refl _ _
  have kI : Aside0 (∀ W, Below W0.heap.size W0 W → Calls Tryd.prog 36 #[.agg #[.int .i32 (gs t).c, .int .i32 (gs t).b, .int .i32 (gs t).o, .int .u8 (gs t).bo, .int .u8 (gs t).it, .int .u8 (gs t).un, .bool (gs t).ni], .slice (some ⟨W.heap.size, 0, none⟩) 4 4] (W.alloc (.cells #[.int .i32 (gs (-1)).c, .int .i32 (gs (-1)).b, .int .i32 (gs (-1)).o, .int .u8 (gs (-1)).bo, .int .u8 (gs (-1)).it, .int .u8 (gs (-1)).un, .bool (gs (-1)).ni, .int .i32 (gs 8000).c, .int .i32 (gs 8000).b, .int .i32 (gs 8000).o, .int .u8 (gs 8000).bo, .int .u8 (gs 8000).it, .int .u8 (gs 8000).un, .bool (gs 8000).ni, .int .i32 (gs tc).c, .int .i32 (gs tc).b, .int .i32 (gs tc).o, .int .u8 (gs tc).bo, .int .u8 (gs tc).it, .int .u8 (gs tc).un, .bool (gs tc).ni, .int .i32 (gs ts).c, .int .i32 (gs ts).b, .int .i32 (gs ts).o, .int .u8 (gs ts).bo, .int .u8 (gs ts).it, .int .u8 (gs ts).un, .bool (gs ts).ni] 57)) fun x W' => x = .returned (.agg #[.int .i32 (fullS L t).c, .int .i32 (fullS L t).b, .int .i32 (fullS L t).o, .int .u8 (fullS L t).bo, .int .u8 (fullS L t).it, .int .u8 (fullS L t).un, .bool (fullS L t).ni]) ∧ Below W0.heap.size W0 W') := by
    refine ⟨fun W hW => ?_⟩
    have hB1 : Below W0.heap.size W0 (W.alloc (.cells #[.int .i32 (gs (-1)).c, .int .i32 (gs (-1)).b, .int .i32 (gs (-1)).o, .int .u8 (gs (-1)).bo, .int .u8 (gs (-1)).it, .int .u8 (gs (-1)).un, .bool (gs (-1)).ni, .int .i32 (gs 8000).c, .int .i32 (gs 8000).b, .int .i32 (gs 8000).o, .int .u8 (gs 8000).bo, .int .u8 (gs 8000).it, .int .u8 (gs 8000).un, .bool (gs 8000).ni, .int .i32 (gs tc).c, .int .i32 (gs tc).b, .int .i32 (gs tc).o, .int .u8 (gs tc).bo, .int .u8 (gs tc).it, .int .u8 (gs tc).un, .bool (gs tc).ni, .int .i32 (gs ts).c, .int .i32 (gs ts).b, .int .i32 (gs ts).o, .int .u8 (gs ts).bo, .int .u8 (gs ts).it, .int .u8 (gs ts).un, .bool (gs ts).ni] 57)) := below_alloc hW _
    have h := inherit_c (gs t) (some ⟨W.heap.size, 0, none⟩) 4 [gs (-1), gs 8000, gs tc, gs ts] (by simp) (W.alloc (.cells #[.int .i32 (gs (-1)).c, .int .i32 (gs (-1)).b, .int .i32 (gs (-1)).o, .int .u8 (gs (-1)).bo, .int .u8 (gs (-1)).it, .int .u8 (gs (-1)).un, .bool (gs (-1)).ni, .int .i32 (gs 8000).c, .int .i32 (gs 8000).b, .int .i32 (gs 8000).o, .int .u8 (gs 8000).bo, .int .u8 (gs 8000).it, .int .u8 (gs 8000).un, .bool (gs 8000).ni, .int .i32 (gs tc).c, .int .i32 (gs tc).b, .int .i32 (gs tc).o, .int .u8 (gs tc).bo, .int .u8 (gs tc).it, .int .u8 (gs tc).un, .bool (gs tc).ni, .int .i32 (gs ts).c, .int .i32 (gs ts).b, .int .i32 (gs ts).o, .int .u8 (gs ts).bo, .int .u8 (gs ts).it, .int .u8 (gs ts).un, .bool (gs ts).ni] 57)) (fun _ => ⟨W.heap.size, 0, rfl, by simp, ents4 _ _ _ _ (blk_new _ _)⟩)
    refine h.mono ?_
    rintro x W' ⟨rfl, hb⟩
    exact ⟨by rw [HF.out]; rfl, below_on hB1 hb hB1.size⟩
  generalize fullS L t = r at *
  go_enter Tryd.func54, Tryd.ntmps54
  go_upto_region 1 with fail
  clear hW0 hS0
  go_wp2_with (first | (go_at_call 69; refine (kG.out _ _ (by first | with_reducible exact hO1.out | with_reducible exact hO2.out | with_reducible exact hO3.out | with_reducible exact hO4.out | with_reducible exact hO5.out) (by assumption)).mono ?_; rintro x1 w1 ⟨rfl, hb1⟩) | (go_at_call 70; refine (kC.out _ (by assumption)).mono ?_; rintro x2 w2 ⟨rfl, hb2⟩) | (go_at_call 71; refine (kB.out _ (by assumption)).mono ?_; rintro x3 w3 ⟨rfl, hb3⟩) | (go_at_call 36; refine (kI.out _ (by assumption)).mono ?_; rintro x4 w4 ⟨rfl, hb4⟩; have hR4 := (hb4.block _ hlt).trans hR0; obtain ⟨r0, r1, r2, r3, r4, r5, r6, g0, g1, g2, g3, g4, g5, g6⟩ := blk7 hR4))
  have hfin := res7 r hR4
  rw [set7] at hfin
  have hbe := (hBw.trans (hb4.mono (Nat.le_of_lt hlt))).trans (setAll_below (b := w.heap.size) (Nat.le_refl w.heap.size) [.int .i32 r.c, .int .i32 r.b, .int .i32 r.o, .int .u8 r.bo, .int .u8 r.it, .int .u8 r.un, .bool r.ni] w4 0)
  rw [set7] at hbe
  exact bodyPost_ret (results_cell_row rfl _ _ w.heap.size 57 #[.int .i32 r.c, .int .i32 r.b, .int .i32 r.o, .int .u8 r.bo, .int .u8 r.it, .int .u8 r.un, .bool r.ni] (0, 0) _ rfl hfin Tryd.underlying57 rfl (by kernel_rfl)) rfl ⟨rfl, hbe⟩
def flat (l : List Ent) : List Value := l.flatMap fun e => (cells e).toList
theorem flat_snoc (l : List Ent) (e : Ent) : flat (l ++ [e]) = flat l ++ (cells e).toList := by simp [flat]
theorem plain_c (e : Ent) (w : World) : Calls Tryd.prog 34 #[.agg #[.int .i32 e.c, .int .i32 e.b, .int .i32 e.o, .int .u8 e.bo, .int .u8 e.it, .int .u8 e.un, .bool e.ni]] w fun x w' => x = .returned (.agg #[.int .i32 e.c, .int .i32 e.b, .int .i32 e.o, .int .u8 e.bo, .int .u8 e.it, .int .u8 e.un, .bool e.ni]) ∧ Below w.heap.size w w' :=
  A.impl_plain.calls _ _ _ _ _ _ _ _ _ _ _ _ _ _ w rfl
/-- The types asked for. -/
def AskAt (W : World) (g o : Nat) (l : List Int) : Prop := ∀ i (h : i < l.length), W.cell? ⟨g, o + i, none⟩ = some (.int .i64 l[i])
theorem AskAt.same {W W' : World} {g o : Nat} {l : List Int} (h : AskAt W g o l) (hb : W'.heap[g]? = W.heap[g]?) : AskAt W' g o l := fun i hi => (World.cell?_of_block (a := ⟨g, _, none⟩) hb).trans (h i hi)
theorem infoE : (Tryd.prog.info? 23).map (fun i => (i.zero, i.size, i.bytes)) = some (some (.agg #[(.int .i32 0), (.int .i32 0), (.int .i32 0), (.int .u8 0), (.int .u8 0), (.int .u8 0), (.bool false)]), 7, 16) := by kernel_rfl
set_option maxRecDepth 100000 in
set_option maxHeartbeats 8000000 in
theorem entries_c (L : List (Int → Option Ent)) (hL : L ≠ []) (a : Option Addr) (n : Nat) (A : Option Addr) (cap : Nat) (ask : List Int) (hl : ask.length ≤ 1000000) (hc : ask.length ≤ cap) (hk : ∀ t ∈ ask, Ok t) (w : World) (hS : StyAt n w L a)
    (hA : ask ≠ [] → ∃ g o, A = some ⟨g, o, none⟩ ∧ g < w.heap.size ∧ AskAt w g o ask) :
    Calls Tryd.prog 41 #[.pointer a, .slice A ask.length cap] w fun x w' => ∃ v, x = .returned v ∧ w'.ownsRow w.heap.size 23 7 v ask.length (flat (ask.map (fullS L))) ∧ Below w.heap.size w w' := by
  have kF : Aside0 (∀ t W, Ok t → Below w.heap.size w W → Calls Tryd.prog 54 #[.pointer a, .int .i64 t] W fun x W' => x = .returned (.agg #[.int .i32 (fullS L t).c, .int .i32 (fullS L t).b, .int .i32 (fullS L t).o, .int .u8 (fullS L t).bo, .int .u8 (fullS L t).it, .int .u8 (fullS L t).un, .bool (fullS L t).ni]) ∧ Below W.heap.size W W') := ⟨fun t W ht hW => full_c L hL a n t ht W (StyAt.below hW hS)⟩
  have HA := Aside0.mk hA
  have HK := Aside0.mk hk
  clear hA hk hS
  generalize fullS L = fs at *
  go_enter Tryd.func41, Tryd.ntmps41
  go_wp2
  go_loopw [5, 10] (fun v i wr => ∃ k : Nat, k ≤ ask.length ∧ i = .int .i64 (k : Int) ∧ Aside0 (wr.ownsRow w.heap.size 23 7 v k (flat ((ask.take k).map fs))) ∧ Aside0 (Below w.heap.size w wr)) (fun _ i _ => ask.length - (intOf i).toNat)
  case atStart => exact ⟨0, Nat.zero_le _, rfl, ⟨own_nil _ _ _ _⟩, ⟨Below.refl _ _⟩⟩
  case round =>
    obtain ⟨k, hkl, rfl, HO, HB⟩ := hrel
    by_cases hlt : k < ask.length
    · obtain ⟨g, o, rfl, hg, hP⟩ := HA.out (fun e => by rw [e] at hlt; simp at hlt)
      have d0 := (hP.same (HB.out.block g hg)) k hlt
      have hkt := HK.out _ (List.getElem_mem hlt)
      have htk : (ask.take (k + 1)).map fs = (ask.take k).map fs ++ [fs ask[k]] := by rw [List.take_succ_eq_append_getElem hlt, List.map_append]; rfl
      generalize ask[k] = t at *
      have hlti : (k : Int) < (ask.length : Int) := by omega
      have kt := Aside0.mk (kF.out t wr hkt HB.out)
      have HT := Aside0.mk htk
      clear htk hP
      generalize fs t = e at *
      obtain ⟨A0, c0, hv⟩ := own_slice HO.out
      subst hv
      have hone : ∀ u ∈ [Value.int .i32 e.c, .int .i32 e.b, .int .i32 e.o, .int .u8 e.bo, .int .u8 e.it, .int .u8 e.un, .bool e.ni], u.oneCell' = true := by simp [Value.oneCell']
      have hbd : (k + 1) * 16 ≤ 140737488355328 := by omega
      have HN := Aside0.mk hone
      have HD := Aside0.mk hbd
      clear hone hbd
      go_wp2_with (first | (go_at_call 54; refine kt.out.mono ?_; rintro x1 w1 ⟨rfl, hb1⟩) | (go_at_call 34; refine (plain_c e _).mono ?_; rintro x2 w2 ⟨rfl, hb2⟩) | ((with_reducible refine gate_builtin (b := .append) (xs := #[.tmp 14, .tmp 19]) rfl ?_); at_builtin; refine print_append_cells (w0 := w) w.heap.size rfl (.tmp 14) (.tmp 19) 32 23 (.agg #[(.int .i32 0), (.int .i32 0), (.int .i32 0), (.int .u8 0), (.int .u8 0), (.int .u8 0), (.bool false)]) 7 16 rfl Tryd.underlying32 infoE rfl (Nat.succ_pos _) (Nat.succ_pos _) (.slice A0 k c0) k (flat ((ask.take k).map fs)) [.int .i32 e.c, .int .i32 e.b, .int .i32 e.o, .int .u8 e.bo, .int .u8 e.it, .int .u8 e.un, .bool e.ni] rfl rfl rfl HN.out (pw_own_below (pw_own_below HO.out hb1) hb2) (below_on (below_on HB.out hb1 HB.out.size) hb2 (Nat.le_trans HB.out.size hb1.size)) (Nat.le_trans HB.out.size (Nat.le_trans hb1.size hb2.size)) HD.out ?_; intro v1 w3 ho3 hB3 hg3 hat3; obtain ⟨A3, c3, hv3⟩ := own_slice ho3))
      refine ⟨⟨k + 1, by omega, by rw [Int.natCast_add]; rfl, ⟨?_⟩, ⟨hB3⟩⟩, by simp [intOf]; omega⟩
      rw [HT.out, flat_snoc, ← hv3]
      exact ho3
    · obtain rfl : k = ask.length := by omega
      rw [List.take_length] at HO
      go_wp2
      go_ret
      exact ⟨_, rfl, HO.out, HB.out⟩
/-- What a style's lines say of a type by themselves. -/
def lineE (l : List (Int × ByteArray)) : Int → Option Ent := fun k => (lineF l k).bind pse
/-- Is a line no entry (that counts)? -/
def badL (l : List (Int × ByteArray)) : Bool := l.any fun p => decide (lineF l p.1 = some p.2) && (pse p.2).isNone
theorem badL_true {l : List (Int × ByteArray)} {k : Int} {t : ByteArray} (h1 : lineF l k = some t) (h2 : pse t = none) : badL l = true := by
  unfold badL
  rw [List.any_eq_true]
  exact ⟨(k, t), lineF_mem l k t h1, by simp [h1, h2]⟩
theorem badL_false {l : List (Int × ByteArray)} (hk : ∀ p ∈ l, Ok p.1) (h : ∀ k t, Ok k → lineF l k = some t → pse t ≠ none) : badL l = false := by
  unfold badL
  rw [List.any_eq_false]
  rintro ⟨k, t⟩ hm
  simp only [Bool.and_eq_true, decide_eq_true_eq, not_and, Option.isNone_iff_eq_none]
  exact fun h1 => h k t (hk _ hm) h1
/-- What StyleGet hands back. -/
def GetRes (l : List (Int × ByteArray)) (ask : List Int) (base : Nat) (x : Ending) (w' : World) : Prop :=
  (badL l = true ∧ x = .returned (.tuple #[.slice none 0 0, .bool false])) ∨
  (badL l = false ∧ ∃ v, x = .returned (.tuple #[v, .bool true]) ∧ w'.ownsRow base 23 7 v ask.length (flat (ask.map (fullS [lineE l]))))
set_option maxHeartbeats 4000000 in
theorem styleGet_c (A : Option Addr) (cap : Nat) (l : List (Int × ByteArray)) (hl : l.length ≤ 1000000) (hc : l.length ≤ cap) (hk : ∀ p ∈ l, Ok p.1 ∧ p.2.size ≤ 140737488351232)
    (B : Option Addr) (capb : Nat) (ask : List Int) (hl2 : ask.length ≤ 1000000) (hc2 : ask.length ≤ capb) (hk2 : ∀ t ∈ ask, Ok t) (w : World) (hV : VarsOK w)
    (hA : l ≠ [] → ∃ g o, A = some ⟨g, o, none⟩ ∧ g < w.heap.size ∧ PartsAt w g o l) (hB : ask ≠ [] → ∃ g o, B = some ⟨g, o, none⟩ ∧ g < w.heap.size ∧ AskAt w g o ask) :
    Calls Tryd.prog 26 #[.slice A l.length cap, .slice B ask.length capb] w fun x w' => GetRes l ask w.heap.size x w' ∧ Below w.heap.size w w' := by
  have kS := Aside0.mk (styled_c A cap l hl hc hk w hV hA)
  have kE : Aside0 (∀ b m W, Below w.heap.size w W → StyCell W b m ⟨#[120]⟩ ⟨#[]⟩ none → ME W m l.length (lineE l) → Calls Tryd.prog 41 #[.pointer (some ⟨b, 0, none⟩), .slice B ask.length capb] W fun x W' => ∃ v, x = .returned v ∧ W'.ownsRow W.heap.size 23 7 v ask.length (flat (ask.map (fullS [lineE l]))) ∧ Below W.heap.size W W') :=
    ⟨fun b m W hW h1 h2 => entries_c [lineE l] (by simp) (some ⟨b, 0, none⟩) l.length B capb ask hl2 hc2 hk2 W ⟨b, m, _, _, none, rfl, h1, h2, rfl⟩ (fun h => by
      obtain ⟨g, o, e, hg, hP⟩ := hB h
      exact ⟨g, o, e, Nat.lt_of_lt_of_le hg hW.size, hP.same (hW.block g hg)⟩)⟩
  have HK := Aside0.mk hk
  clear hk hk2 hA hB hV
  go_enter Tryd.func26, Tryd.ntmps26
  go_wp2_with (first | (go_at_call 40; refine kS.out.mono ?_; rintro x1 w1 ⟨⟨rfl, hx⟩ | ⟨b, m, rfl, h2, h3, h4⟩, hb1⟩) | (go_at_call 41; refine (kE.out _ _ _ hb1 h2 h3).mono ?_; rintro x2 w2 ⟨v, rfl, ho, hb2⟩))
  · go_ret2
    obtain ⟨k, t, _, h5, h6⟩ := hx
    exact ⟨.inl ⟨badL_true h5 h6, rfl⟩, hb1⟩
  · go_ret2
    exact ⟨.inr ⟨badL_false (fun p hp => (HK.out p hp).1) h4, v, rfl, own_weaken ho hb1.size⟩, below_on hb1 hb2 hb1.size⟩
end Go.Proofs.YtifhhejohdmiaaaDoorEnt
