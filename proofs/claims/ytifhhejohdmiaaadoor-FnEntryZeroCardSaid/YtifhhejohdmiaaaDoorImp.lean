/- impl.EntryParse and impl.EntryInherit: what the calls compute. -/
import Derived.Test.YtifhhejohdmiaaaDoorGet2
set_option linter.unusedVariables false
set_option linter.unusedSimpArgs false
namespace Go.Proofs.YtifhhejohdmiaaaDoorEnt
open Go.RowKit Go.Shelf Go.Proofs.YtifhhejohdmiaaaDoorW.PrintWords Go.Proofs.YtifhhejohdmiaaaDoorFmt Go.Proofs.YtifhhejohdmiaaaDoorMapI Go.Proofs.YtifhhejohdmiaaaDoorFlt Go.Proofs.YtifhhejohdmiaaaDoor
theorem blk7e {W : World} {g : Nat} {o : Ent} (h : W.heap[g]? = some (.cells (cells o) 23 (0, 0))) :
    W.cell? ⟨g, 0, none⟩ = some (.int .i32 o.c) ∧ W.cell? ⟨g, 1, none⟩ = some (.int .i32 o.b) ∧ W.cell? ⟨g, 2, none⟩ = some (.int .i32 o.o) ∧ W.cell? ⟨g, 3, none⟩ = some (.int .u8 o.bo) ∧ W.cell? ⟨g, 4, none⟩ = some (.int .u8 o.it) ∧ W.cell? ⟨g, 5, none⟩ = some (.int .u8 o.un) ∧ W.cell? ⟨g, 6, none⟩ = some (.bool o.ni) ∧
    W.frozen? ⟨g, 0, none⟩ = false ∧ W.frozen? ⟨g, 1, none⟩ = false ∧ W.frozen? ⟨g, 2, none⟩ = false ∧ W.frozen? ⟨g, 3, none⟩ = false ∧ W.frozen? ⟨g, 4, none⟩ = false ∧ W.frozen? ⟨g, 5, none⟩ = false ∧ W.frozen? ⟨g, 6, none⟩ = false :=
  ⟨(blk_cell h 0).trans rfl, (blk_cell h 1).trans rfl, (blk_cell h 2).trans rfl, (blk_cell h 3).trans rfl, (blk_cell h 4).trans rfl, (blk_cell h 5).trans rfl, (blk_cell h 6).trans rfl, blk_frozen h 0, blk_frozen h 1, blk_frozen h 2, blk_frozen h 3, blk_frozen h 4, blk_frozen h 5, blk_frozen h 6⟩
theorem res7e {W : World} {g : Nat} {o : Ent} (e : Ent) (h : W.heap[g]? = some (.cells (cells o) 23 (0, 0))) :
    (setAll g W 0 [.int .i32 e.c, .int .i32 e.b, .int .i32 e.o, .int .u8 e.bo, .int .u8 e.it, .int .u8 e.un, .bool e.ni]).heap[g]? = some (.cells #[.int .i32 e.c, .int .i32 e.b, .int .i32 e.o, .int .u8 e.bo, .int .u8 e.it, .int .u8 e.un, .bool e.ni] 23 (0, 0)) := by
  rw [setAll_blk _ _ 0 _ h]; simp [cells, putAll]
/-- What impl.EntryParse hands back. -/
def eParse (s : ByteArray) : Ent × Bool := match pse s with
  | some e => (e, true)
  | none => (zeroE, false)
set_option maxRecDepth 100000 in
set_option maxHeartbeats 4000000 in
theorem eParse_c (s : ByteArray) (hs : s.size ≤ 140737488351232) (w : World) (hV : VarsOK w) :
    Calls Tryd.prog 15 #[.string s] w fun x w' => x = .returned (.tuple #[(eParse s).1.val, .bool (eParse s).2]) ∧ Below w.heap.size w w' := by
  have hsk : ∃ W0, w.alloc (.cells #[.int .i32 0, .int .i32 0, .int .i32 0, .int .u8 0, .int .u8 0, .int .u8 0, .bool false] 23) = W0 ∧ W0.heap[w.heap.size]? = some (.cells (cells zeroE) 23 (0, 0)) ∧ Below w.heap.size w W0 ∧ w.heap.size < W0.heap.size := ⟨_, rfl, blk_new _ _, below_alloc (Below.refl _ _) _, by simp⟩
  obtain ⟨W0, hW0, hR0, hBw, hlt⟩ := hsk
  have kP := Aside0.mk (parse_c s hs W0 (hV.below hBw))
  have he : eParse s = match pse s with
    | some e => (e, true)
    | none => (zeroE, false) := rfl
  have hu := Tryd.underlying23
  clear hs hV
  cases hp : pse s with
  | none =>
    rw [hp] at he
    have HE := Aside0.mk he
    have kP' : Aside0 (Calls Tryd.prog 33 #[.string s] W0 fun e w' => (∃ p, e = .returned (.tuple #[.agg #[.int .i32 0, .int .i32 0, .int .i32 0, .int .u8 0, .int .u8 0, .int .u8 0, .bool false], .iface 108 p])) ∧ Below W0.heap.size W0 w') :=
      ⟨kP.out.mono (fun e w' h => ⟨by have := h.1; unfold ParsePost at this; rw [hp] at this; exact this, h.2⟩)⟩
    clear hp kP he
    go_enter Tryd.func15, Tryd.ntmps15
    go_upto_region 1 with fail
    clear hW0
    go_wp2_with (go_at_call 33; refine kP'.out.mono ?_; rintro e1 w1 ⟨⟨p1, rfl⟩, hb1⟩; have hR1 := blk_alloc ((hb1.block _ hlt).trans hR0) (.cells #[.int .i32 0, .int .i32 0, .int .i32 0, .int .u8 0, .int .u8 0, .int .u8 0, .bool false] 57); obtain ⟨r0, r1, r2, r3, r4, r5, r6, g0, g1, g2, g3, g4, g5, g6⟩ := blk7e hR1)
    have hfin := res7e zeroE hR1
    rw [set7] at hfin
    have hb1' := below_alloc hb1 (.cells #[.int .i32 0, .int .i32 0, .int .i32 0, .int .u8 0, .int .u8 0, .int .u8 0, .bool false] 57)
    have hbe := (hBw.trans (hb1'.mono (Nat.le_of_lt hlt))).trans (setAll_below (b := w.heap.size) (Nat.le_refl w.heap.size) [.int .i32 0, .int .i32 0, .int .i32 0, .int .u8 0, .int .u8 0, .int .u8 0, .bool false] _ 0)
    rw [set7] at hbe
    exact bodyPost_ret (results_ct rfl _ _ w.heap.size 23 #[.int .i32 0, .int .i32 0, .int .i32 0, .int .u8 0, .int .u8 0, .int .u8 0, .bool false] (0, 0) _ rfl hfin Tryd.underlying23 rfl (by kernel_rfl)) rfl ⟨by rw [HE.out]; rfl, hbe⟩
  | some e =>
    rw [hp] at he
    have HE := Aside0.mk he
    have kP' : Aside0 (Calls Tryd.prog 33 #[.string s] W0 fun e1 w' => e1 = .returned (.tuple #[.agg #[.int .i32 e.c, .int .i32 e.b, .int .i32 e.o, .int .u8 e.bo, .int .u8 e.it, .int .u8 e.un, .bool e.ni], .nilIface]) ∧ Below W0.heap.size W0 w') :=
      ⟨kP.out.mono (fun e1 w' h => ⟨by have := h.1; unfold ParsePost at this; rw [hp] at this; exact this, h.2⟩)⟩
    clear hp kP he
    go_enter Tryd.func15, Tryd.ntmps15
    go_upto_region 1 with fail
    clear hW0
    go_wp2_with (first | (go_at_call 33; refine kP'.out.mono ?_; rintro e1 w1 ⟨rfl, hb1⟩; have hR1 := blk_alloc ((hb1.block _ hlt).trans hR0) (.cells #[.int .i32 e.c, .int .i32 e.b, .int .i32 e.o, .int .u8 e.bo, .int .u8 e.it, .int .u8 e.un, .bool e.ni] 57); have hb1' := below_alloc hb1 (.cells #[.int .i32 e.c, .int .i32 e.b, .int .i32 e.o, .int .u8 e.bo, .int .u8 e.it, .int .u8 e.un, .bool e.ni] 57)) | (go_at_call 34; refine (plain_c e _).mono ?_; rintro x2 w2 ⟨rfl, hb2⟩; have hR2 := (hb2.block _ (blk_lt hR1)).trans hR1; obtain ⟨r0, r1, r2, r3, r4, r5, r6, g0, g1, g2, g3, g4, g5, g6⟩ := blk7e hR2))
    have hfin := res7e e hR2
    rw [set7] at hfin
    have hbe := ((hBw.trans (hb1'.mono (Nat.le_of_lt hlt))).trans (hb2.mono (Nat.le_of_lt (Nat.lt_of_lt_of_le hlt hb1'.size)))).trans (setAll_below (b := w.heap.size) (Nat.le_refl w.heap.size) [.int .i32 e.c, .int .i32 e.b, .int .i32 e.o, .int .u8 e.bo, .int .u8 e.it, .int .u8 e.un, .bool e.ni] _ 0)
    rw [set7] at hbe
    exact bodyPost_ret (results_ct rfl _ _ w.heap.size 23 #[.int .i32 e.c, .int .i32 e.b, .int .i32 e.o, .int .u8 e.bo, .int .u8 e.it, .int .u8 e.un, .bool e.ni] (0, 0) _ rfl hfin Tryd.underlying23 rfl (by kernel_rfl)) rfl ⟨by rw [HE.out]; rfl, hbe⟩
theorem entered_c (e : Ent) (w : World) : Calls Tryd.prog 27 #[.agg #[.int .i32 e.c, .int .i32 e.b, .int .i32 e.o, .int .u8 e.bo, .int .u8 e.it, .int .u8 e.un, .bool e.ni]] w fun x w' => x = .returned (.agg #[.int .i32 e.c, .int .i32 e.b, .int .i32 e.o, .int .u8 e.bo, .int .u8 e.it, .int .u8 e.un, .bool e.ni]) ∧ Below w.heap.size w w' :=
  A.impl_entered.calls _ _ _ _ _ _ _ _ _ _ _ _ _ _ w rfl
theorem flat_get : ∀ (es : List Ent) (i j : Nat) (hi : i < es.length) (hj : j < 7), (flat es)[i * 7 + j]? = (cells es[i])[j]?
  | e :: es, 0, j, _, hj => by
    have : flat (e :: es) = (cells e).toList ++ flat es := by simp [flat]
    rw [this, List.getElem?_append_left (by simp [cells]; omega)]
    simp
  | e :: es, i + 1, j, hi, hj => by
    have : flat (e :: es) = (cells e).toList ++ flat es := by simp [flat]
    rw [this, List.getElem?_append_right (by simp [cells]; omega)]
    have h7 : (cells e).toList.length = 7 := rfl
    rw [h7, show (i + 1) * 7 + j - 7 = i * 7 + j by omega, flat_get es i j (by simpa using hi) hj]
    simp
theorem own_ents {W : World} {base cap g : Nat} {T : TypeId} {es : List Ent} (h : W.ownsRow base T 7 (.slice (some ⟨g, 0, none⟩) es.length cap) es.length (flat es)) : Ents W g 0 es := by
  intro i hi
  have c : ∀ j (hj : j < 7) (u : Value), (cells es[i])[j]? = some u → W.cell? ⟨g, 0 + i * 7 + j, none⟩ = some u := by
    intro j hj u hu
    have := h.cells (g := g) rfl (i * 7 + j) u (by rw [flat_get es i j hi hj]; exact hu)
    rw [add_plain] at this
    rw [Nat.zero_add]
    exact this
  exact ⟨c 0 (by omega) _ rfl, c 1 (by omega) _ rfl, c 2 (by omega) _ rfl, c 3 (by omega) _ rfl, c 4 (by omega) _ rfl, c 5 (by omega) _ rfl, c 6 (by omega) _ rfl⟩
theorem infoS : (Tryd.prog.info? 57).map (fun i => (i.zero, i.size, i.bytes)) = some (some (.agg #[(.int .i32 0), (.int .i32 0), (.int .i32 0), (.int .u8 0), (.int .u8 0), (.int .u8 0), (.bool false)]), 7, 16) := by kernel_rfl
set_option maxRecDepth 100000 in
set_option maxHeartbeats 8000000 in
theorem eInh_c (e : Ent) (A : Option Addr) (cap : Nat) (es : List Ent) (hl : es.length ≤ 1000000) (hc : es.length ≤ cap) (w : World) (hA : es ≠ [] → ∃ g o, A = some ⟨g, o, none⟩ ∧ g < w.heap.size ∧ Ents w g o es) :
    Calls Tryd.prog 18 #[.agg #[.int .i32 e.c, .int .i32 e.b, .int .i32 e.o, .int .u8 e.bo, .int .u8 e.it, .int .u8 e.un, .bool e.ni], .slice A es.length cap] w fun x w' => x = .returned (inhL e es).val ∧ Below w.heap.size w w' := by
  have hsk : ∃ W0, (w.alloc (.cells #[.int .i32 e.c, .int .i32 e.b, .int .i32 e.o, .int .u8 e.bo, .int .u8 e.it, .int .u8 e.un, .bool e.ni] 23)).alloc (.cells #[.int .i32 0, .int .i32 0, .int .i32 0, .int .u8 0, .int .u8 0, .int .u8 0, .bool false] 23) = W0 ∧ W0.heap[w.heap.size]? = some (.cells (cells e) 23 (0, 0)) ∧ W0.heap[w.heap.size + 1]? = some (.cells (cells zeroE) 23 (0, 0)) ∧ Below w.heap.size w W0 ∧ W0.heap.size = w.heap.size + 2 := by
    refine ⟨_, rfl, blk_alloc (blk_new _ _) _, ?_, below_alloc (below_alloc (Below.refl _ _) _) _, by simp⟩
    have := blk_new (w.alloc (.cells #[.int .i32 e.c, .int .i32 e.b, .int .i32 e.o, .int .u8 e.bo, .int .u8 e.it, .int .u8 e.un, .bool e.ni] 23)) (.cells #[.int .i32 0, .int .i32 0, .int .i32 0, .int .u8 0, .int .u8 0, .int .u8 0, .bool false] 23)
    rw [World.size_alloc] at this
    exact this
  obtain ⟨W0, hW0, hE0, hR0, hBw, hs0⟩ := hsk
  have hu := Tryd.underlying23
  have HA := Aside0.mk hA
  have HS0 := Aside0.mk hs0
  have hr : ∃ r, inhL e es = r := ⟨_, rfl⟩
  obtain ⟨r, hr⟩ := hr
  have HR := Aside0.mk hr
  rw [hr]
  clear hA hs0 hr
  go_enter Tryd.func18, Tryd.ntmps18
  go_upto_region 2 with fail
  clear hW0
  go_wp2
  go_loopw [5, 10] (fun v i wr => ∃ k : Nat, k ≤ es.length ∧ i = .int .i64 (k : Int) ∧ Aside0 (wr.ownsRow W0.heap.size 57 7 v k (flat (es.take k))) ∧ Aside0 (Below W0.heap.size W0 wr)) (fun _ i _ => es.length - (intOf i).toNat)
  case atStart => exact ⟨0, Nat.zero_le _, rfl, ⟨own_nil _ _ _ _⟩, ⟨Below.refl _ _⟩⟩
  case round =>
    obtain ⟨k, hkl, rfl, HO, HB⟩ := hrel
    by_cases hlt : k < es.length
    · obtain ⟨g, o, rfl, hg, hP⟩ := HA.out (fun e => by rw [e] at hlt; simp at hlt)
      have hP' := hP.same ((HB.out.block g (Nat.lt_of_lt_of_le hg hBw.size)).trans (hBw.block g hg))
      obtain ⟨d0, d1, d2, d3, d4, d5, d6⟩ := hP' k hlt
      have htk : es.take (k + 1) = es.take k ++ [es[k]] := by rw [List.take_succ_eq_append_getElem hlt]
      generalize es[k] = a at *
      have hlti : (k : Int) < (es.length : Int) := by omega
      have HT := Aside0.mk htk
      clear htk hP hP'
      obtain ⟨A0, c0, hv⟩ := own_slice HO.out
      subst hv
      have hone : ∀ u ∈ [Value.int .i32 a.c, .int .i32 a.b, .int .i32 a.o, .int .u8 a.bo, .int .u8 a.it, .int .u8 a.un, .bool a.ni], u.oneCell' = true := by simp [Value.oneCell']
      have hbd : (k + 1) * 16 ≤ 140737488355328 := by omega
      have HN := Aside0.mk hone
      have HD := Aside0.mk hbd
      clear hone hbd
      go_wp2_with (first | (go_at_call 27; refine (entered_c a _).mono ?_; rintro x1 w1 ⟨rfl, hb1⟩; have hb1' : Below wr.heap.size wr w1 := (below_alloc (Below.refl _ _) _).trans (hb1.mono (by simp))) | ((with_reducible refine gate_builtin (b := .append) (xs := #[.tmp 14, .tmp 17]) rfl ?_); at_builtin; refine print_append_cells (w0 := W0) W0.heap.size rfl (.tmp 14) (.tmp 17) 73 57 (.agg #[(.int .i32 0), (.int .i32 0), (.int .i32 0), (.int .u8 0), (.int .u8 0), (.int .u8 0), (.bool false)]) 7 16 rfl Tryd.underlying73 infoS rfl (Nat.succ_pos _) (Nat.succ_pos _) (.slice A0 k c0) k (flat (es.take k)) [.int .i32 a.c, .int .i32 a.b, .int .i32 a.o, .int .u8 a.bo, .int .u8 a.it, .int .u8 a.un, .bool a.ni] rfl rfl rfl HN.out (pw_own_below HO.out hb1') (below_on HB.out hb1' HB.out.size) (Nat.le_trans HB.out.size hb1'.size) HD.out ?_; intro v1 w3 ho3 hB3 hg3 hat3; obtain ⟨A3, c3, hv3⟩ := own_slice ho3))
      refine ⟨⟨k + 1, by omega, by rw [Int.natCast_add]; rfl, ⟨?_⟩, ⟨hB3⟩⟩, by simp [intOf]; omega⟩
      rw [HT.out, flat_snoc, ← hv3]
      exact ho3
    · obtain rfl : k = es.length := by omega
      rw [List.take_length] at HO
      have hE1 := (HB.out.block _ (blk_lt hE0)).trans hE0
      have hR1 := (HB.out.block _ (blk_lt hR0)).trans hR0
      obtain ⟨b0, b1, b2, b3, b4, b5, b6, -, -, -, -, -, -, -⟩ := blk7e hE1
      obtain ⟨A0, c0, hv⟩ := own_slice HO.out
      subst hv
      have kI : Aside0 (∀ W, Below wr.heap.size wr W → Calls Tryd.prog 36 #[.agg #[.int .i32 e.c, .int .i32 e.b, .int .i32 e.o, .int .u8 e.bo, .int .u8 e.it, .int .u8 e.un, .bool e.ni], .slice A0 es.length c0] W fun x w' => x = .returned (.agg #[.int .i32 r.c, .int .i32 r.b, .int .i32 r.o, .int .u8 r.bo, .int .u8 r.it, .int .u8 r.un, .bool r.ni]) ∧ Below W.heap.size W w') := by
        refine ⟨fun W hW => ?_⟩
        have hO := pw_own_below HO.out hW
        refine (inherit_c e A0 c0 es hl W (fun hne => ?_)).mono (fun x w' h => ⟨by rw [h.1, HR.out]; rfl, h.2⟩)
        obtain ⟨g, cap', hq, _, _⟩ := hO.form (List.length_pos_iff.2 hne)
        injection hq with hq
        subst hq
        exact ⟨g, 0, rfl, own_lt hO g rfl, own_ents hO⟩
      clear hE1
      go_wp2_with (first | (go_at_call 27; refine (entered_c e _).mono ?_; rintro x1 w1 ⟨rfl, hb1⟩) | (go_at_call 36; refine (kI.out _ hb1).mono ?_; rintro x2 w2 ⟨rfl, hb2⟩; have hb12 := below_on hb1 hb2 hb1.size) | (go_at_call 34; refine (plain_c r _).mono ?_; rintro x3 w3 ⟨rfl, hb3⟩; have hb13 := below_on hb12 hb3 hb12.size; have hR3 := (hb13.block _ (blk_lt hR1)).trans hR1; obtain ⟨r0, r1, r2, r3, r4, r5, r6, g0, g1, g2, g3, g4, g5, g6⟩ := blk7e hR3))
      have hfin := res7e r hR3
      rw [set7] at hfin
      have hs0 := HS0.out
      have hb03 := below_on HB.out hb13 HB.out.size
      have hbe := (hBw.trans (hb03.mono (by omega))).trans (setAll_below (b := w.heap.size + 1) (n := w.heap.size) (by omega) [.int .i32 r.c, .int .i32 r.b, .int .i32 r.o, .int .u8 r.bo, .int .u8 r.it, .int .u8 r.un, .bool r.ni] w3 0)
      rw [set7] at hbe
      exact bodyPost_ret (results_cell_row rfl _ _ (w.heap.size + 1) 23 #[.int .i32 r.c, .int .i32 r.b, .int .i32 r.o, .int .u8 r.bo, .int .u8 r.it, .int .u8 r.un, .bool r.ni] (0, 0) _ rfl hfin Tryd.underlying23 rfl (by kernel_rfl)) rfl ⟨rfl, hbe⟩
end Go.Proofs.YtifhhejohdmiaaaDoorEnt
