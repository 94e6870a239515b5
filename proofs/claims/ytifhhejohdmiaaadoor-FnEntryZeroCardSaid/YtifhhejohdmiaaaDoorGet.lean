/- Style.get and Style.Get: what the calls compute. -/
import Derived.Test.YtifhhejohdmiaaaDoorSty2
import Derived.Test.YtifhhejohdmiaaaDoorBod
import Derived.Test.YtifhhejohdmiaaaDoorAx1
set_option linter.unusedVariables false
set_option linter.unusedSimpArgs false
namespace Go.Proofs.YtifhhejohdmiaaaDoorEnt
open Go.RowKit Go.Shelf Go.Proofs.YtifhhejohdmiaaaDoorW.PrintWords Go.Proofs.YtifhhejohdmiaaaDoorFmt Go.Proofs.YtifhhejohdmiaaaDoorMapI Go.Proofs.YtifhhejohdmiaaaDoorFlt Go.Proofs.YtifhhejohdmiaaaDoor
def isZ (e : Ent) : Bool := e.c == 0 && e.b == 0 && e.o == 0 && e.bo == 0 && e.it == 0 && e.un == 0 && !e.ni
theorem isZ_f (e : Ent) : A.chroma_StyleEntry_IsZero.f e.c e.b e.o e.bo e.it e.un e.ni = some (isZ e) := by
  unfold A.chroma_StyleEntry_IsZero.f isZ
  by_cases h1 : e.c = 0 <;> by_cases h2 : e.b = 0 <;> by_cases h3 : e.o = 0 <;> by_cases h4 : e.bo = 0 <;> by_cases h5 : e.it = 0 <;> by_cases h6 : e.un = 0 <;> simp [h1, h2, h3, h4, h5, h6]
theorem isZ_c (e : Ent) (w : World) : Calls Tryd.prog 28 #[.agg #[.int .i32 e.c, .int .i32 e.b, .int .i32 e.o, .int .u8 e.bo, .int .u8 e.it, .int .u8 e.un, .bool e.ni]] w fun x w' => x = .returned (.bool (isZ e)) ∧ Below w.heap.size w w' :=
  A.chroma_StyleEntry_IsZero.calls _ _ _ _ _ _ _ _ w (isZ_f e)
def synt (t : Int) : Bool := t == -6 || t == -4 || t == -5
theorem synt_c (p : Option Addr) (t : Int) (w : World) : Calls Tryd.prog 81 #[.pointer p, .int .i64 t] w fun x w' => x = .returned (.bool (synt t)) ∧ Below w.heap.size w w' := by
  have hs : synt t = (t == -6 || t == -4 || t == -5) := rfl
  have HS := Aside0.mk hs
  clear hs
  by_cases h1 : t = -6
  · subst h1
    go_enter Tryd.func81, Tryd.ntmps81
    go_wp2
    go_ret
    exact ⟨by rw [HS.out]; rfl, Below.refl _ _⟩
  · have b1 : (t == -6) = false := beq_eq_false_iff_ne.2 h1
    by_cases h2 : t = -4
    · subst h2
      go_enter Tryd.func81, Tryd.ntmps81
      go_wp2
      go_ret
      exact ⟨by rw [HS.out]; rfl, Below.refl _ _⟩
    · have b2 : (t == -4) = false := beq_eq_false_iff_ne.2 h2
      go_enter Tryd.func81, Tryd.ntmps81
      go_wp2
      go_ret
      exact ⟨by rw [HS.out, b1, b2]; first | rfl | (simp; done), Below.refl _ _⟩
/-- What an entry looks like in a map that may lack it. -/
def at0 (f : Int → Option Ent) (t : Int) : Ent := (f t).getD zeroE
theorem zeroV (w : World) : (zeroValue 57).run Tryd.prog w = .ok zeroE.val w := by kernel_rfl
theorem ME.look {w : World} {m n : Nat} {f : Int → Option Ent} (h : ME w m n f) {t : Int} (ht : Ok t) :
    (Instr.lookup 135 (.map (some m)) (.int .i64 t) false).run Tryd.prog w = .ok (.agg #[.int .i32 (at0 f t).c, .int .i32 (at0 f t).b, .int .i32 (at0 f t).o, .int .u8 (at0 f t).bo, .int .u8 (at0 f t).it, .int .u8 (at0 f t).un, .bool (at0 f t).ni]) w := by
  rw [MapI.look h Tryd.underlying99 Tryd.underlying135 (zeroV w) ht]
  unfold at0
  cases f t <;> rfl
/-- While Style.get runs. -/
structure GetI (b m n : Nat) (nm cp : ByteArray) (pa : Option Addr) (f : Int → Option Ent) (o : Ent) (w W : World) : Prop where
  out : W.heap[w.heap.size + 1]? = some (.cells (cells o) 57 (0, 0))
  res : W.heap[w.heap.size]? = some (.cells (cells zeroE) 57 (0, 0))
  sty : StyCell W b m nm cp pa
  map : ME W m n f
  below : Below w.heap.size w W
theorem GetI.later {b m n : Nat} {nm cp : ByteArray} {pa : Option Addr} {f : Int → Option Ent} {o : Ent} {w W W' : World} (h : GetI b m n nm cp pa f o w W) (hb : Below W.heap.size W W') : GetI b m n nm cp pa f o w W' :=
  ⟨(hb.block _ (blk_lt h.out)).trans h.out, (hb.block _ (blk_lt h.res)).trans h.res, (hb.block _ (blk_lt h.sty)).trans h.sty, MapI.below h.map hb h.map.lt, h.below.trans (hb.mono h.below.size)⟩
theorem GetI.rd {b m n : Nat} {nm cp : ByteArray} {pa : Option Addr} {f : Int → Option Ent} {o : Ent} {w W : World} (h : GetI b m n nm cp pa f o w W) :
    W.cell? ⟨w.heap.size + 1, 0, none⟩ = some (.int .i32 o.c) ∧ W.cell? ⟨w.heap.size + 1, 1, none⟩ = some (.int .i32 o.b) ∧ W.cell? ⟨w.heap.size + 1, 2, none⟩ = some (.int .i32 o.o) ∧ W.cell? ⟨w.heap.size + 1, 3, none⟩ = some (.int .u8 o.bo) ∧ W.cell? ⟨w.heap.size + 1, 4, none⟩ = some (.int .u8 o.it) ∧ W.cell? ⟨w.heap.size + 1, 5, none⟩ = some (.int .u8 o.un) ∧ W.cell? ⟨w.heap.size + 1, 6, none⟩ = some (.bool o.ni) ∧
    W.cell? ⟨b, 3, none⟩ = some (.pointer pa) :=
  ⟨(blk_cell h.out 0).trans rfl, (blk_cell h.out 1).trans rfl, (blk_cell h.out 2).trans rfl, (blk_cell h.out 3).trans rfl, (blk_cell h.out 4).trans rfl, (blk_cell h.out 5).trans rfl, (blk_cell h.out 6).trans rfl, (blk_cell h.sty 3).trans rfl⟩
theorem blk7 {W : World} {g : Nat} {o : Ent} (h : W.heap[g]? = some (.cells (cells o) 57 (0, 0))) :
    W.cell? ⟨g, 0, none⟩ = some (.int .i32 o.c) ∧ W.cell? ⟨g, 1, none⟩ = some (.int .i32 o.b) ∧ W.cell? ⟨g, 2, none⟩ = some (.int .i32 o.o) ∧ W.cell? ⟨g, 3, none⟩ = some (.int .u8 o.bo) ∧ W.cell? ⟨g, 4, none⟩ = some (.int .u8 o.it) ∧ W.cell? ⟨g, 5, none⟩ = some (.int .u8 o.un) ∧ W.cell? ⟨g, 6, none⟩ = some (.bool o.ni) ∧
    W.frozen? ⟨g, 0, none⟩ = false ∧ W.frozen? ⟨g, 1, none⟩ = false ∧ W.frozen? ⟨g, 2, none⟩ = false ∧ W.frozen? ⟨g, 3, none⟩ = false ∧ W.frozen? ⟨g, 4, none⟩ = false ∧ W.frozen? ⟨g, 5, none⟩ = false ∧ W.frozen? ⟨g, 6, none⟩ = false :=
  ⟨(blk_cell h 0).trans rfl, (blk_cell h 1).trans rfl, (blk_cell h 2).trans rfl, (blk_cell h 3).trans rfl, (blk_cell h 4).trans rfl, (blk_cell h 5).trans rfl, (blk_cell h 6).trans rfl, blk_frozen h 0, blk_frozen h 1, blk_frozen h 2, blk_frozen h 3, blk_frozen h 4, blk_frozen h 5, blk_frozen h 6⟩
/-- A result of seven cells, written and handed back. -/
theorem res7 {W : World} {g : Nat} {o : Ent} (e : Ent) (h : W.heap[g]? = some (.cells (cells o) 57 (0, 0))) :
    (setAll g W 0 [.int .i32 e.c, .int .i32 e.b, .int .i32 e.o, .int .u8 e.bo, .int .u8 e.it, .int .u8 e.un, .bool e.ni]).heap[g]? = some (.cells #[.int .i32 e.c, .int .i32 e.b, .int .i32 e.o, .int .u8 e.bo, .int .u8 e.it, .int .u8 e.un, .bool e.ni] 57 (0, 0)) := by
  rw [setAll_blk _ _ 0 _ h]; simp [cells, putAll]
set_option maxRecDepth 100000 in
set_option maxHeartbeats 8000000 in
theorem get_step (b m n : Nat) (nm cp : ByteArray) (pa : Option Addr) (f : Int → Option Ent) (t : Int) (ht : Ok t) (w : World) (hS : StyCell w b m nm cp pa) (hM : ME w m n f) (rp se : Ent)
    (hp : isZ (at0 f t) = true → pa ≠ none → ∀ W, Below w.heap.size w W → Calls Tryd.prog 69 #[.pointer pa, .int .i64 t] W fun x W' => x = .returned rp.val ∧ Below W.heap.size W W')
    (hs : isZ (at0 f t) = true → pa = none → synt t = true → ∀ W, Below w.heap.size w W → Calls Tryd.prog 82 #[.pointer (some ⟨b, 0, none⟩), .int .i64 t] W fun x W' => x = .returned se.val ∧ Below W.heap.size W W') :
    Calls Tryd.prog 69 #[.pointer (some ⟨b, 0, none⟩), .int .i64 t] w fun x w' => x = .returned (if isZ (at0 f t) = true then (if pa = none then (if synt t = true then se else at0 f t) else rp) else at0 f t).val ∧ Below w.heap.size w w' := by
  have hlk := hM.look ht
  have c2 : w.cell? ⟨b, 2, none⟩ = some (.map (some m)) := (blk_cell hS 2).trans rfl
  have lb := blk_lt hS
  have kZ := Aside0.mk (isZ_c (at0 f t))
  simp only [Ent.val] at hp hs
  have HP := Aside0.mk hp
  have HSy := Aside0.mk hs
  have hlk' : (Instr.lookup 135 (.map (some m)) (.int .i64 t) false).run Tryd.prog (w.alloc (.cells #[.int .i32 0, .int .i32 0, .int .i32 0, .int .u8 0, .int .u8 0, .int .u8 0, .bool false] 57)) = .ok (.agg #[.int .i32 (at0 f t).c, .int .i32 (at0 f t).b, .int .i32 (at0 f t).o, .int .u8 (at0 f t).bo, .int .u8 (at0 f t).it, .int .u8 (at0 f t).un, .bool (at0 f t).ni]) (w.alloc (.cells #[.int .i32 0, .int .i32 0, .int .i32 0, .int .u8 0, .int .u8 0, .int .u8 0, .bool false] 57)) :=
    ME.look (MapI.below hM (below_alloc (Below.refl _ _) _) hM.lt) ht
  have HS := Aside0.mk hS
  have HM := Aside0.mk hM
  clear hp hs hS hM hlk
  have hu := Tryd.underlying57
  generalize at0 f t = o at *
  generalize hr : (if isZ o = true then (if pa = none then (if synt t = true then se else o) else rp) else o) = r
  have HR := Aside0.mk hr
  clear hr
  go_enter Tryd.func69, Tryd.ntmps69
  go_upto_region 2 with fail
  have hsk : ∃ W0, ((w.alloc (.cells #[.int .i32 0, .int .i32 0, .int .i32 0, .int .u8 0, .int .u8 0, .int .u8 0, .bool false] 57)).alloc (.cells #[.int .i32 o.c, .int .i32 o.b, .int .i32 o.o, .int .u8 o.bo, .int .u8 o.it, .int .u8 o.un, .bool o.ni] 57)) = W0 ∧ GetI b m n nm cp pa f o w W0 := by
    have hB : Below w.heap.size w ((w.alloc (.cells #[.int .i32 0, .int .i32 0, .int .i32 0, .int .u8 0, .int .u8 0, .int .u8 0, .bool false] 57)).alloc (.cells #[.int .i32 o.c, .int .i32 o.b, .int .i32 o.o, .int .u8 o.bo, .int .u8 o.it, .int .u8 o.un, .bool o.ni] 57)) := below_alloc (below_alloc (Below.refl _ _) _) _
    refine ⟨_, rfl, ⟨?_, blk_alloc (blk_new _ _) _, (hB.block _ lb).trans HS.out, MapI.below HM.out hB HM.out.lt, hB⟩⟩
    have := blk_new (w.alloc (.cells #[.int .i32 0, .int .i32 0, .int .i32 0, .int .u8 0, .int .u8 0, .int .u8 0, .bool false] 57)) (.cells #[.int .i32 o.c, .int .i32 o.b, .int .i32 o.o, .int .u8 o.bo, .int .u8 o.it, .int .u8 o.un, .bool o.ni] 57)
    rw [World.size_alloc] at this
    exact this
  obtain ⟨W0, hW0, G0⟩ := hsk
  rw [hW0]
  obtain ⟨a0, a1, a2, a3, a4, a5, a6, a7⟩ := G0.rd
  clear hW0 hlk' c2
  cases hz : isZ o with
  | false =>
    have HZ := Aside0.mk hz
    rw [hz] at kZ
    go_upto_region 4 with (go_at_call 28; refine (kZ.out _).mono ?_; rintro x1 w1 ⟨rfl, h1⟩; have G1 := G0.later h1; obtain ⟨a0, a1, a2, a3, a4, a5, a6, a7⟩ := G1.rd)
    go_wp2_with (go_at_call 28; refine (kZ.out _).mono ?_; rintro x1 w2 ⟨rfl, h2⟩; have G2 := G1.later h2; obtain ⟨a0, a1, a2, a3, a4, a5, a6, a7⟩ := G2.rd; obtain ⟨r0, r1, r2, r3, r4, r5, r6, g0, g1, g2, g3, g4, g5, g6⟩ := blk7 G2.res)
    have hfin := res7 o G2.res
    rw [set7] at hfin
    have hbe := G2.below.trans (setAll_below (b := w.heap.size) (Nat.le_refl w.heap.size) [.int .i32 o.c, .int .i32 o.b, .int .i32 o.o, .int .u8 o.bo, .int .u8 o.it, .int .u8 o.un, .bool o.ni] _ 0)
    rw [set7] at hbe
    exact bodyPost_ret (results_cell_row rfl _ _ w.heap.size 57 #[.int .i32 o.c, .int .i32 o.b, .int .i32 o.o, .int .u8 o.bo, .int .u8 o.it, .int .u8 o.un, .bool o.ni] (0, 0) _ rfl hfin Tryd.underlying57 rfl (by kernel_rfl)) rfl ⟨by rw [← HR.out]; simp [HZ.out, Ent.val], hbe⟩
  | true =>
    have HZ := Aside0.mk hz
    rw [hz] at kZ
    cases pa with
    | some p =>
      have hcall := Aside0.mk (HP.out hz (by simp))
      clear hz HP HSy
      go_wp2_with (first | (go_at_call 28; refine (kZ.out _).mono ?_; rintro x1 w1 ⟨rfl, h1⟩; have G1 := G0.later h1; obtain ⟨a0, a1, a2, a3, a4, a5, a6, a7⟩ := G1.rd) | (go_at_call 69; refine (hcall.out _ G1.below).mono ?_; rintro x3 w3 ⟨rfl, h3⟩; have G3 := G1.later h3; obtain ⟨r0, r1, r2, r3, r4, r5, r6, g0, g1, g2, g3, g4, g5, g6⟩ := blk7 G3.res))
      have hfin := res7 rp G3.res
      rw [set7] at hfin
      have hbe := G3.below.trans (setAll_below (b := w.heap.size) (Nat.le_refl w.heap.size) [.int .i32 rp.c, .int .i32 rp.b, .int .i32 rp.o, .int .u8 rp.bo, .int .u8 rp.it, .int .u8 rp.un, .bool rp.ni] _ 0)
      rw [set7] at hbe
      exact bodyPost_ret (results_cell_row rfl _ _ w.heap.size 57 #[.int .i32 rp.c, .int .i32 rp.b, .int .i32 rp.o, .int .u8 rp.bo, .int .u8 rp.it, .int .u8 rp.un, .bool rp.ni] (0, 0) _ rfl hfin Tryd.underlying57 rfl (by kernel_rfl)) rfl ⟨by rw [← HR.out]; simp [HZ.out, Ent.val], hbe⟩
    | none =>
      have kSy := Aside0.mk (synt_c (some ⟨b, 0, none⟩) t)
      have hcall := Aside0.mk (HSy.out hz rfl)
      clear hz HP HSy
      go_upto_region 4 with (go_at_call 28; refine (kZ.out _).mono ?_; rintro x1 w1 ⟨rfl, h1⟩; have G1 := G0.later h1; obtain ⟨a0, a1, a2, a3, a4, a5, a6, a7⟩ := G1.rd)
      cases hy : synt t with
      | false =>
        have HY := Aside0.mk hy
        rw [hy] at kSy
        go_wp2_with (first | (go_at_call 28; refine (kZ.out _).mono ?_; rintro x1 w2 ⟨rfl, h2⟩; have G2 := G1.later h2; obtain ⟨a0, a1, a2, a3, a4, a5, a6, a7⟩ := G2.rd) | (go_at_call 81; refine (kSy.out _).mono ?_; rintro x2 w3 ⟨rfl, h3⟩; have G3 := G2.later h3; obtain ⟨a0, a1, a2, a3, a4, a5, a6, a7⟩ := G3.rd; obtain ⟨r0, r1, r2, r3, r4, r5, r6, g0, g1, g2, g3, g4, g5, g6⟩ := blk7 G3.res))
        have hfin := res7 o G3.res
        rw [set7] at hfin
        have hbe := G3.below.trans (setAll_below (b := w.heap.size) (Nat.le_refl w.heap.size) [.int .i32 o.c, .int .i32 o.b, .int .i32 o.o, .int .u8 o.bo, .int .u8 o.it, .int .u8 o.un, .bool o.ni] _ 0)
        rw [set7] at hbe
        exact bodyPost_ret (results_cell_row rfl _ _ w.heap.size 57 #[.int .i32 o.c, .int .i32 o.b, .int .i32 o.o, .int .u8 o.bo, .int .u8 o.it, .int .u8 o.un, .bool o.ni] (0, 0) _ rfl hfin Tryd.underlying57 rfl (by kernel_rfl)) rfl ⟨by rw [← HR.out]; simp [HZ.out, HY.out, Ent.val], hbe⟩
      | true =>
        have HY := Aside0.mk hy
        have hcall' := Aside0.mk (hcall.out hy)
        rw [hy] at kSy
        clear hcall hy
        go_wp2_with (first | (go_at_call 28; refine (kZ.out _).mono ?_; rintro x1 w2 ⟨rfl, h2⟩; have G2 := G1.later h2; obtain ⟨a0, a1, a2, a3, a4, a5, a6, a7⟩ := G2.rd) | (go_at_call 81; refine (kSy.out _).mono ?_; rintro x2 w3 ⟨rfl, h3⟩; have G3 := G2.later h3; obtain ⟨a0, a1, a2, a3, a4, a5, a6, a7⟩ := G3.rd) | (go_at_call 82; refine (hcall'.out _ G3.below).mono ?_; rintro x4 w4 ⟨rfl, h4⟩; have G4 := G3.later h4; obtain ⟨r0, r1, r2, r3, r4, r5, r6, g0, g1, g2, g3, g4, g5, g6⟩ := blk7 G4.res; obtain ⟨q0, q1, q2, q3, q4, q5, q6, p0, p1, p2, p3, p4, p5, p6⟩ := blk7 G4.out))
        have hres' := (setAll_other (b := w.heap.size + 1) (k := w.heap.size) (by omega) [.int .i32 se.c, .int .i32 se.b, .int .i32 se.o, .int .u8 se.bo, .int .u8 se.it, .int .u8 se.un, .bool se.ni] w4 0).trans G4.res
        have hfin := res7 se hres'
        have hbe := (G4.below.trans (setAll_below (b := w.heap.size + 1) (Nat.le_succ w.heap.size) [.int .i32 se.c, .int .i32 se.b, .int .i32 se.o, .int .u8 se.bo, .int .u8 se.it, .int .u8 se.un, .bool se.ni] w4 0)).trans (setAll_below (b := w.heap.size) (Nat.le_refl w.heap.size) [.int .i32 se.c, .int .i32 se.b, .int .i32 se.o, .int .u8 se.bo, .int .u8 se.it, .int .u8 se.un, .bool se.ni] _ 0)
        simp only [set7] at hfin hbe
        exact bodyPost_ret (results_cell_row rfl _ _ w.heap.size 57 #[.int .i32 se.c, .int .i32 se.b, .int .i32 se.o, .int .u8 se.bo, .int .u8 se.it, .int .u8 se.un, .bool se.ni] (0, 0) _ rfl hfin Tryd.underlying57 rfl (by kernel_rfl)) rfl ⟨by rw [← HR.out]; simp [HZ.out, HY.out, Ent.val], hbe⟩
/-- What a style makes up of its background. -/
def synE (bg : Ent) (t : Int) : Ent := if t = -6 then ⟨0, bod 4591870180066957722 bg.b, 0, 0, 0, 0, false⟩ else if t = -4 ∨ t = -5 then ⟨bod 4602678819172646912 bg.c, 0, 0, 0, 0, 0, false⟩ else zeroE
structure SynI (s : Nat) (bg tx : Ent) (w W : World) : Prop where
  bgb : W.heap[s]? = some (.cells (cells bg) 57 (0, 0))
  txt : W.heap[s + 1]? = some (.cells (cells tx) 57 (0, 0))
  res : W.heap[w.heap.size]? = some (.cells (cells zeroE) 57 (0, 0))
  below : Below w.heap.size w W
theorem SynI.later {s : Nat} {bg tx : Ent} {w W W' : World} (h : SynI s bg tx w W) (hb : Below W.heap.size W W') : SynI s bg tx w W' :=
  ⟨(hb.block _ (blk_lt h.bgb)).trans h.bgb, (hb.block _ (blk_lt h.txt)).trans h.txt, (hb.block _ (blk_lt h.res)).trans h.res, h.below.trans (hb.mono h.below.size)⟩
set_option maxRecDepth 100000 in
set_option maxHeartbeats 8000000 in
theorem syn_step (b : Nat) (t : Int) (bg : Ent) (w : World)
    (hg : ∀ W, Below w.heap.size w W → Calls Tryd.prog 69 #[.pointer (some ⟨b, 0, none⟩), .int .i64 (-1)] W fun x W' => x = .returned bg.val ∧ Below W.heap.size W W') :
    Calls Tryd.prog 82 #[.pointer (some ⟨b, 0, none⟩), .int .i64 t] w fun x w' => x = .returned (synE bg t).val ∧ Below w.heap.size w w' := by
  simp only [Ent.val] at hg
  have HG := Aside0.mk hg
  have k1 := Aside0.mk (bod_c 4602678819172646912 good_half (by decide) bg.c)
  have k2 := Aside0.mk (bod_c 4591870180066957722 good_tenth (by decide) bg.b)
  have hr : synE bg t = if t = -6 then ⟨0, bod 4591870180066957722 bg.b, 0, 0, 0, 0, false⟩ else if t = -4 ∨ t = -5 then ⟨bod 4602678819172646912 bg.c, 0, 0, 0, 0, 0, false⟩ else zeroE := rfl
  have HR := Aside0.mk hr
  clear hg hr
  have hu := Tryd.underlying57
  generalize bod 4602678819172646912 bg.c = x1 at *
  generalize bod 4591870180066957722 bg.b = x2 at *
  go_enter Tryd.func82, Tryd.ntmps82
  go_upto_region 3 with (go_at_call 69; refine (HG.out _ (below_alloc (Below.refl _ _) _)).mono ?_; rintro y1 w1 ⟨rfl, h1⟩)
  have hsk : ∃ W0, ((w1.alloc (.cells #[.int .i32 bg.c, .int .i32 bg.b, .int .i32 bg.o, .int .u8 bg.bo, .int .u8 bg.it, .int .u8 bg.un, .bool bg.ni] 57)).alloc (.cells #[.int .i32 bg.c, .int .i32 0, .int .i32 0, .int .u8 0, .int .u8 0, .int .u8 0, .bool false] 57)) = W0 ∧ SynI w1.heap.size bg ⟨bg.c, 0, 0, 0, 0, 0, false⟩ w W0 := by
    have hB1 : Below w.heap.size w w1 := (below_alloc (Below.refl _ _) _).trans (h1.mono (by simp))
    have hB : Below w1.heap.size w1 ((w1.alloc (.cells #[.int .i32 bg.c, .int .i32 bg.b, .int .i32 bg.o, .int .u8 bg.bo, .int .u8 bg.it, .int .u8 bg.un, .bool bg.ni] 57)).alloc (.cells #[.int .i32 bg.c, .int .i32 0, .int .i32 0, .int .u8 0, .int .u8 0, .int .u8 0, .bool false] 57)) := below_alloc (below_alloc (Below.refl _ _) _) _
    have hlt : w.heap.size < w1.heap.size := by have := h1.size; simp at this; omega
    refine ⟨_, rfl, ⟨blk_alloc (blk_new _ _) _, ?_, ?_, hB1.trans (hB.mono hB1.size)⟩⟩
    · have := blk_new (w1.alloc (.cells #[.int .i32 bg.c, .int .i32 bg.b, .int .i32 bg.o, .int .u8 bg.bo, .int .u8 bg.it, .int .u8 bg.un, .bool bg.ni] 57)) (.cells #[.int .i32 bg.c, .int .i32 0, .int .i32 0, .int .u8 0, .int .u8 0, .int .u8 0, .bool false] 57)
      rw [World.size_alloc] at this
      exact this
    · exact (hB.block _ hlt).trans ((h1.block _ (by simp)).trans (blk_new w _))
  obtain ⟨W0, hW0, I0⟩ := hsk
  rw [hW0]
  have hs1 : w.heap.size < w1.heap.size := by have := h1.size; simp at this; omega
  obtain ⟨e0, e1, e2, e3, e4, e5, e6, f0, f1, f2, f3, f4, f5, f6⟩ := blk7 I0.txt
  clear hW0 h1 HG
  simp only at e0
  go_upto_region 4 with (go_at_call 94; refine (k1.out _).mono ?_; rintro y2 w2 ⟨rfl, h2⟩; have I1 := I0.later h2; obtain ⟨e0, e1, e2, e3, e4, e5, e6, f0, f1, f2, f3, f4, f5, f6⟩ := blk7 I1.txt)
  have hsk : ∃ W2, w2.setCell ⟨w1.heap.size + 1, 0, none⟩ (.int .i32 x1) = W2 ∧ SynI w1.heap.size bg ⟨x1, 0, 0, 0, 0, 0, false⟩ w W2 := by
    refine ⟨_, rfl, ⟨(Below.heap_setCell w2 ⟨w1.heap.size + 1, 0, none⟩ _ _ (by simp)).trans I1.bgb, ?_, (Below.heap_setCell w2 ⟨w1.heap.size + 1, 0, none⟩ _ _ (by simp; omega)).trans I1.res, I1.below.setCell (p := ⟨w1.heap.size + 1, 0, none⟩) (by simp; omega) _⟩⟩
    rw [blk_set I1.txt 0]
    rfl
  obtain ⟨W2, hW2, I2⟩ := hsk
  rw [hW2]
  clear hW2 I0 I1 h2 e0 e1 e2 e3 e4 e5 e6 f0 f1 f2 f3 f4 f5 f6
  obtain ⟨b0, b1, b2, b3, b4, b5, b6, -, -, -, -, -, -, -⟩ := blk7 I2.bgb
  obtain ⟨e0, e1, e2, e3, e4, e5, e6, -, -, -, -, -, -, -⟩ := blk7 I2.txt
  obtain ⟨r0, r1, r2, r3, r4, r5, r6, g0, g1, g2, g3, g4, g5, g6⟩ := blk7 I2.res
  by_cases ht6 : t = -6
  · have T6 := Aside0.mk ht6
    have q6 : (t == -6) = true := beq_iff_eq.2 ht6
    clear ht6
    go_wp2_with (go_at_call 94; refine (k2.out _).mono ?_; rintro y3 w3 ⟨rfl, h3⟩; have I3 := I2.later h3; obtain ⟨r0, r1, r2, r3, r4, r5, r6, g0, g1, g2, g3, g4, g5, g6⟩ := blk7 I3.res)
    have hfin := res7 (⟨0, x2, 0, 0, 0, 0, false⟩ : Ent) I3.res
    rw [set7] at hfin
    have hbe := I3.below.trans (setAll_below (b := w.heap.size) (Nat.le_refl w.heap.size) [.int .i32 0, .int .i32 x2, .int .i32 0, .int .u8 0, .int .u8 0, .int .u8 0, .bool false] _ 0)
    rw [set7] at hbe
    exact bodyPost_ret (results_cell_row rfl _ _ w.heap.size 57 #[.int .i32 0, .int .i32 x2, .int .i32 0, .int .u8 0, .int .u8 0, .int .u8 0, .bool false] (0, 0) _ rfl hfin Tryd.underlying57 rfl (by kernel_rfl)) rfl ⟨by rw [HR.out]; simp [T6.out, Ent.val], hbe⟩
  · have n6 : (t == -6) = false := beq_eq_false_iff_ne.2 ht6
    have T6 := Aside0.mk ht6
    clear ht6
    by_cases ht4 : t = -4 ∨ t = -5
    · have T4 := Aside0.mk ht4
      have hfin := res7 (⟨x1, 0, 0, 0, 0, 0, false⟩ : Ent) I2.res
      rw [set7] at hfin
      have hbe := I2.below.trans (setAll_below (b := w.heap.size) (Nat.le_refl w.heap.size) [.int .i32 x1, .int .i32 0, .int .i32 0, .int .u8 0, .int .u8 0, .int .u8 0, .bool false] _ 0)
      rw [set7] at hbe
      have HF := Aside0.mk hfin
      have HB := Aside0.mk hbe
      clear hfin hbe
      rcases ht4 with h4 | h5
      · have q4 : (t == -4) = true := beq_iff_eq.2 h4
        clear h4
        go_wp2
        exact bodyPost_ret (results_cell_row rfl _ _ w.heap.size 57 #[.int .i32 x1, .int .i32 0, .int .i32 0, .int .u8 0, .int .u8 0, .int .u8 0, .bool false] (0, 0) _ rfl HF.out Tryd.underlying57 rfl (by kernel_rfl)) rfl ⟨by rw [HR.out, if_neg T6.out, if_pos T4.out]; rfl, HB.out⟩
      · have n4 : (t == -4) = false := beq_eq_false_iff_ne.2 (by omega)
        have q5 : (t == -5) = true := beq_iff_eq.2 h5
        clear h5
        go_wp2
        exact bodyPost_ret (results_cell_row rfl _ _ w.heap.size 57 #[.int .i32 x1, .int .i32 0, .int .i32 0, .int .u8 0, .int .u8 0, .int .u8 0, .bool false] (0, 0) _ rfl HF.out Tryd.underlying57 rfl (by kernel_rfl)) rfl ⟨by rw [HR.out, if_neg T6.out, if_pos T4.out]; rfl, HB.out⟩
    · have n4 : (t == -4) = false := beq_eq_false_iff_ne.2 (fun h => ht4 (.inl h))
      have n5 : (t == -5) = false := beq_eq_false_iff_ne.2 (fun h => ht4 (.inr h))
      have T4 := Aside0.mk ht4
      clear ht4
      go_wp2
      have hfin := res7 zeroE I2.res
      rw [set7] at hfin
      have hbe := I2.below.trans (setAll_below (b := w.heap.size) (Nat.le_refl w.heap.size) [.int .i32 0, .int .i32 0, .int .i32 0, .int .u8 0, .int .u8 0, .int .u8 0, .bool false] _ 0)
      rw [set7] at hbe
      exact bodyPost_ret (results_cell_row rfl _ _ w.heap.size 57 #[.int .i32 0, .int .i32 0, .int .i32 0, .int .u8 0, .int .u8 0, .int .u8 0, .bool false] (0, 0) _ rfl hfin Tryd.underlying57 rfl (by kernel_rfl)) rfl ⟨by rw [HR.out, if_neg T6.out, if_neg T4.out]; rfl, hbe⟩
end Go.Proofs.YtifhhejohdmiaaaDoorEnt
