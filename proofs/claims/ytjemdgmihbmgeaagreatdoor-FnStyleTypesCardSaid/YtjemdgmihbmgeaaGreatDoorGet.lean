/- Styles: get, Get, entries; laws.styled; impl.EntryParse, impl.EntryInherit (merged). -/
import Derived.Test.YtjemdgmihbmgeaaGreatDoorSty
import Derived.Test.YtjemdgmihbmgeaaGreatDoorBod
import Derived.Test.YtjemdgmihbmgeaaGreatDoorAx1
import Derived.Test.YtjemdgmihbmgeaaGreatDoorColMath
set_option linter.unusedVariables false
set_option linter.unusedSimpArgs false
namespace Go.Proofs.YtjemdgmihbmgeaaGreatDoorEnt
open Go.RowKit Go.Shelf Go.Proofs.YtjemdgmihbmgeaaGreatDoorW.PrintWords Go.Proofs.YtjemdgmihbmgeaaGreatDoorFmt Go.Proofs.YtjemdgmihbmgeaaGreatDoorMapI Go.Proofs.YtjemdgmihbmgeaaGreatDoorFlt Go.Proofs.YtjemdgmihbmgeaaGreatDoor
def isZ (e : Ent) : Bool := e.c == 0 && e.b == 0 && e.o == 0 && e.bo == 0 && e.it == 0 && e.un == 0 && !e.ni
theorem isZ_f (e : Ent) : A.chroma_StyleEntry_IsZero.f e.c e.b e.o e.bo e.it e.un e.ni = some (isZ e) := by
  unfold A.chroma_StyleEntry_IsZero.f isZ
  by_cases h1 : e.c = 0 <;> by_cases h2 : e.b = 0 <;> by_cases h3 : e.o = 0 <;> by_cases h4 : e.bo = 0 <;> by_cases h5 : e.it = 0 <;> by_cases h6 : e.un = 0 <;> simp [h1, h2, h3, h4, h5, h6]
theorem isZ_c (e : Ent) (w : World) : Calls Tryz.prog 60 #[.agg #[.int .i32 e.c, .int .i32 e.b, .int .i32 e.o, .int .u8 e.bo, .int .u8 e.it, .int .u8 e.un, .bool e.ni]] w fun x w' => x = .returned (.bool (isZ e)) ∧ Below w.heap.size w w' :=
  A.chroma_StyleEntry_IsZero.calls _ _ _ _ _ _ _ _ w (isZ_f e)
def synt (t : Int) : Bool := t == -6 || t == -4 || t == -5
theorem synt_c (p : Option Addr) (t : Int) (w : World) : Calls Tryz.prog 61 #[.pointer p, .int .i64 t] w fun x w' => x = .returned (.bool (synt t)) ∧ Below w.heap.size w w' := by
  have hs : synt t = (t == -6 || t == -4 || t == -5) := rfl
  have HS := Aside0.mk hs
  clear hs
  by_cases h1 : t = -6
  · subst h1
    go_enter Tryz.func61, Tryz.ntmps61
    go_wp2
    go_ret
    exact ⟨by rw [HS.out]; rfl, Below.refl _ _⟩
  · have b1 : (t == -6) = false := beq_eq_false_iff_ne.2 h1
    by_cases h2 : t = -4
    · subst h2
      go_enter Tryz.func61, Tryz.ntmps61
      go_wp2
      go_ret
      exact ⟨by rw [HS.out]; rfl, Below.refl _ _⟩
    · have b2 : (t == -4) = false := beq_eq_false_iff_ne.2 h2
      go_enter Tryz.func61, Tryz.ntmps61
      go_wp2
      go_ret
      exact ⟨by rw [HS.out, b1, b2]; first | rfl | (simp; done), Below.refl _ _⟩
/-- What an entry looks like in a map that may lack it. -/
def at0 (f : Int → Option Ent) (t : Int) : Ent := (f t).getD zeroE
theorem zeroV (w : World) : (zeroValue 94).run Tryz.prog w = .ok zeroE.val w := by kernel_rfl
theorem ME.look {w : World} {m n : Nat} {f : Int → Option Ent} (h : ME w m n f) {t : Int} (ht : Ok t) :
    (Instr.lookup 135 (.map (some m)) (.int .i64 t) false).run Tryz.prog w = .ok (.agg #[.int .i32 (at0 f t).c, .int .i32 (at0 f t).b, .int .i32 (at0 f t).o, .int .u8 (at0 f t).bo, .int .u8 (at0 f t).it, .int .u8 (at0 f t).un, .bool (at0 f t).ni]) w := by
  rw [MapI.look h Tryz.underlying68 Tryz.underlying135 (zeroV w) ht]
  unfold at0
  cases f t <;> rfl
/-- While Style.get runs. -/
structure GetI (b m n : Nat) (nm cp : ByteArray) (pa : Option Addr) (f : Int → Option Ent) (o : Ent) (w W : World) : Prop where
  out : W.heap[w.heap.size + 1]? = some (.cells (cells o) 94 (0, 0))
  res : W.heap[w.heap.size]? = some (.cells (cells zeroE) 94 (0, 0))
  sty : StyCell W b m nm cp pa
  map : ME W m n f
  below : Below w.heap.size w W
theorem GetI.later {b m n : Nat} {nm cp : ByteArray} {pa : Option Addr} {f : Int → Option Ent} {o : Ent} {w W W' : World} (h : GetI b m n nm cp pa f o w W) (hb : Below W.heap.size W W') : GetI b m n nm cp pa f o w W' :=
  ⟨(hb.block _ (blk_lt h.out)).trans h.out, (hb.block _ (blk_lt h.res)).trans h.res, (hb.block _ (blk_lt h.sty)).trans h.sty, MapI.below h.map hb h.map.lt, h.below.trans (hb.mono h.below.size)⟩
theorem GetI.rd {b m n : Nat} {nm cp : ByteArray} {pa : Option Addr} {f : Int → Option Ent} {o : Ent} {w W : World} (h : GetI b m n nm cp pa f o w W) :
    W.cell? ⟨w.heap.size + 1, 0, none⟩ = some (.int .i32 o.c) ∧ W.cell? ⟨w.heap.size + 1, 1, none⟩ = some (.int .i32 o.b) ∧ W.cell? ⟨w.heap.size + 1, 2, none⟩ = some (.int .i32 o.o) ∧ W.cell? ⟨w.heap.size + 1, 3, none⟩ = some (.int .u8 o.bo) ∧ W.cell? ⟨w.heap.size + 1, 4, none⟩ = some (.int .u8 o.it) ∧ W.cell? ⟨w.heap.size + 1, 5, none⟩ = some (.int .u8 o.un) ∧ W.cell? ⟨w.heap.size + 1, 6, none⟩ = some (.bool o.ni) ∧
    W.cell? ⟨b, 3, none⟩ = some (.pointer pa) :=
  ⟨(blk_cell h.out 0).trans rfl, (blk_cell h.out 1).trans rfl, (blk_cell h.out 2).trans rfl, (blk_cell h.out 3).trans rfl, (blk_cell h.out 4).trans rfl, (blk_cell h.out 5).trans rfl, (blk_cell h.out 6).trans rfl, (blk_cell h.sty 3).trans rfl⟩
theorem blk7 {W : World} {g : Nat} {o : Ent} (h : W.heap[g]? = some (.cells (cells o) 94 (0, 0))) :
    W.cell? ⟨g, 0, none⟩ = some (.int .i32 o.c) ∧ W.cell? ⟨g, 1, none⟩ = some (.int .i32 o.b) ∧ W.cell? ⟨g, 2, none⟩ = some (.int .i32 o.o) ∧ W.cell? ⟨g, 3, none⟩ = some (.int .u8 o.bo) ∧ W.cell? ⟨g, 4, none⟩ = some (.int .u8 o.it) ∧ W.cell? ⟨g, 5, none⟩ = some (.int .u8 o.un) ∧ W.cell? ⟨g, 6, none⟩ = some (.bool o.ni) ∧
    W.frozen? ⟨g, 0, none⟩ = false ∧ W.frozen? ⟨g, 1, none⟩ = false ∧ W.frozen? ⟨g, 2, none⟩ = false ∧ W.frozen? ⟨g, 3, none⟩ = false ∧ W.frozen? ⟨g, 4, none⟩ = false ∧ W.frozen? ⟨g, 5, none⟩ = false ∧ W.frozen? ⟨g, 6, none⟩ = false :=
  ⟨(blk_cell h 0).trans rfl, (blk_cell h 1).trans rfl, (blk_cell h 2).trans rfl, (blk_cell h 3).trans rfl, (blk_cell h 4).trans rfl, (blk_cell h 5).trans rfl, (blk_cell h 6).trans rfl, blk_frozen h 0, blk_frozen h 1, blk_frozen h 2, blk_frozen h 3, blk_frozen h 4, blk_frozen h 5, blk_frozen h 6⟩
/-- A result of seven cells, written and handed back. -/
theorem res7 {W : World} {g : Nat} {o : Ent} (e : Ent) (h : W.heap[g]? = some (.cells (cells o) 94 (0, 0))) :
    (setAll g W 0 [.int .i32 e.c, .int .i32 e.b, .int .i32 e.o, .int .u8 e.bo, .int .u8 e.it, .int .u8 e.un, .bool e.ni]).heap[g]? = some (.cells #[.int .i32 e.c, .int .i32 e.b, .int .i32 e.o, .int .u8 e.bo, .int .u8 e.it, .int .u8 e.un, .bool e.ni] 94 (0, 0)) := by
  rw [setAll_blk _ _ 0 _ h]; simp [cells, putAll]
set_option maxRecDepth 100000 in
set_option maxHeartbeats 8000000 in
theorem get_step (b m n : Nat) (nm cp : ByteArray) (pa : Option Addr) (f : Int → Option Ent) (t : Int) (ht : Ok t) (w : World) (hS : StyCell w b m nm cp pa) (hM : ME w m n f) (rp se : Ent)
    (hp : isZ (at0 f t) = true → pa ≠ none → ∀ W, Below w.heap.size w W → Calls Tryz.prog 59 #[.pointer pa, .int .i64 t] W fun x W' => x = .returned rp.val ∧ Below W.heap.size W W')
    (hs : isZ (at0 f t) = true → pa = none → synt t = true → ∀ W, Below w.heap.size w W → Calls Tryz.prog 86 #[.pointer (some ⟨b, 0, none⟩), .int .i64 t] W fun x W' => x = .returned se.val ∧ Below W.heap.size W W') :
    Calls Tryz.prog 59 #[.pointer (some ⟨b, 0, none⟩), .int .i64 t] w fun x w' => x = .returned (if isZ (at0 f t) = true then (if pa = none then (if synt t = true then se else at0 f t) else rp) else at0 f t).val ∧ Below w.heap.size w w' := by
  have hlk := hM.look ht
  have c2 : w.cell? ⟨b, 2, none⟩ = some (.map (some m)) := (blk_cell hS 2).trans rfl
  have lb := blk_lt hS
  have kZ := Aside0.mk (isZ_c (at0 f t))
  simp only [Ent.val] at hp hs
  have HP := Aside0.mk hp
  have HSy := Aside0.mk hs
  have hlk' : (Instr.lookup 135 (.map (some m)) (.int .i64 t) false).run Tryz.prog (w.alloc (.cells #[.int .i32 0, .int .i32 0, .int .i32 0, .int .u8 0, .int .u8 0, .int .u8 0, .bool false] 94)) = .ok (.agg #[.int .i32 (at0 f t).c, .int .i32 (at0 f t).b, .int .i32 (at0 f t).o, .int .u8 (at0 f t).bo, .int .u8 (at0 f t).it, .int .u8 (at0 f t).un, .bool (at0 f t).ni]) (w.alloc (.cells #[.int .i32 0, .int .i32 0, .int .i32 0, .int .u8 0, .int .u8 0, .int .u8 0, .bool false] 94)) :=
    ME.look (MapI.below hM (below_alloc (Below.refl _ _) _) hM.lt) ht
  have HS := Aside0.mk hS
  have HM := Aside0.mk hM
  clear hp hs hS hM hlk
  have hu := Tryz.underlying94
  generalize at0 f t = o at *
  generalize hr : (if isZ o = true then (if pa = none then (if synt t = true then se else o) else rp) else o) = r
  have HR := Aside0.mk hr
  clear hr
  go_enter Tryz.func59, Tryz.ntmps59
  go_upto_region 2 with fail
  have hsk : ∃ W0, ((w.alloc (.cells #[.int .i32 0, .int .i32 0, .int .i32 0, .int .u8 0, .int .u8 0, .int .u8 0, .bool false] 94)).alloc (.cells #[.int .i32 o.c, .int .i32 o.b, .int .i32 o.o, .int .u8 o.bo, .int .u8 o.it, .int .u8 o.un, .bool o.ni] 94)) = W0 ∧ GetI b m n nm cp pa f o w W0 := by
    have hB : Below w.heap.size w ((w.alloc (.cells #[.int .i32 0, .int .i32 0, .int .i32 0, .int .u8 0, .int .u8 0, .int .u8 0, .bool false] 94)).alloc (.cells #[.int .i32 o.c, .int .i32 o.b, .int .i32 o.o, .int .u8 o.bo, .int .u8 o.it, .int .u8 o.un, .bool o.ni] 94)) := below_alloc (below_alloc (Below.refl _ _) _) _
    refine ⟨_, rfl, ⟨?_, blk_alloc (blk_new _ _) _, (hB.block _ lb).trans HS.out, MapI.below HM.out hB HM.out.lt, hB⟩⟩
    have := blk_new (w.alloc (.cells #[.int .i32 0, .int .i32 0, .int .i32 0, .int .u8 0, .int .u8 0, .int .u8 0, .bool false] 94)) (.cells #[.int .i32 o.c, .int .i32 o.b, .int .i32 o.o, .int .u8 o.bo, .int .u8 o.it, .int .u8 o.un, .bool o.ni] 94)
    rw [World.size_alloc] at this
    exact this
  obtain ⟨W0, hW0, G0⟩ := hsk
  rw [hW0]
  obtain ⟨a0, a1, a2, a3, a4, a5, a6, a7⟩ := G0.rd
  clear hW0 hlk' c2
  cases hz : isZ o with
  | false =>
    have HZ := Aside0.mk hz
    rw [hz] at kZ
    go_upto_region 4 with (go_at_call 60; refine (kZ.out _).mono ?_; rintro x1 w1 ⟨rfl, h1⟩; have G1 := G0.later h1; obtain ⟨a0, a1, a2, a3, a4, a5, a6, a7⟩ := G1.rd)
    go_wp2_with (go_at_call 60; refine (kZ.out _).mono ?_; rintro x1 w2 ⟨rfl, h2⟩; have G2 := G1.later h2; obtain ⟨a0, a1, a2, a3, a4, a5, a6, a7⟩ := G2.rd; obtain ⟨r0, r1, r2, r3, r4, r5, r6, g0, g1, g2, g3, g4, g5, g6⟩ := blk7 G2.res)
    have hfin := res7 o G2.res
    rw [set7] at hfin
    have hbe := G2.below.trans (setAll_below (b := w.heap.size) (Nat.le_refl w.heap.size) [.int .i32 o.c, .int .i32 o.b, .int .i32 o.o, .int .u8 o.bo, .int .u8 o.it, .int .u8 o.un, .bool o.ni] _ 0)
    rw [set7] at hbe
    exact bodyPost_ret (results_cell_row rfl _ _ w.heap.size 94 #[.int .i32 o.c, .int .i32 o.b, .int .i32 o.o, .int .u8 o.bo, .int .u8 o.it, .int .u8 o.un, .bool o.ni] (0, 0) _ rfl hfin Tryz.underlying94 rfl (by kernel_rfl)) rfl ⟨by rw [← HR.out]; simp [HZ.out, Ent.val], hbe⟩
  | true =>
    have HZ := Aside0.mk hz
    rw [hz] at kZ
    cases pa with
    | some p =>
      have hcall := Aside0.mk (HP.out hz (by simp))
      clear hz HP HSy
      go_wp2_with (first | (go_at_call 60; refine (kZ.out _).mono ?_; rintro x1 w1 ⟨rfl, h1⟩; have G1 := G0.later h1; obtain ⟨a0, a1, a2, a3, a4, a5, a6, a7⟩ := G1.rd) | (go_at_call 59; refine (hcall.out _ G1.below).mono ?_; rintro x3 w3 ⟨rfl, h3⟩; have G3 := G1.later h3; obtain ⟨r0, r1, r2, r3, r4, r5, r6, g0, g1, g2, g3, g4, g5, g6⟩ := blk7 G3.res))
      have hfin := res7 rp G3.res
      rw [set7] at hfin
      have hbe := G3.below.trans (setAll_below (b := w.heap.size) (Nat.le_refl w.heap.size) [.int .i32 rp.c, .int .i32 rp.b, .int .i32 rp.o, .int .u8 rp.bo, .int .u8 rp.it, .int .u8 rp.un, .bool rp.ni] _ 0)
      rw [set7] at hbe
      exact bodyPost_ret (results_cell_row rfl _ _ w.heap.size 94 #[.int .i32 rp.c, .int .i32 rp.b, .int .i32 rp.o, .int .u8 rp.bo, .int .u8 rp.it, .int .u8 rp.un, .bool rp.ni] (0, 0) _ rfl hfin Tryz.underlying94 rfl (by kernel_rfl)) rfl ⟨by rw [← HR.out]; simp [HZ.out, Ent.val], hbe⟩
    | none =>
      have kSy := Aside0.mk (synt_c (some ⟨b, 0, none⟩) t)
      have hcall := Aside0.mk (HSy.out hz rfl)
      clear hz HP HSy
      go_upto_region 4 with (go_at_call 60; refine (kZ.out _).mono ?_; rintro x1 w1 ⟨rfl, h1⟩; have G1 := G0.later h1; obtain ⟨a0, a1, a2, a3, a4, a5, a6, a7⟩ := G1.rd)
      cases hy : synt t with
      | false =>
        have HY := Aside0.mk hy
        rw [hy] at kSy
        go_wp2_with (first | (go_at_call 60; refine (kZ.out _).mono ?_; rintro x1 w2 ⟨rfl, h2⟩; have G2 := G1.later h2; obtain ⟨a0, a1, a2, a3, a4, a5, a6, a7⟩ := G2.rd) | (go_at_call 61; refine (kSy.out _).mono ?_; rintro x2 w3 ⟨rfl, h3⟩; have G3 := G2.later h3; obtain ⟨a0, a1, a2, a3, a4, a5, a6, a7⟩ := G3.rd; obtain ⟨r0, r1, r2, r3, r4, r5, r6, g0, g1, g2, g3, g4, g5, g6⟩ := blk7 G3.res))
        have hfin := res7 o G3.res
        rw [set7] at hfin
        have hbe := G3.below.trans (setAll_below (b := w.heap.size) (Nat.le_refl w.heap.size) [.int .i32 o.c, .int .i32 o.b, .int .i32 o.o, .int .u8 o.bo, .int .u8 o.it, .int .u8 o.un, .bool o.ni] _ 0)
        rw [set7] at hbe
        exact bodyPost_ret (results_cell_row rfl _ _ w.heap.size 94 #[.int .i32 o.c, .int .i32 o.b, .int .i32 o.o, .int .u8 o.bo, .int .u8 o.it, .int .u8 o.un, .bool o.ni] (0, 0) _ rfl hfin Tryz.underlying94 rfl (by kernel_rfl)) rfl ⟨by rw [← HR.out]; simp [HZ.out, HY.out, Ent.val], hbe⟩
      | true =>
        have HY := Aside0.mk hy
        have hcall' := Aside0.mk (hcall.out hy)
        rw [hy] at kSy
        clear hcall hy
        go_wp2_with (first | (go_at_call 60; refine (kZ.out _).mono ?_; rintro x1 w2 ⟨rfl, h2⟩; have G2 := G1.later h2; obtain ⟨a0, a1, a2, a3, a4, a5, a6, a7⟩ := G2.rd) | (go_at_call 61; refine (kSy.out _).mono ?_; rintro x2 w3 ⟨rfl, h3⟩; have G3 := G2.later h3; obtain ⟨a0, a1, a2, a3, a4, a5, a6, a7⟩ := G3.rd) | (go_at_call 86; refine (hcall'.out _ G3.below).mono ?_; rintro x4 w4 ⟨rfl, h4⟩; have G4 := G3.later h4; obtain ⟨r0, r1, r2, r3, r4, r5, r6, g0, g1, g2, g3, g4, g5, g6⟩ := blk7 G4.res; obtain ⟨q0, q1, q2, q3, q4, q5, q6, p0, p1, p2, p3, p4, p5, p6⟩ := blk7 G4.out))
        have hres' := (setAll_other (b := w.heap.size + 1) (k := w.heap.size) (by omega) [.int .i32 se.c, .int .i32 se.b, .int .i32 se.o, .int .u8 se.bo, .int .u8 se.it, .int .u8 se.un, .bool se.ni] w4 0).trans G4.res
        have hfin := res7 se hres'
        have hbe := (G4.below.trans (setAll_below (b := w.heap.size + 1) (Nat.le_succ w.heap.size) [.int .i32 se.c, .int .i32 se.b, .int .i32 se.o, .int .u8 se.bo, .int .u8 se.it, .int .u8 se.un, .bool se.ni] w4 0)).trans (setAll_below (b := w.heap.size) (Nat.le_refl w.heap.size) [.int .i32 se.c, .int .i32 se.b, .int .i32 se.o, .int .u8 se.bo, .int .u8 se.it, .int .u8 se.un, .bool se.ni] _ 0)
        simp only [set7] at hfin hbe
        exact bodyPost_ret (results_cell_row rfl _ _ w.heap.size 94 #[.int .i32 se.c, .int .i32 se.b, .int .i32 se.o, .int .u8 se.bo, .int .u8 se.it, .int .u8 se.un, .bool se.ni] (0, 0) _ rfl hfin Tryz.underlying94 rfl (by kernel_rfl)) rfl ⟨by rw [← HR.out]; simp [HZ.out, HY.out, Ent.val], hbe⟩
/-- What a style makes up of its background. -/
def synE (bg : Ent) (t : Int) : Ent := if t = -6 then ⟨0, bod 4591870180066957722 bg.b, 0, 0, 0, 0, false⟩ else if t = -4 ∨ t = -5 then ⟨bod 4602678819172646912 bg.c, 0, 0, 0, 0, 0, false⟩ else zeroE
structure SynI (s : Nat) (bg tx : Ent) (w W : World) : Prop where
  bgb : W.heap[s]? = some (.cells (cells bg) 94 (0, 0))
  txt : W.heap[s + 1]? = some (.cells (cells tx) 94 (0, 0))
  res : W.heap[w.heap.size]? = some (.cells (cells zeroE) 94 (0, 0))
  below : Below w.heap.size w W
theorem SynI.later {s : Nat} {bg tx : Ent} {w W W' : World} (h : SynI s bg tx w W) (hb : Below W.heap.size W W') : SynI s bg tx w W' :=
  ⟨(hb.block _ (blk_lt h.bgb)).trans h.bgb, (hb.block _ (blk_lt h.txt)).trans h.txt, (hb.block _ (blk_lt h.res)).trans h.res, h.below.trans (hb.mono h.below.size)⟩
set_option maxRecDepth 100000 in
set_option maxHeartbeats 8000000 in
theorem syn_step (b : Nat) (t : Int) (bg : Ent) (w : World)
    (hg : ∀ W, Below w.heap.size w W → Calls Tryz.prog 59 #[.pointer (some ⟨b, 0, none⟩), .int .i64 (-1)] W fun x W' => x = .returned bg.val ∧ Below W.heap.size W W') :
    Calls Tryz.prog 86 #[.pointer (some ⟨b, 0, none⟩), .int .i64 t] w fun x w' => x = .returned (synE bg t).val ∧ Below w.heap.size w w' := by
  simp only [Ent.val] at hg
  have HG := Aside0.mk hg
  have k1 := Aside0.mk (bod_c 4602678819172646912 good_half (by decide) bg.c)
  have k2 := Aside0.mk (bod_c 4591870180066957722 good_tenth (by decide) bg.b)
  have hr : synE bg t = if t = -6 then ⟨0, bod 4591870180066957722 bg.b, 0, 0, 0, 0, false⟩ else if t = -4 ∨ t = -5 then ⟨bod 4602678819172646912 bg.c, 0, 0, 0, 0, 0, false⟩ else zeroE := rfl
  have HR := Aside0.mk hr
  clear hg hr
  have hu := Tryz.underlying94
  generalize bod 4602678819172646912 bg.c = x1 at *
  generalize bod 4591870180066957722 bg.b = x2 at *
  go_enter Tryz.func86, Tryz.ntmps86
  go_upto_region 3 with (go_at_call 59; refine (HG.out _ (below_alloc (Below.refl _ _) _)).mono ?_; rintro y1 w1 ⟨rfl, h1⟩)
  have hsk : ∃ W0, ((w1.alloc (.cells #[.int .i32 bg.c, .int .i32 bg.b, .int .i32 bg.o, .int .u8 bg.bo, .int .u8 bg.it, .int .u8 bg.un, .bool bg.ni] 94)).alloc (.cells #[.int .i32 bg.c, .int .i32 0, .int .i32 0, .int .u8 0, .int .u8 0, .int .u8 0, .bool false] 94)) = W0 ∧ SynI w1.heap.size bg ⟨bg.c, 0, 0, 0, 0, 0, false⟩ w W0 := by
    have hB1 : Below w.heap.size w w1 := (below_alloc (Below.refl _ _) _).trans (h1.mono (by simp))
    have hB : Below w1.heap.size w1 ((w1.alloc (.cells #[.int .i32 bg.c, .int .i32 bg.b, .int .i32 bg.o, .int .u8 bg.bo, .int .u8 bg.it, .int .u8 bg.un, .bool bg.ni] 94)).alloc (.cells #[.int .i32 bg.c, .int .i32 0, .int .i32 0, .int .u8 0, .int .u8 0, .int .u8 0, .bool false] 94)) := below_alloc (below_alloc (Below.refl _ _) _) _
    have hlt : w.heap.size < w1.heap.size := by have := h1.size; simp at this; omega
    refine ⟨_, rfl, ⟨blk_alloc (blk_new _ _) _, ?_, ?_, hB1.trans (hB.mono hB1.size)⟩⟩
    · have := blk_new (w1.alloc (.cells #[.int .i32 bg.c, .int .i32 bg.b, .int .i32 bg.o, .int .u8 bg.bo, .int .u8 bg.it, .int .u8 bg.un, .bool bg.ni] 94)) (.cells #[.int .i32 bg.c, .int .i32 0, .int .i32 0, .int .u8 0, .int .u8 0, .int .u8 0, .bool false] 94)
      rw [World.size_alloc] at this
      exact this
    · exact (hB.block _ hlt).trans ((h1.block _ (by simp)).trans (blk_new w _))
  obtain ⟨W0, hW0, I0⟩ := hsk
  rw [hW0]
  have hs1 : w.heap.size < w1.heap.size := by have := h1.size; simp at this; omega
  obtain ⟨e0, e1, e2, e3, e4, e5, e6, f0, f1, f2, f3, f4, f5, f6⟩ := blk7 I0.txt
  clear hW0 h1 HG
  simp only at e0
  go_upto_region 4 with (go_at_call 114; refine (k1.out _).mono ?_; rintro y2 w2 ⟨rfl, h2⟩; have I1 := I0.later h2; obtain ⟨e0, e1, e2, e3, e4, e5, e6, f0, f1, f2, f3, f4, f5, f6⟩ := blk7 I1.txt)
  have hsk : ∃ W2, w2.setCell ⟨w1.heap.size + 1, 0, none⟩ (.int .i32 x1) = W2 ∧ SynI w1.heap.size bg ⟨x1, 0, 0, 0, 0, 0, false⟩ w W2 := by
    refine ⟨_, rfl, ⟨(Below.heap_setCell w2 ⟨w1.heap.size + 1, 0, none⟩ _ _ (by simp)).trans I1.bgb, ?_, (Below.heap_setCell w2 ⟨w1.heap.size + 1, 0, none⟩ _ _ (by simp; omega)).trans I1.res, I1.below.setCell (p := ⟨w1.heap.size + 1, 0, none⟩) (by simp; omega) _⟩⟩
    rw [blk_set I1.txt 0]
    rfl
  obtain ⟨W2, hW2, I2⟩ := hsk
  rw [hW2]
  clear hW2 I0 I1 h2 e0 e1 e2 e3 e4 e5 e6 f0 f1 f2 f3 f4 f5 f6
  obtain ⟨b0, b1, b2, b3, b4, b5, b6, -, -, -, -, -, -, -⟩ := blk7 I2.bgb
  obtain ⟨e0, e1, e2, e3, e4, e5, e6, -, -, -, -, -, -, -⟩ := blk7 I2.txt
  obtain ⟨r0, r1, r2, r3, r4, r5, r6, g0, g1, g2, g3, g4, g5, g6⟩ := blk7 I2.res
  by_cases ht6 : t = -6
  · have T6 := Aside0.mk ht6
    have q6 : (t == -6) = true := beq_iff_eq.2 ht6
    clear ht6
    go_wp2_with (go_at_call 114; refine (k2.out _).mono ?_; rintro y3 w3 ⟨rfl, h3⟩; have I3 := I2.later h3; obtain ⟨r0, r1, r2, r3, r4, r5, r6, g0, g1, g2, g3, g4, g5, g6⟩ := blk7 I3.res)
    have hfin := res7 (⟨0, x2, 0, 0, 0, 0, false⟩ : Ent) I3.res
    rw [set7] at hfin
    have hbe := I3.below.trans (setAll_below (b := w.heap.size) (Nat.le_refl w.heap.size) [.int .i32 0, .int .i32 x2, .int .i32 0, .int .u8 0, .int .u8 0, .int .u8 0, .bool false] _ 0)
    rw [set7] at hbe
    exact bodyPost_ret (results_cell_row rfl _ _ w.heap.size 94 #[.int .i32 0, .int .i32 x2, .int .i32 0, .int .u8 0, .int .u8 0, .int .u8 0, .bool false] (0, 0) _ rfl hfin Tryz.underlying94 rfl (by kernel_rfl)) rfl ⟨by rw [HR.out]; simp [T6.out, Ent.val], hbe⟩
  · have n6 : (t == -6) = false := beq_eq_false_iff_ne.2 ht6
    have T6 := Aside0.mk ht6
    clear ht6
    by_cases ht4 : t = -4 ∨ t = -5
    · have T4 := Aside0.mk ht4
      have hfin := res7 (⟨x1, 0, 0, 0, 0, 0, false⟩ : Ent) I2.res
      rw [set7] at hfin
      have hbe := I2.below.trans (setAll_below (b := w.heap.size) (Nat.le_refl w.heap.size) [.int .i32 x1, .int .i32 0, .int .i32 0, .int .u8 0, .int .u8 0, .int .u8 0, .bool false] _ 0)
      rw [set7] at hbe
      have HF := Aside0.mk hfin
      have HB := Aside0.mk hbe
      clear hfin hbe
      rcases ht4 with h4 | h5
      · have q4 : (t == -4) = true := beq_iff_eq.2 h4
        clear h4
        go_wp2
        exact bodyPost_ret (results_cell_row rfl _ _ w.heap.size 94 #[.int .i32 x1, .int .i32 0, .int .i32 0, .int .u8 0, .int .u8 0, .int .u8 0, .bool false] (0, 0) _ rfl HF.out Tryz.underlying94 rfl (by kernel_rfl)) rfl ⟨by rw [HR.out, if_neg T6.out, if_pos T4.out]; rfl, HB.out⟩
      · have n4 : (t == -4) = false := beq_eq_false_iff_ne.2 (by omega)
        have q5 : (t == -5) = true := beq_iff_eq.2 h5
        clear h5
        go_wp2
        exact bodyPost_ret (results_cell_row rfl _ _ w.heap.size 94 #[.int .i32 x1, .int .i32 0, .int .i32 0, .int .u8 0, .int .u8 0, .int .u8 0, .bool false] (0, 0) _ rfl HF.out Tryz.underlying94 rfl (by kernel_rfl)) rfl ⟨by rw [HR.out, if_neg T6.out, if_pos T4.out]; rfl, HB.out⟩
    · have n4 : (t == -4) = false := beq_eq_false_iff_ne.2 (fun h => ht4 (.inl h))
      have n5 : (t == -5) = false := beq_eq_false_iff_ne.2 (fun h => ht4 (.inr h))
      have T4 := Aside0.mk ht4
      clear ht4
      go_wp2
      have hfin := res7 zeroE I2.res
      rw [set7] at hfin
      have hbe := I2.below.trans (setAll_below (b := w.heap.size) (Nat.le_refl w.heap.size) [.int .i32 0, .int .i32 0, .int .i32 0, .int .u8 0, .int .u8 0, .int .u8 0, .bool false] _ 0)
      rw [set7] at hbe
      exact bodyPost_ret (results_cell_row rfl _ _ w.heap.size 94 #[.int .i32 0, .int .i32 0, .int .i32 0, .int .u8 0, .int .u8 0, .int .u8 0, .bool false] (0, 0) _ rfl hfin Tryz.underlying94 rfl (by kernel_rfl)) rfl ⟨by rw [HR.out, if_neg T6.out, if_neg T4.out]; rfl, hbe⟩
end Go.Proofs.YtjemdgmihbmgeaaGreatDoorEnt
set_option linter.unusedVariables false
set_option linter.unusedSimpArgs false
namespace Go.Proofs.YtjemdgmihbmgeaaGreatDoorEnt
open Go.RowKit Go.Shelf Go.Proofs.YtjemdgmihbmgeaaGreatDoorW.PrintWords Go.Proofs.YtjemdgmihbmgeaaGreatDoorFmt Go.Proofs.YtjemdgmihbmgeaaGreatDoorMapI Go.Proofs.YtjemdgmihbmgeaaGreatDoorFlt Go.Proofs.YtjemdgmihbmgeaaGreatDoor
/-- What a style (its own entries first, then those of the styles above) says of a type by itself, or makes up. -/
def getS : List (Int → Option Ent) → Int → Ent
  | [], _ => zeroE
  | [f], t => if isZ (at0 f t) = true then (if synt t = true then synE (at0 f (-1)) t else at0 f t) else at0 f t
  | f :: g :: fs, t => if isZ (at0 f t) = true then getS (g :: fs) t else at0 f t
/-- A style with the styles above it, in memory. -/
def StyAt (n : Nat) (W : World) : List (Int → Option Ent) → Option Addr → Prop
  | [], a => a = none
  | f :: fs, a => ∃ b m nm cp pa, a = some ⟨b, 0, none⟩ ∧ StyCell W b m nm cp pa ∧ ME W m n f ∧ StyAt n W fs pa
theorem StyAt.below {n : Nat} {W W' : World} (hb : Below W.heap.size W W') : ∀ {L : List (Int → Option Ent)} {a : Option Addr}, StyAt n W L a → StyAt n W' L a
  | [], _, h => h
  | f :: fs, a, ⟨b, m, nm, cp, pa, h1, h2, h3, h4⟩ => ⟨b, m, nm, cp, pa, h1, (hb.block _ (blk_lt h2)).trans h2, MapI.below h3 hb h3.lt, StyAt.below hb h4⟩
theorem ok_m1 : Ok (-1) := ok_of (by decide) (by decide)
theorem get_c : ∀ (L : List (Int → Option Ent)) (a : Option Addr) (n : Nat) (t : Int), Ok t → ∀ w, L ≠ [] → StyAt n w L a →
    Calls Tryz.prog 59 #[.pointer a, .int .i64 t] w fun x w' => x = .returned (getS L t).val ∧ Below w.heap.size w w'
  | [], _, _, _, _, _, h, _ => absurd rfl h
  | [f], a, n, t, ht, w, _, h => by
    obtain ⟨b, m, nm, cp, pa, rfl, h2, h3, h4⟩ := h
    obtain rfl : pa = none := h4
    refine (get_step b m n nm cp none f t ht w h2 h3 zeroE (synE (at0 f (-1)) t) (fun _ h => absurd rfl h) (fun _ _ _ W hW => syn_step b t (at0 f (-1)) W (fun W' hW' => ?_))).mono ?_
    · have hb := hW.trans (hW'.mono hW.size)
      refine (get_step b m n nm cp none f (-1) ok_m1 W' ((hb.block _ (blk_lt h2)).trans h2) (MapI.below h3 hb h3.lt) zeroE zeroE (fun _ h => absurd rfl h) (fun _ _ h => by cases h)).mono ?_
      rintro x W2 ⟨rfl, h5⟩
      refine ⟨?_, h5⟩
      have : synt (-1) = false := rfl
      simp [this]
    · rintro x w' ⟨rfl, h5⟩
      exact ⟨by simp [getS], h5⟩
  | f :: g :: fs, a, n, t, ht, w, _, h => by
    obtain ⟨b, m, nm, cp, pa, rfl, h2, h3, h4⟩ := h
    have hpa : pa ≠ none := by
      obtain ⟨b', m', nm', cp', pa', h5, _⟩ := h4
      rw [h5]; simp
    refine (get_step b m n nm cp pa f t ht w h2 h3 (getS (g :: fs) t) zeroE (fun _ _ W hW => get_c (g :: fs) pa n t ht W (by simp) (StyAt.below hW h4)) (fun _ h => absurd h hpa)).mono ?_
    rintro x w' ⟨rfl, h5⟩
    exact ⟨by simp [getS, hpa], h5⟩
def catOf (t : Int) : Int := wrap64 ((wrap64 (Int.tdiv t 1000)) * 1000)
def subOf (t : Int) : Int := wrap64 ((wrap64 (Int.tdiv t 100)) * 100)
/-- What Style.Get tells. -/
def fullS (L : List (Int → Option Ent)) (t : Int) : Ent := inhL (getS L t) [getS L (-1), getS L 8000, getS L (catOf t), getS L (subOf t)]
theorem ents4 {W : World} {g : Nat} (e1 e2 e3 e4 : Ent) (h : W.heap[g]? = some (.cells #[.int .i32 e1.c, .int .i32 e1.b, .int .i32 e1.o, .int .u8 e1.bo, .int .u8 e1.it, .int .u8 e1.un, .bool e1.ni, .int .i32 e2.c, .int .i32 e2.b, .int .i32 e2.o, .int .u8 e2.bo, .int .u8 e2.it, .int .u8 e2.un, .bool e2.ni, .int .i32 e3.c, .int .i32 e3.b, .int .i32 e3.o, .int .u8 e3.bo, .int .u8 e3.it, .int .u8 e3.un, .bool e3.ni, .int .i32 e4.c, .int .i32 e4.b, .int .i32 e4.o, .int .u8 e4.bo, .int .u8 e4.it, .int .u8 e4.un, .bool e4.ni] 94 (0, 0))) :
    Ents W g 0 [e1, e2, e3, e4] := by
  intro i hi
  have : i = 0 ∨ i = 1 ∨ i = 2 ∨ i = 3 := by simp at hi; omega
  rcases this with rfl | rfl | rfl | rfl
  · exact ⟨(blk_cell h 0).trans rfl, (blk_cell h 1).trans rfl, (blk_cell h 2).trans rfl, (blk_cell h 3).trans rfl, (blk_cell h 4).trans rfl, (blk_cell h 5).trans rfl, (blk_cell h 6).trans rfl⟩
  · exact ⟨(blk_cell h 7).trans rfl, (blk_cell h 8).trans rfl, (blk_cell h 9).trans rfl, (blk_cell h 10).trans rfl, (blk_cell h 11).trans rfl, (blk_cell h 12).trans rfl, (blk_cell h 13).trans rfl⟩
  · exact ⟨(blk_cell h 14).trans rfl, (blk_cell h 15).trans rfl, (blk_cell h 16).trans rfl, (blk_cell h 17).trans rfl, (blk_cell h 18).trans rfl, (blk_cell h 19).trans rfl, (blk_cell h 20).trans rfl⟩
  · exact ⟨(blk_cell h 21).trans rfl, (blk_cell h 22).trans rfl, (blk_cell h 23).trans rfl, (blk_cell h 24).trans rfl, (blk_cell h 25).trans rfl, (blk_cell h 26).trans rfl, (blk_cell h 27).trans rfl⟩
theorem below_on {n : Nat} {w W W' : World} (h : Below n w W) (hb : Below W.heap.size W W') (hn : n ≤ W.heap.size) : Below n w W' := h.trans (hb.mono hn)
set_option maxRecDepth 100000 in
set_option maxHeartbeats 8000000 in
theorem full_c (L : List (Int → Option Ent)) (hL : L ≠ []) (a : Option Addr) (n : Nat) (t : Int) (ht : Ok t) (w : World) (hS : StyAt n w L a) :
    Calls Tryz.prog 78 #[.pointer a, .int .i64 t] w fun x w' => x = .returned (fullS L t).val ∧ Below w.heap.size w w' := by
  have hsk : ∃ W0, w.alloc (.cells #[.int .i32 0, .int .i32 0, .int .i32 0, .int .u8 0, .int .u8 0, .int .u8 0, .bool false] 94) = W0 ∧ W0.heap[w.heap.size]? = some (.cells (cells zeroE) 94 (0, 0)) ∧ Below w.heap.size w W0 ∧ w.heap.size < W0.heap.size := ⟨_, rfl, blk_new _ _, below_alloc (Below.refl _ _) _, by simp⟩
  obtain ⟨W0, hW0, hR0, hBw, hlt⟩ := hsk
  have hS0 : StyAt n W0 L a := StyAt.below hBw hS
  have kG : Aside0 (∀ t W, Ok t → Below W0.heap.size W0 W → Calls Tryz.prog 59 #[.pointer a, .int .i64 t] W fun x W' => x = .returned (.agg #[.int .i32 (getS L t).c, .int .i32 (getS L t).b, .int .i32 (getS L t).o, .int .u8 (getS L t).bo, .int .u8 (getS L t).it, .int .u8 (getS L t).un, .bool (getS L t).ni]) ∧ Below W0.heap.size W0 W') := ⟨fun t W ht hW => (get_c L a n t ht W hL (StyAt.below hW hS0)).mono fun x W' h => ⟨h.1, below_on hW h.2 hW.size⟩⟩
  have kC : Aside0 (∀ W, Below W0.heap.size W0 W → Calls Tryz.prog 97 #[.int .i64 t] W fun x W' => x = .returned (.int .i64 (catOf t)) ∧ Below W0.heap.size W0 W') := ⟨fun W hW => (A.chroma_TokenType_Category.calls t (catOf t) W rfl).mono fun x W' h => ⟨h.1, below_on hW h.2.below hW.size⟩⟩
  have kB : Aside0 (∀ W, Below W0.heap.size W0 W → Calls Tryz.prog 98 #[.int .i64 t] W fun x W' => x = .returned (.int .i64 (subOf t)) ∧ Below W0.heap.size W0 W') := ⟨fun W hW => (A.chroma_TokenType_SubCategory.calls t (subOf t) W rfl).mono fun x W' h => ⟨h.1, below_on hW h.2.below hW.size⟩⟩
  have hO1 := Aside0.mk ht
  have hO2 := Aside0.mk ok_m1
  have hO3 : Aside0 (Ok 8000) := ⟨ok_of (by decide) (by decide)⟩
  have hO4 : Aside0 (Ok (catOf t)) := ⟨wrap64_wf _⟩
  have hO5 : Aside0 (Ok (subOf t)) := ⟨wrap64_wf _⟩
  have hf : fullS L t = inhL (getS L t) [getS L (-1), getS L 8000, getS L (catOf t), getS L (subOf t)] := rfl
  have HF := Aside0.mk hf
  clear hf ht hS
  generalize catOf t = tc at *
  generalize subOf t = ts at *
  generalize getS L = gs at *
  have HB0 : Below W0.heap.size W0 W0 := Below.refl _ _
  have kI : Aside0 (∀ W, Below W0.heap.size W0 W → Calls Tryz.prog 49 #[.agg #[.int .i32 (gs t).c, .int .i32 (gs t).b, .int .i32 (gs t).o, .int .u8 (gs t).bo, .int .u8 (gs t).it, .int .u8 (gs t).un, .bool (gs t).ni], .slice (some ⟨W.heap.size, 0, none⟩) 4 4] (W.alloc (.cells #[.int .i32 (gs (-1)).c, .int .i32 (gs (-1)).b, .int .i32 (gs (-1)).o, .int .u8 (gs (-1)).bo, .int .u8 (gs (-1)).it, .int .u8 (gs (-1)).un, .bool (gs (-1)).ni, .int .i32 (gs 8000).c, .int .i32 (gs 8000).b, .int .i32 (gs 8000).o, .int .u8 (gs 8000).bo, .int .u8 (gs 8000).it, .int .u8 (gs 8000).un, .bool (gs 8000).ni, .int .i32 (gs tc).c, .int .i32 (gs tc).b, .int .i32 (gs tc).o, .int .u8 (gs tc).bo, .int .u8 (gs tc).it, .int .u8 (gs tc).un, .bool (gs tc).ni, .int .i32 (gs ts).c, .int .i32 (gs ts).b, .int .i32 (gs ts).o, .int .u8 (gs ts).bo, .int .u8 (gs ts).it, .int .u8 (gs ts).un, .bool (gs ts).ni] 94)) fun x W' => x = .returned (.agg #[.int .i32 (fullS L t).c, .int .i32 (fullS L t).b, .int .i32 (fullS L t).o, .int .u8 (fullS L t).bo, .int .u8 (fullS L t).it, .int .u8 (fullS L t).un, .bool (fullS L t).ni]) ∧ Below W0.heap.size W0 W') := by
    refine ⟨fun W hW => ?_⟩
    have hB1 : Below W0.heap.size W0 (W.alloc (.cells #[.int .i32 (gs (-1)).c, .int .i32 (gs (-1)).b, .int .i32 (gs (-1)).o, .int .u8 (gs (-1)).bo, .int .u8 (gs (-1)).it, .int .u8 (gs (-1)).un, .bool (gs (-1)).ni, .int .i32 (gs 8000).c, .int .i32 (gs 8000).b, .int .i32 (gs 8000).o, .int .u8 (gs 8000).bo, .int .u8 (gs 8000).it, .int .u8 (gs 8000).un, .bool (gs 8000).ni, .int .i32 (gs tc).c, .int .i32 (gs tc).b, .int .i32 (gs tc).o, .int .u8 (gs tc).bo, .int .u8 (gs tc).it, .int .u8 (gs tc).un, .bool (gs tc).ni, .int .i32 (gs ts).c, .int .i32 (gs ts).b, .int .i32 (gs ts).o, .int .u8 (gs ts).bo, .int .u8 (gs ts).it, .int .u8 (gs ts).un, .bool (gs ts).ni] 94)) := below_alloc hW _
    have h := inherit_c (gs t) (some ⟨W.heap.size, 0, none⟩) 4 [gs (-1), gs 8000, gs tc, gs ts] (by simp) (W.alloc (.cells #[.int .i32 (gs (-1)).c, .int .i32 (gs (-1)).b, .int .i32 (gs (-1)).o, .int .u8 (gs (-1)).bo, .int .u8 (gs (-1)).it, .int .u8 (gs (-1)).un, .bool (gs (-1)).ni, .int .i32 (gs 8000).c, .int .i32 (gs 8000).b, .int .i32 (gs 8000).o, .int .u8 (gs 8000).bo, .int .u8 (gs 8000).it, .int .u8 (gs 8000).un, .bool (gs 8000).ni, .int .i32 (gs tc).c, .int .i32 (gs tc).b, .int .i32 (gs tc).o, .int .u8 (gs tc).bo, .int .u8 (gs tc).it, .int .u8 (gs tc).un, .bool (gs tc).ni, .int .i32 (gs ts).c, .int .i32 (gs ts).b, .int .i32 (gs ts).o, .int .u8 (gs ts).bo, .int .u8 (gs ts).it, .int .u8 (gs ts).un, .bool (gs ts).ni] 94)) (fun _ => ⟨W.heap.size, 0, rfl, by simp, ents4 _ _ _ _ (blk_new _ _)⟩)
    refine h.mono ?_
    rintro x W' ⟨rfl, hb⟩
    exact ⟨by rw [HF.out]; rfl, below_on hB1 hb hB1.size⟩
  generalize fullS L t = r at *
  go_enter Tryz.func78, Tryz.ntmps78
  go_upto_region 1 with fail
  clear hW0 hS0
  go_wp2_with (first | (go_at_call 59; refine (kG.out _ _ (by first | with_reducible exact hO1.out | with_reducible exact hO2.out | with_reducible exact hO3.out | with_reducible exact hO4.out | with_reducible exact hO5.out) (by assumption)).mono ?_; rintro x1 w1 ⟨rfl, hb1⟩) | (go_at_call 97; refine (kC.out _ (by assumption)).mono ?_; rintro x2 w2 ⟨rfl, hb2⟩) | (go_at_call 98; refine (kB.out _ (by assumption)).mono ?_; rintro x3 w3 ⟨rfl, hb3⟩) | (go_at_call 49; refine (kI.out _ (by assumption)).mono ?_; rintro x4 w4 ⟨rfl, hb4⟩; have hR4 := (hb4.block _ hlt).trans hR0; obtain ⟨r0, r1, r2, r3, r4, r5, r6, g0, g1, g2, g3, g4, g5, g6⟩ := blk7 hR4))
  have hfin := res7 r hR4
  rw [set7] at hfin
  have hbe := (hBw.trans (hb4.mono (Nat.le_of_lt hlt))).trans (setAll_below (b := w.heap.size) (Nat.le_refl w.heap.size) [.int .i32 r.c, .int .i32 r.b, .int .i32 r.o, .int .u8 r.bo, .int .u8 r.it, .int .u8 r.un, .bool r.ni] w4 0)
  rw [set7] at hbe
  exact bodyPost_ret (results_cell_row rfl _ _ w.heap.size 94 #[.int .i32 r.c, .int .i32 r.b, .int .i32 r.o, .int .u8 r.bo, .int .u8 r.it, .int .u8 r.un, .bool r.ni] (0, 0) _ rfl hfin Tryz.underlying94 rfl (by kernel_rfl)) rfl ⟨rfl, hbe⟩
def flat (l : List Ent) : List Value := l.flatMap fun e => (cells e).toList
theorem flat_snoc (l : List Ent) (e : Ent) : flat (l ++ [e]) = flat l ++ (cells e).toList := by simp [flat]
theorem plain_c (e : Ent) (w : World) : Calls Tryz.prog 50 #[.agg #[.int .i32 e.c, .int .i32 e.b, .int .i32 e.o, .int .u8 e.bo, .int .u8 e.it, .int .u8 e.un, .bool e.ni]] w fun x w' => x = .returned (.agg #[.int .i32 e.c, .int .i32 e.b, .int .i32 e.o, .int .u8 e.bo, .int .u8 e.it, .int .u8 e.un, .bool e.ni]) ∧ Below w.heap.size w w' :=
  A.impl_plain.calls _ _ _ _ _ _ _ _ _ _ _ _ _ _ w rfl
/-- The types asked for. -/
def AskAt (W : World) (g o : Nat) (l : List Int) : Prop := ∀ i (h : i < l.length), W.cell? ⟨g, o + i, none⟩ = some (.int .i64 l[i])
theorem AskAt.same {W W' : World} {g o : Nat} {l : List Int} (h : AskAt W g o l) (hb : W'.heap[g]? = W.heap[g]?) : AskAt W' g o l := fun i hi => (World.cell?_of_block (a := ⟨g, _, none⟩) hb).trans (h i hi)
theorem infoE : (Tryz.prog.info? 71).map (fun i => (i.zero, i.size, i.bytes)) = some (some (.agg #[(.int .i32 0), (.int .i32 0), (.int .i32 0), (.int .u8 0), (.int .u8 0), (.int .u8 0), (.bool false)]), 7, 16) := by kernel_rfl
set_option maxRecDepth 100000 in
set_option maxHeartbeats 8000000 in
theorem entries_c (L : List (Int → Option Ent)) (hL : L ≠ []) (a : Option Addr) (n : Nat) (A : Option Addr) (cap : Nat) (ask : List Int) (hl : ask.length ≤ 1000000) (hc : ask.length ≤ cap) (hk : ∀ t ∈ ask, Ok t) (w : World) (hS : StyAt n w L a)
    (hA : ask ≠ [] → ∃ g o, A = some ⟨g, o, none⟩ ∧ g < w.heap.size ∧ AskAt w g o ask) :
    Calls Tryz.prog 53 #[.pointer a, .slice A ask.length cap] w fun x w' => ∃ v, x = .returned v ∧ w'.ownsRow w.heap.size 71 7 v ask.length (flat (ask.map (fullS L))) ∧ Below w.heap.size w w' := by
  have kF : Aside0 (∀ t W, Ok t → Below w.heap.size w W → Calls Tryz.prog 78 #[.pointer a, .int .i64 t] W fun x W' => x = .returned (.agg #[.int .i32 (fullS L t).c, .int .i32 (fullS L t).b, .int .i32 (fullS L t).o, .int .u8 (fullS L t).bo, .int .u8 (fullS L t).it, .int .u8 (fullS L t).un, .bool (fullS L t).ni]) ∧ Below W.heap.size W W') := ⟨fun t W ht hW => full_c L hL a n t ht W (StyAt.below hW hS)⟩
  have HA := Aside0.mk hA
  have HK := Aside0.mk hk
  clear hA hk hS
  generalize fullS L = fs at *
  go_enter Tryz.func53, Tryz.ntmps53
  go_wp2
  go_loopw [5, 10] (fun v i wr => ∃ k : Nat, k ≤ ask.length ∧ i = .int .i64 (k : Int) ∧ Aside0 (wr.ownsRow w.heap.size 71 7 v k (flat ((ask.take k).map fs))) ∧ Aside0 (Below w.heap.size w wr)) (fun _ i _ => ask.length - (intOf i).toNat)
  case atStart => exact ⟨0, Nat.zero_le _, rfl, ⟨own_nil _ _ _ _⟩, ⟨Below.refl _ _⟩⟩
  case round =>
    obtain ⟨k, hkl, rfl, HO, HB⟩ := hrel
    by_cases hlt : k < ask.length
    · obtain ⟨g, o, rfl, hg, hP⟩ := HA.out (fun e => by rw [e] at hlt; simp at hlt)
      have d0 := (hP.same (HB.out.block g hg)) k hlt
      have hkt := HK.out _ (List.getElem_mem hlt)
      have htk : (ask.take (k + 1)).map fs = (ask.take k).map fs ++ [fs ask[k]] := by rw [List.take_succ_eq_append_getElem hlt, List.map_append]; rfl
      generalize ask[k] = t at *
      have hlti : (k : Int) < (ask.length : Int) := by omega
      have kt := Aside0.mk (kF.out t wr hkt HB.out)
      have HT := Aside0.mk htk
      clear htk hP
      generalize fs t = e at *
      obtain ⟨A0, c0, hv⟩ := own_slice HO.out
      subst hv
      have hone : ∀ u ∈ [Value.int .i32 e.c, .int .i32 e.b, .int .i32 e.o, .int .u8 e.bo, .int .u8 e.it, .int .u8 e.un, .bool e.ni], u.oneCell' = true := by simp [Value.oneCell']
      have hbd : (k + 1) * 16 ≤ 140737488355328 := by omega
      have HN := Aside0.mk hone
      have HD := Aside0.mk hbd
      clear hone hbd
      go_wp2_with (first | (go_at_call 78; refine kt.out.mono ?_; rintro x1 w1 ⟨rfl, hb1⟩) | (go_at_call 50; refine (plain_c e _).mono ?_; rintro x2 w2 ⟨rfl, hb2⟩) | ((with_reducible refine gate_builtin (b := .append) (xs := #[.tmp 14, .tmp 19]) rfl ?_); at_builtin; refine print_append_cells (w0 := w) w.heap.size rfl (.tmp 14) (.tmp 19) 41 71 (.agg #[(.int .i32 0), (.int .i32 0), (.int .i32 0), (.int .u8 0), (.int .u8 0), (.int .u8 0), (.bool false)]) 7 16 rfl Tryz.underlying41 infoE rfl (Nat.succ_pos _) (Nat.succ_pos _) (.slice A0 k c0) k (flat ((ask.take k).map fs)) [.int .i32 e.c, .int .i32 e.b, .int .i32 e.o, .int .u8 e.bo, .int .u8 e.it, .int .u8 e.un, .bool e.ni] rfl rfl rfl HN.out (pw_own_below (pw_own_below HO.out hb1) hb2) (below_on (below_on HB.out hb1 HB.out.size) hb2 (Nat.le_trans HB.out.size hb1.size)) (Nat.le_trans HB.out.size (Nat.le_trans hb1.size hb2.size)) HD.out ?_; intro v1 w3 ho3 hB3 hg3 hat3; obtain ⟨A3, c3, hv3⟩ := own_slice ho3))
      refine ⟨⟨k + 1, by omega, by rw [Int.natCast_add]; rfl, ⟨?_⟩, ⟨hB3⟩⟩, by simp [intOf]; omega⟩
      rw [HT.out, flat_snoc, ← hv3]
      exact ho3
    · obtain rfl : k = ask.length := by omega
      rw [List.take_length] at HO
      go_wp2
      go_ret
      exact ⟨_, rfl, HO.out, HB.out⟩
/-- What a style's lines say of a type by themselves. -/
def lineE (l : List (Int × ByteArray)) : Int → Option Ent := fun k => (lineF l k).bind pse
/-- Is a line no entry (that counts)? -/
def badL (l : List (Int × ByteArray)) : Bool := l.any fun p => decide (lineF l p.1 = some p.2) && (pse p.2).isNone
theorem badL_true {l : List (Int × ByteArray)} {k : Int} {t : ByteArray} (h1 : lineF l k = some t) (h2 : pse t = none) : badL l = true := by
  unfold badL
  rw [List.any_eq_true]
  exact ⟨(k, t), lineF_mem l k t h1, by simp [h1, h2]⟩
theorem badL_false {l : List (Int × ByteArray)} (hk : ∀ p ∈ l, Ok p.1) (h : ∀ k t, Ok k → lineF l k = some t → pse t ≠ none) : badL l = false := by
  unfold badL
  rw [List.any_eq_false]
  rintro ⟨k, t⟩ hm
  simp only [Bool.and_eq_true, decide_eq_true_eq, not_and, Option.isNone_iff_eq_none]
  exact fun h1 => h k t (hk _ hm) h1
/-- What StyleGet hands back. -/
def GetRes (l : List (Int × ByteArray)) (ask : List Int) (base : Nat) (x : Ending) (w' : World) : Prop :=
  (badL l = true ∧ x = .returned (.tuple #[.slice none 0 0, .bool false])) ∨
  (badL l = false ∧ ∃ v, x = .returned (.tuple #[v, .bool true]) ∧ w'.ownsRow base 71 7 v ask.length (flat (ask.map (fullS [lineE l]))))
set_option maxHeartbeats 4000000 in
theorem styleGet_c (A : Option Addr) (cap : Nat) (l : List (Int × ByteArray)) (hl : l.length ≤ 1000000) (hc : l.length ≤ cap) (hk : ∀ p ∈ l, Ok p.1 ∧ p.2.size ≤ 140737488351232)
    (B : Option Addr) (capb : Nat) (ask : List Int) (hl2 : ask.length ≤ 1000000) (hc2 : ask.length ≤ capb) (hk2 : ∀ t ∈ ask, Ok t) (w : World) (hV : VarsOK w)
    (hA : l ≠ [] → ∃ g o, A = some ⟨g, o, none⟩ ∧ g < w.heap.size ∧ PartsAt w g o l) (hB : ask ≠ [] → ∃ g o, B = some ⟨g, o, none⟩ ∧ g < w.heap.size ∧ AskAt w g o ask) :
    Calls Tryz.prog 29 #[.slice A l.length cap, .slice B ask.length capb] w fun x w' => GetRes l ask w.heap.size x w' ∧ Below w.heap.size w w' := by
  have kS := Aside0.mk (styled_c A cap l hl hc hk w hV hA)
  have kE : Aside0 (∀ b m W, Below w.heap.size w W → StyCell W b m ⟨#[120]⟩ ⟨#[]⟩ none → ME W m l.length (lineE l) → Calls Tryz.prog 53 #[.pointer (some ⟨b, 0, none⟩), .slice B ask.length capb] W fun x W' => ∃ v, x = .returned v ∧ W'.ownsRow W.heap.size 71 7 v ask.length (flat (ask.map (fullS [lineE l]))) ∧ Below W.heap.size W W') :=
    ⟨fun b m W hW h1 h2 => entries_c [lineE l] (by simp) (some ⟨b, 0, none⟩) l.length B capb ask hl2 hc2 hk2 W ⟨b, m, _, _, none, rfl, h1, h2, rfl⟩ (fun h => by
      obtain ⟨g, o, e, hg, hP⟩ := hB h
      exact ⟨g, o, e, Nat.lt_of_lt_of_le hg hW.size, hP.same (hW.block g hg)⟩)⟩
  have HK := Aside0.mk hk
  clear hk hk2 hA hB hV
  go_enter Tryz.func29, Tryz.ntmps29
  go_wp2_with (first | (go_at_call 27; refine kS.out.mono ?_; rintro x1 w1 ⟨⟨rfl, hx⟩ | ⟨b, m, rfl, h2, h3, h4⟩, hb1⟩) | (go_at_call 53; refine (kE.out _ _ _ hb1 h2 h3).mono ?_; rintro x2 w2 ⟨v, rfl, ho, hb2⟩))
  · go_ret2
    obtain ⟨k, t, _, h5, h6⟩ := hx
    exact ⟨.inl ⟨badL_true h5 h6, rfl⟩, hb1⟩
  · go_ret2
    exact ⟨.inr ⟨badL_false (fun p hp => (HK.out p hp).1) h4, v, rfl, own_weaken ho hb1.size⟩, below_on hb1 hb2 hb1.size⟩
end Go.Proofs.YtjemdgmihbmgeaaGreatDoorEnt
set_option linter.unusedVariables false
set_option linter.unusedSimpArgs false
namespace Go.Proofs.YtjemdgmihbmgeaaGreatDoorEnt
open Go.RowKit Go.Shelf Go.Proofs.YtjemdgmihbmgeaaGreatDoorW.PrintWords Go.Proofs.YtjemdgmihbmgeaaGreatDoorFmt Go.Proofs.YtjemdgmihbmgeaaGreatDoorMapI Go.Proofs.YtjemdgmihbmgeaaGreatDoorFlt Go.Proofs.YtjemdgmihbmgeaaGreatDoor
theorem string_f (n : Nat) (hn : n < 16777216) : A.impl_ColourString.f ((n : Int) + 1) = some ⟨(35 :: digs 6 n).toArray⟩ := by
  have e : wrap64 (wrap32 ((n : Int) + 1 - 1)) = (n : Int) := by unfold wrap64 wrap32; omega
  unfold A.impl_ColourString.f A.chroma_Colour_String.f A.chroma_zzHex6.f
  rw [e, if_pos (by omega), if_pos (by omega), hex6_eq n hn, Option.bind_some]
  have hs : (⟨(digs 6 n).toArray⟩ : ByteArray).size = 6 := by rw [← data_length]; exact digs_len 6 n
  rw [hs, if_pos (by decide), Option.bind_some]
  exact congrArg some (bytes_eq (by simp))
theorem str_c (n : Nat) (hn : n < 16777216) (w : World) (hV : VarsOK w) : Calls Tryz.prog 30 #[.int .i32 ((n : Int) + 1)] w fun x w' => x = .returned (.string ⟨(35 :: digs 6 n).toArray⟩) ∧ Below w.heap.size w w' :=
  A.impl_ColourString.calls _ _ w hV (string_f n hn)
def saneL : List (Int × ByteArray) := [(-1, ⟨#[98, 103, 58, 35, 102, 102, 102, 102, 102, 102]⟩), (1000, ⟨#[98, 111, 108, 100, 32, 35, 48, 48, 48, 48, 56, 48]⟩)]
theorem sane_ok : badL saneL = false := by decide +kernel
theorem sane_c : (fullS [lineE saneL] 1006).c = 129 := by decide +kernel
theorem sane_b : (fullS [lineE saneL] 1006).b = 16777216 := by decide +kernel
theorem sane_bo : (fullS [lineE saneL] 1006).bo = 1 := by decide +kernel
theorem d1 : digs 6 16777215 = [102, 102, 102, 102, 102, 102] := by decide +kernel
theorem d2 : digs 6 128 = [48, 48, 48, 48, 56, 48] := by decide +kernel
theorem sane_get (w : World) (hV : VarsOK w) :
    Calls Tryz.prog 29 #[.slice (some ⟨w.heap.size, 0, none⟩) 2 2, .slice (some ⟨w.heap.size + 1, 0, none⟩) 1 1] ((w.alloc (.cells #[.int .i64 (-1), .string ⟨#[98, 103, 58, 35, 102, 102, 102, 102, 102, 102]⟩, .int .i64 1000, .string ⟨#[98, 111, 108, 100, 32, 35, 48, 48, 48, 48, 56, 48]⟩] 54)).alloc (.cells #[.int .i64 1006] 3)) fun x w' =>
      (∃ g cap, x = .returned (.tuple #[.slice (some ⟨g, 0, none⟩) 1 cap, .bool true]) ∧ w'.cell? ⟨g, 0, none⟩ = some (.int .i32 129) ∧ w'.cell? ⟨g, 1, none⟩ = some (.int .i32 16777216) ∧ w'.cell? ⟨g, 3, none⟩ = some (.int .u8 1)) ∧ Below w.heap.size w w' := by
  have hB : Below w.heap.size w ((w.alloc (.cells #[.int .i64 (-1), .string ⟨#[98, 103, 58, 35, 102, 102, 102, 102, 102, 102]⟩, .int .i64 1000, .string ⟨#[98, 111, 108, 100, 32, 35, 48, 48, 48, 48, 56, 48]⟩] 54)).alloc (.cells #[.int .i64 1006] 3)) := below_alloc (below_alloc (Below.refl _ _) _) _
  have h1 := blk_alloc (blk_new w (.cells #[.int .i64 (-1), .string ⟨#[98, 103, 58, 35, 102, 102, 102, 102, 102, 102]⟩, .int .i64 1000, .string ⟨#[98, 111, 108, 100, 32, 35, 48, 48, 48, 48, 56, 48]⟩] 54)) (.cells #[.int .i64 1006] 3)
  have h2 := blk_new (w.alloc (.cells #[.int .i64 (-1), .string ⟨#[98, 103, 58, 35, 102, 102, 102, 102, 102, 102]⟩, .int .i64 1000, .string ⟨#[98, 111, 108, 100, 32, 35, 48, 48, 48, 48, 56, 48]⟩] 54)) (.cells #[.int .i64 1006] 3)
  rw [World.size_alloc] at h2
  refine (styleGet_c (some ⟨w.heap.size, 0, none⟩) 2 saneL (by decide) (by decide) (by
      intro p hp
      simp only [saneL, List.mem_cons, List.not_mem_nil, or_false] at hp
      rcases hp with rfl | rfl
      · exact ⟨ok_of (by decide) (by decide), by decide⟩
      · exact ⟨ok_of (by decide) (by decide), by decide⟩) (some ⟨w.heap.size + 1, 0, none⟩) 1 [1006] (by decide) (by decide) (by
      intro t ht
      simp only [List.mem_cons, List.not_mem_nil, or_false] at ht
      subst ht
      exact ok_of (by decide) (by decide)) _ (hV.below hB) (fun _ => ⟨w.heap.size, 0, rfl, by simp; omega, fun i hi => ?_⟩) (fun _ => ⟨w.heap.size + 1, 0, rfl, by simp, fun i hi => ?_⟩)).mono ?_
  · have : i = 0 ∨ i = 1 := by simp [saneL] at hi; omega
    rcases this with rfl | rfl
    · exact ⟨(blk_cell h1 0).trans rfl, (blk_cell h1 1).trans rfl⟩
    · exact ⟨(blk_cell h1 2).trans rfl, (blk_cell h1 3).trans rfl⟩
  · have : i = 0 := by simp at hi; omega
    subst this
    exact (blk_cell h2 0).trans rfl
  · rintro x w' ⟨⟨hbad, _⟩ | ⟨_, v, rfl, ho⟩, hb⟩
    · rw [sane_ok] at hbad; cases hbad
    · have ho' : w'.ownsRow _ 71 7 v 1 _ := ho
      obtain ⟨g, cap, rfl, _, _⟩ := ho'.form (by decide)
      have c0 := ho'.cells (g := g) rfl 0 (.int .i32 129) (by rw [← sane_c]; rfl)
      have c1 := ho'.cells (g := g) rfl 1 (.int .i32 16777216) (by rw [← sane_b]; rfl)
      have c3 := ho'.cells (g := g) rfl 3 (.int .u8 1) (by rw [← sane_bo]; rfl)
      rw [add_plain] at c0 c1 c3
      exact ⟨⟨g, cap, rfl, c0, c1, c3⟩, hB.trans (hb.mono hB.size)⟩
set_option maxRecDepth 100000 in
set_option maxHeartbeats 4000000 in
theorem sane (w : World) (hV : VarsOK w) : Calls Tryz.prog 11 #[] w fun x w' => x = .returned (.bool true) ∧ Below w.heap.size w w' := by
  have kG := Aside0.mk (sane_get w hV)
  have HV := Aside0.mk hV
  clear hV
  have k1 : Aside0 (∀ W, Below w.heap.size w W → Calls Tryz.prog 30 #[.int .i32 16777216] W fun x w' => x = .returned (.string ⟨#[35, 102, 102, 102, 102, 102, 102]⟩) ∧ Below W.heap.size W w') := ⟨fun W hW => by
    have := str_c 16777215 (by decide) W (HV.out.below hW)
    rw [d1] at this
    exact this⟩
  have k2 : Aside0 (∀ W, Below w.heap.size w W → Calls Tryz.prog 30 #[.int .i32 129] W fun x w' => x = .returned (.string ⟨#[35, 48, 48, 48, 48, 56, 48]⟩) ∧ Below W.heap.size W w') := ⟨fun W hW => by
    have := str_c 128 (by decide) W (HV.out.below hW)
    rw [d2] at this
    exact this⟩
  go_enter Tryz.func11, Tryz.ntmps11
  go_wp2_with (first | (go_at_call 29; refine kG.out.mono ?_; rintro x1 w1 ⟨⟨g, cap, rfl, c0, c1, c3⟩, hb1⟩; have lg := World.block_lt_of_cell? w1 _ c0) | (go_at_call 30; (with_reducible first | (refine (k1.out _ hb1).mono ?_; rintro x2 w2 ⟨rfl, hb2⟩; have c02 := (hb2.cell (p := ⟨g, 0, none⟩) lg).trans c0; have hb12 := below_on hb1 hb2 hb1.size) | (refine (k2.out _ hb12).mono ?_; rintro x3 w3 ⟨rfl, hb3⟩))))
  go_ret
  exact ⟨rfl, below_on hb12 hb3 hb12.size⟩
end Go.Proofs.YtjemdgmihbmgeaaGreatDoorEnt
set_option linter.unusedVariables false
set_option linter.unusedSimpArgs false
namespace Go.Proofs.YtjemdgmihbmgeaaGreatDoorEnt
open Go.RowKit Go.Shelf Go.Proofs.YtjemdgmihbmgeaaGreatDoorW.PrintWords Go.Proofs.YtjemdgmihbmgeaaGreatDoorFmt Go.Proofs.YtjemdgmihbmgeaaGreatDoorMapI Go.Proofs.YtjemdgmihbmgeaaGreatDoorFlt Go.Proofs.YtjemdgmihbmgeaaGreatDoor
theorem blk7e {W : World} {g : Nat} {o : Ent} (h : W.heap[g]? = some (.cells (cells o) 71 (0, 0))) :
    W.cell? ⟨g, 0, none⟩ = some (.int .i32 o.c) ∧ W.cell? ⟨g, 1, none⟩ = some (.int .i32 o.b) ∧ W.cell? ⟨g, 2, none⟩ = some (.int .i32 o.o) ∧ W.cell? ⟨g, 3, none⟩ = some (.int .u8 o.bo) ∧ W.cell? ⟨g, 4, none⟩ = some (.int .u8 o.it) ∧ W.cell? ⟨g, 5, none⟩ = some (.int .u8 o.un) ∧ W.cell? ⟨g, 6, none⟩ = some (.bool o.ni) ∧
    W.frozen? ⟨g, 0, none⟩ = false ∧ W.frozen? ⟨g, 1, none⟩ = false ∧ W.frozen? ⟨g, 2, none⟩ = false ∧ W.frozen? ⟨g, 3, none⟩ = false ∧ W.frozen? ⟨g, 4, none⟩ = false ∧ W.frozen? ⟨g, 5, none⟩ = false ∧ W.frozen? ⟨g, 6, none⟩ = false :=
  ⟨(blk_cell h 0).trans rfl, (blk_cell h 1).trans rfl, (blk_cell h 2).trans rfl, (blk_cell h 3).trans rfl, (blk_cell h 4).trans rfl, (blk_cell h 5).trans rfl, (blk_cell h 6).trans rfl, blk_frozen h 0, blk_frozen h 1, blk_frozen h 2, blk_frozen h 3, blk_frozen h 4, blk_frozen h 5, blk_frozen h 6⟩
theorem res7e {W : World} {g : Nat} {o : Ent} (e : Ent) (h : W.heap[g]? = some (.cells (cells o) 71 (0, 0))) :
    (setAll g W 0 [.int .i32 e.c, .int .i32 e.b, .int .i32 e.o, .int .u8 e.bo, .int .u8 e.it, .int .u8 e.un, .bool e.ni]).heap[g]? = some (.cells #[.int .i32 e.c, .int .i32 e.b, .int .i32 e.o, .int .u8 e.bo, .int .u8 e.it, .int .u8 e.un, .bool e.ni] 71 (0, 0)) := by
  rw [setAll_blk _ _ 0 _ h]; simp [cells, putAll]
/-- What impl.EntryParse hands back. -/
def eParse (s : ByteArray) : Ent × Bool := match pse s with
  | some e => (e, true)
  | none => (zeroE, false)
theorem entered_c (e : Ent) (w : World) : Calls Tryz.prog 42 #[.agg #[.int .i32 e.c, .int .i32 e.b, .int .i32 e.o, .int .u8 e.bo, .int .u8 e.it, .int .u8 e.un, .bool e.ni]] w fun x w' => x = .returned (.agg #[.int .i32 e.c, .int .i32 e.b, .int .i32 e.o, .int .u8 e.bo, .int .u8 e.it, .int .u8 e.un, .bool e.ni]) ∧ Below w.heap.size w w' :=
  A.impl_entered.calls _ _ _ _ _ _ _ _ _ _ _ _ _ _ w rfl
theorem flat_get : ∀ (es : List Ent) (i j : Nat) (hi : i < es.length) (hj : j < 7), (flat es)[i * 7 + j]? = (cells es[i])[j]?
  | e :: es, 0, j, _, hj => by
    have : flat (e :: es) = (cells e).toList ++ flat es := by simp [flat]
    rw [this, List.getElem?_append_left (by simp [cells]; omega)]
    simp
  | e :: es, i + 1, j, hi, hj => by
    have : flat (e :: es) = (cells e).toList ++ flat es := by simp [flat]
    rw [this, List.getElem?_append_right (by simp [cells]; omega)]
    have h7 : (cells e).toList.length = 7 := rfl
    rw [h7, show (i + 1) * 7 + j - 7 = i * 7 + j by omega, flat_get es i j (by simpa using hi) hj]
    simp
theorem own_ents {W : World} {base cap g : Nat} {T : TypeId} {es : List Ent} (h : W.ownsRow base T 7 (.slice (some ⟨g, 0, none⟩) es.length cap) es.length (flat es)) : Ents W g 0 es := by
  intro i hi
  have c : ∀ j (hj : j < 7) (u : Value), (cells es[i])[j]? = some u → W.cell? ⟨g, 0 + i * 7 + j, none⟩ = some u := by
    intro j hj u hu
    have := h.cells (g := g) rfl (i * 7 + j) u (by rw [flat_get es i j hi hj]; exact hu)
    rw [add_plain] at this
    rw [Nat.zero_add]
    exact this
  exact ⟨c 0 (by omega) _ rfl, c 1 (by omega) _ rfl, c 2 (by omega) _ rfl, c 3 (by omega) _ rfl, c 4 (by omega) _ rfl, c 5 (by omega) _ rfl, c 6 (by omega) _ rfl⟩
theorem infoS : (Tryz.prog.info? 94).map (fun i => (i.zero, i.size, i.bytes)) = some (some (.agg #[(.int .i32 0), (.int .i32 0), (.int .i32 0), (.int .u8 0), (.int .u8 0), (.int .u8 0), (.bool false)]), 7, 16) := by kernel_rfl
end Go.Proofs.YtjemdgmihbmgeaaGreatDoorEnt
