/- The reference's styles: what own, open, get and made tell. -/
import Derived.Test.YtjemdgmihbmgeaaGreatDoorSx5
import Derived.Test.YtjemdgmihbmgeaaGreatDoorSx6
import Derived.Test.YtjemdgmihbmgeaaGreatDoorGet
import Derived.Test.YtjemdgmihbmgeaaGreatDoorCp
import Derived.Deep.RegionWith
set_option linter.unusedVariables false
set_option linter.unusedSimpArgs false
namespace Go.Proofs.YtjemdgmihbmgeaaGreatDoorEnt
open Go.RowKit Go.Shelf Go.Proofs.YtjemdgmihbmgeaaGreatDoorW.PrintWords Go.Proofs.YtjemdgmihbmgeaaGreatDoorFmt Go.Proofs.YtjemdgmihbmgeaaGreatDoorMapI Go.Proofs.YtjemdgmihbmgeaaGreatDoorFlt Go.Proofs.YtjemdgmihbmgeaaGreatDoor Go.Proofs.YtjemdgmihbmgeaaGreatDoor.S
/-! ### lines in memory -/
abbrev Lines := List (Int × Ent)
def lcells (p : Int × Ent) : List Value := [.int .i64 p.1, .int .i32 p.2.c, .int .i32 p.2.b, .int .i32 p.2.o, .int .u8 p.2.bo, .int .u8 p.2.it, .int .u8 p.2.un, .bool p.2.ni]
def flatL (ls : Lines) : List Value := ls.flatMap lcells
theorem flatL_snoc (ls : Lines) (p : Int × Ent) : flatL (ls ++ [p]) = flatL ls ++ lcells p := by simp [flatL]
def LinesAt (W : World) (g o : Nat) (ls : Lines) : Prop := ∀ i (h : i < ls.length) (j : Nat) (u : Value), (lcells ls[i])[j]? = some u → W.cell? ⟨g, o + i * 8 + j, none⟩ = some u
theorem LinesAt.same {W W' : World} {g o : Nat} {ls : Lines} (h : LinesAt W g o ls) (hb : W'.heap[g]? = W.heap[g]?) : LinesAt W' g o ls := fun i hi j u hu => (World.cell?_of_block (a := ⟨g, _, none⟩) hb).trans (h i hi j u hu)
/-- A style of the reference in block b. -/
def SpcAt (W : World) (b : Nat) (ls : Lines) (pa : Option Addr) : Prop :=
  ∃ A c, W.heap[b]? = some (.cells #[.slice A ls.length c, .pointer pa] 115 (0, 0)) ∧ ls.length ≤ c ∧ (ls ≠ [] → ∃ g o, A = some ⟨g, o, none⟩ ∧ g < W.heap.size ∧ LinesAt W g o ls)
theorem SpcAt.below {W W' : World} {b : Nat} {ls : Lines} {pa : Option Addr} (hb : Below W.heap.size W W') (h : SpcAt W b ls pa) : SpcAt W' b ls pa := by
  obtain ⟨A, c, h1, h2, h3⟩ := h
  refine ⟨A, c, blk_below h1 hb, h2, fun hn => ?_⟩
  obtain ⟨g, o, e, hg, hL⟩ := h3 hn
  exact ⟨g, o, e, Nat.lt_of_lt_of_le hg hb.size, hL.same (hb.block g hg)⟩
def SpcsAt (W : World) : List Lines → Option Addr → Prop
  | [], a => a = none
  | ls :: r, a => ∃ b pa, a = some ⟨b, 0, none⟩ ∧ SpcAt W b ls pa ∧ SpcsAt W r pa
theorem SpcsAt.below {W W' : World} (hb : Below W.heap.size W W') : ∀ {L : List Lines} {a : Option Addr}, SpcsAt W L a → SpcsAt W' L a
  | [], _, h => h
  | _ :: _, _, ⟨b, pa, e, h1, h2⟩ => ⟨b, pa, e, h1.below hb, SpcsAt.below hb h2⟩
/-! ### own -/
def hit (t : Int) (p : Int × Ent) : Bool := p.1 == t && !isZ p.2
def ownS (ls : Lines) (t : Int) (rp : Ent) : Ent := match ls.find? (hit t) with
  | some p => p.2
  | none => rp
theorem ownS_some {ls : Lines} {t : Int} {rp : Ent} {p : Int × Ent} (h : ls.find? (hit t) = some p) : ownS ls t rp = p.2 := by unfold ownS; rw [h]
theorem ownS_none {ls : Lines} {t : Int} {rp : Ent} (h : ls.find? (hit t) = none) : ownS ls t rp = rp := by unfold ownS; rw [h]
def ownL : List Lines → Int → Ent
  | [], _ => zeroE
  | ls :: r, t => ownS ls t (ownL r t)
theorem specZ_c (e : Ent) (w : World) : Calls Tryz.prog 25 #[.agg #[.int .i32 e.c, .int .i32 e.b, .int .i32 e.o, .int .u8 e.bo, .int .u8 e.it, .int .u8 e.un, .bool e.ni]] w fun x w' => x = .returned (.bool (isZ e)) ∧ Below w.heap.size w w' :=
  spec_EntryIsZero.calls _ _ _ _ _ _ _ _ w (by unfold spec_EntryIsZero.f isZ; simp only [Bool.and_assoc])
theorem res7s {W : World} {g : Nat} {o : Ent} (e : Ent) (h : W.heap[g]? = some (.cells (cells o) 62 (0, 0))) :
    (setAll g W 0 [.int .i32 e.c, .int .i32 e.b, .int .i32 e.o, .int .u8 e.bo, .int .u8 e.it, .int .u8 e.un, .bool e.ni]).heap[g]? = some (.cells #[.int .i32 e.c, .int .i32 e.b, .int .i32 e.o, .int .u8 e.bo, .int .u8 e.it, .int .u8 e.un, .bool e.ni] 62 (0, 0)) := by
  rw [setAll_blk _ _ 0 _ h]; simp [cells, putAll]
theorem blk7s {W : World} {g : Nat} {o : Ent} (h : W.heap[g]? = some (.cells (cells o) 62 (0, 0))) :
    W.cell? ⟨g, 0, none⟩ = some (.int .i32 o.c) ∧ W.cell? ⟨g, 1, none⟩ = some (.int .i32 o.b) ∧ W.cell? ⟨g, 2, none⟩ = some (.int .i32 o.o) ∧ W.cell? ⟨g, 3, none⟩ = some (.int .u8 o.bo) ∧ W.cell? ⟨g, 4, none⟩ = some (.int .u8 o.it) ∧ W.cell? ⟨g, 5, none⟩ = some (.int .u8 o.un) ∧ W.cell? ⟨g, 6, none⟩ = some (.bool o.ni) ∧
    W.frozen? ⟨g, 0, none⟩ = false ∧ W.frozen? ⟨g, 1, none⟩ = false ∧ W.frozen? ⟨g, 2, none⟩ = false ∧ W.frozen? ⟨g, 3, none⟩ = false ∧ W.frozen? ⟨g, 4, none⟩ = false ∧ W.frozen? ⟨g, 5, none⟩ = false ∧ W.frozen? ⟨g, 6, none⟩ = false :=
  ⟨(blk_cell h 0).trans rfl, (blk_cell h 1).trans rfl, (blk_cell h 2).trans rfl, (blk_cell h 3).trans rfl, (blk_cell h 4).trans rfl, (blk_cell h 5).trans rfl, (blk_cell h 6).trans rfl, blk_frozen h 0, blk_frozen h 1, blk_frozen h 2, blk_frozen h 3, blk_frozen h 4, blk_frozen h 5, blk_frozen h 6⟩
set_option maxRecDepth 100000 in
set_option maxHeartbeats 8000000 in
theorem own_step (b : Nat) (ls : Lines) (hl : ls.length ≤ 1000000) (pa : Option Addr) (t : Int) (w : World) (hS : SpcAt w b ls pa) (rp : Ent)
    (hp : pa ≠ none → ∀ W, Below w.heap.size w W → Calls Tryz.prog 26 #[.pointer pa, .int .i64 t] W fun x W' => x = .returned rp.val ∧ Below W.heap.size W W')
    (hz : pa = none → rp = zeroE) :
    Calls Tryz.prog 26 #[.pointer (some ⟨b, 0, none⟩), .int .i64 t] w fun x w' => x = .returned (ownS ls t rp).val ∧ Below w.heap.size w w' := by
  obtain ⟨A, c, hb, hc, hL⟩ := hS
  have b0 : w.cell? ⟨b, 0, none⟩ = some (.slice A ls.length c) := (blk_cell hb 0).trans rfl
  have lb := blk_lt hb
  have HBk := Aside0.mk hb
  have HL := Aside0.mk hL
  have HPa := Aside0.mk hp
  have HZ := Aside0.mk hz
  have HR0 := Aside0.mk (blk_new w (.cells #[.int .i32 0, .int .i32 0, .int .i32 0, .int .u8 0, .int .u8 0, .int .u8 0, .bool false] 62))
  have HB0 := Aside0.mk (below_alloc (Below.refl w.heap.size w) (.cells #[.int .i32 0, .int .i32 0, .int .i32 0, .int .u8 0, .int .u8 0, .int .u8 0, .bool false] 62))
  have hu := Tryz.underlying62
  have hu2 := Tryz.underlying117
  clear hb hL hp hz
  generalize hr : ownS ls t rp = rr
  have HRR := Aside0.mk hr
  clear hr
  go_enter Tryz.func26, Tryz.ntmps26
  go_wp2
  go_loopw [12] (fun i wr => ∃ k : Nat, k ≤ ls.length ∧ i = .int .i64 (k : Int) ∧ Aside0 (∀ p ∈ ls.take k, hit t p = false) ∧ Aside0 (wr.heap[w.heap.size]? = some (.cells (cells zeroE) 62 (0, 0))) ∧ Aside0 (Below w.heap.size w wr)) (fun i _ => ls.length - (intOf i).toNat)
  case atStart => exact ⟨0, Nat.zero_le _, rfl, ⟨fun p hp => by rw [List.take_zero] at hp; cases hp⟩, HR0, HB0⟩
  case round =>
    obtain ⟨k, hkl, rfl, HN, HR, HB⟩ := hrel
    by_cases hlt : k < ls.length
    · obtain ⟨g, o, rfl, hg, hP⟩ := HL.out (fun e => by rw [e] at hlt; simp at hlt)
      have hP' := hP.same (HB.out.block g hg) k hlt
      have d0 := hP' 0 _ rfl
      have d1 := hP' 1 _ rfl
      have d2 := hP' 2 _ rfl
      have d3 := hP' 3 _ rfl
      have d4 := hP' 4 _ rfl
      have d5 := hP' 5 _ rfl
      have d6 := hP' 6 _ rfl
      have d7 := hP' 7 _ rfl
      have htk : ls.take (k + 1) = ls.take k ++ [ls[k]] := by rw [List.take_succ_eq_append_getElem hlt]
      have hfd : hit t ls[k] = true → ls.find? (hit t) = some ls[k] := fun h => by
        have := List.find?_append (xs := ls.take k) (ys := ls.drop k) (p := hit t)
        rw [List.take_append_drop] at this
        rw [this, List.find?_eq_none.2 (fun p hp => by rw [HN.out p hp]; decide), List.drop_eq_getElem_cons hlt, Option.none_or, List.find?_cons, h]
      generalize ls[k] = p at *
      have hlti : (k : Int) < (ls.length : Int) := by omega
      have HT := Aside0.mk htk
      have HF := Aside0.mk hfd
      clear htk hP hP' hfd
      simp only [Nat.add_zero] at d0
      go_upto_region 4 with fail
      have hsk : ∃ W1, wr.alloc (.cells #[.int .i64 p.1, .int .i32 p.2.c, .int .i32 p.2.b, .int .i32 p.2.o, .int .u8 p.2.bo, .int .u8 p.2.it, .int .u8 p.2.un, .bool p.2.ni] 117) = W1 ∧ W1.heap[wr.heap.size]? = some (.cells #[.int .i64 p.1, .int .i32 p.2.c, .int .i32 p.2.b, .int .i32 p.2.o, .int .u8 p.2.bo, .int .u8 p.2.it, .int .u8 p.2.un, .bool p.2.ni] 117 (0, 0)) ∧ Below w.heap.size w W1 ∧ W1.heap[w.heap.size]? = some (.cells (cells zeroE) 62 (0, 0)) := ⟨_, rfl, blk_new _ _, below_alloc HB.out _, blk_alloc HR.out _⟩
      obtain ⟨W1, hW1, hX1, hB1, hR1⟩ := hsk
      rw [hW1]
      have e0 := (blk_cell hX1 0).trans rfl
      have e1 := (blk_cell hX1 1).trans rfl
      have e2 := (blk_cell hX1 2).trans rfl
      have e3 := (blk_cell hX1 3).trans rfl
      have e4 := (blk_cell hX1 4).trans rfl
      have e5 := (blk_cell hX1 5).trans rfl
      have e6 := (blk_cell hX1 6).trans rfl
      have e7 := (blk_cell hX1 7).trans rfl
      have HX1 := Aside0.mk hX1
      have HB1 := Aside0.mk hB1
      have HR1 := Aside0.mk hR1
      clear hW1 hX1 hB1 hR1 d0 d1 d2 d3 d4 d5 d6 d7
      by_cases hk : p.1 = t
      · have q : (p.1 == t) = true := beq_iff_eq.2 hk
        have kZ := Aside0.mk (specZ_c p.2)
        cases hz : isZ p.2 with
        | true =>
          have HH : Aside0 (hit t p = false) := ⟨by unfold hit; rw [q, hz]; rfl⟩
          rw [hz] at kZ
          clear hk hz
          go_wp2_with (go_at_call 25; refine (kZ.out _).mono ?_; rintro x1 w1 ⟨rfl, hb1⟩; have HW1 := Aside0.mk hb1; clear hb1)
          go_roundw
          case rel => exact ⟨k + 1, by omega, by rw [Int.natCast_add]; rfl, ⟨fun r hr => by rw [HT.out, List.mem_append, List.mem_singleton] at hr; rcases hr with hr | rfl; exact HN.out r hr; exact HH.out⟩, ⟨blk_below HR1.out HW1.out⟩, ⟨below_on HB1.out HW1.out HB1.out.size⟩⟩
          case measure => simp [intOf]; omega
        | false =>
          have HH : Aside0 (hit t p = true) := ⟨by unfold hit; rw [q, hz]; rfl⟩
          rw [hz] at kZ
          clear hk hz
          go_wp2_with (go_at_call 25; refine (kZ.out _).mono ?_; rintro x1 w1 ⟨rfl, hb1⟩; have hX2 := blk_below HX1.out hb1; have hR2 := blk_below HR1.out hb1; have HBE := Aside0.mk (below_on HB1.out hb1 HB1.out.size); clear hb1 e0 e1 e2 e3 e4 e5 e6 e7; have e1 := (blk_cell hX2 1).trans rfl; have e2 := (blk_cell hX2 2).trans rfl; have e3 := (blk_cell hX2 3).trans rfl; have e4 := (blk_cell hX2 4).trans rfl; have e5 := (blk_cell hX2 5).trans rfl; have e6 := (blk_cell hX2 6).trans rfl; have e7 := (blk_cell hX2 7).trans rfl; have HR2 := Aside0.mk hR2; obtain ⟨r0, r1, r2, r3, r4, r5, r6, g0, g1, g2, g3, g4, g5, g6⟩ := blk7s hR2; clear hX2 hR2)
          obtain rfl : p.2 = rr := (ownS_some (HF.out HH.out)).symm.trans HRR.out
          have hfin := res7s p.2 HR2.out
          rw [set7] at hfin
          have hbe := (HBE.out).trans (setAll_below (b := w.heap.size) (Nat.le_refl w.heap.size) [.int .i32 p.2.c, .int .i32 p.2.b, .int .i32 p.2.o, .int .u8 p.2.bo, .int .u8 p.2.it, .int .u8 p.2.un, .bool p.2.ni] _ 0)
          rw [set7] at hbe
          exact bodyPost_ret (results_cell_row rfl _ _ w.heap.size 62 #[.int .i32 p.2.c, .int .i32 p.2.b, .int .i32 p.2.o, .int .u8 p.2.bo, .int .u8 p.2.it, .int .u8 p.2.un, .bool p.2.ni] (0, 0) _ rfl hfin Tryz.underlying62 rfl (by kernel_rfl)) rfl ⟨rfl, hbe⟩
      · have q : (p.1 == t) = false := beq_eq_false_iff_ne.2 hk
        have HH : Aside0 (hit t p = false) := ⟨by unfold hit; rw [q]; rfl⟩
        clear hk
        go_wp2
        go_roundw
        case rel => exact ⟨k + 1, by omega, by rw [Int.natCast_add]; rfl, ⟨fun r hr => by rw [HT.out, List.mem_append, List.mem_singleton] at hr; rcases hr with hr | rfl; exact HN.out r hr; exact HH.out⟩, HR1, HB1⟩
        case measure => simp [intOf]; omega
    · obtain rfl : k = ls.length := by omega
      rw [List.take_length] at HN
      obtain rfl : rp = rr := (ownS_none (List.find?_eq_none.2 (fun p hp => by rw [HN.out p hp]; decide))).symm.trans HRR.out
      have hb' := (HB.out.block b lb).trans HBk.out
      have b1 : wr.cell? ⟨b, 1, none⟩ = some (.pointer pa) := (blk_cell hb' 1).trans rfl
      have hR' := HR.out
      cases pa with
      | none =>
        obtain rfl := HZ.out rfl
        obtain ⟨r0, r1, r2, r3, r4, r5, r6, g0, g1, g2, g3, g4, g5, g6⟩ := blk7s hR'
        have HR' := Aside0.mk hR'
        clear hb' hR'
        go_wp2
        have hfin := res7s zeroE HR'.out
        rw [set7] at hfin
        have hbe := (HB.out).trans (setAll_below (b := w.heap.size) (Nat.le_refl w.heap.size) [.int .i32 zeroE.c, .int .i32 zeroE.b, .int .i32 zeroE.o, .int .u8 zeroE.bo, .int .u8 zeroE.it, .int .u8 zeroE.un, .bool zeroE.ni] _ 0)
        rw [set7] at hbe
        exact bodyPost_ret (results_cell_row rfl _ _ w.heap.size 62 #[.int .i32 zeroE.c, .int .i32 zeroE.b, .int .i32 zeroE.o, .int .u8 zeroE.bo, .int .u8 zeroE.it, .int .u8 zeroE.un, .bool zeroE.ni] (0, 0) _ rfl hfin Tryz.underlying62 rfl (by kernel_rfl)) rfl ⟨rfl, hbe⟩
      | some a =>
        have hcall := Aside0.mk (HPa.out (by simp) _ HB.out)
        simp only [Ent.val] at hcall
        clear hb' hR'
        go_wp2_with (go_at_call 26; refine hcall.out.mono ?_; rintro x1 w1 ⟨rfl, hb1⟩; have hR2 := blk_below HR.out hb1; have HBE := Aside0.mk (below_on HB.out hb1 HB.out.size); have HR2 := Aside0.mk hR2; obtain ⟨r0, r1, r2, r3, r4, r5, r6, g0, g1, g2, g3, g4, g5, g6⟩ := blk7s hR2; clear hb1 hR2)
        have hfin := res7s rp HR2.out
        rw [set7] at hfin
        have hbe := (HBE.out).trans (setAll_below (b := w.heap.size) (Nat.le_refl w.heap.size) [.int .i32 rp.c, .int .i32 rp.b, .int .i32 rp.o, .int .u8 rp.bo, .int .u8 rp.it, .int .u8 rp.un, .bool rp.ni] _ 0)
        rw [set7] at hbe
        exact bodyPost_ret (results_cell_row rfl _ _ w.heap.size 62 #[.int .i32 rp.c, .int .i32 rp.b, .int .i32 rp.o, .int .u8 rp.bo, .int .u8 rp.it, .int .u8 rp.un, .bool rp.ni] (0, 0) _ rfl hfin Tryz.underlying62 rfl (by kernel_rfl)) rfl ⟨rfl, hbe⟩
theorem own_c : ∀ (L : List Lines) (a : Option Addr) (t : Int) (w : World), L ≠ [] → (∀ ls ∈ L, ls.length ≤ 1000000) → SpcsAt w L a →
    Calls Tryz.prog 26 #[.pointer a, .int .i64 t] w fun x w' => x = .returned (ownL L t).val ∧ Below w.heap.size w w'
  | [], _, _, _, h, _, _ => absurd rfl h
  | ls :: r, a, t, w, _, hl, hS => by
    obtain ⟨b, pa, rfl, h1, h2⟩ := hS
    refine own_step b ls (hl ls List.mem_cons_self) pa t w h1 (ownL r t) (fun hp W hW => ?_) (fun hp => ?_)
    · have hr : r ≠ [] := fun e => by subst e; exact hp h2
      exact own_c r pa t W hr (fun x hx => hl x (List.mem_cons_of_mem _ hx)) (SpcsAt.below hW h2)
    · cases r with
      | nil => rfl
      | cons x y =>
        obtain ⟨b', pa', e, _⟩ := h2
        rw [hp] at e
        cases e
/-! ### types -/
def kindsL : List (S158) := (spec_kinds.f).getD []
theorem kinds_f : spec_kinds.f = some kindsL := rfl
def tyB (t : Int) : Bool := kindsL.any fun x => x.f0 == t
theorem kinds_len : kindsL.length = 102 := by decide +kernel
theorem ty_l (t : Int) (l : List (S158)) (hl : l.length ≤ 1000) : ∀ (m i : Nat), i + m = l.length → spec_TypeIs.l0 (m + 1) t l (l.length : Int) (i : Int) = some ((l.drop i).any fun x => x.f0 == t)
  | 0, i, h => by
    rw [spec_TypeIs.l0, if_neg (by omega), List.drop_eq_nil_of_le (by omega)]
    rfl
  | m + 1, i, h => by
    have hi : i < l.length := by omega
    have ei : wrap64 ((i : Int) + 1) = ((i + 1 : Nat) : Int) := by unfold wrap64; omega
    have hr : rd_T158 l (i : Int) = l[i] := by
      unfold rd_T158
      rw [Int.toNat_natCast, List.getD_eq_getElem?_getD, List.getElem?_eq_getElem hi]; rfl
    rw [spec_TypeIs.l0, if_pos (by omega), if_pos (by omega), if_pos (by omega), hr, List.drop_eq_getElem_cons hi, List.any_cons]
    by_cases h0 : l[i].f0 = t
    · rw [if_pos h0, beq_iff_eq.2 h0]; rfl
    · rw [if_neg h0, beq_eq_false_iff_ne.2 h0, ei, ty_l t l hl m (i + 1) (by omega)]; rfl
theorem ty_f (t : Int) : spec_TypeIs.f 103 t = some (tyB t) := by
  unfold spec_TypeIs.f
  rw [kinds_f, Option.bind_some]
  have := ty_l t kindsL (by rw [kinds_len]; omega) 102 0 (by rw [kinds_len])
  rw [List.drop_zero] at this
  exact this
theorem ty_c (t : Int) (w : World) : Calls Tryz.prog 57 #[.int .i64 t] w fun x w' => x = .returned (.bool (tyB t)) ∧ Below w.heap.size w w' := spec_TypeIs.calls 103 t _ w (ty_f t)
theorem ty_rng (t : Int) (h : tyB t = true) : -14 ≤ t ∧ t ≤ 8003 := by
  unfold tyB at h
  obtain ⟨x, hx, he⟩ := List.any_eq_true.1 h
  have hall : kindsL.all (fun x => decide (-14 ≤ x.f0 ∧ x.f0 ≤ 8003)) = true := by decide +kernel
  have := of_decide_eq_true (List.all_eq_true.1 hall x hx)
  rw [beq_iff_eq] at he
  omega
def catS (t : Int) : Int := if t < 1000 then 0 else wrap64 (t - Int.tmod t 1000)
def hunS (t : Int) : Int := if t < 1000 then 0 else wrap64 (t - Int.tmod t 100)
theorem cat_c (t : Int) (w : World) : Calls Tryz.prog 67 #[.int .i64 t] w fun x w' => x = .returned (.int .i64 (catS t)) ∧ Below w.heap.size w w' :=
  (spec_category.calls t (catS t) w (by unfold spec_category.f catS; split <;> rfl)).mono fun _ _ h => ⟨h.1, h.2.below⟩
theorem hun_c (t : Int) (w : World) : Calls Tryz.prog 68 #[.int .i64 t] w fun x w' => x = .returned (.int .i64 (hunS t)) ∧ Below w.heap.size w w' :=
  (spec_hundred.calls t (hunS t) w (by unfold spec_hundred.f hunS; split <;> rfl)).mono fun _ _ h => ⟨h.1, h.2.below⟩
theorem cat_eq (t : Int) (h : tyB t = true) : catS t = catOf t ∧ hunS t = subOf t := by
  unfold tyB at h
  obtain ⟨x, hx, he⟩ := List.any_eq_true.1 h
  have hall : kindsL.all (fun x => decide (catS x.f0 = catOf x.f0 ∧ hunS x.f0 = subOf x.f0)) = true := by decide +kernel
  have := of_decide_eq_true (List.all_eq_true.1 hall x hx)
  rw [beq_iff_eq] at he
  rw [he] at this
  exact this
def s26 (e : Ent) : S62 := ⟨e.c, e.b, e.o, e.bo, e.it, e.un, e.ni⟩
theorem addr_at (g o j : Nat) : (⟨g, o, none⟩ : Addr).add j = ⟨g, o + j, none⟩ := by unfold Addr.add; split <;> simp_all
theorem ents_at {W : World} {g o : Nat} {es : List Ent} (h : Ents W g o es) (j : Nat) (hj : j < es.length) (i : Nat) (u : Value)
    (hu : ([.int .i32 es[j].c, .int .i32 es[j].b, .int .i32 es[j].o, .int .u8 es[j].bo, .int .u8 es[j].it, .int .u8 es[j].un, .bool es[j].ni] : List Value)[i]? = some u) : W.cell? ⟨g, o + (j * 7 + i), none⟩ = some u := by
  obtain ⟨h0, h1, h2, h3, h4, h5, h6⟩ := h j hj
  rw [← Nat.add_assoc]
  match i with
  | 0 => rw [← Option.some.inj hu]; exact h0
  | 1 => rw [← Option.some.inj hu]; exact h1
  | 2 => rw [← Option.some.inj hu]; exact h2
  | 3 => rw [← Option.some.inj hu]; exact h3
  | 4 => rw [← Option.some.inj hu]; exact h4
  | 5 => rw [← Option.some.inj hu]; exact h5
  | 6 => rw [← Option.some.inj hu]; exact h6
  | i + 7 => simp at hu
theorem c26 {n0 : Nat} {W : World} {A : Option Addr} {es : List Ent} (h : EntsAt n0 W A es) (hl : es.length ≤ 2147483647) : Kd.C k62 W A (es.map s26).length (es.map s26) := by
  refine ⟨rfl, by rw [List.length_map]; omega, fun hp => ?_⟩
  rw [List.length_map] at hp
  obtain ⟨g, o, rfl, _, hE⟩ := h (fun e => by rw [e] at hp; simp at hp)
  refine ⟨_, rfl, fun j p hjp => ?_⟩
  rw [List.getElem?_map] at hjp
  by_cases hj : j < es.length
  · rw [List.getElem?_eq_getElem hj] at hjp
    obtain rfl := Option.some.inj hjp
    refine ⟨_, rfl, k62_mk W _, fun i u hu => ?_⟩
    have := ents_at hE j hj i u hu
    rw [addr_at]
    exact this
  · rw [List.getElem?_eq_none (by omega)] at hjp; cases hjp
/-! ### spec.EntryInherit -/
def tup (e : Ent) : Int × Int × Int × Int × Int × Int × Bool := (e.c, e.b, e.o, e.bo, e.it, e.un, e.ni)
theorem j_eq (k : Nat) (l : List (S62)) (i : Int) (e0 e1 e2 e3 e4 e5 : Int) (e6 : Bool) (a0 a1 a2 a3 a4 a5 : Int) (a6 : Bool) :
    spec_EntryInherit.j1 (k + 4) l i e0 e1 e2 e3 e4 e5 e6 a0 a1 a2 a3 a4 a5 a6 = spec_EntryInherit.l0 k l (wrap64 (i - 1)) e0 (if e1 = 0 then a1 else e1) (if e2 = 0 then a2 else e2) (if e3 = 0 then a3 else e3) (if e4 = 0 then a4 else e4) (if e5 = 0 then a5 else e5) e6 := by
  have h4 : ∀ f0 f1 f2 f3, spec_EntryInherit.j4 (k + 1) l i f0 f1 f2 f3 e4 e5 e6 a0 a1 a2 a3 a4 a5 a6 = spec_EntryInherit.l0 k l (wrap64 (i - 1)) f0 f1 f2 f3 (if e4 = 0 then a4 else e4) (if e5 = 0 then a5 else e5) e6 := by
    intro f0 f1 f2 f3
    rw [spec_EntryInherit.j4]
    by_cases q4 : e4 = 0 <;> by_cases q5 : e5 = 0 <;> simp only [q4, q5, if_true, if_false]
  have h3 : ∀ f0 f1 f2, spec_EntryInherit.j3 (k + 2) l i f0 f1 f2 e3 e4 e5 e6 a0 a1 a2 a3 a4 a5 a6 = spec_EntryInherit.l0 k l (wrap64 (i - 1)) f0 f1 f2 (if e3 = 0 then a3 else e3) (if e4 = 0 then a4 else e4) (if e5 = 0 then a5 else e5) e6 := by
    intro f0 f1 f2
    rw [spec_EntryInherit.j3, h4, h4]
    by_cases q : e3 = 0 <;> simp only [q, if_true, if_false]
  have h2 : ∀ f0 f1, spec_EntryInherit.j2 (k + 3) l i f0 f1 e2 e3 e4 e5 e6 a0 a1 a2 a3 a4 a5 a6 = spec_EntryInherit.l0 k l (wrap64 (i - 1)) f0 f1 (if e2 = 0 then a2 else e2) (if e3 = 0 then a3 else e3) (if e4 = 0 then a4 else e4) (if e5 = 0 then a5 else e5) e6 := by
    intro f0 f1
    rw [spec_EntryInherit.j2, h3, h3]
    by_cases q : e2 = 0 <;> simp only [q, if_true, if_false]
  rw [spec_EntryInherit.j1, h2, h2]
  by_cases q : e1 = 0 <;> simp only [q, if_true, if_false]
theorem inh_l (es : List Ent) (hl : es.length ≤ 2147483647) : ∀ (m K : Nat) (e : Ent), m ≤ es.length → e.ni = false →
    spec_EntryInherit.l0 (5 * m + 1 + K) (es.map s26) ((m : Int) - 1) e.c e.b e.o e.bo e.it e.un e.ni = some (tup ((es.take m).reverse.foldl inh1 e))
  | 0, K, e, hm, hn => by
    rw [show 5 * 0 + 1 + K = K + 1 by omega, spec_EntryInherit.l0, if_neg (by omega)]
    rfl
  | m + 1, K, e, hm, hn => by
    have hi : m < es.length := by omega
    have ei : wrap64 ((m : Int) - 1) = (m : Int) - 1 := by unfold wrap64; omega
    have em : ((m + 1 : Nat) : Int) - 1 = (m : Int) := by omega
    have hr : rd_T62 (es.map s26) (m : Int) = s26 es[m] := by
      unfold rd_T62
      rw [Int.toNat_natCast, List.getD_eq_getElem?_getD, List.getElem?_map, List.getElem?_eq_getElem hi]; rfl
    have ih := inh_l es hl m K (inh1 e es[m]) (by omega) (by rw [inh1_ni]; exact hn)
    rw [em, show 5 * (m + 1) + 1 + K = (5 * m + 1 + K + 4) + 1 by omega, spec_EntryInherit.l0, if_pos (by omega), if_pos (by omega), if_pos (by rw [List.length_map]; omega), hr]
    rw [List.take_succ_eq_append_getElem hi, List.reverse_append, List.reverse_singleton, List.singleton_append, List.foldl_cons, ← ih]
    simp only [s26]
    rw [j_eq, j_eq, ei]
    have hi1 : inh1 e es[m] = ⟨if e.c = 0 then es[m].c else e.c, if e.b = 0 then es[m].b else e.b, if e.o = 0 then es[m].o else e.o, if e.bo = 0 then es[m].bo else e.bo, if e.it = 0 then es[m].it else e.it, if e.un = 0 then es[m].un else e.un, false⟩ := by
      unfold inh1
      rw [if_neg (by rw [hn]; decide)]
    rw [hi1, hn]
    by_cases q : e.c = 0 <;> simp only [q, if_true, if_false]
theorem specInh_c (e : Ent) (A : Option Addr) (cap : Nat) (es : List Ent) (hl : es.length ≤ 2147483647) (hc : es.length ≤ cap) (w : World) (n0 : Nat) (hA : EntsAt n0 w A es) :
    Calls Tryz.prog 36 #[.agg #[.int .i32 e.c, .int .i32 e.b, .int .i32 e.o, .int .u8 e.bo, .int .u8 e.it, .int .u8 e.un, .bool e.ni], .slice A es.length cap] w fun x w' => x = .returned (inhL e es).val ∧ Below w.heap.size w w' := by
  have hf : spec_EntryInherit.f (5 * es.length + 1 + 0) e.c e.b e.o e.bo e.it e.un e.ni (es.map s26) = some (tup (inhL e es)) := by
    unfold spec_EntryInherit.f
    by_cases hn : e.ni = true
    · rw [if_pos hn, inhL, fold_stop _ _ hn]
      simp only [tup, hn]
    · have hn' : e.ni = false := by simpa using hn
      have ew : wrap64 (((es.map s26).length : Int) - 1) = (es.length : Int) - 1 := by rw [List.length_map]; unfold wrap64; omega
      have := inh_l es hl es.length 0 e (Nat.le_refl _) hn'
      rw [List.take_length] at this
      rw [if_neg hn, ew]
      exact this
  have h := spec_EntryInherit.calls _ e.c e.b e.o e.bo e.it e.un e.ni A cap (es.map s26) _ _ _ _ _ _ _ w (c26 hA hl) (by rw [List.length_map]; exact hc) hf
  rw [List.length_map] at h
  exact h
/-! ### get and open -/
def fullL (L : List Lines) (t : Int) : Ent := inhL (ownL L t) [ownL L (-1), ownL L 8000, ownL L (catS t), ownL L (hunS t)]
def openL (L : List Lines) (t : Int) : Bool := !(tyB t) || (isZ (ownL L t) && (t == -6 || t == -4 || t == -5))
set_option maxRecDepth 100000 in
set_option maxHeartbeats 4000000 in
theorem open_c (L : List Lines) (hL : L ≠ []) (hl : ∀ ls ∈ L, ls.length ≤ 1000000) (a : Option Addr) (t : Int) (w : World) (hS : SpcsAt w L a) :
    Calls Tryz.prog 24 #[.pointer a, .int .i64 t] w fun x w' => x = .returned (.bool (openL L t)) ∧ Below w.heap.size w w' := by
  have kT := Aside0.mk (ty_c t)
  have kO : Aside0 (∀ W, Below w.heap.size w W → Calls Tryz.prog 26 #[.pointer a, .int .i64 t] W fun x W' => x = .returned (.agg #[.int .i32 (ownL L t).c, .int .i32 (ownL L t).b, .int .i32 (ownL L t).o, .int .u8 (ownL L t).bo, .int .u8 (ownL L t).it, .int .u8 (ownL L t).un, .bool (ownL L t).ni]) ∧ Below w.heap.size w W') := ⟨fun W hW => (own_c L a t W hL hl (SpcsAt.below hW hS)).mono fun x W' h => ⟨h.1, below_on hW h.2 hW.size⟩⟩
  have kZ : Aside0 (∀ W, Below w.heap.size w W → Calls Tryz.prog 25 #[.agg #[.int .i32 (ownL L t).c, .int .i32 (ownL L t).b, .int .i32 (ownL L t).o, .int .u8 (ownL L t).bo, .int .u8 (ownL L t).it, .int .u8 (ownL L t).un, .bool (ownL L t).ni]] W fun x W' => x = .returned (.bool (isZ (ownL L t))) ∧ Below w.heap.size w W') := ⟨fun W hW => (specZ_c (ownL L t) W).mono fun x W' h => ⟨h.1, below_on hW h.2 hW.size⟩⟩
  have hr : openL L t = (!(tyB t) || (isZ (ownL L t) && (t == -6 || t == -4 || t == -5))) := rfl
  have HR := Aside0.mk hr
  clear hS hr
  generalize ownL L t = e at *
  cases hty : tyB t with
  | false =>
    rw [hty] at kT
    have HT := Aside0.mk hty
    clear hty
    go_enter Tryz.func24, Tryz.ntmps24
    go_wp2_with (go_at_call 57; refine (kT.out _).mono ?_; rintro x1 w1 ⟨rfl, hb1⟩)
    go_ret
    exact ⟨by rw [HR.out, HT.out]; rfl, hb1⟩
  | true =>
    rw [hty] at kT
    have HT := Aside0.mk hty
    clear hty
    cases hz : isZ e with
    | false =>
      rw [hz] at kZ
      have HZ := Aside0.mk hz
      clear hz
      go_enter Tryz.func24, Tryz.ntmps24
      go_wp2_with (first | (go_at_call 57; refine (kT.out _).mono ?_; rintro x1 w1 ⟨rfl, hb1⟩) | (go_at_call 26; refine (kO.out _ (by assumption)).mono ?_; rintro x2 w2 ⟨rfl, hb2⟩) | (go_at_call 25; refine (kZ.out _ (by assumption)).mono ?_; rintro x3 w3 ⟨rfl, hb3⟩))
      go_ret
      exact ⟨by rw [HR.out, HT.out, HZ.out]; rfl, hb3⟩
    | true =>
      rw [hz] at kZ
      have HZ := Aside0.mk hz
      clear hz
      have hcase : ∃ b6 b4 b5 : Bool, (t == -6) = b6 ∧ (t == -4) = b4 ∧ (t == -5) = b5 := ⟨_, _, _, rfl, rfl, rfl⟩
      obtain ⟨b6, b4, b5, q6, q4, q5⟩ := hcase
      have HQ := Aside0.mk (And.intro q6 (And.intro q4 q5))
      cases b6
      · cases b4
        · cases b5
          all_goals
            go_enter Tryz.func24, Tryz.ntmps24
            go_wp2_with (first | (go_at_call 57; refine (kT.out _).mono ?_; rintro x1 w1 ⟨rfl, hb1⟩) | (go_at_call 26; refine (kO.out _ (by assumption)).mono ?_; rintro x2 w2 ⟨rfl, hb2⟩) | (go_at_call 25; refine (kZ.out _ (by assumption)).mono ?_; rintro x3 w3 ⟨rfl, hb3⟩))
            go_ret
            exact ⟨by rw [HR.out, HT.out, HZ.out, HQ.out.1, HQ.out.2.1, HQ.out.2.2]; rfl, hb3⟩
        · go_enter Tryz.func24, Tryz.ntmps24
          go_wp2_with (first | (go_at_call 57; refine (kT.out _).mono ?_; rintro x1 w1 ⟨rfl, hb1⟩) | (go_at_call 26; refine (kO.out _ (by assumption)).mono ?_; rintro x2 w2 ⟨rfl, hb2⟩) | (go_at_call 25; refine (kZ.out _ (by assumption)).mono ?_; rintro x3 w3 ⟨rfl, hb3⟩))
          go_ret
          exact ⟨by rw [HR.out, HT.out, HZ.out, HQ.out.1, HQ.out.2.1]; rfl, hb3⟩
      · go_enter Tryz.func24, Tryz.ntmps24
        go_wp2_with (first | (go_at_call 57; refine (kT.out _).mono ?_; rintro x1 w1 ⟨rfl, hb1⟩) | (go_at_call 26; refine (kO.out _ (by assumption)).mono ?_; rintro x2 w2 ⟨rfl, hb2⟩) | (go_at_call 25; refine (kZ.out _ (by assumption)).mono ?_; rintro x3 w3 ⟨rfl, hb3⟩))
        go_ret
        exact ⟨by rw [HR.out, HT.out, HZ.out, HQ.out.1]; rfl, hb3⟩
theorem ents4s {W : World} {g : Nat} (e1 e2 e3 e4 : Ent) (h : W.heap[g]? = some (.cells #[.int .i32 e1.c, .int .i32 e1.b, .int .i32 e1.o, .int .u8 e1.bo, .int .u8 e1.it, .int .u8 e1.un, .bool e1.ni, .int .i32 e2.c, .int .i32 e2.b, .int .i32 e2.o, .int .u8 e2.bo, .int .u8 e2.it, .int .u8 e2.un, .bool e2.ni, .int .i32 e3.c, .int .i32 e3.b, .int .i32 e3.o, .int .u8 e3.bo, .int .u8 e3.it, .int .u8 e3.un, .bool e3.ni, .int .i32 e4.c, .int .i32 e4.b, .int .i32 e4.o, .int .u8 e4.bo, .int .u8 e4.it, .int .u8 e4.un, .bool e4.ni] 62 (0, 0))) :
    Ents W g 0 [e1, e2, e3, e4] := by
  intro i hi
  have : i = 0 ∨ i = 1 ∨ i = 2 ∨ i = 3 := by simp at hi; omega
  rcases this with rfl | rfl | rfl | rfl
  · exact ⟨(blk_cell h 0).trans rfl, (blk_cell h 1).trans rfl, (blk_cell h 2).trans rfl, (blk_cell h 3).trans rfl, (blk_cell h 4).trans rfl, (blk_cell h 5).trans rfl, (blk_cell h 6).trans rfl⟩
  · exact ⟨(blk_cell h 7).trans rfl, (blk_cell h 8).trans rfl, (blk_cell h 9).trans rfl, (blk_cell h 10).trans rfl, (blk_cell h 11).trans rfl, (blk_cell h 12).trans rfl, (blk_cell h 13).trans rfl⟩
  · exact ⟨(blk_cell h 14).trans rfl, (blk_cell h 15).trans rfl, (blk_cell h 16).trans rfl, (blk_cell h 17).trans rfl, (blk_cell h 18).trans rfl, (blk_cell h 19).trans rfl, (blk_cell h 20).trans rfl⟩
  · exact ⟨(blk_cell h 21).trans rfl, (blk_cell h 22).trans rfl, (blk_cell h 23).trans rfl, (blk_cell h 24).trans rfl, (blk_cell h 25).trans rfl, (blk_cell h 26).trans rfl, (blk_cell h 27).trans rfl⟩
set_option maxRecDepth 100000 in
set_option maxHeartbeats 8000000 in
theorem sget_c (L : List Lines) (hL : L ≠ []) (hl : ∀ ls ∈ L, ls.length ≤ 1000000) (a : Option Addr) (t : Int) (w : World) (hS : SpcsAt w L a) :
    Calls Tryz.prog 37 #[.pointer a, .int .i64 t] w fun x w' => x = .returned (fullL L t).val ∧ Below w.heap.size w w' := by
  have hsk : ∃ W0, w.alloc (.cells #[.int .i32 0, .int .i32 0, .int .i32 0, .int .u8 0, .int .u8 0, .int .u8 0, .bool false] 62) = W0 ∧ W0.heap[w.heap.size]? = some (.cells (cells zeroE) 62 (0, 0)) ∧ Below w.heap.size w W0 ∧ w.heap.size < W0.heap.size := ⟨_, rfl, blk_new _ _, below_alloc (Below.refl _ _) _, by simp⟩
  obtain ⟨W0, hW0, hR0, hBw, hlt⟩ := hsk
  have hS0 : SpcsAt W0 L a := SpcsAt.below hBw hS
  have kG : Aside0 (∀ t W, Below W0.heap.size W0 W → Calls Tryz.prog 26 #[.pointer a, .int .i64 t] W fun x W' => x = .returned (.agg #[.int .i32 (ownL L t).c, .int .i32 (ownL L t).b, .int .i32 (ownL L t).o, .int .u8 (ownL L t).bo, .int .u8 (ownL L t).it, .int .u8 (ownL L t).un, .bool (ownL L t).ni]) ∧ Below W0.heap.size W0 W') := ⟨fun t W hW => (own_c L a t W hL hl (SpcsAt.below hW hS0)).mono fun x W' h => ⟨h.1, below_on hW h.2 hW.size⟩⟩
  have kC : Aside0 (∀ W, Below W0.heap.size W0 W → Calls Tryz.prog 67 #[.int .i64 t] W fun x W' => x = .returned (.int .i64 (catS t)) ∧ Below W0.heap.size W0 W') := ⟨fun W hW => (cat_c t W).mono fun x W' h => ⟨h.1, below_on hW h.2 hW.size⟩⟩
  have kB : Aside0 (∀ W, Below W0.heap.size W0 W → Calls Tryz.prog 68 #[.int .i64 t] W fun x W' => x = .returned (.int .i64 (hunS t)) ∧ Below W0.heap.size W0 W') := ⟨fun W hW => (hun_c t W).mono fun x W' h => ⟨h.1, below_on hW h.2 hW.size⟩⟩
  have hf : fullL L t = inhL (ownL L t) [ownL L (-1), ownL L 8000, ownL L (catS t), ownL L (hunS t)] := rfl
  have HF := Aside0.mk hf
  clear hf hS
  generalize catS t = tc at *
  generalize hunS t = ts at *
  generalize ownL L = gs at *
  have HB0 : Below W0.heap.size W0 W0 := Below.refl _ _
  have kI : Aside0 (∀ W, Below W0.heap.size W0 W → Calls Tryz.prog 36 #[.agg #[.int .i32 (gs t).c, .int .i32 (gs t).b, .int .i32 (gs t).o, .int .u8 (gs t).bo, .int .u8 (gs t).it, .int .u8 (gs t).un, .bool (gs t).ni], .slice (some ⟨W.heap.size, 0, none⟩) 4 4] (W.alloc (.cells #[.int .i32 (gs (-1)).c, .int .i32 (gs (-1)).b, .int .i32 (gs (-1)).o, .int .u8 (gs (-1)).bo, .int .u8 (gs (-1)).it, .int .u8 (gs (-1)).un, .bool (gs (-1)).ni, .int .i32 (gs 8000).c, .int .i32 (gs 8000).b, .int .i32 (gs 8000).o, .int .u8 (gs 8000).bo, .int .u8 (gs 8000).it, .int .u8 (gs 8000).un, .bool (gs 8000).ni, .int .i32 (gs tc).c, .int .i32 (gs tc).b, .int .i32 (gs tc).o, .int .u8 (gs tc).bo, .int .u8 (gs tc).it, .int .u8 (gs tc).un, .bool (gs tc).ni, .int .i32 (gs ts).c, .int .i32 (gs ts).b, .int .i32 (gs ts).o, .int .u8 (gs ts).bo, .int .u8 (gs ts).it, .int .u8 (gs ts).un, .bool (gs ts).ni] 62)) fun x W' => x = .returned (.agg #[.int .i32 (fullL L t).c, .int .i32 (fullL L t).b, .int .i32 (fullL L t).o, .int .u8 (fullL L t).bo, .int .u8 (fullL L t).it, .int .u8 (fullL L t).un, .bool (fullL L t).ni]) ∧ Below W0.heap.size W0 W') := by
    refine ⟨fun W hW => ?_⟩
    have hB1 : Below W0.heap.size W0 (W.alloc (.cells #[.int .i32 (gs (-1)).c, .int .i32 (gs (-1)).b, .int .i32 (gs (-1)).o, .int .u8 (gs (-1)).bo, .int .u8 (gs (-1)).it, .int .u8 (gs (-1)).un, .bool (gs (-1)).ni, .int .i32 (gs 8000).c, .int .i32 (gs 8000).b, .int .i32 (gs 8000).o, .int .u8 (gs 8000).bo, .int .u8 (gs 8000).it, .int .u8 (gs 8000).un, .bool (gs 8000).ni, .int .i32 (gs tc).c, .int .i32 (gs tc).b, .int .i32 (gs tc).o, .int .u8 (gs tc).bo, .int .u8 (gs tc).it, .int .u8 (gs tc).un, .bool (gs tc).ni, .int .i32 (gs ts).c, .int .i32 (gs ts).b, .int .i32 (gs ts).o, .int .u8 (gs ts).bo, .int .u8 (gs ts).it, .int .u8 (gs ts).un, .bool (gs ts).ni] 62)) := below_alloc hW _
    have h := specInh_c (gs t) (some ⟨W.heap.size, 0, none⟩) 4 [gs (-1), gs 8000, gs tc, gs ts] (by simp) (by simp) (W.alloc (.cells #[.int .i32 (gs (-1)).c, .int .i32 (gs (-1)).b, .int .i32 (gs (-1)).o, .int .u8 (gs (-1)).bo, .int .u8 (gs (-1)).it, .int .u8 (gs (-1)).un, .bool (gs (-1)).ni, .int .i32 (gs 8000).c, .int .i32 (gs 8000).b, .int .i32 (gs 8000).o, .int .u8 (gs 8000).bo, .int .u8 (gs 8000).it, .int .u8 (gs 8000).un, .bool (gs 8000).ni, .int .i32 (gs tc).c, .int .i32 (gs tc).b, .int .i32 (gs tc).o, .int .u8 (gs tc).bo, .int .u8 (gs tc).it, .int .u8 (gs tc).un, .bool (gs tc).ni, .int .i32 (gs ts).c, .int .i32 (gs ts).b, .int .i32 (gs ts).o, .int .u8 (gs ts).bo, .int .u8 (gs ts).it, .int .u8 (gs ts).un, .bool (gs ts).ni] 62)) (W.heap.size + 1) (fun _ => ⟨W.heap.size, 0, rfl, by simp, ents4s _ _ _ _ (blk_new _ _)⟩)
    refine h.mono ?_
    rintro x W' ⟨rfl, hb⟩
    exact ⟨by rw [HF.out]; rfl, below_on hB1 hb hB1.size⟩
  generalize fullL L t = r at *
  go_enter Tryz.func37, Tryz.ntmps37
  go_upto_region 1 with fail
  clear hW0 hS0
  go_wp2_with (first | (go_at_call 26; refine (kG.out _ _ (by assumption)).mono ?_; rintro x1 w1 ⟨rfl, hb1⟩) | (go_at_call 67; refine (kC.out _ (by assumption)).mono ?_; rintro x2 w2 ⟨rfl, hb2⟩) | (go_at_call 68; refine (kB.out _ (by assumption)).mono ?_; rintro x3 w3 ⟨rfl, hb3⟩) | (go_at_call 36; refine (kI.out _ (by assumption)).mono ?_; rintro x4 w4 ⟨rfl, hb4⟩; have hR4 := (hb4.block _ hlt).trans hR0; obtain ⟨r0, r1, r2, r3, r4, r5, r6, g0, g1, g2, g3, g4, g5, g6⟩ := blk7s hR4))
  have hfin := res7s r hR4
  rw [set7] at hfin
  have hbe := (hBw.trans (hb4.mono (Nat.le_of_lt hlt))).trans (setAll_below (b := w.heap.size) (Nat.le_refl w.heap.size) [.int .i32 r.c, .int .i32 r.b, .int .i32 r.o, .int .u8 r.bo, .int .u8 r.it, .int .u8 r.un, .bool r.ni] w4 0)
  rw [set7] at hbe
  exact bodyPost_ret (results_cell_row rfl _ _ w.heap.size 62 #[.int .i32 r.c, .int .i32 r.b, .int .i32 r.o, .int .u8 r.bo, .int .u8 r.it, .int .u8 r.un, .bool r.ni] (0, 0) _ rfl hfin Tryz.underlying62 rfl (by kernel_rfl)) rfl ⟨rfl, hbe⟩
/-! ### an entry's text, read by the reference -/
def eRes (s : ByteArray) : Int × Int × Int × Int × Int × Int × Bool × Bool × Int := (spec_EntryParse.f (Go.Proofs.YtjemdgmihbmgeaaGreatDoor.Pure.eK s) s).getD (0, 0, 0, 0, 0, 0, false, false, 2)
def told (s : ByteArray) : Int := (eRes s).2.2.2.2.2.2.2.2
def eOk (s : ByteArray) : Bool := (eRes s).2.2.2.2.2.2.2.1
def eEnt (s : ByteArray) : Ent := ⟨(eRes s).1, (eRes s).2.1, (eRes s).2.2.1, (eRes s).2.2.2.1, (eRes s).2.2.2.2.1, (eRes s).2.2.2.2.2.1, (eRes s).2.2.2.2.2.2.1⟩
theorem eRes_f (s : ByteArray) (hs : s.size ≤ 200) : spec_EntryParse.f (Go.Proofs.YtjemdgmihbmgeaaGreatDoor.Pure.eK s) s = some (eRes s) ∧ (told s = 2 ∨ (∃ e, pse s = some e ∧ eEnt s = e ∧ eOk s = true ∧ told s = 1) ∨ (pse s = none ∧ eOk s = false ∧ told s = 1)) := by
  obtain ⟨r, h1, h2⟩ := Go.Proofs.YtjemdgmihbmgeaaGreatDoor.Pure.eparse_k s hs
  have he : eRes s = r := by unfold eRes; rw [h1]; rfl
  refine ⟨by rw [he, h1], ?_⟩
  unfold told eOk eEnt
  rw [he]
  rcases h2 with h2 | h2
  · exact .inl h2
  · unfold Go.Proofs.YtjemdgmihbmgeaaGreatDoor.Pure.Reads at h2
    cases hp : pse s with
    | none => rw [hp] at h2; exact .inr (.inr ⟨rfl, h2⟩)
    | some e => rw [hp] at h2; subst h2; exact .inr (.inl ⟨e, rfl, rfl, rfl, rfl⟩)
theorem sparse_c (s : ByteArray) (hs : s.size ≤ 200) (w : World) : Calls Tryz.prog 35 #[.string s] w fun x w' => x = .returned (.tuple #[.agg #[.int .i32 (eEnt s).c, .int .i32 (eEnt s).b, .int .i32 (eEnt s).o, .int .u8 (eEnt s).bo, .int .u8 (eEnt s).it, .int .u8 (eEnt s).un, .bool (eEnt s).ni], .bool (eOk s), .int .i64 (told s)]) ∧ Below w.heap.size w w' :=
  spec_EntryParse.calls _ s _ _ _ _ _ _ _ _ _ w (eRes_f s hs).1
/-! ### made -/
def madeF : List (Int × ByteArray) → Lines → Int ⊕ Lines
  | [], acc => .inr acc
  | p :: r, acc => if r.any (fun q => q.1 == p.1) = true then madeF r acc else if told p.2 = 1 then (if eOk p.2 = true then madeF r (acc ++ [(p.1, eEnt p.2)]) else .inl 1) else .inl (told p.2)
def MadeRes (pa : Option Addr) (r : Int ⊕ Lines) (x : Ending) (w' : World) : Prop := match r with
  | .inl n => x = .returned (.tuple #[.pointer none, .bool false, .int .i64 n])
  | .inr ls => ∃ b, x = .returned (.tuple #[.pointer (some ⟨b, 0, none⟩), .bool true, .int .i64 1]) ∧ SpcAt w' b ls pa
structure MadeI (pa : Option Addr) (l : List (Int × ByteArray)) (k : Nat) (acc : Lines) (v : Value) (w wr : World) : Prop where
  eq : madeF l [] = madeF (l.drop k) acc
  blk : wr.heap[w.heap.size]? = some (.cells #[v, .pointer pa] 115 (0, 0))
  own : wr.ownsRow w.heap.size 117 8 v acc.length (flatL acc)
  below : Below w.heap.size w wr
  len : acc.length ≤ k
theorem MadeI.later {pa : Option Addr} {l : List (Int × ByteArray)} {k : Nat} {acc : Lines} {v : Value} {w wr W' : World} (h : MadeI pa l k acc v w wr) (hb : Below wr.heap.size wr W') : MadeI pa l k acc v w W' :=
  ⟨h.eq, blk_below h.blk hb, pw_own_below h.own hb, below_on h.below hb h.below.size, h.len⟩
theorem flatL_get : ∀ (ls : Lines) (i j : Nat) (hi : i < ls.length) (hj : j < 8), (flatL ls)[i * 8 + j]? = (lcells ls[i])[j]?
  | p :: ls, 0, j, hi, hj => by
    have h : flatL (p :: ls) = lcells p ++ flatL ls := by simp [flatL]
    rw [h, Nat.zero_mul, Nat.zero_add, List.getElem?_append_left (by simp [lcells]; omega)]
    rfl
  | p :: ls, i + 1, j, hi, hj => by
    have h : flatL (p :: ls) = lcells p ++ flatL ls := by simp [flatL]
    rw [h, List.getElem?_append_right (by simp [lcells]; omega), show (i + 1) * 8 + j - (lcells p).length = i * 8 + j by simp [lcells]; omega, flatL_get ls i j (by simpa using hi) hj]
    rfl
theorem lines_of {W : World} {base c : Nat} {A : Option Addr} {ls : Lines} (h : W.ownsRow base 117 8 (.slice A ls.length c) ls.length (flatL ls)) : ls ≠ [] → ∃ g o, A = some ⟨g, o, none⟩ ∧ g < W.heap.size ∧ LinesAt W g o ls := by
  intro hne
  have hpos : 0 < ls.length := List.length_pos_iff.2 hne
  obtain ⟨g, rfl⟩ : ∃ g, A = some ⟨g, 0, none⟩ := by
    rcases h.2 with ⟨h3, _⟩ | ⟨g, cap, fs, h3, _⟩
    · injection h3 with _ h4 _
      omega
    · injection h3 with h4 _ _
      exact ⟨g, h4⟩
  have c : ∀ i (hi : i < ls.length) j (u : Value), (lcells ls[i])[j]? = some u → W.cell? ⟨g, 0 + i * 8 + j, none⟩ = some u := by
    intro i hi j u hu
    have hj : j < 8 := by
      have := (List.getElem?_eq_some_iff.1 hu).1
      simpa [lcells] using this
    have := h.cells (g := g) rfl (i * 8 + j) u (by rw [flatL_get ls i j hi hj]; exact hu)
    rw [add_plain] at this
    rw [Nat.zero_add]
    exact this
  exact ⟨g, 0, rfl, World.block_lt_of_cell? W _ (c 0 hpos 0 _ rfl), c⟩
theorem infoL : (Tryz.prog.info? 117).map (fun i => (i.zero, i.size, i.bytes)) = some (some (.agg #[.int .i64 0, (.int .i32 0), (.int .i32 0), (.int .i32 0), (.int .u8 0), (.int .u8 0), (.int .u8 0), (.bool false)]), 8, 24) := by kernel_rfl
set_option maxRecDepth 100000 in
set_option maxHeartbeats 8000000 in
theorem made_c (A : Option Addr) (cap : Nat) (l : List (Int × ByteArray)) (hl : l.length ≤ 1000000) (hc : l.length ≤ cap) (hk : ∀ p ∈ l, p.2.size ≤ 200) (pa : Option Addr) (w : World)
    (hA : l ≠ [] → ∃ g o, A = some ⟨g, o, none⟩ ∧ g < w.heap.size ∧ PartsAt w g o l) :
    Calls Tryz.prog 23 #[.slice A l.length cap, .pointer pa] w fun x w' => MadeRes pa (madeF l []) x w' ∧ Below w.heap.size w w' := by
  have HA := Aside0.mk hA
  have HK := Aside0.mk hk
  have hu := Tryz.underlying62
  have hu2 := Tryz.underlying117
  have hu3 := Tryz.underlying64
  generalize hr : madeF l [] = res
  have HRes := Aside0.mk hr
  clear hA hk hr
  go_enter Tryz.func23, Tryz.ntmps23
  go_wp2
  go_loopw [21] (fun i wr => ∃ k : Nat, k ≤ l.length ∧ i = .int .i64 (k : Int) ∧ Aside0 (∃ acc v, MadeI pa l k acc v w wr)) (fun i _ => l.length - (intOf i).toNat)
  case atStart =>
    refine ⟨0, Nat.zero_le _, rfl, ⟨[], .slice none 0 0, by rw [List.drop_zero], ?_, own_nil _ _ _ _, ?_, Nat.zero_le _⟩⟩
    · exact blk_new w _
    · exact below_alloc (Below.refl _ _) _
  case round =>
    obtain ⟨k, hkl, rfl, HI⟩ := hrel
    obtain ⟨acc, v, hI⟩ := HI.out
    clear HI
    by_cases hlt : k < l.length
    · obtain ⟨g, o, rfl, hg, hP⟩ := HA.out (fun e => by rw [e] at hlt; simp at hlt)
      have hP' := hP.same (hI.below.block g hg)
      obtain ⟨d0, d1⟩ := hP' k hlt
      have hkt := HK.out _ (List.getElem_mem hlt)
      have hdr := List.drop_eq_getElem_cons hlt
      have HD := Aside0.mk hdr
      have HP := Aside0.mk hP'
      have HII := Aside0.mk hI
      clear hdr hP' hP hI
      generalize l[k] = p at *
      have hlti : (k : Int) < (l.length : Int) := by omega
      go_upto_region 6 with fail
      have hsk : ∃ W1, wr.alloc (.cells #[.int .i64 p.1, .string p.2] 64) = W1 ∧ W1.heap[wr.heap.size]? = some (.cells #[.int .i64 p.1, .string p.2] 64 (0, 0)) ∧ MadeI pa l k acc v w W1 := ⟨_, rfl, blk_new _ _, HII.out.later (below_alloc (Below.refl _ _) _)⟩
      obtain ⟨W1, hW1, hX1, hI1⟩ := hsk
      rw [hW1]
      have HX1 := Aside0.mk hX1
      have HI1 := Aside0.mk hI1
      generalize wr.heap.size = B9 at *
      clear hW1 hX1 hI1 d0 d1
      have hk1 : (0 : Int) ≤ (k : Int) + 1 := by omega
      go_cut [29, 30, 31] (fun s29 s30 s31 wc => ∃ (A2 : Option Addr) (c2 : Nat), s29 = .slice A2 (l.length - (k + 1)) c2 ∧ s30 = .int .i64 ((l.length - (k + 1) : Nat) : Int) ∧ s31 = .int .i64 0 ∧ Aside0 (l.length - (k + 1) ≠ 0 → A2 = some ⟨g, o + (k + 1) * 2, none⟩) ∧ Aside0 (MadeI pa l k acc v w wc) ∧ Aside0 (wc.heap[B9]? = some (.cells #[.int .i64 p.1, .string p.2] 64 (0, 0))))
      case first =>
        by_cases hcp : cap = k + 1
        · have hle : l.length = k + 1 := by omega
          have hz : l.length - (k + 1) = 0 := by omega
          have HLE := Aside0.mk hz
          clear hle hz
          go_wp2
          go_meet
          case rel => exact ⟨_, 0, by rw [HLE.out], by rw [HLE.out], rfl, ⟨fun h => absurd HLE.out h⟩, HI1, HX1⟩
        · have hcl : k + 1 < cap := by omega
          clear hcp
          go_wp2
          go_meet
          case rel => exact ⟨_, _, rfl, rfl, rfl, ⟨fun _ => rfl⟩, HI1, HX1⟩
      case rest =>
        obtain ⟨A2, c2, rfl, rfl, rfl, HA2, HIc, HXc⟩ := hcut
        clear HI1 HX1
        go_upto_block 2 with fail
        go_cut [10] (fun x wd => x = .bool ((l.drop (k + 1)).any fun q => q.1 == p.1) ∧ Aside0 (MadeI pa l k acc v w wd) ∧ Aside0 (wd.heap[B9]? = some (.cells #[.int .i64 p.1, .string p.2] 64 (0, 0))))
        case first =>
          go_wp2
          go_loopw [10, 31] (fun x i wi => ∃ j : Nat, j ≤ l.length - (k + 1) ∧ i = .int .i64 (j : Int) ∧ (∃ b : Bool, x = .bool b ∧ Aside0 (b = ((l.drop (k + 1)).take j).any fun q => q.1 == p.1)) ∧ Aside0 (MadeI pa l k acc v w wi) ∧ Aside0 (wi.heap[B9]? = some (.cells #[.int .i64 p.1, .string p.2] 64 (0, 0)))) (fun _ i _ => l.length - (k + 1) - (intOf i).toNat)
          case atStart => exact ⟨0, Nat.zero_le _, rfl, ⟨false, rfl, ⟨by rw [List.take_zero]; rfl⟩⟩, HIc, HXc⟩
          case round =>
            obtain ⟨j, hjl, rfl, ⟨b, rfl, HBb⟩, HIi, HXi⟩ := hrel
            by_cases hj : j < l.length - (k + 1)
            · have hidx : k + 1 + j < l.length := by omega
              obtain rfl := HA2.out (by omega)
              obtain ⟨g', o', e', hg', hPw⟩ := HA.out (fun e => by rw [e] at hlt; simp at hlt)
              injection e' with e'
              injection e' with e1 e2 _
              subst e1; subst e2
              obtain ⟨d0, d1⟩ := (hPw.same (HIi.out.below.block _ hg')) (k + 1 + j) hidx
              have htk : ((l.drop (k + 1)).take (j + 1)).any (fun q => q.1 == p.1) = (((l.drop (k + 1)).take j).any (fun q => q.1 == p.1) || (l[k + 1 + j].1 == p.1)) := by
                rw [List.take_succ_eq_append_getElem (by rw [List.length_drop]; omega), List.any_append, List.getElem_drop]
                simp
              rw [show o + (k + 1 + j) * 2 = o + (k + 1) * 2 + j * 2 by omega] at d0 d1
              generalize l[k + 1 + j] = q at *
              have hji : (j : Int) < ((l.length - (k + 1) : Nat) : Int) := by omega
              have x0 := (blk_cell HXi.out 0).trans rfl
              have HTk := Aside0.mk htk
              have hb9 := blk_lt HXi.out
              clear htk hPw
              have HIa : Aside0 (MadeI pa l k acc v w (wr.alloc (.cells #[.int .i64 q.1, .string q.2] 64))) := ⟨HIi.out.later (below_alloc (Below.refl _ _) _)⟩
              have HXa : Aside0 ((wr.alloc (.cells #[.int .i64 q.1, .string q.2] 64)).heap[B9]? = some (.cells #[.int .i64 p.1, .string p.2] 64 (0, 0))) := ⟨blk_alloc HXi.out _⟩
              cases b with
              | true =>
                go_wp2
                go_roundw
                case rel => exact ⟨j + 1, by omega, by rw [Int.natCast_add]; rfl, ⟨true, rfl, ⟨by rw [HTk.out, ← HBb.out]; rfl⟩⟩, HIa, HXa⟩
                case measure => simp [intOf]; omega
              | false =>
                cases hq : (q.1 == p.1) with
                | true =>
                  have HQ := Aside0.mk hq
                  go_wp2
                  go_roundw
                  case rel => exact ⟨j + 1, by omega, by rw [Int.natCast_add]; rfl, ⟨true, rfl, ⟨by rw [HTk.out, ← HBb.out, HQ.out]; rfl⟩⟩, HIa, HXa⟩
                  case measure => simp [intOf]; omega
                | false =>
                  have HQ := Aside0.mk hq
                  go_wp2
                  go_roundw
                  case rel => exact ⟨j + 1, by omega, by rw [Int.natCast_add]; rfl, ⟨false, rfl, ⟨by rw [HTk.out, ← HBb.out, HQ.out]; rfl⟩⟩, HIa, HXa⟩
                  case measure => simp [intOf]; omega
            · have hjn : j = l.length - (k + 1) := by omega
              subst hjn
              have hb2 := HBb.out
              rw [List.take_of_length_le (by rw [List.length_drop]; omega)] at hb2
              have HB2 := Aside0.mk hb2
              clear hb2
              go_wp2
              go_meet
              case rel => exact ⟨by rw [← HB2.out], HIi, HXi⟩
        case rest =>
          obtain ⟨rfl, HId, HXd⟩ := hcut
          cases hlat : ((l.drop (k + 1)).any fun q => q.1 == p.1) with
          | true =>
            have HN : Aside0 (MadeI pa l (k + 1) acc v w wc) := ⟨⟨HId.out.eq.trans (by rw [HD.out, madeF, if_pos hlat]), HId.out.blk, HId.out.own, HId.out.below, Nat.le_succ_of_le HId.out.len⟩⟩
            clear hlat
            go_wp2
            go_roundw
            case rel => exact ⟨k + 1, by omega, by rw [Int.natCast_add]; rfl, ⟨acc, v, HN.out⟩⟩
            case measure => simp [intOf]; omega
          | false =>
            have heq : madeF l [] = if told p.2 = 1 then (if eOk p.2 = true then madeF (l.drop (k + 1)) (acc ++ [(p.1, eEnt p.2)]) else .inl 1) else .inl (told p.2) := HId.out.eq.trans (by rw [HD.out, madeF, if_neg (by rw [hlat]; decide)])
            have HEQ := Aside0.mk (HRes.out.symm.trans heq)
            have x1 := (blk_cell HXd.out 1).trans rfl
            have kP := Aside0.mk (sparse_c p.2 hkt wc)
            clear hlat heq
            generalize eEnt p.2 = E at *
            generalize hok : eOk p.2 = ok at *
            generalize htd : told p.2 = td at *
            clear hok htd
            by_cases ht : td = 1
            · subst ht
              cases ok with
              | false =>
                go_wp2_with (go_at_call 35; refine kP.out.mono ?_; rintro y1 w5 ⟨rfl, hb5⟩)
                go_ret3
                have hrr : res = .inl 1 := by simpa using HEQ.out
                exact ⟨by rw [hrr]; rfl, below_alloc (below_on HId.out.below hb5 HId.out.below.size) _⟩
              | true =>
                go_upto_region 17 with (go_at_call 35; refine kP.out.mono ?_; rintro y1 w5 ⟨rfl, hb5⟩)
                have hrr : res = madeF (l.drop (k + 1)) (acc ++ [(p.1, E)]) := by simpa using HEQ.out
                have HNext := Aside0.mk (HRes.out.trans hrr)
                have hsk : ∃ W2, w5.alloc (.cells #[.int .i32 E.c, .int .i32 E.b, .int .i32 E.o, .int .u8 E.bo, .int .u8 E.it, .int .u8 E.un, .bool E.ni] 62) = W2 ∧ MadeI pa l k acc v w W2 ∧ W2.heap[B9]? = some (.cells #[.int .i64 p.1, .string p.2] 64 (0, 0)) ∧ W2.heap[w5.heap.size]? = some (.cells (cells E) 62 (0, 0)) := by
                  exact ⟨_, rfl, (HId.out.later hb5).later (below_alloc (Below.refl _ _) _), blk_alloc (blk_below HXd.out hb5) _, blk_new _ _⟩
                obtain ⟨W2, hW2, hM, hX9, hX13⟩ := hsk
                rw [hW2]
                obtain ⟨A0, c0, hv⟩ := own_slice hM.own
                subst hv
                have hMd : MadeI pa l k acc (.slice A0 acc.length c0) w W2.drew := hM.later (below_drew (Below.refl _ _))
                have HMd := Aside0.mk hMd
                have f0 := (blk_cell hM.blk 0).trans rfl
                have e0 := (blk_cell hX9 0).trans rfl
                obtain ⟨t0, t1, t2, t3, t4, t5, t6, -, -, -, -, -, -, -⟩ := blk7s hX13
                have hone : ∀ u ∈ lcells (p.1, E), u.oneCell' = true := by simp [lcells, Value.oneCell']
                have hal := hM.len
                have hbd : (acc.length + 1) * 24 ≤ 140737488355328 := by omega
                have HN := Aside0.mk hone
                have HBD := Aside0.mk hbd
                have l1 := blk_lt hM.blk
                have l2 := blk_lt hX9
                have l3 := blk_lt hX13
                generalize w5.heap.size = B13 at *
                clear hW2 hM hMd hX9 hX13 hone hbd hb5 hrr x1 hal
                go_region_law (first | ((refine step_append_cells (w0 := w) w.heap.size (by rfl) (.tmp 61) (.tmp 66) 113 117 (.agg #[.int .i64 0, (.int .i32 0), (.int .i32 0), (.int .i32 0), (.int .u8 0), (.int .u8 0), (.int .u8 0), (.bool false)]) 8 24 (by rfl) Tryz.underlying113 infoL rfl (by decide) (by decide) (.slice A0 acc.length c0) acc.length (flatL acc) (lcells (p.1, E)) (by rfl) (by rfl) rfl HN.out HMd.out.own HMd.out.below HMd.out.below.size HBD.out ?_; intro v1 w6 ho6 hB6 hg6 hat6; obtain ⟨A6, c6, rfl⟩ := own_slice ho6; have hb6 := blk_grown HMd.out.blk hg6 (own_ne HMd.out.own HMd.out.blk (by decide)); have h60 := (blk_cell hb6 0).trans rfl; have f60 := blk_frozen hb6 0)))
                all_goals
                  have HNw : Aside0 (MadeI pa l (k + 1) (acc ++ [(p.1, E)]) (.slice A6 (acc.length + 1) c6) w (w6.setCell ⟨w.heap.size, 0, none⟩ (.slice A6 (acc.length + 1) c6))) := by
                    have hl1 : (acc ++ [(p.1, E)]).length = acc.length + 1 := by simp
                    refine ⟨⟨HNext.out, blk_put hb6 0 _ rfl, ?_, hB6.setCell (p := ⟨w.heap.size, 0, none⟩) (Nat.le_refl _) _, by rw [hl1]; exact Nat.succ_le_succ HMd.out.len⟩⟩
                    rw [hl1, flatL_snoc]
                    exact own_setCell ho6 (own_ne ho6 hb6 (by decide)) _
                  clear ho6 hB6 hg6 hat6 hb6 h60 f60
                  go_wp2
                  go_roundw
                  case rel => exact ⟨k + 1, by omega, by rw [Int.natCast_add]; rfl, ⟨_, _, HNw.out⟩⟩
                  case measure => simp [intOf]; omega
            · have q : (td != 1) = true := bne_iff_ne.2 ht
              have HT := Aside0.mk ht
              clear ht
              go_wp2_with (go_at_call 35; refine kP.out.mono ?_; rintro y1 w5 ⟨rfl, hb5⟩)
              go_ret3
              have hrr := HEQ.out
              rw [if_neg HT.out] at hrr
              exact ⟨by rw [hrr]; rfl, below_alloc (below_on HId.out.below hb5 HId.out.below.size) _⟩
    · obtain rfl : k = l.length := by omega
      have HII := Aside0.mk hI
      have hrr := HRes.out.symm.trans (hI.eq.trans (by rw [List.drop_length, madeF]))
      have HRR := Aside0.mk hrr
      clear hI hrr
      go_wp2
      go_ret3
      obtain ⟨A3, c3, hv⟩ := own_slice HII.out.own
      have hb := HII.out.blk
      have ho := HII.out.own
      subst hv
      refine ⟨?_, HII.out.below⟩
      rw [HRR.out]
      exact ⟨_, rfl, A3, c3, hb, own_le ho, lines_of ho⟩
--HERE
end Go.Proofs.YtjemdgmihbmgeaaGreatDoorEnt
