-- WRITTEN BY OUR myprint.py, a program of this session's over the kit's printer
import Derived.Test.YtifhhejohdmiaaaDoorGx0
import Derived.Test.YtifhhejohdmiaaaDoorGx1
import Derived.Test.YtifhhejohdmiaaaDoorGx2
import Derived.Test.YtifhhejohdmiaaaDoorGx4
namespace Go.Proofs.YtifhhejohdmiaaaDoor.G
open Go.RowKit Go.Proofs.YtifhhejohdmiaaaDoorW.PrintWords Go.Proofs.YtifhhejohdmiaaaDoorW.PrintLast Go.Proofs.YtifhhejohdmiaaaDoorW.PrintMore
attribute [local go_sem] max2_int min2_int max_two min_two max_three min_three max_four min_four   -- for this text's walks alone
set_option linter.unusedVariables false
set_option linter.unusedSimpArgs false

attribute [local go_sem high] eqA23
/-! ### laws_FnStyleOwn: function 11 -/
def laws_FnStyleOwn.j0 : Nat → List (S49) → Int → Bool → Int → Int → Int → Int → Int → Int → Bool → Option (Bool)
  | 0, _, _, _, _, _, _, _, _, _, _ => none
  | k + 1, x0, x1, x21, x162000, x162001, x162002, x162003, x162004, x162005, x162006 => if x21 = true then (some true) else ((impl_StyleGet.f x0 ([] : List Int)).bind fun bt165 => (if bt165.2 = true then (if ([] : List (S49)).length + x0.length < 5864062014805 then ((some (([] : List (S49)) ++ x0 : List (S49))).bind fun y169 => ((impl_EntryString.f k x162000 x162001 x162002 x162003 x162004 x162005 true).bind fun t172 => ((some (([(⟨x1, t172⟩ : S49)] : List (S49)) : List (S49))).bind fun y173 => (if y169.length + y173.length < 5864062014805 then ((impl_StyleGet.f (y169 ++ y173) (([x1] : List Int))).bind fun bt182 => (if bt182.2 = true then (if (bt182.1.length : Int) = 1 then (if 0 < (bt182.1.length : Int) then (if (((rd_T23 bt182.1 0).f0) == x162000 && (((rd_T23 bt182.1 0).f1) == x162001 && (((rd_T23 bt182.1 0).f2) == x162002 && (((rd_T23 bt182.1 0).f3) == x162003 && (((rd_T23 bt182.1 0).f4) == x162004 && (((rd_T23 bt182.1 0).f5) == x162005 && (((rd_T23 bt182.1 0).f6)))))))) = true then ((laws_styled.f).bind fun t187 => (some t187)) else (some false)) else (none)) else (some false)) else (some false))) else (none))))) else (none)) else ((laws_styled.f).bind fun t188 => (some t188))))
def laws_FnStyleOwn.f (k : Nat) (l0 : List (S49)) (a1 : Int) (a2_0 : Int) (a2_1 : Int) (a2_2 : Int) (a2_3 : Int) (a2_4 : Int) (a2_5 : Int) (a2_6 : Bool) : Option (Bool) := (laws_zzFits2.f k l0).bind fun t162 => (if t162 = true then ((laws_few.f k l0 ([] : List Int)).bind fun t163 => (if t163 = true then ((laws_usual.f k a2_0 a2_1 a2_2 a2_3 a2_4 a2_5 a2_6).bind fun t164 => (laws_FnStyleOwn.j0 k l0 a1 (!t164) a2_0 a2_1 a2_2 a2_3 a2_4 a2_5 a2_6)) else (laws_FnStyleOwn.j0 k l0 a1 true a2_0 a2_1 a2_2 a2_3 a2_4 a2_5 a2_6))) else (some true))
theorem laws_FnStyleOwn.mono_l : ∀ k, (∀ y0 y1 y2 y3 y4 y5 y6 y7 y8 y9, LeO (laws_FnStyleOwn.j0 k y0 y1 y2 y3 y4 y5 y6 y7 y8 y9) (laws_FnStyleOwn.j0 (k + 1) y0 y1 y2 y3 y4 y5 y6 y7 y8 y9))
  | 0 => fun _ _ _ _ _ _ _ _ _ _ r h => by simp [laws_FnStyleOwn.j0] at h
  | k + 1 => by
    have ih0 := laws_FnStyleOwn.mono_l k
    · intro y0 y1 y2 y3 y4 y5 y6 y7 y8 y9
      unfold laws_FnStyleOwn.j0
      repeat' first
      | (with_reducible exact ih0 _ _ _ _ _ _ _ _ _ _)
      | (with_reducible exact impl_EntryString.mono _ _ _ _ _ _ _ _)
      | (with_reducible exact laws_few.mono _ _ _)
      | (with_reducible exact laws_usual.mono _ _ _ _ _ _ _ _)
      | (with_reducible exact laws_zzFits2.mono _ _)
      | (with_reducible exact LeO.refl _)
      | (with_reducible exact LeO.none _)
      | (with_reducible refine LeO.ite ?_ ?_)
      | (with_reducible refine LeO.bind ?_ (fun _ => ?_))
      | exact ih0 _ _ _ _ _ _ _ _ _ _
      | exact impl_EntryString.mono _ _ _ _ _ _ _ _
      | exact laws_few.mono _ _ _
      | exact laws_usual.mono _ _ _ _ _ _ _ _
      | exact laws_zzFits2.mono _ _
      | exact LeO.none _
      | refine LeO.ite ?_ ?_
      | refine LeO.bind ?_ (fun _ => ?_)
theorem laws_FnStyleOwn.mono : ∀ a0 a1 a2 a3 a4 a5 a6 a7 a8 k, LeO (laws_FnStyleOwn.f k a0 a1 a2 a3 a4 a5 a6 a7 a8) (laws_FnStyleOwn.f (k + 1) a0 a1 a2 a3 a4 a5 a6 a7 a8) := by
  intro a0 a1 a2 a3 a4 a5 a6 a7 a8 k
  have ih0 := laws_FnStyleOwn.mono_l k
  unfold laws_FnStyleOwn.f
  repeat' first
      | (with_reducible exact ih0 _ _ _ _ _ _ _ _ _ _)
      | (with_reducible exact impl_EntryString.mono _ _ _ _ _ _ _ _)
      | (with_reducible exact laws_few.mono _ _ _)
      | (with_reducible exact laws_usual.mono _ _ _ _ _ _ _ _)
      | (with_reducible exact laws_zzFits2.mono _ _)
      | (with_reducible exact LeO.refl _)
      | (with_reducible exact LeO.none _)
      | (with_reducible refine LeO.ite ?_ ?_)
      | (with_reducible refine LeO.bind ?_ (fun _ => ?_))
      | exact ih0 _ _ _ _ _ _ _ _ _ _
      | exact impl_EntryString.mono _ _ _ _ _ _ _ _
      | exact laws_few.mono _ _ _
      | exact laws_usual.mono _ _ _ _ _ _ _ _
      | exact laws_zzFits2.mono _ _
      | exact LeO.none _
      | refine LeO.ite ?_ ?_
      | refine LeO.bind ?_ (fun _ => ?_)
def laws_FnStyleOwn.T9 : Bool × List (List Nat × List Nat) := (true, [([], []), ([0], [0]), ([], []), ([], []), ([3, 1], [3]), ([2, 4], [2, 4]), ([5], [5]), ([1, 6, 4], [1, 6]), ([], []), ([8], [8]), ([7, 9, 7], [7, 9]), ([10], [10]), ([11], [11]), ([11], [11]), ([12, 10, 0, 1, 2, 3, 4, 5, 6, 7, 8, 9, 10, 11, 12], [12]), ([13, 14, 0, 1, 2, 3, 4, 5, 6, 7, 8, 9, 10, 11, 12, 13, 14], [13])])
def laws_FnStyleOwn.B9 : List Nat := [0, 1, 0, 0, 11, 31, 63, 127, 0, 256, 1023, 2047, 4095, 4095, 8191, 32767]
theorem laws_FnStyleOwn.tab9 : rtab .any (opsOf Tryd.f11 9) = laws_FnStyleOwn.T9 := by kernel_rfl
theorem laws_FnStyleOwn.bits9 : waitsOk laws_FnStyleOwn.T9.2 laws_FnStyleOwn.B9 = true := by kernel_rfl
def laws_FnStyleOwn.T10 : Bool × List (List Nat × List Nat) := (true, [([], []), ([0], [0]), ([1], [1]), ([2, 1], [1, 2]), ([3, 1], [1, 3]), ([1, 4], [1, 4]), ([5, 1], [5]), ([6], [6]), ([7, 6], [6, 7]), ([8, 6], [6, 8]), ([6], [6]), ([9, 10, 6], [6, 9, 10]), ([6, 11], [6, 11]), ([12, 6], [12]), ([13, 13], [13]), ([13, 14], [13, 14]), ([15, 14, 0, 1, 2, 3, 4, 5, 6, 7, 8, 9, 10, 11, 12, 13, 14, 15], [15])])
def laws_FnStyleOwn.B10 : List Nat := [0, 1, 3, 7, 15, 31, 63, 127, 255, 511, 127, 2047, 4095, 8191, 16383, 32767, 65535]
theorem laws_FnStyleOwn.tab10 : rtab .any (opsOf Tryd.f11 10) = laws_FnStyleOwn.T10 := by kernel_rfl
theorem laws_FnStyleOwn.bits10 : waitsOk laws_FnStyleOwn.T10.2 laws_FnStyleOwn.B10 = true := by kernel_rfl
set_option maxHeartbeats 8000000 in
set_option maxRecDepth 100000 in
theorem laws_FnStyleOwn.calls (k : Nat) (A0 : Option Addr) (c0 : Nat) (l0 : List (S49)) (a1 : Int) (a2_0 : Int) (a2_1 : Int) (a2_2 : Int) (a2_3 : Int) (a2_4 : Int) (a2_5 : Int) (a2_6 : Bool) (r : Bool) (hrT : Aside0 (r = true)) (w : World) (hr0 : Kd.C k49 w A0 l0.length l0) (hc0 : l0.length ≤ c0) (hV : Go.Proofs.YtifhhejohdmiaaaDoorFmt.VarsOK w) (h : laws_FnStyleOwn.f k l0 a1 a2_0 a2_1 a2_2 a2_3 a2_4 a2_5 a2_6 = some r) :
    Calls Tryd.prog 11 #[.slice A0 l0.length c0, .int .i64 a1, .agg #[.int .i32 a2_0, .int .i32 a2_1, .int .i32 a2_2, .int .u8 a2_3, .int .u8 a2_4, .int .u8 a2_5, .bool a2_6]] w fun e w' => e = .returned (.bool r) ∧ Below w.heap.size w w' := by
  have hu23 := Tryd.underlying23
  have hu49 := Tryd.underlying49
  have HR0 := Aside0.mk hr0
  have HC0 := Aside0.mk hc0
  clear hr0 hc0
  have HB := Aside0.mk (Below.refl w.heap.size w)
  have HV := Aside0.mk hV
  clear hV
  have H : ((laws_zzFits2.f k l0).bind fun t162 => (if t162 = true then ((laws_few.f k l0 ([] : List Int)).bind fun t163 => (if t163 = true then ((laws_usual.f k a2_0 a2_1 a2_2 a2_3 a2_4 a2_5 a2_6).bind fun t164 => (laws_FnStyleOwn.j0 k l0 a1 (!t164) a2_0 a2_1 a2_2 a2_3 a2_4 a2_5 a2_6)) else (laws_FnStyleOwn.j0 k l0 a1 true a2_0 a2_1 a2_2 a2_3 a2_4 a2_5 a2_6))) else (some true))) = some r := h
  clear h
  replace H := Option.bind_eq_some_iff.mp H
  obtain ⟨t162, A40, H⟩ := H
  replace H : (if t162 = true then ((laws_few.f k l0 ([] : List Int)).bind fun t163 => (if t163 = true then ((laws_usual.f k a2_0 a2_1 a2_2 a2_3 a2_4 a2_5 a2_6).bind fun t164 => (laws_FnStyleOwn.j0 k l0 a1 (!t164) a2_0 a2_1 a2_2 a2_3 a2_4 a2_5 a2_6)) else (laws_FnStyleOwn.j0 k l0 a1 true a2_0 a2_1 a2_2 a2_3 a2_4 a2_5 a2_6))) else (some true)) = some r := H
  have A4 := Aside0.mk A40
  clear A40
  by_cases c5 : t162 = true
  · subst c5
    have H1 : ((laws_few.f k l0 ([] : List Int)).bind fun t163 => (if t163 = true then ((laws_usual.f k a2_0 a2_1 a2_2 a2_3 a2_4 a2_5 a2_6).bind fun t164 => (laws_FnStyleOwn.j0 k l0 a1 (!t164) a2_0 a2_1 a2_2 a2_3 a2_4 a2_5 a2_6)) else (laws_FnStyleOwn.j0 k l0 a1 true a2_0 a2_1 a2_2 a2_3 a2_4 a2_5 a2_6))) = some r := by rw [if_pos rfl] at H; exact H
    clear H
    have H := H1
    clear H1
    have HC6 := Aside0.mk H
    clear H
    go_enter Tryd.func11, Tryd.ntmps11
    go_upto_region 3 with (first | ((with_reducible refine gate_dst (N := 5) rfl ?_); (try (refine gate_guard (by rfl) ?_; dsimp only)); refine box_event ?hg (N := 5) ?hd (cs := #[.int .i32 a2_0, .int .i32 a2_1, .int .i32 a2_2, .int .u8 a2_3, .int .u8 a2_4, .int .u8 a2_5, .bool a2_6]) (t := 23) ?hr ?_; (case hd => rfl); (case hg => rfl); (case hr => first | (go_simp; done) | (go_simp; rfl)); intro gb161 hg w7 hbox hb; have n0_ := Aside0.mk (below_step (by repeat (first | (with_reducible first | exact HB.out | apply below_alloc | apply pw_below_drewN | apply below_drew1) | exact HB.out)) hb); have n1_ := Aside0.mk (hbox); have n2_ := Aside0.mk ((by rw [hg]; exact (below_size (by repeat (first | (with_reducible first | exact HB.out | apply below_alloc | apply pw_below_drewN | apply below_drew1) | exact HB.out))) : w.heap.size ≤ gb161)); have n3_ := Aside0.mk ((by rw [hg]; exact (below_size (by repeat (first | (with_reducible first | exact HB.out | apply below_alloc | apply pw_below_drewN | apply below_drew1) | exact HB.out))) : w.heap.size ≤ gb161)); clear HB; have HB := n0_; have BK161 := n1_; have GW161 := n2_; have GE161 := n3_; clear n0_ n1_ n2_ n3_; clear hb hbox hg) | ((with_reducible refine gate_callee (f := 24) rfl ?_); refine goesL_ (some 12) rfl rfl Tryd.func24 (by kernel_rfl) rfl #[.slice A0 l0.length c0] rfl (by (try simp only [List.map_toArray, List.map_cons, List.map_nil]); first | done | rfl | (simp only [List.length_drop, List.length_take]; rfl)) ?_; (with_reducible refine (laws_zzFits2.calls k _ _ l0 true _ ?side1 ?side2 A4.out).mono ?_); (case side1 => repeat (first | exact (Kd.C_below HR0.out HB.out) | (with_reducible refine Kd.C_alloc ?_ _) | (with_reducible refine Kd.C_drewN ?_ _) | (with_reducible refine Kd.C_drew ?_))); (case side2 => exact HC0.out); rintro e w8 ⟨rfl, hb⟩; refine ⟨_, rfl, ?_⟩; have n0_ := Aside0.mk (blk_below (g := gb161) (o := .cells #[.int .i32 a2_0, .int .i32 a2_1, .int .i32 a2_2, .int .u8 a2_3, .int .u8 a2_4, .int .u8 a2_5, .bool a2_6] 23 (0, 0)) (by (with_reducible repeat (first | refine blk_drewN ?_ _ | refine blk_drew ?_ | refine blk_alloc ?_ _)); exact BK161.out) hb); have n1_ := Aside0.mk (below_step (by repeat (first | (with_reducible first | exact HB.out | apply below_alloc | apply pw_below_drewN | apply below_drew1 | refine below_set ?_ GE161.out) | exact HB.out)) hb); clear BK161; clear HB; have BK161 := n0_; have HB := n1_; clear n0_ n1_; (try clear hb); (try clear hb2); (try clear hk); (try clear hi)))
    (try simp only [Act.put, List.setIfInBounds_toArray, List.set_cons_zero, List.set_cons_succ])
    go_cut [21] (fun v21 wc => ∃ (kq : Nat) (x21_5 : Bool), v21 = .bool x21_5 ∧ Aside0 (laws_FnStyleOwn.j0 kq l0 a1 x21_5 a2_0 a2_1 a2_2 a2_3 a2_4 a2_5 a2_6 = some r) ∧ Aside0 (kq ≤ k) ∧ Aside0 (wc.heap[gb161]? = some (.cells #[.int .i32 a2_0, .int .i32 a2_1, .int .i32 a2_2, .int .u8 a2_3, .int .u8 a2_4, .int .u8 a2_5, .bool a2_6] 23 (0, 0))) ∧ Aside0 (Below w.heap.size w wc))
    case first =>
      have H := HC6.out
      clear HC6
      replace H := Option.bind_eq_some_iff.mp H
      obtain ⟨t163, A90, H⟩ := H
      replace H : (if t163 = true then ((laws_usual.f k a2_0 a2_1 a2_2 a2_3 a2_4 a2_5 a2_6).bind fun t164 => (laws_FnStyleOwn.j0 k l0 a1 (!t164) a2_0 a2_1 a2_2 a2_3 a2_4 a2_5 a2_6)) else (laws_FnStyleOwn.j0 k l0 a1 true a2_0 a2_1 a2_2 a2_3 a2_4 a2_5 a2_6)) = some r := H
      have A9 := Aside0.mk A90
      clear A90
      by_cases c10 : t163 = true
      · subst c10
        have H1 : ((laws_usual.f k a2_0 a2_1 a2_2 a2_3 a2_4 a2_5 a2_6).bind fun t164 => (laws_FnStyleOwn.j0 k l0 a1 (!t164) a2_0 a2_1 a2_2 a2_3 a2_4 a2_5 a2_6)) = some r := by rw [if_pos rfl] at H; exact H
        clear H
        have H := H1
        clear H1
        replace H := Option.bind_eq_some_iff.mp H
        obtain ⟨t164, A110, H⟩ := H
        replace H : (laws_FnStyleOwn.j0 k l0 a1 (!t164) a2_0 a2_1 a2_2 a2_3 a2_4 a2_5 a2_6) = some r := H
        have A11 := Aside0.mk A110
        clear A110
        have H' := Aside0.mk H
        clear H
        go_wp2_with (first | ((with_reducible refine gate_callee (f := 25) rfl ?_); refine goesL_ (some 15) rfl rfl Tryd.func25 (by kernel_rfl) rfl #[.slice A0 l0.length c0, .slice none 0 0] rfl (by (try simp only [List.map_toArray, List.map_cons, List.map_nil]); first | done | rfl | (simp only [List.length_drop, List.length_take]; rfl)) ?_; (refine (laws_few.calls k _ _ l0 _ _ ([] : List Int) true _ ?side1 ?side2 ?side3 ?side4 A9.out).mono ?_); (case side1 => repeat (first | exact (Kd.C_below HR0.out HB.out) | (with_reducible refine Kd.C_alloc ?_ _) | (with_reducible refine Kd.C_drewN ?_ _) | (with_reducible refine Kd.C_drew ?_))); (case side2 => exact HC0.out); (case side3 => exact Kd.C_nil _ _); (case side4 => exact Nat.le_refl _); rintro e w12 ⟨rfl, hb⟩; refine ⟨_, rfl, ?_⟩; have n0_ := Aside0.mk (blk_below (g := gb161) (o := .cells #[.int .i32 a2_0, .int .i32 a2_1, .int .i32 a2_2, .int .u8 a2_3, .int .u8 a2_4, .int .u8 a2_5, .bool a2_6] 23 (0, 0)) (by (with_reducible repeat (first | refine blk_drewN ?_ _ | refine blk_drew ?_ | refine blk_alloc ?_ _)); exact BK161.out) hb); have n1_ := Aside0.mk (below_step (by repeat (first | (with_reducible first | exact HB.out | apply below_alloc | apply pw_below_drewN | apply below_drew1 | refine below_set ?_ GE161.out) | exact HB.out)) hb); clear BK161; clear HB; have BK161 := n0_; have HB := n1_; clear n0_ n1_; (try clear hb); (try clear hb2); (try clear hk); (try clear hi); have hcz13_0 : w12.cell? ⟨gb161, 0, none⟩ = some (.int .i32 a2_0) := (blk_cell BK161.out 0).trans rfl; have hcz13_1 : w12.cell? ⟨gb161, 1, none⟩ = some (.int .i32 a2_1) := (blk_cell BK161.out 1).trans rfl; have hcz13_2 : w12.cell? ⟨gb161, 2, none⟩ = some (.int .i32 a2_2) := (blk_cell BK161.out 2).trans rfl; have hcz13_3 : w12.cell? ⟨gb161, 3, none⟩ = some (.int .u8 a2_3) := (blk_cell BK161.out 3).trans rfl; have hcz13_4 : w12.cell? ⟨gb161, 4, none⟩ = some (.int .u8 a2_4) := (blk_cell BK161.out 4).trans rfl; have hcz13_5 : w12.cell? ⟨gb161, 5, none⟩ = some (.int .u8 a2_5) := (blk_cell BK161.out 5).trans rfl; have hcz13_6 : w12.cell? ⟨gb161, 6, none⟩ = some (.bool a2_6) := (blk_cell BK161.out 6).trans rfl; have hfz13_0 := blk_frozen BK161.out 0; have hfz13_1 := blk_frozen BK161.out 1; have hfz13_2 := blk_frozen BK161.out 2; have hfz13_3 := blk_frozen BK161.out 3; have hfz13_4 := blk_frozen BK161.out 4; have hfz13_5 := blk_frozen BK161.out 5; have hfz13_6 := blk_frozen BK161.out 6) | (go_at_call 16; (with_reducible refine (laws_usual.calls k a2_0 a2_1 a2_2 a2_3 a2_4 a2_5 a2_6 t164 _ A11.out).mono ?_); rintro e w14 ⟨rfl, hb⟩; have n0_ := Aside0.mk (blk_below (g := gb161) (o := .cells #[.int .i32 a2_0, .int .i32 a2_1, .int .i32 a2_2, .int .u8 a2_3, .int .u8 a2_4, .int .u8 a2_5, .bool a2_6] 23 (0, 0)) (by (with_reducible repeat (first | refine blk_drewN ?_ _ | refine blk_drew ?_ | refine blk_alloc ?_ _)); exact BK161.out) hb); have n1_ := Aside0.mk (below_step (by repeat (first | (with_reducible first | exact HB.out | apply below_alloc | apply pw_below_drewN | apply below_drew1 | refine below_set ?_ GE161.out) | exact HB.out)) hb); clear BK161; clear HB; have BK161 := n0_; have HB := n1_; clear n0_ n1_; (try clear hb); (try clear hb2); (try clear hk); (try clear hi)))
        go_meet
        case rel => exact ⟨_, (!t164), (by first | rfl | (simp; done) | (simp [*]; done)), H', ⟨by first | omega | exact Nat.le_refl _⟩, ⟨by (with_reducible repeat (first | refine blk_drewN ?_ _ | refine blk_drew ?_ | refine blk_alloc ?_ _)); exact BK161.out⟩, ⟨by repeat (first | (with_reducible first | exact HB.out | apply below_alloc | apply pw_below_drewN | apply below_drew1 | refine below_set ?_ GE161.out) | exact HB.out)⟩⟩
      · replace c10 := Bool.eq_false_iff.mpr c10
        subst c10
        have H1 : (laws_FnStyleOwn.j0 k l0 a1 true a2_0 a2_1 a2_2 a2_3 a2_4 a2_5 a2_6) = some r := by rw [if_neg (show ¬ (false = true) by decide)] at H; exact H
        clear H
        have H := H1
        clear H1
        have H' := Aside0.mk H
        clear H
        go_wp2_with (first | ((with_reducible refine gate_callee (f := 25) rfl ?_); refine goesL_ (some 15) rfl rfl Tryd.func25 (by kernel_rfl) rfl #[.slice A0 l0.length c0, .slice none 0 0] rfl (by (try simp only [List.map_toArray, List.map_cons, List.map_nil]); first | done | rfl | (simp only [List.length_drop, List.length_take]; rfl)) ?_; (refine (laws_few.calls k _ _ l0 _ _ ([] : List Int) false _ ?side1 ?side2 ?side3 ?side4 A9.out).mono ?_); (case side1 => repeat (first | exact (Kd.C_below HR0.out HB.out) | (with_reducible refine Kd.C_alloc ?_ _) | (with_reducible refine Kd.C_drewN ?_ _) | (with_reducible refine Kd.C_drew ?_))); (case side2 => exact HC0.out); (case side3 => exact Kd.C_nil _ _); (case side4 => exact Nat.le_refl _); rintro e w15 ⟨rfl, hb⟩; refine ⟨_, rfl, ?_⟩; have n0_ := Aside0.mk (blk_below (g := gb161) (o := .cells #[.int .i32 a2_0, .int .i32 a2_1, .int .i32 a2_2, .int .u8 a2_3, .int .u8 a2_4, .int .u8 a2_5, .bool a2_6] 23 (0, 0)) (by (with_reducible repeat (first | refine blk_drewN ?_ _ | refine blk_drew ?_ | refine blk_alloc ?_ _)); exact BK161.out) hb); have n1_ := Aside0.mk (below_step (by repeat (first | (with_reducible first | exact HB.out | apply below_alloc | apply pw_below_drewN | apply below_drew1 | refine below_set ?_ GE161.out) | exact HB.out)) hb); clear BK161; clear HB; have BK161 := n0_; have HB := n1_; clear n0_ n1_; (try clear hb); (try clear hb2); (try clear hk); (try clear hi)))
        go_meet
        case rel => exact ⟨_, (true), (by first | rfl | (simp; done) | (simp [*]; done)), H', ⟨by first | omega | exact Nat.le_refl _⟩, ⟨by (with_reducible repeat (first | refine blk_drewN ?_ _ | refine blk_drew ?_ | refine blk_alloc ?_ _)); exact BK161.out⟩, ⟨by repeat (first | (with_reducible first | exact HB.out | apply below_alloc | apply pw_below_drewN | apply below_drew1 | refine below_set ?_ GE161.out) | exact HB.out)⟩⟩
    case rest =>
      clear HC6
      try clear c1
      try clear c2
      try clear p2
      try clear c5
      try clear c10
      try clear c11
      try clear hcz13_0
      try clear hcz13_1
      try clear hcz13_2
      try clear hcz13_3
      try clear hcz13_4
      try clear hcz13_5
      try clear hcz13_6
      try clear hfz13_0
      try clear hfz13_1
      try clear hfz13_2
      try clear hfz13_3
      try clear hfz13_4
      try clear hfz13_5
      try clear hfz13_6
      obtain ⟨kq, x21_5, rfl, HA, HJ5, BK161, HB⟩ := hcut
      cases kq with
      | zero => exact absurd HA.out (by simp [laws_FnStyleOwn.j0])
      | succ kj5 =>
        have H := HA.out
        clear HA
        simp only [laws_FnStyleOwn.j0] at H
        by_cases c16 : x21_5 = true
        · subst c16
          have H1 : (some true) = some r := by rw [if_pos rfl] at H; exact H
          clear H
          have H := H1
          clear H1
          obtain rfl := Option.some.inj H
          go_wp2
          go_ret
          exact ⟨by first | rfl | (simp [errW_none, errW_some] <;> rfl) | (simp [*, errW_none, errW_some] <;> rfl), by repeat (first | (with_reducible first | exact HB.out | apply below_alloc | apply pw_below_drewN | apply below_drew1 | refine below_set ?_ GE161.out) | exact HB.out)⟩
        · replace c16 := Bool.eq_false_iff.mpr c16
          subst c16
          have H1 : ((impl_StyleGet.f l0 ([] : List Int)).bind fun bt165 => (if bt165.2 = true then (if ([] : List (S49)).length + l0.length < 5864062014805 then ((some (([] : List (S49)) ++ l0 : List (S49))).bind fun y169 => ((impl_EntryString.f kj5 a2_0 a2_1 a2_2 a2_3 a2_4 a2_5 true).bind fun t172 => ((some (([(⟨a1, t172⟩ : S49)] : List (S49)) : List (S49))).bind fun y173 => (if y169.length + y173.length < 5864062014805 then ((impl_StyleGet.f (y169 ++ y173) (([a1] : List Int))).bind fun bt182 => (if bt182.2 = true then (if (bt182.1.length : Int) = 1 then (if 0 < (bt182.1.length : Int) then (if (((rd_T23 bt182.1 0).f0) == a2_0 && (((rd_T23 bt182.1 0).f1) == a2_1 && (((rd_T23 bt182.1 0).f2) == a2_2 && (((rd_T23 bt182.1 0).f3) == a2_3 && (((rd_T23 bt182.1 0).f4) == a2_4 && (((rd_T23 bt182.1 0).f5) == a2_5 && (((rd_T23 bt182.1 0).f6)))))))) = true then ((laws_styled.f).bind fun t187 => (some t187)) else (some false)) else (none)) else (some false)) else (some false))) else (none))))) else (none)) else ((laws_styled.f).bind fun t188 => (some t188)))) = some r := by rw [if_neg (show ¬ (false = true) by decide)] at H; exact H
          clear H
          have H := H1
          clear H1
          replace H := Option.bind_eq_some_iff.mp H
          obtain ⟨⟨t165, t166⟩, A170, H⟩ := H
          replace H : (if t166 = true then (if ([] : List (S49)).length + l0.length < 5864062014805 then ((some (([] : List (S49)) ++ l0 : List (S49))).bind fun y169 => ((impl_EntryString.f kj5 a2_0 a2_1 a2_2 a2_3 a2_4 a2_5 true).bind fun t172 => ((some (([(⟨a1, t172⟩ : S49)] : List (S49)) : List (S49))).bind fun y173 => (if y169.length + y173.length < 5864062014805 then ((impl_StyleGet.f (y169 ++ y173) (([a1] : List Int))).bind fun bt182 => (if bt182.2 = true then (if (bt182.1.length : Int) = 1 then (if 0 < (bt182.1.length : Int) then (if (((rd_T23 bt182.1 0).f0) == a2_0 && (((rd_T23 bt182.1 0).f1) == a2_1 && (((rd_T23 bt182.1 0).f2) == a2_2 && (((rd_T23 bt182.1 0).f3) == a2_3 && (((rd_T23 bt182.1 0).f4) == a2_4 && (((rd_T23 bt182.1 0).f5) == a2_5 && (((rd_T23 bt182.1 0).f6)))))))) = true then ((laws_styled.f).bind fun t187 => (some t187)) else (some false)) else (none)) else (some false)) else (some false))) else (none))))) else (none)) else ((laws_styled.f).bind fun t188 => (some t188))) = some r := H
          have A17 := Aside0.mk A170
          clear A170
          by_cases c18 : t166 = true
          · subst c18
            have H1 : (if ([] : List (S49)).length + l0.length < 5864062014805 then ((some (([] : List (S49)) ++ l0 : List (S49))).bind fun y169 => ((impl_EntryString.f kj5 a2_0 a2_1 a2_2 a2_3 a2_4 a2_5 true).bind fun t172 => ((some (([(⟨a1, t172⟩ : S49)] : List (S49)) : List (S49))).bind fun y173 => (if y169.length + y173.length < 5864062014805 then ((impl_StyleGet.f (y169 ++ y173) (([a1] : List Int))).bind fun bt182 => (if bt182.2 = true then (if (bt182.1.length : Int) = 1 then (if 0 < (bt182.1.length : Int) then (if (((rd_T23 bt182.1 0).f0) == a2_0 && (((rd_T23 bt182.1 0).f1) == a2_1 && (((rd_T23 bt182.1 0).f2) == a2_2 && (((rd_T23 bt182.1 0).f3) == a2_3 && (((rd_T23 bt182.1 0).f4) == a2_4 && (((rd_T23 bt182.1 0).f5) == a2_5 && (((rd_T23 bt182.1 0).f6)))))))) = true then ((laws_styled.f).bind fun t187 => (some t187)) else (some false)) else (none)) else (some false)) else (some false))) else (none))))) else (none)) = some r := by rw [if_pos rfl] at H; exact H
            clear H
            have H := H1
            clear H1
            by_cases c19 : ([] : List (S49)).length + l0.length < 5864062014805
            · rw [if_pos c19] at H
              have LMc19 := Aside0.mk c19
              clear c19
              obtain ⟨y169, hy169⟩ : ∃ y_ : List (S49), y_ = (([] : List (S49)) ++ l0) := ⟨_, rfl⟩
              replace H : ((impl_EntryString.f kj5 a2_0 a2_1 a2_2 a2_3 a2_4 a2_5 true).bind fun t172 => ((some (([(⟨a1, t172⟩ : S49)] : List (S49)) : List (S49))).bind fun y173 => (if y169.length + y173.length < 5864062014805 then ((impl_StyleGet.f (y169 ++ y173) (([a1] : List Int))).bind fun bt182 => (if bt182.2 = true then (if (bt182.1.length : Int) = 1 then (if 0 < (bt182.1.length : Int) then (if (((rd_T23 bt182.1 0).f0) == a2_0 && (((rd_T23 bt182.1 0).f1) == a2_1 && (((rd_T23 bt182.1 0).f2) == a2_2 && (((rd_T23 bt182.1 0).f3) == a2_3 && (((rd_T23 bt182.1 0).f4) == a2_4 && (((rd_T23 bt182.1 0).f5) == a2_5 && (((rd_T23 bt182.1 0).f6)))))))) = true then ((laws_styled.f).bind fun t187 => (some t187)) else (some false)) else (none)) else (some false)) else (some false))) else (none)))) = some r := by first | (rw [hy169]; with_reducible exact H) | (have H2_ := (Option.bind_some _ _).symm.trans H; rw [hy169]; with_reducible exact H2_) | (have H2_ := (Option.bind_some _ _).symm.trans H; with_reducible exact H2_) | with_reducible exact H | (rw [hy169]; exact H) | exact H
              have Ny169 := Aside0.mk hy169
              clear hy169
              replace H := Option.bind_eq_some_iff.mp H
              obtain ⟨t172, A200, H⟩ := H
              replace H : ((some (([(⟨a1, t172⟩ : S49)] : List (S49)) : List (S49))).bind fun y173 => (if y169.length + y173.length < 5864062014805 then ((impl_StyleGet.f (y169 ++ y173) (([a1] : List Int))).bind fun bt182 => (if bt182.2 = true then (if (bt182.1.length : Int) = 1 then (if 0 < (bt182.1.length : Int) then (if (((rd_T23 bt182.1 0).f0) == a2_0 && (((rd_T23 bt182.1 0).f1) == a2_1 && (((rd_T23 bt182.1 0).f2) == a2_2 && (((rd_T23 bt182.1 0).f3) == a2_3 && (((rd_T23 bt182.1 0).f4) == a2_4 && (((rd_T23 bt182.1 0).f5) == a2_5 && (((rd_T23 bt182.1 0).f6)))))))) = true then ((laws_styled.f).bind fun t187 => (some t187)) else (some false)) else (none)) else (some false)) else (some false))) else (none))) = some r := H
              have A20 := Aside0.mk A200
              clear A200
              obtain ⟨y173, hy173⟩ : ∃ y_ : List (S49), y_ = (([(⟨a1, t172⟩ : S49)] : List (S49))) := ⟨_, rfl⟩
              replace H : (if y169.length + y173.length < 5864062014805 then ((impl_StyleGet.f (y169 ++ y173) (([a1] : List Int))).bind fun bt182 => (if bt182.2 = true then (if (bt182.1.length : Int) = 1 then (if 0 < (bt182.1.length : Int) then (if (((rd_T23 bt182.1 0).f0) == a2_0 && (((rd_T23 bt182.1 0).f1) == a2_1 && (((rd_T23 bt182.1 0).f2) == a2_2 && (((rd_T23 bt182.1 0).f3) == a2_3 && (((rd_T23 bt182.1 0).f4) == a2_4 && (((rd_T23 bt182.1 0).f5) == a2_5 && (((rd_T23 bt182.1 0).f6)))))))) = true then ((laws_styled.f).bind fun t187 => (some t187)) else (some false)) else (none)) else (some false)) else (some false))) else (none)) = some r := by first | (rw [hy173]; with_reducible exact H) | (have H2_ := (Option.bind_some _ _).symm.trans H; rw [hy173]; with_reducible exact H2_) | (have H2_ := (Option.bind_some _ _).symm.trans H; with_reducible exact H2_) | with_reducible exact H | (rw [hy173]; exact H) | exact H
              have Ny173 := Aside0.mk hy173
              clear hy173
              by_cases c21 : y169.length + y173.length < 5864062014805
              · rw [if_pos c21] at H
                have LMc21 := Aside0.mk c21
                clear c21
                obtain ⟨y176, hy176⟩ : ∃ y_ : List (S49), y_ = (y169 ++ y173) := ⟨_, rfl⟩
                replace H : ((impl_StyleGet.f y176 (([a1] : List Int))).bind fun bt182 => (if bt182.2 = true then (if (bt182.1.length : Int) = 1 then (if 0 < (bt182.1.length : Int) then (if (((rd_T23 bt182.1 0).f0) == a2_0 && (((rd_T23 bt182.1 0).f1) == a2_1 && (((rd_T23 bt182.1 0).f2) == a2_2 && (((rd_T23 bt182.1 0).f3) == a2_3 && (((rd_T23 bt182.1 0).f4) == a2_4 && (((rd_T23 bt182.1 0).f5) == a2_5 && (((rd_T23 bt182.1 0).f6)))))))) = true then ((laws_styled.f).bind fun t187 => (some t187)) else (some false)) else (none)) else (some false)) else (some false))) = some r := by first | (rw [hy176]; with_reducible exact H) | (have H2_ := (Option.bind_some _ _).symm.trans H; rw [hy176]; with_reducible exact H2_) | (have H2_ := (Option.bind_some _ _).symm.trans H; with_reducible exact H2_) | with_reducible exact H | (rw [hy176]; exact H) | exact H
                have Ny176 := Aside0.mk hy176
                clear hy176
                obtain ⟨y179, hy179⟩ : ∃ y_ : List Int, y_ = (([a1] : List Int)) := ⟨_, rfl⟩
                replace H : ((impl_StyleGet.f y176 y179).bind fun bt182 => (if bt182.2 = true then (if (bt182.1.length : Int) = 1 then (if 0 < (bt182.1.length : Int) then (if (((rd_T23 bt182.1 0).f0) == a2_0 && (((rd_T23 bt182.1 0).f1) == a2_1 && (((rd_T23 bt182.1 0).f2) == a2_2 && (((rd_T23 bt182.1 0).f3) == a2_3 && (((rd_T23 bt182.1 0).f4) == a2_4 && (((rd_T23 bt182.1 0).f5) == a2_5 && (((rd_T23 bt182.1 0).f6)))))))) = true then ((laws_styled.f).bind fun t187 => (some t187)) else (some false)) else (none)) else (some false)) else (some false))) = some r := by first | (rw [hy179]; with_reducible exact H) | (have H2_ := (Option.bind_some _ _).symm.trans H; rw [hy179]; with_reducible exact H2_) | (have H2_ := (Option.bind_some _ _).symm.trans H; with_reducible exact H2_) | with_reducible exact H | (rw [hy179]; exact H) | exact H
                have Ny179 := Aside0.mk hy179
                clear hy179
                replace H := Option.bind_eq_some_iff.mp H
                obtain ⟨⟨t182, t183⟩, A220, H⟩ := H
                replace H : (if t183 = true then (if (t182.length : Int) = 1 then (if 0 < (t182.length : Int) then (if (((rd_T23 t182 0).f0) == a2_0 && (((rd_T23 t182 0).f1) == a2_1 && (((rd_T23 t182 0).f2) == a2_2 && (((rd_T23 t182 0).f3) == a2_3 && (((rd_T23 t182 0).f4) == a2_4 && (((rd_T23 t182 0).f5) == a2_5 && (((rd_T23 t182 0).f6)))))))) = true then ((laws_styled.f).bind fun t187 => (some t187)) else (some false)) else (none)) else (some false)) else (some false)) = some r := H
                have A22 := Aside0.mk A220
                clear A220
                by_cases c23 : t183 = true
                · subst c23
                  have H1 : (if (t182.length : Int) = 1 then (if 0 < (t182.length : Int) then (if (((rd_T23 t182 0).f0) == a2_0 && (((rd_T23 t182 0).f1) == a2_1 && (((rd_T23 t182 0).f2) == a2_2 && (((rd_T23 t182 0).f3) == a2_3 && (((rd_T23 t182 0).f4) == a2_4 && (((rd_T23 t182 0).f5) == a2_5 && (((rd_T23 t182 0).f6)))))))) = true then ((laws_styled.f).bind fun t187 => (some t187)) else (some false)) else (none)) else (some false)) = some r := by rw [if_pos rfl] at H; exact H
                  clear H
                  have H := H1
                  clear H1
                  by_cases c24 : (t182.length : Int) = 1
                  · rw [if_pos c24] at H
                    have c24b0 : ((t182.length : Int) == 1) = true := beq_iff_eq.mpr c24
                    have c24b1 : ((t182.length : Int) != 1) = false := bne_eq_false_iff_eq.mpr c24
                    clear c24
                    by_cases c25 : 0 < (t182.length : Int)
                    · rw [if_pos c25] at H
                      have c25b0 : decide (0 < (t182.length : Int)) = true := decide_eq_true c25
                      have c25b1 : decide (0 < t182.length) = true := decide_eq_true (by omega)
                      clear c25
                      by_cases c26 : (((rd_T23 t182 0).f0) == a2_0 && (((rd_T23 t182 0).f1) == a2_1 && (((rd_T23 t182 0).f2) == a2_2 && (((rd_T23 t182 0).f3) == a2_3 && (((rd_T23 t182 0).f4) == a2_4 && (((rd_T23 t182 0).f5) == a2_5 && (((rd_T23 t182 0).f6)))))))) = true
                      · rw [if_pos c26] at H
                        have c26b0 : (((rd_T23 t182 0).f0) == a2_0 && (((rd_T23 t182 0).f1) == a2_1 && (((rd_T23 t182 0).f2) == a2_2 && (((rd_T23 t182 0).f3) == a2_3 && (((rd_T23 t182 0).f4) == a2_4 && (((rd_T23 t182 0).f5) == a2_5 && (((rd_T23 t182 0).f6)))))))) = true := c26
                        (try (have c26b1 : decide (((rd_T23 t182 0).f0) = a2_0 && (((rd_T23 t182 0).f1) == a2_1 && (((rd_T23 t182 0).f2) == a2_2 && (((rd_T23 t182 0).f3) == a2_3 && (((rd_T23 t182 0).f4) == a2_4 && (((rd_T23 t182 0).f5) == a2_5 && (((rd_T23 t182 0).f6)))))))) = true := by simpa using c26))
                        (try (have c26b2 : (((rd_T23 t182 0).f0) == a2_0 && (((rd_T23 t182 0).f1) == a2_1 && (((rd_T23 t182 0).f2) == a2_2 && (((rd_T23 t182 0).f3) == a2_3 && (((rd_T23 t182 0).f4) == a2_4 && (((rd_T23 t182 0).f5) == a2_5 && (((rd_T23 t182 0).f6)))))))) = true := by simpa using c26))
                        clear c26
                        replace H := Option.bind_eq_some_iff.mp H
                        obtain ⟨t187, A270, H⟩ := H
                        replace H : (some t187) = some r := H
                        have A27 := Aside0.mk A270
                        clear A270
                        obtain rfl := Option.some.inj H
                        try go_wp2_with (first | ((with_reducible refine gate_callee (f := 26) rfl ?_); refine goesL_ (some 24) rfl rfl Tryd.func26 (by kernel_rfl) rfl #[.slice A0 l0.length c0, .slice none 0 0] rfl (by (try simp only [List.map_toArray, List.map_cons, List.map_nil]); first | done | rfl | (simp only [List.length_drop, List.length_take]; rfl)) ?_; (refine (impl_StyleGet.calls _ _ l0 _ _ ([] : List Int) t165 true _ ?side1 ?side2 ?side3 ?side4 ?side5 A17.out).mono ?_); (case side1 => repeat (first | exact (Kd.C_below HR0.out HB.out) | (with_reducible refine Kd.C_alloc ?_ _) | (with_reducible refine Kd.C_drewN ?_ _) | (with_reducible refine Kd.C_drew ?_))); (case side2 => exact HC0.out); (case side3 => exact Kd.C_nil _ _); (case side4 => exact Nat.le_refl _); (case side5 => exact Go.Proofs.YtifhhejohdmiaaaDoorFmt.VarsOK.below HV.out (by repeat (first | (with_reducible first | exact HB.out | apply below_alloc | apply pw_below_drewN | apply below_drew1 | refine below_set ?_ GE161.out) | exact HB.out))); rintro e w28 ⟨v167, rfl, ho0, hb⟩; refine ⟨_, rfl, ?_⟩; have n0_ := Aside0.mk (Kd.R_lower (Kd.R_newB ho0 (g := gb161) (o := .cells #[.int .i32 a2_0, .int .i32 a2_1, .int .i32 a2_2, .int .u8 a2_3, .int .u8 a2_4, .int .u8 a2_5, .bool a2_6] 23 (0, 0)) (by (with_reducible repeat (first | refine blk_drewN ?_ _ | refine blk_drew ?_ | refine blk_alloc ?_ _)); exact BK161.out)) (below_size (by repeat (first | (with_reducible first | exact HB.out | apply below_alloc | apply pw_below_drewN | apply below_drew1 | refine below_set ?_ GE161.out) | exact HB.out)))); have n1_ := Aside0.mk (blk_below (g := gb161) (o := .cells #[.int .i32 a2_0, .int .i32 a2_1, .int .i32 a2_2, .int .u8 a2_3, .int .u8 a2_4, .int .u8 a2_5, .bool a2_6] 23 (0, 0)) (by (with_reducible repeat (first | refine blk_drewN ?_ _ | refine blk_drew ?_ | refine blk_alloc ?_ _)); exact BK161.out) hb); have n2_ := Aside0.mk (below_step (by repeat (first | (with_reducible first | exact HB.out | apply below_alloc | apply pw_below_drewN | apply below_drew1 | refine below_set ?_ GE161.out) | exact HB.out)) hb); clear BK161; clear HB; have HO168 := n0_; have BK161 := n1_; have HB := n2_; clear n0_ n1_ n2_; (try clear hb); (try clear hb2); (try clear hk); (try clear hi); (try clear ho0); have hcz29_0 : w28.cell? ⟨gb161, 0, none⟩ = some (.int .i32 a2_0) := (blk_cell BK161.out 0).trans rfl; have hcz29_1 : w28.cell? ⟨gb161, 1, none⟩ = some (.int .i32 a2_1) := (blk_cell BK161.out 1).trans rfl; have hcz29_2 : w28.cell? ⟨gb161, 2, none⟩ = some (.int .i32 a2_2) := (blk_cell BK161.out 2).trans rfl; have hcz29_3 : w28.cell? ⟨gb161, 3, none⟩ = some (.int .u8 a2_3) := (blk_cell BK161.out 3).trans rfl; have hcz29_4 : w28.cell? ⟨gb161, 4, none⟩ = some (.int .u8 a2_4) := (blk_cell BK161.out 4).trans rfl; have hcz29_5 : w28.cell? ⟨gb161, 5, none⟩ = some (.int .u8 a2_5) := (blk_cell BK161.out 5).trans rfl; have hcz29_6 : w28.cell? ⟨gb161, 6, none⟩ = some (.bool a2_6) := (blk_cell BK161.out 6).trans rfl; have hfz29_0 := blk_frozen BK161.out 0; have hfz29_1 := blk_frozen BK161.out 1; have hfz29_2 := blk_frozen BK161.out 2; have hfz29_3 := blk_frozen BK161.out 3; have hfz29_4 := blk_frozen BK161.out 4; have hfz29_5 := blk_frozen BK161.out 5; have hfz29_6 := blk_frozen BK161.out 6))
                        have n0_ : Aside0 (Kd.R k23 23 (w28.setCell ⟨gb161, 6, none⟩ (.bool true)) w.heap.size (fun k_ => k_ ≠ gb161) v167 t165) := ⟨by (with_reducible repeat (first | apply Kd.R_alloc | apply Kd.R_drewN | apply Kd.R_drew)); exact Kd.R_mono (Kd.R_far (p := ⟨gb161, 6, none⟩) (Kd.R_mono HO168.out (fun k_ hk => (⟨hk, hk.2⟩ : _ ∧ k_ ≠ gb161))) (fun _ hk => hk.2) (.bool true)) (fun _ hk => hk.1.2)⟩
                        have n1_ : Aside0 ((w28.setCell ⟨gb161, 6, none⟩ (.bool true)).heap[gb161]? = some (.cells #[.int .i32 a2_0, .int .i32 a2_1, .int .i32 a2_2, .int .u8 a2_3, .int .u8 a2_4, .int .u8 a2_5, .bool true] 23 (0, 0))) := ⟨by (with_reducible repeat (first | refine blk_drewN ?_ _ | refine blk_drew ?_ | refine blk_alloc ?_ _)); refine blk_put (cs := #[.int .i32 a2_0, .int .i32 a2_1, .int .i32 a2_2, .int .u8 a2_3, .int .u8 a2_4, .int .u8 a2_5, .bool a2_6]) ?_ 6 _ rfl; (with_reducible repeat (first | refine blk_drewN ?_ _ | refine blk_drew ?_ | refine blk_alloc ?_ _)); exact BK161.out⟩
                        have n2_ : Aside0 (Below w.heap.size w (w28.setCell ⟨gb161, 6, none⟩ (.bool true))) := ⟨by repeat (first | (with_reducible first | exact HB.out | apply below_alloc | apply pw_below_drewN | apply below_drew1 | refine below_set ?_ GE161.out) | exact HB.out)⟩
                        (try clear HO168)
                        (try clear BK161)
                        (try clear HB)
                        generalize (w28.setCell ⟨gb161, 6, none⟩ (.bool true)) = w30 at n0_ n1_ n2_ ⊢
                        have HO168 := n0_
                        have BK161 := n1_
                        have HB := n2_
                        clear n0_ n1_ n2_
                        have n0_ := Aside0.mk (Kd.R_drew HO168.out)
                        have n1_ := Aside0.mk (blk_drew BK161.out)
                        have n2_ := Aside0.mk (below_drew1 HB.out)
                        clear HO168
                        clear BK161
                        clear HB
                        have HO168 := n0_
                        have BK161 := n1_
                        have HB := n2_
                        clear n0_ n1_ n2_
                        refine start_ (n := 16) (S := fun w' => w'.cell? ⟨gb161, 0, none⟩ = some (.int .i32 a2_0) ∧ w'.cell? ⟨gb161, 1, none⟩ = some (.int .i32 a2_1) ∧ w'.cell? ⟨gb161, 2, none⟩ = some (.int .i32 a2_2) ∧ w'.cell? ⟨gb161, 3, none⟩ = some (.int .u8 a2_3) ∧ w'.cell? ⟨gb161, 4, none⟩ = some (.int .u8 a2_4) ∧ w'.cell? ⟨gb161, 5, none⟩ = some (.int .u8 a2_5) ∧ w'.cell? ⟨gb161, 6, none⟩ = some (.bool true)) (ds := []) #[false, false, false, false, false, false, false, false, false, false, false, false, false, false, false, false] (by kernel_rfl) rfl rfl ⟨(blk_cell BK161.out 0).trans rfl, (blk_cell BK161.out 1).trans rfl, (blk_cell BK161.out 2).trans rfl, (blk_cell BK161.out 3).trans rfl, (blk_cell BK161.out 4).trans rfl, (blk_cell BK161.out 5).trans rfl, (blk_cell BK161.out 6).trans rfl⟩ (fun hHeld => ?_); refine with_tabW laws_FnStyleOwn.tab9 laws_FnStyleOwn.bits9 (fun HT_ HW_ => ?_)
                        generalize w30.drew = w31 at HO168 BK161 HB hHeld ⊢
                        refine pure_ (i := 0) (N := some 32) (v := ?_) (a' := ?_) #[true, false, false, false, false, false, false, false, false, false, false, false, false, false, false, false] rfl rfl (any_of HT_.out (by kernel_rfl)) (fun _ _ _ h => h) (Or.inl ⟨by rfl, ?_⟩) ?_ ?_
                        rotate_left
                        · intro w'
                          go_simp
                          first | with_reducible rfl | struct_eq
                        rotate_left
                        · simp only [Act.put, List.setIfInBounds_toArray, List.set_cons_zero, List.set_cons_succ, i64_w, i32_w]
                          rfl
                        refine pure_ (i := 2) (N := some 34) (v := ?_) (a' := ?_) #[true, false, true, false, false, false, false, false, false, false, false, false, false, false, false, false] rfl rfl (any_of HT_.out (by kernel_rfl)) (fun _ _ _ h => h) (Or.inl ⟨by rfl, ?_⟩) ?_ ?_
                        rotate_left
                        · intro w'
                          go_simp
                          first | with_reducible rfl | struct_eq
                        rotate_left
                        · simp only [Act.put, List.setIfInBounds_toArray, List.set_cons_zero, List.set_cons_succ, i64_w, i32_w]
                          rfl
                        refine pure_ (i := 8) (N := some 40) (v := ?_) (a' := ?_) #[true, false, true, false, false, false, false, false, true, false, false, false, false, false, false, false] rfl rfl (any_of HT_.out (by kernel_rfl)) (fun _ _ _ h => h) (Or.inl ⟨by rfl, ?_⟩) ?_ ?_
                        rotate_left
                        · intro w'
                          go_simp
                          first | with_reducible rfl | struct_eq
                        rotate_left
                        · simp only [Act.put, List.setIfInBounds_toArray, List.set_cons_zero, List.set_cons_succ, i64_w, i32_w]
                          rfl
                        refine take_ (i := 3) (N := some 35) (v := ?_) (a' := ?_) #[true, false, true, true, false, false, false, false, true, false, false, false, false, false, false, false] rfl rfl (take_ofW HT_.out HW_.out (by kernel_rfl)) (fun _ _ _ h => h) (Or.inl ⟨by rfl, ?_⟩) hHeld ?_ ?_
                        rotate_left
                        · rintro w' ⟨s0, s1, s2, s3, s4, s5, s6⟩
                          go_simp
                          first | with_reducible rfl | struct_eq
                        rotate_left
                        · simp only [Act.put, List.setIfInBounds_toArray, List.set_cons_zero, List.set_cons_succ, i64_w, i32_w]
                          rfl
                        refine join_ (σ := Value × Value × Value × Value) 6 #[true, true, true, true, true, true, true, true, true, true, false, false, false, false, false, false] (fun s_ => [(33, s_.1), (36, .string t172), (38, s_.2.1), (39, s_.2.2.1), (41, s_.2.2.2), (37, .agg #[.int .i64 a1, .string t172])]) (fun s_ w' => (w'.cell? ⟨gb161, 0, none⟩ = some (.int .i32 a2_0) ∧ w'.cell? ⟨gb161, 1, none⟩ = some (.int .i32 a2_1) ∧ w'.cell? ⟨gb161, 2, none⟩ = some (.int .i32 a2_2) ∧ w'.cell? ⟨gb161, 3, none⟩ = some (.int .u8 a2_3) ∧ w'.cell? ⟨gb161, 4, none⟩ = some (.int .u8 a2_4) ∧ w'.cell? ⟨gb161, 5, none⟩ = some (.int .u8 a2_5) ∧ w'.cell? ⟨gb161, 6, none⟩ = some (.bool true)) ∧ (Kd.R k23 23 w' w.heap.size (fun k_ => k_ ≠ gb161) v167 t165) ∧ (Kd.R k49 49 w' w.heap.size (fun k_ => some k_ ≠ (s_.2.2.1 : Value).ownBlock) s_.2.1 y173) ∧ (Kd.R k49 49 w' w.heap.size (fun k_ => some k_ ≠ (s_.2.1 : Value).ownBlock) s_.2.2.1 y176) ∧ (Kd.R (Kd.int .i64) 3 w' w.heap.size (fun _ => True) s_.2.2.2 y179) ∧ (w'.heap[gb161]? = some (.cells #[.int .i32 a2_0, .int .i32 a2_1, .int .i32 a2_2, .int .u8 a2_3, .int .u8 a2_4, .int .u8 a2_5, .bool true] 23 (0, 0))) ∧ (Below w.heap.size w w')) ?_ ?_
                        rotate_left
                        · intro hJ1_4_6_7_9
                          refine join_ (σ := Value × Value × Value) 7 #[true, true, true, true, true, true, true, true, true, false, false, false, false, false, false, false] (fun s_ => [(33, s_.1), (36, .string t172), (38, s_.2.1), (39, s_.2.2), (37, .agg #[.int .i64 a1, .string t172])]) (fun s_ w' => (w'.cell? ⟨gb161, 0, none⟩ = some (.int .i32 a2_0) ∧ w'.cell? ⟨gb161, 1, none⟩ = some (.int .i32 a2_1) ∧ w'.cell? ⟨gb161, 2, none⟩ = some (.int .i32 a2_2) ∧ w'.cell? ⟨gb161, 3, none⟩ = some (.int .u8 a2_3) ∧ w'.cell? ⟨gb161, 4, none⟩ = some (.int .u8 a2_4) ∧ w'.cell? ⟨gb161, 5, none⟩ = some (.int .u8 a2_5) ∧ w'.cell? ⟨gb161, 6, none⟩ = some (.bool true)) ∧ (Kd.R k23 23 w' w.heap.size (fun k_ => k_ ≠ gb161) v167 t165) ∧ (Kd.R k49 49 w' w.heap.size (fun k_ => some k_ ≠ (s_.2.2 : Value).ownBlock) s_.2.1 y173) ∧ (Kd.R k49 49 w' w.heap.size (fun k_ => some k_ ≠ (s_.2.1 : Value).ownBlock) s_.2.2 y176) ∧ (w'.heap[gb161]? = some (.cells #[.int .i32 a2_0, .int .i32 a2_1, .int .i32 a2_2, .int .u8 a2_3, .int .u8 a2_4, .int .u8 a2_5, .bool true] 23 (0, 0))) ∧ (Below w.heap.size w w')) ?_ ?_
                          rotate_left
                          · intro hJ1_4_6_7
                            refine join_ (σ := Value × Value × Value) 7 #[true, true, true, true, true, true, true, false, true, true, false, false, false, false, false, false] (fun s_ => [(33, s_.1), (36, .string t172), (38, s_.2.1), (41, s_.2.2), (37, .agg #[.int .i64 a1, .string t172])]) (fun s_ w' => (w'.cell? ⟨gb161, 0, none⟩ = some (.int .i32 a2_0) ∧ w'.cell? ⟨gb161, 1, none⟩ = some (.int .i32 a2_1) ∧ w'.cell? ⟨gb161, 2, none⟩ = some (.int .i32 a2_2) ∧ w'.cell? ⟨gb161, 3, none⟩ = some (.int .u8 a2_3) ∧ w'.cell? ⟨gb161, 4, none⟩ = some (.int .u8 a2_4) ∧ w'.cell? ⟨gb161, 5, none⟩ = some (.int .u8 a2_5) ∧ w'.cell? ⟨gb161, 6, none⟩ = some (.bool true)) ∧ (Kd.R k23 23 w' w.heap.size (fun k_ => k_ ≠ gb161) v167 t165) ∧ (Kd.R k49 49 w' w.heap.size (fun k_ => some k_ ≠ (s_.2.1 : Value).ownBlock) s_.1 y169) ∧ (Kd.R k49 49 w' w.heap.size (fun k_ => some k_ ≠ (s_.1 : Value).ownBlock) s_.2.1 y173) ∧ (Kd.R (Kd.int .i64) 3 w' w.heap.size (fun _ => True) s_.2.2 y179) ∧ (w'.heap[gb161]? = some (.cells #[.int .i32 a2_0, .int .i32 a2_1, .int .i32 a2_2, .int .u8 a2_3, .int .u8 a2_4, .int .u8 a2_5, .bool true] 23 (0, 0))) ∧ (Below w.heap.size w w')) ?_ ?_
                            rotate_left
                            · intro hJ1_4_6_9
                              refine join_ (σ := Value × Value) 8 #[true, true, true, true, true, true, true, false, true, false, false, false, false, false, false, false] (fun s_ => [(33, s_.1), (36, .string t172), (38, s_.2), (37, .agg #[.int .i64 a1, .string t172])]) (fun s_ w' => (w'.cell? ⟨gb161, 0, none⟩ = some (.int .i32 a2_0) ∧ w'.cell? ⟨gb161, 1, none⟩ = some (.int .i32 a2_1) ∧ w'.cell? ⟨gb161, 2, none⟩ = some (.int .i32 a2_2) ∧ w'.cell? ⟨gb161, 3, none⟩ = some (.int .u8 a2_3) ∧ w'.cell? ⟨gb161, 4, none⟩ = some (.int .u8 a2_4) ∧ w'.cell? ⟨gb161, 5, none⟩ = some (.int .u8 a2_5) ∧ w'.cell? ⟨gb161, 6, none⟩ = some (.bool true)) ∧ (Kd.R k23 23 w' w.heap.size (fun k_ => k_ ≠ gb161) v167 t165) ∧ (Kd.R k49 49 w' w.heap.size (fun k_ => some k_ ≠ (s_.2 : Value).ownBlock) s_.1 y169) ∧ (Kd.R k49 49 w' w.heap.size (fun k_ => some k_ ≠ (s_.1 : Value).ownBlock) s_.2 y173) ∧ (w'.heap[gb161]? = some (.cells #[.int .i32 a2_0, .int .i32 a2_1, .int .i32 a2_2, .int .u8 a2_3, .int .u8 a2_4, .int .u8 a2_5, .bool true] 23 (0, 0))) ∧ (Below w.heap.size w w')) ?_ ?_
                              rotate_left
                              · intro hJ1_4_6
                                refine join_ (σ := Value × Value) 8 #[true, true, true, true, true, true, false, false, true, true, false, false, false, false, false, false] (fun s_ => [(33, s_.1), (36, .string t172), (41, s_.2), (37, .agg #[.int .i64 a1, .string t172])]) (fun s_ w' => (w'.cell? ⟨gb161, 0, none⟩ = some (.int .i32 a2_0) ∧ w'.cell? ⟨gb161, 1, none⟩ = some (.int .i32 a2_1) ∧ w'.cell? ⟨gb161, 2, none⟩ = some (.int .i32 a2_2) ∧ w'.cell? ⟨gb161, 3, none⟩ = some (.int .u8 a2_3) ∧ w'.cell? ⟨gb161, 4, none⟩ = some (.int .u8 a2_4) ∧ w'.cell? ⟨gb161, 5, none⟩ = some (.int .u8 a2_5) ∧ w'.cell? ⟨gb161, 6, none⟩ = some (.bool true)) ∧ (Kd.R k23 23 w' w.heap.size (fun k_ => k_ ≠ gb161) v167 t165) ∧ (Kd.R k49 49 w' w.heap.size (fun _ => True) s_.1 y169) ∧ (Kd.R (Kd.int .i64) 3 w' w.heap.size (fun _ => True) s_.2 y179) ∧ (w'.heap[gb161]? = some (.cells #[.int .i32 a2_0, .int .i32 a2_1, .int .i32 a2_2, .int .u8 a2_3, .int .u8 a2_4, .int .u8 a2_5, .bool true] 23 (0, 0))) ∧ (Below w.heap.size w w')) ?_ ?_
                                rotate_left
                                · intro hJ1_4_9
                                  refine join_ (σ := Value) 9 #[true, true, true, true, true, true, false, false, true, false, false, false, false, false, false, false] (fun s_ => [(33, s_), (36, .string t172), (37, .agg #[.int .i64 a1, .string t172])]) (fun s_ w' => (w'.cell? ⟨gb161, 0, none⟩ = some (.int .i32 a2_0) ∧ w'.cell? ⟨gb161, 1, none⟩ = some (.int .i32 a2_1) ∧ w'.cell? ⟨gb161, 2, none⟩ = some (.int .i32 a2_2) ∧ w'.cell? ⟨gb161, 3, none⟩ = some (.int .u8 a2_3) ∧ w'.cell? ⟨gb161, 4, none⟩ = some (.int .u8 a2_4) ∧ w'.cell? ⟨gb161, 5, none⟩ = some (.int .u8 a2_5) ∧ w'.cell? ⟨gb161, 6, none⟩ = some (.bool true)) ∧ (Kd.R k23 23 w' w.heap.size (fun k_ => k_ ≠ gb161) v167 t165) ∧ (Kd.R k49 49 w' w.heap.size (fun _ => True) s_ y169) ∧ (w'.heap[gb161]? = some (.cells #[.int .i32 a2_0, .int .i32 a2_1, .int .i32 a2_2, .int .u8 a2_3, .int .u8 a2_4, .int .u8 a2_5, .bool true] 23 (0, 0))) ∧ (Below w.heap.size w w')) ?_ ?_
                                  rotate_left
                                  · intro hJ1_4
                                    refine join_ (σ := Value × Value) 10 #[true, true, true, true, false, false, false, false, true, true, false, false, false, false, false, false] (fun s_ => [(33, s_.1), (41, s_.2)]) (fun s_ w' => (w'.cell? ⟨gb161, 0, none⟩ = some (.int .i32 a2_0) ∧ w'.cell? ⟨gb161, 1, none⟩ = some (.int .i32 a2_1) ∧ w'.cell? ⟨gb161, 2, none⟩ = some (.int .i32 a2_2) ∧ w'.cell? ⟨gb161, 3, none⟩ = some (.int .u8 a2_3) ∧ w'.cell? ⟨gb161, 4, none⟩ = some (.int .u8 a2_4) ∧ w'.cell? ⟨gb161, 5, none⟩ = some (.int .u8 a2_5) ∧ w'.cell? ⟨gb161, 6, none⟩ = some (.bool true)) ∧ (Kd.R k23 23 w' w.heap.size (fun k_ => k_ ≠ gb161) v167 t165) ∧ (Kd.R k49 49 w' w.heap.size (fun _ => True) s_.1 y169) ∧ (Kd.R (Kd.int .i64) 3 w' w.heap.size (fun _ => True) s_.2 y179) ∧ (w'.heap[gb161]? = some (.cells #[.int .i32 a2_0, .int .i32 a2_1, .int .i32 a2_2, .int .u8 a2_3, .int .u8 a2_4, .int .u8 a2_5, .bool true] 23 (0, 0))) ∧ (Below w.heap.size w w')) ?_ ?_
                                    rotate_left
                                    · intro hJ1_9
                                      refine join_ (σ := Value) 11 #[true, true, true, true, false, false, false, false, true, false, false, false, false, false, false, false] (fun s_ => [(33, s_)]) (fun s_ w' => (w'.cell? ⟨gb161, 0, none⟩ = some (.int .i32 a2_0) ∧ w'.cell? ⟨gb161, 1, none⟩ = some (.int .i32 a2_1) ∧ w'.cell? ⟨gb161, 2, none⟩ = some (.int .i32 a2_2) ∧ w'.cell? ⟨gb161, 3, none⟩ = some (.int .u8 a2_3) ∧ w'.cell? ⟨gb161, 4, none⟩ = some (.int .u8 a2_4) ∧ w'.cell? ⟨gb161, 5, none⟩ = some (.int .u8 a2_5) ∧ w'.cell? ⟨gb161, 6, none⟩ = some (.bool true)) ∧ (Kd.R k23 23 w' w.heap.size (fun k_ => k_ ≠ gb161) v167 t165) ∧ (Kd.R k49 49 w' w.heap.size (fun _ => True) s_ y169) ∧ (w'.heap[gb161]? = some (.cells #[.int .i32 a2_0, .int .i32 a2_1, .int .i32 a2_2, .int .u8 a2_3, .int .u8 a2_4, .int .u8 a2_5, .bool true] 23 (0, 0))) ∧ (Below w.heap.size w w')) ?_ ?_
                                      rotate_left
                                      · intro hJ1
                                        refine join_ (σ := Value) 11 #[true, false, true, true, false, false, false, false, true, true, false, false, false, false, false, false] (fun s_ => [(41, s_)]) (fun s_ w' => (w'.cell? ⟨gb161, 0, none⟩ = some (.int .i32 a2_0) ∧ w'.cell? ⟨gb161, 1, none⟩ = some (.int .i32 a2_1) ∧ w'.cell? ⟨gb161, 2, none⟩ = some (.int .i32 a2_2) ∧ w'.cell? ⟨gb161, 3, none⟩ = some (.int .u8 a2_3) ∧ w'.cell? ⟨gb161, 4, none⟩ = some (.int .u8 a2_4) ∧ w'.cell? ⟨gb161, 5, none⟩ = some (.int .u8 a2_5) ∧ w'.cell? ⟨gb161, 6, none⟩ = some (.bool true)) ∧ (Kd.R k23 23 w' w.heap.size (fun k_ => k_ ≠ gb161) v167 t165) ∧ (Kd.R (Kd.int .i64) 3 w' w.heap.size (fun _ => True) s_ y179) ∧ (w'.heap[gb161]? = some (.cells #[.int .i32 a2_0, .int .i32 a2_1, .int .i32 a2_2, .int .u8 a2_3, .int .u8 a2_4, .int .u8 a2_5, .bool true] 23 (0, 0))) ∧ (Below w.heap.size w w')) ?_ ?_
                                        rotate_left
                                        · intro hJ9
                                          refine two_ (i := 1) (j := 9) (Ni := some 33) (Nj := some 41) #[true, true, true, true, false, false, false, false, true, false, false, false, false, false, false, false] #[true, false, true, true, false, false, false, false, true, true, false, false, false, false, false, false] rfl rfl rfl rfl (two_of HT_.out (by kernel_rfl)) (by decide) (by decide) (fun K hK => ?_) (fun K hK => ?_)
                                          · skip
                                            refine Kd.R_append_rows_step k49 (w0 := w) w.heap.size (by rfl) (.const (.slice none 0 0)) (.tmp 32) 44 49 (.agg #[(.int .i64 0), (.string ⟨#[]⟩)]) 24 rfl Tryd.underlying44 info49 rfl (by decide) (by omega) (.slice none 0 0) ([] : List (S49)) l0 _ _ _ (fun _ => True) (fun _ => False) rfl rfl ?aO ?aR (fun _ _ h => h) (fun _ h => h.elim) ?aF ?aB ?aS ?aL ?_
                                            (case aR => repeat (first | exact (Kd.C_below HR0.out HB.out) | (with_reducible refine Kd.C_alloc ?_ _) | (with_reducible refine Kd.C_drewN ?_ _) | (with_reducible refine Kd.C_drew ?_)))
                                            (case aB => exact (by repeat (first | (with_reducible first | exact HB.out | apply below_alloc | apply pw_below_drewN | apply below_drew1 | refine below_set ?_ GE161.out) | exact HB.out)))
                                            (case aF => exact (fun _ _ => trivial))
                                            (case aO => exact ((Kd.R_nil _ _ _ _ (fun _ => True))))
                                            (case aS => exact (below_size (by repeat (first | (with_reducible first | exact HB.out | apply below_alloc | apply pw_below_drewN | apply below_drew1 | refine below_set ?_ GE161.out) | exact HB.out))))
                                            (case aL => have := LMc19.out; omega)
                                            intro v170 w32 ho hb hg hat
                                            rw [← Ny169.out] at ho
                                            have n0_ := Aside0.mk (blk_grown (g := gb161) (o := .cells #[.int .i32 a2_0, .int .i32 a2_1, .int .i32 a2_2, .int .u8 a2_3, .int .u8 a2_4, .int .u8 a2_5, .bool true] 23 (0, 0)) (by (with_reducible repeat (first | refine blk_drewN ?_ _ | refine blk_drew ?_ | refine blk_alloc ?_ _)); exact BK161.out) hg (by simp [Value.ownBlock]))
                                            have n1_ := Aside0.mk (Kd.R_grown (by (with_reducible repeat (first | apply Kd.R_alloc | apply Kd.R_drewN | apply Kd.R_drew)); exact HO168.out) hg (fun _ _ => by simp [Value.ownBlock]))
                                            have n2_ := Aside0.mk (hb)
                                            have n3_ := Aside0.mk (ho)
                                            clear BK161
                                            clear HO168
                                            clear HB
                                            have BK161 := n0_
                                            have HO168 := n1_
                                            have HB := n2_
                                            have HO171 := n3_
                                            clear n0_ n1_ n2_ n3_
                                            clear ho hb hg hat
                                            refine hK.out _ _ ⟨(blk_cell BK161.out 0).trans rfl, (blk_cell BK161.out 1).trans rfl, (blk_cell BK161.out 2).trans rfl, (blk_cell BK161.out 3).trans rfl, (blk_cell BK161.out 4).trans rfl, (blk_cell BK161.out 5).trans rfl, (blk_cell BK161.out 6).trans rfl⟩ (fun hHeld => ?_)
                                            clear hK K
                                            refine norm_ (a' := ?_) ?_ ?_
                                            rotate_left
                                            · show Act.put _ (some 33) _ = _
                                              simp only [Act.put, List.setIfInBounds_toArray, List.set_cons_zero, List.set_cons_succ, i64_w, i32_w]
                                              rfl
                                            exact norm_ (by first | (simp only [putAll, Act.put, List.setIfInBounds_toArray, List.set_cons_zero, List.set_cons_succ]; done) | (simp only [putAll, Act.put, List.setIfInBounds_toArray, List.set_cons_zero, List.set_cons_succ]; rfl)) (hJ1 (v170) _ ⟨hHeld, (by (with_reducible repeat (first | apply Kd.R_alloc | apply Kd.R_drewN | apply Kd.R_drew)); exact HO168.out), (by (with_reducible repeat (first | apply Kd.R_alloc | apply Kd.R_drewN | apply Kd.R_drew)); exact HO171.out), (by (with_reducible repeat (first | refine blk_drewN ?_ _ | refine blk_drew ?_ | refine blk_alloc ?_ _)); exact BK161.out), (by repeat (first | (with_reducible first | exact HB.out | apply below_alloc | apply pw_below_drewN | apply below_drew1 | refine below_set ?_ GE161.out) | exact HB.out))⟩)
                                          · skip
                                            refine Kd.R_lit_step (Kd.int .i64) _ 3 ?hg (N := 41) ?hd (xs := ([a1] : List Int)) (inner := [.int .i64 a1]) (ok := fun _ => True) (okp := fun _ => True) ?hr ?hp (fun _ hk => hk) trivial (Below.refl _ _) (Nat.le_refl _) (by simp) ?_; (case hd => rfl); (case hg => first | rfl | (refine wanted_on rfl rfl rfl ?_; assumption)); (case hr => first | (go_simp; done) | (go_simp; rfl)); (case hp => exact (Reps.one (show Kd.M (Kd.int .i64) _ _ _ a1 [.int .i64 a1] from rfl) (Reps.none _ _)))
                                            intro v180 w32 ho33 hb hg_ hnew_
                                            clear hg_ hnew_
                                            (first | rw [← Ny179.out] at ho33 | (simp only [Int.reduceToNat] at ho33; rw [← Ny179.out] at ho33))
                                            have n0_ := Aside0.mk (Kd.R_below (by (with_reducible repeat (first | apply Kd.R_alloc | apply Kd.R_drewN | apply Kd.R_drew)); exact HO168.out) hb)
                                            have n1_ := Aside0.mk (Kd.R_lower ho33 (below_size (by repeat (first | (with_reducible first | exact HB.out | apply below_alloc | apply pw_below_drewN | apply below_drew1 | refine below_set ?_ GE161.out) | exact HB.out))))
                                            have n2_ := Aside0.mk (blk_below (g := gb161) (o := .cells #[.int .i32 a2_0, .int .i32 a2_1, .int .i32 a2_2, .int .u8 a2_3, .int .u8 a2_4, .int .u8 a2_5, .bool true] 23 (0, 0)) (by (with_reducible repeat (first | refine blk_drewN ?_ _ | refine blk_drew ?_ | refine blk_alloc ?_ _)); exact BK161.out) hb)
                                            have n3_ := Aside0.mk (below_step (by repeat (first | (with_reducible first | exact HB.out | apply below_alloc | apply pw_below_drewN | apply below_drew1 | refine below_set ?_ GE161.out) | exact HB.out)) hb)
                                            clear HO168
                                            clear BK161
                                            clear HB
                                            have HO168 := n0_
                                            have HO181 := n1_
                                            have BK161 := n2_
                                            have HB := n3_
                                            clear n0_ n1_ n2_ n3_
                                            clear hb ho33
                                            refine hK.out _ _ ⟨(blk_cell BK161.out 0).trans rfl, (blk_cell BK161.out 1).trans rfl, (blk_cell BK161.out 2).trans rfl, (blk_cell BK161.out 3).trans rfl, (blk_cell BK161.out 4).trans rfl, (blk_cell BK161.out 5).trans rfl, (blk_cell BK161.out 6).trans rfl⟩ (fun hHeld => ?_)
                                            clear hK K
                                            refine norm_ (a' := ?_) ?_ ?_
                                            rotate_left
                                            · show Act.put _ (some 41) _ = _
                                              simp only [Act.put, List.setIfInBounds_toArray, List.set_cons_zero, List.set_cons_succ, i64_w, i32_w]
                                              rfl
                                            exact norm_ (by first | (simp only [putAll, Act.put, List.setIfInBounds_toArray, List.set_cons_zero, List.set_cons_succ]; done) | (simp only [putAll, Act.put, List.setIfInBounds_toArray, List.set_cons_zero, List.set_cons_succ]; rfl)) (hJ9 (v180) _ ⟨hHeld, (by (with_reducible repeat (first | apply Kd.R_alloc | apply Kd.R_drewN | apply Kd.R_drew)); exact HO168.out), (by (with_reducible repeat (first | apply Kd.R_alloc | apply Kd.R_drewN | apply Kd.R_drew)); exact HO181.out), (by (with_reducible repeat (first | refine blk_drewN ?_ _ | refine blk_drew ?_ | refine blk_alloc ?_ _)); exact BK161.out), (by repeat (first | (with_reducible first | exact HB.out | apply below_alloc | apply pw_below_drewN | apply below_drew1 | refine below_set ?_ GE161.out) | exact HB.out))⟩)
                                        · skip
                                          rintro v180 w34 ⟨hS_, h0_, h1_, h2_, h3_⟩
                                          have n0_ : Aside0 (Kd.R k23 23 w34 w.heap.size (fun k_ => k_ ≠ gb161) v167 t165) := ⟨h0_⟩
                                          have n1_ : Aside0 (Kd.R (Kd.int .i64) 3 w34 w.heap.size (fun _ => True) v180 y179) := ⟨h1_⟩
                                          have n2_ : Aside0 (w34.heap[gb161]? = some (.cells #[.int .i32 a2_0, .int .i32 a2_1, .int .i32 a2_2, .int .u8 a2_3, .int .u8 a2_4, .int .u8 a2_5, .bool true] 23 (0, 0))) := ⟨h2_⟩
                                          have n3_ : Aside0 (Below w.heap.size w w34) := ⟨h3_⟩
                                          clear HO168
                                          clear BK161
                                          clear HB
                                          clear h0_ h1_ h2_ h3_
                                          have HO168 := n0_
                                          have HO181 := n1_
                                          have BK161 := n2_
                                          have HB := n3_
                                          clear n0_ n1_ n2_ n3_
                                          have hHeld : w34.cell? ⟨gb161, 0, none⟩ = some (.int .i32 a2_0) ∧ w34.cell? ⟨gb161, 1, none⟩ = some (.int .i32 a2_1) ∧ w34.cell? ⟨gb161, 2, none⟩ = some (.int .i32 a2_2) ∧ w34.cell? ⟨gb161, 3, none⟩ = some (.int .u8 a2_3) ∧ w34.cell? ⟨gb161, 4, none⟩ = some (.int .u8 a2_4) ∧ w34.cell? ⟨gb161, 5, none⟩ = some (.int .u8 a2_5) ∧ w34.cell? ⟨gb161, 6, none⟩ = some (.bool true) := hS_
                                          refine norm_ (a' := ?_) ?_ ?_
                                          rotate_left
                                          · simp only [putAll, Act.put, List.setIfInBounds_toArray, List.set_cons_zero, List.set_cons_succ]
                                            rfl
                                          refine one_ (i := 1) (N := some 33) #[true, true, true, true, false, false, false, false, true, true, false, false, false, false, false, false] rfl rfl (one_of HT_.out (by kernel_rfl)) (by decide) (fun K hK => ?_)
                                          refine Kd.R_append_rows_step k49 (w0 := w) w.heap.size (by rfl) (.const (.slice none 0 0)) (.tmp 32) 44 49 (.agg #[(.int .i64 0), (.string ⟨#[]⟩)]) 24 rfl Tryd.underlying44 info49 rfl (by decide) (by omega) (.slice none 0 0) ([] : List (S49)) l0 _ _ _ (fun _ => True) (fun _ => False) rfl rfl ?aO ?aR (fun _ _ h => h) (fun _ h => h.elim) ?aF ?aB ?aS ?aL ?_
                                          (case aR => repeat (first | exact (Kd.C_below HR0.out HB.out) | (with_reducible refine Kd.C_alloc ?_ _) | (with_reducible refine Kd.C_drewN ?_ _) | (with_reducible refine Kd.C_drew ?_)))
                                          (case aB => exact (by repeat (first | (with_reducible first | exact HB.out | apply below_alloc | apply pw_below_drewN | apply below_drew1 | refine below_set ?_ GE161.out) | exact HB.out)))
                                          (case aF => exact (fun _ _ => trivial))
                                          (case aO => exact ((Kd.R_nil _ _ _ _ (fun _ => True))))
                                          (case aS => exact (below_size (by repeat (first | (with_reducible first | exact HB.out | apply below_alloc | apply pw_below_drewN | apply below_drew1 | refine below_set ?_ GE161.out) | exact HB.out))))
                                          (case aL => have := LMc19.out; omega)
                                          intro v170 w35 ho hb hg hat
                                          rw [← Ny169.out] at ho
                                          have n0_ := Aside0.mk (blk_grown (g := gb161) (o := .cells #[.int .i32 a2_0, .int .i32 a2_1, .int .i32 a2_2, .int .u8 a2_3, .int .u8 a2_4, .int .u8 a2_5, .bool true] 23 (0, 0)) (by (with_reducible repeat (first | refine blk_drewN ?_ _ | refine blk_drew ?_ | refine blk_alloc ?_ _)); exact BK161.out) hg (by simp [Value.ownBlock]))
                                          have n1_ := Aside0.mk (Kd.R_grown (by (with_reducible repeat (first | apply Kd.R_alloc | apply Kd.R_drewN | apply Kd.R_drew)); exact HO168.out) hg (fun _ _ => by simp [Value.ownBlock]))
                                          have n2_ := Aside0.mk (Kd.R_grown (by (with_reducible repeat (first | apply Kd.R_alloc | apply Kd.R_drewN | apply Kd.R_drew)); exact HO181.out) hg (fun _ _ => by simp [Value.ownBlock]))
                                          have n3_ := Aside0.mk (hb)
                                          have n4_ := Aside0.mk (ho)
                                          clear BK161
                                          clear HO168
                                          clear HO181
                                          clear HB
                                          have BK161 := n0_
                                          have HO168 := n1_
                                          have HO181 := n2_
                                          have HB := n3_
                                          have HO171 := n4_
                                          clear n0_ n1_ n2_ n3_ n4_
                                          clear ho hb hg hat
                                          refine hK.out _ _ ⟨(blk_cell BK161.out 0).trans rfl, (blk_cell BK161.out 1).trans rfl, (blk_cell BK161.out 2).trans rfl, (blk_cell BK161.out 3).trans rfl, (blk_cell BK161.out 4).trans rfl, (blk_cell BK161.out 5).trans rfl, (blk_cell BK161.out 6).trans rfl⟩ (fun hHeld => ?_)
                                          clear hK K
                                          refine norm_ (a' := ?_) ?_ ?_
                                          rotate_left
                                          · show Act.put _ (some 33) _ = _
                                            simp only [Act.put, List.setIfInBounds_toArray, List.set_cons_zero, List.set_cons_succ, i64_w, i32_w]
                                            rfl
                                          exact norm_ (by first | (simp only [putAll, Act.put, List.setIfInBounds_toArray, List.set_cons_zero, List.set_cons_succ]; done) | (simp only [putAll, Act.put, List.setIfInBounds_toArray, List.set_cons_zero, List.set_cons_succ]; rfl)) (hJ1_9 (v170, v180) _ ⟨hHeld, (by (with_reducible repeat (first | apply Kd.R_alloc | apply Kd.R_drewN | apply Kd.R_drew)); exact HO168.out), (by (with_reducible repeat (first | apply Kd.R_alloc | apply Kd.R_drewN | apply Kd.R_drew)); exact HO171.out), (by (with_reducible repeat (first | apply Kd.R_alloc | apply Kd.R_drewN | apply Kd.R_drew)); exact HO181.out), (by (with_reducible repeat (first | refine blk_drewN ?_ _ | refine blk_drew ?_ | refine blk_alloc ?_ _)); exact BK161.out), (by repeat (first | (with_reducible first | exact HB.out | apply below_alloc | apply pw_below_drewN | apply below_drew1 | refine below_set ?_ GE161.out) | exact HB.out))⟩)
                                      · skip
                                        rintro v170 w33 ⟨hS_, h0_, h1_, h2_, h3_⟩
                                        have n0_ : Aside0 (Kd.R k23 23 w33 w.heap.size (fun k_ => k_ ≠ gb161) v167 t165) := ⟨h0_⟩
                                        have n1_ : Aside0 (Kd.R k49 49 w33 w.heap.size (fun _ => True) v170 y169) := ⟨h1_⟩
                                        have n2_ : Aside0 (w33.heap[gb161]? = some (.cells #[.int .i32 a2_0, .int .i32 a2_1, .int .i32 a2_2, .int .u8 a2_3, .int .u8 a2_4, .int .u8 a2_5, .bool true] 23 (0, 0))) := ⟨h2_⟩
                                        have n3_ : Aside0 (Below w.heap.size w w33) := ⟨h3_⟩
                                        clear HO168
                                        clear BK161
                                        clear HB
                                        clear h0_ h1_ h2_ h3_
                                        have HO168 := n0_
                                        have HO171 := n1_
                                        have BK161 := n2_
                                        have HB := n3_
                                        clear n0_ n1_ n2_ n3_
                                        have hHeld : w33.cell? ⟨gb161, 0, none⟩ = some (.int .i32 a2_0) ∧ w33.cell? ⟨gb161, 1, none⟩ = some (.int .i32 a2_1) ∧ w33.cell? ⟨gb161, 2, none⟩ = some (.int .i32 a2_2) ∧ w33.cell? ⟨gb161, 3, none⟩ = some (.int .u8 a2_3) ∧ w33.cell? ⟨gb161, 4, none⟩ = some (.int .u8 a2_4) ∧ w33.cell? ⟨gb161, 5, none⟩ = some (.int .u8 a2_5) ∧ w33.cell? ⟨gb161, 6, none⟩ = some (.bool true) := hS_
                                        refine norm_ (a' := ?_) ?_ ?_
                                        rotate_left
                                        · simp only [putAll, Act.put, List.setIfInBounds_toArray, List.set_cons_zero, List.set_cons_succ]
                                          rfl
                                        refine two_ (i := 4) (j := 9) (Ni := some 36) (Nj := some 41) #[true, true, true, true, true, false, false, false, true, false, false, false, false, false, false, false] #[true, true, true, true, false, false, false, false, true, true, false, false, false, false, false, false] rfl rfl rfl rfl (two_of HT_.out (by kernel_rfl)) (by decide) (by decide) (fun K hK => ?_) (fun K hK => ?_)
                                        · skip
                                          refine goes_ Tryd.func23 (by kernel_rfl) rfl #[.agg #[.int .i32 a2_0, .int .i32 a2_1, .int .i32 a2_2, .int .u8 a2_3, .int .u8 a2_4, .int .u8 a2_5, .bool true]] (by first | rfl | (refine wanted_on rfl rfl rfl ?_; assumption)) rfl rfl (by (try simp only [List.map_toArray, List.map_cons, List.map_nil]); first | done | rfl | (simp only [List.length_drop, List.length_take]; rfl)) ?_
                                          with_reducible refine (impl_EntryString.calls kj5 a2_0 a2_1 a2_2 a2_3 a2_4 a2_5 true t172 _ ?side1 A20.out).mono ?_
                                          (case side1 => exact Go.Proofs.YtifhhejohdmiaaaDoorFmt.VarsOK.below HV.out (by repeat (first | (with_reducible first | exact HB.out | apply below_alloc | apply pw_below_drewN | apply below_drew1 | refine below_set ?_ GE161.out) | exact HB.out)))
                                          rintro e w34 ⟨rfl, hb⟩
                                          refine ⟨_, rfl, ?_⟩
                                          have n0_ := Aside0.mk (Kd.R_below (by (with_reducible repeat (first | apply Kd.R_alloc | apply Kd.R_drewN | apply Kd.R_drew)); exact HO168.out) hb)
                                          have n1_ := Aside0.mk (Kd.R_below (by (with_reducible repeat (first | apply Kd.R_alloc | apply Kd.R_drewN | apply Kd.R_drew)); exact HO171.out) hb)
                                          have n2_ := Aside0.mk (blk_below (g := gb161) (o := .cells #[.int .i32 a2_0, .int .i32 a2_1, .int .i32 a2_2, .int .u8 a2_3, .int .u8 a2_4, .int .u8 a2_5, .bool true] 23 (0, 0)) (by (with_reducible repeat (first | refine blk_drewN ?_ _ | refine blk_drew ?_ | refine blk_alloc ?_ _)); exact BK161.out) hb)
                                          have n3_ := Aside0.mk (below_step (by repeat (first | (with_reducible first | exact HB.out | apply below_alloc | apply pw_below_drewN | apply below_drew1 | refine below_set ?_ GE161.out) | exact HB.out)) hb)
                                          clear HO168
                                          clear HO171
                                          clear BK161
                                          clear HB
                                          have HO168 := n0_
                                          have HO171 := n1_
                                          have BK161 := n2_
                                          have HB := n3_
                                          clear n0_ n1_ n2_ n3_
                                          (try clear hb)
                                          (try clear hb2)
                                          (try clear hk)
                                          (try clear hi)
                                          refine hK.out _ _ ⟨(blk_cell BK161.out 0).trans rfl, (blk_cell BK161.out 1).trans rfl, (blk_cell BK161.out 2).trans rfl, (blk_cell BK161.out 3).trans rfl, (blk_cell BK161.out 4).trans rfl, (blk_cell BK161.out 5).trans rfl, (blk_cell BK161.out 6).trans rfl⟩ (fun hHeld => ?_)
                                          clear hK K
                                          refine norm_ (a' := ?_) ?_ ?_
                                          rotate_left
                                          · show Act.put _ (some 36) _ = _
                                            simp only [Act.put, List.setIfInBounds_toArray, List.set_cons_zero, List.set_cons_succ, i64_w, i32_w]
                                            rfl
                                          refine pure_ (i := 5) (N := some 37) (v := ?_) (a' := ?_) #[true, true, true, true, true, true, false, false, true, false, false, false, false, false, false, false] rfl rfl (any_of HT_.out (by kernel_rfl)) (fun _ _ _ h => h) (Or.inl ⟨by rfl, ?_⟩) ?_ ?_
                                          rotate_left
                                          · intro w'
                                            go_simp
                                            first | with_reducible rfl | struct_eq
                                          rotate_left
                                          · simp only [Act.put, List.setIfInBounds_toArray, List.set_cons_zero, List.set_cons_succ, i64_w, i32_w]
                                            rfl
                                          exact norm_ (by first | (simp only [putAll, Act.put, List.setIfInBounds_toArray, List.set_cons_zero, List.set_cons_succ]; done) | (simp only [putAll, Act.put, List.setIfInBounds_toArray, List.set_cons_zero, List.set_cons_succ]; rfl)) (hJ1_4 (v170) _ ⟨hHeld, (by (with_reducible repeat (first | apply Kd.R_alloc | apply Kd.R_drewN | apply Kd.R_drew)); exact HO168.out), (by (with_reducible repeat (first | apply Kd.R_alloc | apply Kd.R_drewN | apply Kd.R_drew)); exact HO171.out), (by (with_reducible repeat (first | refine blk_drewN ?_ _ | refine blk_drew ?_ | refine blk_alloc ?_ _)); exact BK161.out), (by repeat (first | (with_reducible first | exact HB.out | apply below_alloc | apply pw_below_drewN | apply below_drew1 | refine below_set ?_ GE161.out) | exact HB.out))⟩)
                                        · skip
                                          refine Kd.R_lit_step (Kd.int .i64) _ 3 ?hg (N := 41) ?hd (xs := ([a1] : List Int)) (inner := [.int .i64 a1]) (ok := fun _ => True) (okp := fun _ => True) ?hr ?hp (fun _ hk => hk) trivial (Below.refl _ _) (Nat.le_refl _) (by simp) ?_; (case hd => rfl); (case hg => first | rfl | (refine wanted_on rfl rfl rfl ?_; assumption)); (case hr => first | (go_simp; done) | (go_simp; rfl)); (case hp => exact (Reps.one (show Kd.M (Kd.int .i64) _ _ _ a1 [.int .i64 a1] from rfl) (Reps.none _ _)))
                                          intro v180 w34 ho35 hb hg_ hnew_
                                          clear hg_ hnew_
                                          (first | rw [← Ny179.out] at ho35 | (simp only [Int.reduceToNat] at ho35; rw [← Ny179.out] at ho35))
                                          have n0_ := Aside0.mk (Kd.R_below (by (with_reducible repeat (first | apply Kd.R_alloc | apply Kd.R_drewN | apply Kd.R_drew)); exact HO168.out) hb)
                                          have n1_ := Aside0.mk (Kd.R_below (by (with_reducible repeat (first | apply Kd.R_alloc | apply Kd.R_drewN | apply Kd.R_drew)); exact HO171.out) hb)
                                          have n2_ := Aside0.mk (Kd.R_lower ho35 (below_size (by repeat (first | (with_reducible first | exact HB.out | apply below_alloc | apply pw_below_drewN | apply below_drew1 | refine below_set ?_ GE161.out) | exact HB.out))))
                                          have n3_ := Aside0.mk (blk_below (g := gb161) (o := .cells #[.int .i32 a2_0, .int .i32 a2_1, .int .i32 a2_2, .int .u8 a2_3, .int .u8 a2_4, .int .u8 a2_5, .bool true] 23 (0, 0)) (by (with_reducible repeat (first | refine blk_drewN ?_ _ | refine blk_drew ?_ | refine blk_alloc ?_ _)); exact BK161.out) hb)
                                          have n4_ := Aside0.mk (below_step (by repeat (first | (with_reducible first | exact HB.out | apply below_alloc | apply pw_below_drewN | apply below_drew1 | refine below_set ?_ GE161.out) | exact HB.out)) hb)
                                          clear HO168
                                          clear HO171
                                          clear BK161
                                          clear HB
                                          have HO168 := n0_
                                          have HO171 := n1_
                                          have HO181 := n2_
                                          have BK161 := n3_
                                          have HB := n4_
                                          clear n0_ n1_ n2_ n3_ n4_
                                          clear hb ho35
                                          refine hK.out _ _ ⟨(blk_cell BK161.out 0).trans rfl, (blk_cell BK161.out 1).trans rfl, (blk_cell BK161.out 2).trans rfl, (blk_cell BK161.out 3).trans rfl, (blk_cell BK161.out 4).trans rfl, (blk_cell BK161.out 5).trans rfl, (blk_cell BK161.out 6).trans rfl⟩ (fun hHeld => ?_)
                                          clear hK K
                                          refine norm_ (a' := ?_) ?_ ?_
                                          rotate_left
                                          · show Act.put _ (some 41) _ = _
                                            simp only [Act.put, List.setIfInBounds_toArray, List.set_cons_zero, List.set_cons_succ, i64_w, i32_w]
                                            rfl
                                          exact norm_ (by first | (simp only [putAll, Act.put, List.setIfInBounds_toArray, List.set_cons_zero, List.set_cons_succ]; done) | (simp only [putAll, Act.put, List.setIfInBounds_toArray, List.set_cons_zero, List.set_cons_succ]; rfl)) (hJ1_9 (v170, v180) _ ⟨hHeld, (by (with_reducible repeat (first | apply Kd.R_alloc | apply Kd.R_drewN | apply Kd.R_drew)); exact HO168.out), (by (with_reducible repeat (first | apply Kd.R_alloc | apply Kd.R_drewN | apply Kd.R_drew)); exact HO171.out), (by (with_reducible repeat (first | apply Kd.R_alloc | apply Kd.R_drewN | apply Kd.R_drew)); exact HO181.out), (by (with_reducible repeat (first | refine blk_drewN ?_ _ | refine blk_drew ?_ | refine blk_alloc ?_ _)); exact BK161.out), (by repeat (first | (with_reducible first | exact HB.out | apply below_alloc | apply pw_below_drewN | apply below_drew1 | refine below_set ?_ GE161.out) | exact HB.out))⟩)
                                    · skip
                                      rintro ⟨v170, v180⟩ w35 ⟨hS_, h0_, h1_, h2_, h3_, h4_⟩
                                      have n0_ : Aside0 (Kd.R k23 23 w35 w.heap.size (fun k_ => k_ ≠ gb161) v167 t165) := ⟨h0_⟩
                                      have n1_ : Aside0 (Kd.R k49 49 w35 w.heap.size (fun _ => True) v170 y169) := ⟨h1_⟩
                                      have n2_ : Aside0 (Kd.R (Kd.int .i64) 3 w35 w.heap.size (fun _ => True) v180 y179) := ⟨h2_⟩
                                      have n3_ : Aside0 (w35.heap[gb161]? = some (.cells #[.int .i32 a2_0, .int .i32 a2_1, .int .i32 a2_2, .int .u8 a2_3, .int .u8 a2_4, .int .u8 a2_5, .bool true] 23 (0, 0))) := ⟨h3_⟩
                                      have n4_ : Aside0 (Below w.heap.size w w35) := ⟨h4_⟩
                                      clear HO168
                                      clear BK161
                                      clear HB
                                      clear h0_ h1_ h2_ h3_ h4_
                                      have HO168 := n0_
                                      have HO171 := n1_
                                      have HO181 := n2_
                                      have BK161 := n3_
                                      have HB := n4_
                                      clear n0_ n1_ n2_ n3_ n4_
                                      have hHeld : w35.cell? ⟨gb161, 0, none⟩ = some (.int .i32 a2_0) ∧ w35.cell? ⟨gb161, 1, none⟩ = some (.int .i32 a2_1) ∧ w35.cell? ⟨gb161, 2, none⟩ = some (.int .i32 a2_2) ∧ w35.cell? ⟨gb161, 3, none⟩ = some (.int .u8 a2_3) ∧ w35.cell? ⟨gb161, 4, none⟩ = some (.int .u8 a2_4) ∧ w35.cell? ⟨gb161, 5, none⟩ = some (.int .u8 a2_5) ∧ w35.cell? ⟨gb161, 6, none⟩ = some (.bool true) := hS_
                                      refine norm_ (a' := ?_) ?_ ?_
                                      rotate_left
                                      · simp only [putAll, Act.put, List.setIfInBounds_toArray, List.set_cons_zero, List.set_cons_succ]
                                        rfl
                                      refine one_ (i := 4) (N := some 36) #[true, true, true, true, true, false, false, false, true, true, false, false, false, false, false, false] rfl rfl (one_of HT_.out (by kernel_rfl)) (by decide) (fun K hK => ?_)
                                      refine goes_ Tryd.func23 (by kernel_rfl) rfl #[.agg #[.int .i32 a2_0, .int .i32 a2_1, .int .i32 a2_2, .int .u8 a2_3, .int .u8 a2_4, .int .u8 a2_5, .bool true]] (by first | rfl | (refine wanted_on rfl rfl rfl ?_; assumption)) rfl rfl (by (try simp only [List.map_toArray, List.map_cons, List.map_nil]); first | done | rfl | (simp only [List.length_drop, List.length_take]; rfl)) ?_
                                      with_reducible refine (impl_EntryString.calls kj5 a2_0 a2_1 a2_2 a2_3 a2_4 a2_5 true t172 _ ?side1 A20.out).mono ?_
                                      (case side1 => exact Go.Proofs.YtifhhejohdmiaaaDoorFmt.VarsOK.below HV.out (by repeat (first | (with_reducible first | exact HB.out | apply below_alloc | apply pw_below_drewN | apply below_drew1 | refine below_set ?_ GE161.out) | exact HB.out)))
                                      rintro e w36 ⟨rfl, hb⟩
                                      refine ⟨_, rfl, ?_⟩
                                      have n0_ := Aside0.mk (Kd.R_below (by (with_reducible repeat (first | apply Kd.R_alloc | apply Kd.R_drewN | apply Kd.R_drew)); exact HO168.out) hb)
                                      have n1_ := Aside0.mk (Kd.R_below (by (with_reducible repeat (first | apply Kd.R_alloc | apply Kd.R_drewN | apply Kd.R_drew)); exact HO171.out) hb)
                                      have n2_ := Aside0.mk (Kd.R_below (by (with_reducible repeat (first | apply Kd.R_alloc | apply Kd.R_drewN | apply Kd.R_drew)); exact HO181.out) hb)
                                      have n3_ := Aside0.mk (blk_below (g := gb161) (o := .cells #[.int .i32 a2_0, .int .i32 a2_1, .int .i32 a2_2, .int .u8 a2_3, .int .u8 a2_4, .int .u8 a2_5, .bool true] 23 (0, 0)) (by (with_reducible repeat (first | refine blk_drewN ?_ _ | refine blk_drew ?_ | refine blk_alloc ?_ _)); exact BK161.out) hb)
                                      have n4_ := Aside0.mk (below_step (by repeat (first | (with_reducible first | exact HB.out | apply below_alloc | apply pw_below_drewN | apply below_drew1 | refine below_set ?_ GE161.out) | exact HB.out)) hb)
                                      clear HO168
                                      clear HO171
                                      clear HO181
                                      clear BK161
                                      clear HB
                                      have HO168 := n0_
                                      have HO171 := n1_
                                      have HO181 := n2_
                                      have BK161 := n3_
                                      have HB := n4_
                                      clear n0_ n1_ n2_ n3_ n4_
                                      (try clear hb)
                                      (try clear hb2)
                                      (try clear hk)
                                      (try clear hi)
                                      refine hK.out _ _ ⟨(blk_cell BK161.out 0).trans rfl, (blk_cell BK161.out 1).trans rfl, (blk_cell BK161.out 2).trans rfl, (blk_cell BK161.out 3).trans rfl, (blk_cell BK161.out 4).trans rfl, (blk_cell BK161.out 5).trans rfl, (blk_cell BK161.out 6).trans rfl⟩ (fun hHeld => ?_)
                                      clear hK K
                                      refine norm_ (a' := ?_) ?_ ?_
                                      rotate_left
                                      · show Act.put _ (some 36) _ = _
                                        simp only [Act.put, List.setIfInBounds_toArray, List.set_cons_zero, List.set_cons_succ, i64_w, i32_w]
                                        rfl
                                      refine pure_ (i := 5) (N := some 37) (v := ?_) (a' := ?_) #[true, true, true, true, true, true, false, false, true, true, false, false, false, false, false, false] rfl rfl (any_of HT_.out (by kernel_rfl)) (fun _ _ _ h => h) (Or.inl ⟨by rfl, ?_⟩) ?_ ?_
                                      rotate_left
                                      · intro w'
                                        go_simp
                                        first | with_reducible rfl | struct_eq
                                      rotate_left
                                      · simp only [Act.put, List.setIfInBounds_toArray, List.set_cons_zero, List.set_cons_succ, i64_w, i32_w]
                                        rfl
                                      exact norm_ (by first | (simp only [putAll, Act.put, List.setIfInBounds_toArray, List.set_cons_zero, List.set_cons_succ]; done) | (simp only [putAll, Act.put, List.setIfInBounds_toArray, List.set_cons_zero, List.set_cons_succ]; rfl)) (hJ1_4_9 (v170, v180) _ ⟨hHeld, (by (with_reducible repeat (first | apply Kd.R_alloc | apply Kd.R_drewN | apply Kd.R_drew)); exact HO168.out), (by (with_reducible repeat (first | apply Kd.R_alloc | apply Kd.R_drewN | apply Kd.R_drew)); exact HO171.out), (by (with_reducible repeat (first | apply Kd.R_alloc | apply Kd.R_drewN | apply Kd.R_drew)); exact HO181.out), (by (with_reducible repeat (first | refine blk_drewN ?_ _ | refine blk_drew ?_ | refine blk_alloc ?_ _)); exact BK161.out), (by repeat (first | (with_reducible first | exact HB.out | apply below_alloc | apply pw_below_drewN | apply below_drew1 | refine below_set ?_ GE161.out) | exact HB.out))⟩)
                                  · skip
                                    rintro v170 w34 ⟨hS_, h0_, h1_, h2_, h3_⟩
                                    have n0_ : Aside0 (Kd.R k23 23 w34 w.heap.size (fun k_ => k_ ≠ gb161) v167 t165) := ⟨h0_⟩
                                    have n1_ : Aside0 (Kd.R k49 49 w34 w.heap.size (fun _ => True) v170 y169) := ⟨h1_⟩
                                    have n2_ : Aside0 (w34.heap[gb161]? = some (.cells #[.int .i32 a2_0, .int .i32 a2_1, .int .i32 a2_2, .int .u8 a2_3, .int .u8 a2_4, .int .u8 a2_5, .bool true] 23 (0, 0))) := ⟨h2_⟩
                                    have n3_ : Aside0 (Below w.heap.size w w34) := ⟨h3_⟩
                                    clear HO168
                                    clear BK161
                                    clear HB
                                    clear h0_ h1_ h2_ h3_
                                    have HO168 := n0_
                                    have HO171 := n1_
                                    have BK161 := n2_
                                    have HB := n3_
                                    clear n0_ n1_ n2_ n3_
                                    have hHeld : w34.cell? ⟨gb161, 0, none⟩ = some (.int .i32 a2_0) ∧ w34.cell? ⟨gb161, 1, none⟩ = some (.int .i32 a2_1) ∧ w34.cell? ⟨gb161, 2, none⟩ = some (.int .i32 a2_2) ∧ w34.cell? ⟨gb161, 3, none⟩ = some (.int .u8 a2_3) ∧ w34.cell? ⟨gb161, 4, none⟩ = some (.int .u8 a2_4) ∧ w34.cell? ⟨gb161, 5, none⟩ = some (.int .u8 a2_5) ∧ w34.cell? ⟨gb161, 6, none⟩ = some (.bool true) := hS_
                                    refine norm_ (a' := ?_) ?_ ?_
                                    rotate_left
                                    · simp only [putAll, Act.put, List.setIfInBounds_toArray, List.set_cons_zero, List.set_cons_succ]
                                      rfl
                                    refine two_ (i := 6) (j := 9) (Ni := some 38) (Nj := some 41) #[true, true, true, true, true, true, true, false, true, false, false, false, false, false, false, false] #[true, true, true, true, true, true, false, false, true, true, false, false, false, false, false, false] rfl rfl rfl rfl (two_of HT_.out (by kernel_rfl)) (by decide) (by decide) (fun K hK => ?_) (fun K hK => ?_)
                                    · skip
                                      refine Kd.R_lit_step k49 _ 49 ?hg (N := 38) ?hd (xs := ([(⟨a1, t172⟩ : S49)] : List (S49))) (inner := [.int .i64 a1, .string t172]) (ok := fun _ => True) (okp := fun _ => True) ?hr ?hp (fun _ hk => hk) trivial (Below.refl _ _) (Nat.le_refl _) (by simp) ?_; (case hd => rfl); (case hg => first | rfl | (refine wanted_on rfl rfl rfl ?_; assumption)); (case hr => first | (go_simp; done) | (go_simp; rfl)); (case hp => exact (Reps.c2 (show Kd.M k49 _ _ _ (⟨a1, t172⟩ : S49) [.int .i64 a1, .string t172] from (k49_mkM _ _ _ (⟨a1, t172⟩ : S49) )) (Reps.none _ _)))
                                      intro v174 w35 ho36 hb hg_ hnew_
                                      clear hg_ hnew_
                                      (first | rw [← Ny173.out] at ho36 | (simp only [Int.reduceToNat] at ho36; rw [← Ny173.out] at ho36))
                                      have n0_ := Aside0.mk (Kd.R_below (by (with_reducible repeat (first | apply Kd.R_alloc | apply Kd.R_drewN | apply Kd.R_drew)); exact HO168.out) hb)
                                      have n1_ := Aside0.mk (Kd.R_elder' (by (with_reducible repeat (first | apply Kd.R_alloc | apply Kd.R_drewN | apply Kd.R_drew)); exact HO171.out) (Kd.R_base ho36) hb)
                                      have n2_ := Aside0.mk (Kd.R_lower (Kd.R_new' ho36 (Kd.R_lt (by (with_reducible repeat (first | apply Kd.R_alloc | apply Kd.R_drewN | apply Kd.R_drew)); exact HO171.out))) (below_size (by repeat (first | (with_reducible first | exact HB.out | apply below_alloc | apply pw_below_drewN | apply below_drew1 | refine below_set ?_ GE161.out) | exact HB.out))))
                                      have n3_ := Aside0.mk (blk_below (g := gb161) (o := .cells #[.int .i32 a2_0, .int .i32 a2_1, .int .i32 a2_2, .int .u8 a2_3, .int .u8 a2_4, .int .u8 a2_5, .bool true] 23 (0, 0)) (by (with_reducible repeat (first | refine blk_drewN ?_ _ | refine blk_drew ?_ | refine blk_alloc ?_ _)); exact BK161.out) hb)
                                      have n4_ := Aside0.mk (below_step (by repeat (first | (with_reducible first | exact HB.out | apply below_alloc | apply pw_below_drewN | apply below_drew1 | refine below_set ?_ GE161.out) | exact HB.out)) hb)
                                      clear HO168
                                      clear HO171
                                      clear BK161
                                      clear HB
                                      have HO168 := n0_
                                      have HO171 := n1_
                                      have HO175 := n2_
                                      have BK161 := n3_
                                      have HB := n4_
                                      clear n0_ n1_ n2_ n3_ n4_
                                      clear hb ho36
                                      refine hK.out _ _ ⟨(blk_cell BK161.out 0).trans rfl, (blk_cell BK161.out 1).trans rfl, (blk_cell BK161.out 2).trans rfl, (blk_cell BK161.out 3).trans rfl, (blk_cell BK161.out 4).trans rfl, (blk_cell BK161.out 5).trans rfl, (blk_cell BK161.out 6).trans rfl⟩ (fun hHeld => ?_)
                                      clear hK K
                                      refine norm_ (a' := ?_) ?_ ?_
                                      rotate_left
                                      · show Act.put _ (some 38) _ = _
                                        simp only [Act.put, List.setIfInBounds_toArray, List.set_cons_zero, List.set_cons_succ, i64_w, i32_w]
                                        rfl
                                      exact norm_ (by first | (simp only [putAll, Act.put, List.setIfInBounds_toArray, List.set_cons_zero, List.set_cons_succ]; done) | (simp only [putAll, Act.put, List.setIfInBounds_toArray, List.set_cons_zero, List.set_cons_succ]; rfl)) (hJ1_4_6 (v170, v174) _ ⟨hHeld, (by (with_reducible repeat (first | apply Kd.R_alloc | apply Kd.R_drewN | apply Kd.R_drew)); exact HO168.out), (by (with_reducible repeat (first | apply Kd.R_alloc | apply Kd.R_drewN | apply Kd.R_drew)); exact Kd.R_mono HO171.out (fun _ hk => hk.2)), (by (with_reducible repeat (first | apply Kd.R_alloc | apply Kd.R_drewN | apply Kd.R_drew)); exact Kd.R_mono HO175.out (fun _ hk => hk.2)), (by (with_reducible repeat (first | refine blk_drewN ?_ _ | refine blk_drew ?_ | refine blk_alloc ?_ _)); exact BK161.out), (by repeat (first | (with_reducible first | exact HB.out | apply below_alloc | apply pw_below_drewN | apply below_drew1 | refine below_set ?_ GE161.out) | exact HB.out))⟩)
                                    · skip
                                      refine Kd.R_lit_step (Kd.int .i64) _ 3 ?hg (N := 41) ?hd (xs := ([a1] : List Int)) (inner := [.int .i64 a1]) (ok := fun _ => True) (okp := fun _ => True) ?hr ?hp (fun _ hk => hk) trivial (Below.refl _ _) (Nat.le_refl _) (by simp) ?_; (case hd => rfl); (case hg => first | rfl | (refine wanted_on rfl rfl rfl ?_; assumption)); (case hr => first | (go_simp; done) | (go_simp; rfl)); (case hp => exact (Reps.one (show Kd.M (Kd.int .i64) _ _ _ a1 [.int .i64 a1] from rfl) (Reps.none _ _)))
                                      intro v180 w35 ho36 hb hg_ hnew_
                                      clear hg_ hnew_
                                      (first | rw [← Ny179.out] at ho36 | (simp only [Int.reduceToNat] at ho36; rw [← Ny179.out] at ho36))
                                      have n0_ := Aside0.mk (Kd.R_below (by (with_reducible repeat (first | apply Kd.R_alloc | apply Kd.R_drewN | apply Kd.R_drew)); exact HO168.out) hb)
                                      have n1_ := Aside0.mk (Kd.R_below (by (with_reducible repeat (first | apply Kd.R_alloc | apply Kd.R_drewN | apply Kd.R_drew)); exact HO171.out) hb)
                                      have n2_ := Aside0.mk (Kd.R_lower ho36 (below_size (by repeat (first | (with_reducible first | exact HB.out | apply below_alloc | apply pw_below_drewN | apply below_drew1 | refine below_set ?_ GE161.out) | exact HB.out))))
                                      have n3_ := Aside0.mk (blk_below (g := gb161) (o := .cells #[.int .i32 a2_0, .int .i32 a2_1, .int .i32 a2_2, .int .u8 a2_3, .int .u8 a2_4, .int .u8 a2_5, .bool true] 23 (0, 0)) (by (with_reducible repeat (first | refine blk_drewN ?_ _ | refine blk_drew ?_ | refine blk_alloc ?_ _)); exact BK161.out) hb)
                                      have n4_ := Aside0.mk (below_step (by repeat (first | (with_reducible first | exact HB.out | apply below_alloc | apply pw_below_drewN | apply below_drew1 | refine below_set ?_ GE161.out) | exact HB.out)) hb)
                                      clear HO168
                                      clear HO171
                                      clear BK161
                                      clear HB
                                      have HO168 := n0_
                                      have HO171 := n1_
                                      have HO181 := n2_
                                      have BK161 := n3_
                                      have HB := n4_
                                      clear n0_ n1_ n2_ n3_ n4_
                                      clear hb ho36
                                      refine hK.out _ _ ⟨(blk_cell BK161.out 0).trans rfl, (blk_cell BK161.out 1).trans rfl, (blk_cell BK161.out 2).trans rfl, (blk_cell BK161.out 3).trans rfl, (blk_cell BK161.out 4).trans rfl, (blk_cell BK161.out 5).trans rfl, (blk_cell BK161.out 6).trans rfl⟩ (fun hHeld => ?_)
                                      clear hK K
                                      refine norm_ (a' := ?_) ?_ ?_
                                      rotate_left
                                      · show Act.put _ (some 41) _ = _
                                        simp only [Act.put, List.setIfInBounds_toArray, List.set_cons_zero, List.set_cons_succ, i64_w, i32_w]
                                        rfl
                                      exact norm_ (by first | (simp only [putAll, Act.put, List.setIfInBounds_toArray, List.set_cons_zero, List.set_cons_succ]; done) | (simp only [putAll, Act.put, List.setIfInBounds_toArray, List.set_cons_zero, List.set_cons_succ]; rfl)) (hJ1_4_9 (v170, v180) _ ⟨hHeld, (by (with_reducible repeat (first | apply Kd.R_alloc | apply Kd.R_drewN | apply Kd.R_drew)); exact HO168.out), (by (with_reducible repeat (first | apply Kd.R_alloc | apply Kd.R_drewN | apply Kd.R_drew)); exact HO171.out), (by (with_reducible repeat (first | apply Kd.R_alloc | apply Kd.R_drewN | apply Kd.R_drew)); exact HO181.out), (by (with_reducible repeat (first | refine blk_drewN ?_ _ | refine blk_drew ?_ | refine blk_alloc ?_ _)); exact BK161.out), (by repeat (first | (with_reducible first | exact HB.out | apply below_alloc | apply pw_below_drewN | apply below_drew1 | refine below_set ?_ GE161.out) | exact HB.out))⟩)
                                · skip
                                  rintro ⟨v170, v180⟩ w36 ⟨hS_, h0_, h1_, h2_, h3_, h4_⟩
                                  have n0_ : Aside0 (Kd.R k23 23 w36 w.heap.size (fun k_ => k_ ≠ gb161) v167 t165) := ⟨h0_⟩
                                  have n1_ : Aside0 (Kd.R k49 49 w36 w.heap.size (fun _ => True) v170 y169) := ⟨h1_⟩
                                  have n2_ : Aside0 (Kd.R (Kd.int .i64) 3 w36 w.heap.size (fun _ => True) v180 y179) := ⟨h2_⟩
                                  have n3_ : Aside0 (w36.heap[gb161]? = some (.cells #[.int .i32 a2_0, .int .i32 a2_1, .int .i32 a2_2, .int .u8 a2_3, .int .u8 a2_4, .int .u8 a2_5, .bool true] 23 (0, 0))) := ⟨h3_⟩
                                  have n4_ : Aside0 (Below w.heap.size w w36) := ⟨h4_⟩
                                  clear HO168
                                  clear BK161
                                  clear HB
                                  clear h0_ h1_ h2_ h3_ h4_
                                  have HO168 := n0_
                                  have HO171 := n1_
                                  have HO181 := n2_
                                  have BK161 := n3_
                                  have HB := n4_
                                  clear n0_ n1_ n2_ n3_ n4_
                                  have hHeld : w36.cell? ⟨gb161, 0, none⟩ = some (.int .i32 a2_0) ∧ w36.cell? ⟨gb161, 1, none⟩ = some (.int .i32 a2_1) ∧ w36.cell? ⟨gb161, 2, none⟩ = some (.int .i32 a2_2) ∧ w36.cell? ⟨gb161, 3, none⟩ = some (.int .u8 a2_3) ∧ w36.cell? ⟨gb161, 4, none⟩ = some (.int .u8 a2_4) ∧ w36.cell? ⟨gb161, 5, none⟩ = some (.int .u8 a2_5) ∧ w36.cell? ⟨gb161, 6, none⟩ = some (.bool true) := hS_
                                  refine norm_ (a' := ?_) ?_ ?_
                                  rotate_left
                                  · simp only [putAll, Act.put, List.setIfInBounds_toArray, List.set_cons_zero, List.set_cons_succ]
                                    rfl
                                  refine one_ (i := 6) (N := some 38) #[true, true, true, true, true, true, true, false, true, true, false, false, false, false, false, false] rfl rfl (one_of HT_.out (by kernel_rfl)) (by decide) (fun K hK => ?_)
                                  refine Kd.R_lit_step k49 _ 49 ?hg (N := 38) ?hd (xs := ([(⟨a1, t172⟩ : S49)] : List (S49))) (inner := [.int .i64 a1, .string t172]) (ok := fun _ => True) (okp := fun _ => True) ?hr ?hp (fun _ hk => hk) trivial (Below.refl _ _) (Nat.le_refl _) (by simp) ?_; (case hd => rfl); (case hg => first | rfl | (refine wanted_on rfl rfl rfl ?_; assumption)); (case hr => first | (go_simp; done) | (go_simp; rfl)); (case hp => exact (Reps.c2 (show Kd.M k49 _ _ _ (⟨a1, t172⟩ : S49) [.int .i64 a1, .string t172] from (k49_mkM _ _ _ (⟨a1, t172⟩ : S49) )) (Reps.none _ _)))
                                  intro v174 w37 ho38 hb hg_ hnew_
                                  clear hg_ hnew_
                                  (first | rw [← Ny173.out] at ho38 | (simp only [Int.reduceToNat] at ho38; rw [← Ny173.out] at ho38))
                                  have n0_ := Aside0.mk (Kd.R_below (by (with_reducible repeat (first | apply Kd.R_alloc | apply Kd.R_drewN | apply Kd.R_drew)); exact HO168.out) hb)
                                  have n1_ := Aside0.mk (Kd.R_elder' (by (with_reducible repeat (first | apply Kd.R_alloc | apply Kd.R_drewN | apply Kd.R_drew)); exact HO171.out) (Kd.R_base ho38) hb)
                                  have n2_ := Aside0.mk (Kd.R_below (by (with_reducible repeat (first | apply Kd.R_alloc | apply Kd.R_drewN | apply Kd.R_drew)); exact HO181.out) hb)
                                  have n3_ := Aside0.mk (Kd.R_lower (Kd.R_new' ho38 (Kd.R_lt (by (with_reducible repeat (first | apply Kd.R_alloc | apply Kd.R_drewN | apply Kd.R_drew)); exact HO171.out))) (below_size (by repeat (first | (with_reducible first | exact HB.out | apply below_alloc | apply pw_below_drewN | apply below_drew1 | refine below_set ?_ GE161.out) | exact HB.out))))
                                  have n4_ := Aside0.mk (blk_below (g := gb161) (o := .cells #[.int .i32 a2_0, .int .i32 a2_1, .int .i32 a2_2, .int .u8 a2_3, .int .u8 a2_4, .int .u8 a2_5, .bool true] 23 (0, 0)) (by (with_reducible repeat (first | refine blk_drewN ?_ _ | refine blk_drew ?_ | refine blk_alloc ?_ _)); exact BK161.out) hb)
                                  have n5_ := Aside0.mk (below_step (by repeat (first | (with_reducible first | exact HB.out | apply below_alloc | apply pw_below_drewN | apply below_drew1 | refine below_set ?_ GE161.out) | exact HB.out)) hb)
                                  clear HO168
                                  clear HO171
                                  clear HO181
                                  clear BK161
                                  clear HB
                                  have HO168 := n0_
                                  have HO171 := n1_
                                  have HO181 := n2_
                                  have HO175 := n3_
                                  have BK161 := n4_
                                  have HB := n5_
                                  clear n0_ n1_ n2_ n3_ n4_ n5_
                                  clear hb ho38
                                  refine hK.out _ _ ⟨(blk_cell BK161.out 0).trans rfl, (blk_cell BK161.out 1).trans rfl, (blk_cell BK161.out 2).trans rfl, (blk_cell BK161.out 3).trans rfl, (blk_cell BK161.out 4).trans rfl, (blk_cell BK161.out 5).trans rfl, (blk_cell BK161.out 6).trans rfl⟩ (fun hHeld => ?_)
                                  clear hK K
                                  refine norm_ (a' := ?_) ?_ ?_
                                  rotate_left
                                  · show Act.put _ (some 38) _ = _
                                    simp only [Act.put, List.setIfInBounds_toArray, List.set_cons_zero, List.set_cons_succ, i64_w, i32_w]
                                    rfl
                                  exact norm_ (by first | (simp only [putAll, Act.put, List.setIfInBounds_toArray, List.set_cons_zero, List.set_cons_succ]; done) | (simp only [putAll, Act.put, List.setIfInBounds_toArray, List.set_cons_zero, List.set_cons_succ]; rfl)) (hJ1_4_6_9 (v170, _, v180) _ ⟨hHeld, (by (with_reducible repeat (first | apply Kd.R_alloc | apply Kd.R_drewN | apply Kd.R_drew)); exact HO168.out), (by (with_reducible repeat (first | apply Kd.R_alloc | apply Kd.R_drewN | apply Kd.R_drew)); exact Kd.R_mono HO171.out (fun _ hk => hk.2)), (by (with_reducible repeat (first | apply Kd.R_alloc | apply Kd.R_drewN | apply Kd.R_drew)); exact Kd.R_mono HO175.out (fun _ hk => hk.2)), (by (with_reducible repeat (first | apply Kd.R_alloc | apply Kd.R_drewN | apply Kd.R_drew)); exact HO181.out), (by (with_reducible repeat (first | refine blk_drewN ?_ _ | refine blk_drew ?_ | refine blk_alloc ?_ _)); exact BK161.out), (by repeat (first | (with_reducible first | exact HB.out | apply below_alloc | apply pw_below_drewN | apply below_drew1 | refine below_set ?_ GE161.out) | exact HB.out))⟩)
                              · skip
                                rintro ⟨v170, v174⟩ w36 ⟨hS_, h0_, h1_, h2_, h3_, h4_⟩
                                have n0_ : Aside0 (Kd.R k23 23 w36 w.heap.size (fun k_ => k_ ≠ gb161) v167 t165) := ⟨h0_⟩
                                have n1_ : Aside0 (Kd.R k49 49 w36 w.heap.size (fun k_ => some k_ ≠ (v174 : Value).ownBlock) v170 y169) := ⟨h1_⟩
                                have n2_ : Aside0 (Kd.R k49 49 w36 w.heap.size (fun k_ => some k_ ≠ (v170 : Value).ownBlock) v174 y173) := ⟨h2_⟩
                                have n3_ : Aside0 (w36.heap[gb161]? = some (.cells #[.int .i32 a2_0, .int .i32 a2_1, .int .i32 a2_2, .int .u8 a2_3, .int .u8 a2_4, .int .u8 a2_5, .bool true] 23 (0, 0))) := ⟨h3_⟩
                                have n4_ : Aside0 (Below w.heap.size w w36) := ⟨h4_⟩
                                clear HO168
                                clear BK161
                                clear HB
                                clear h0_ h1_ h2_ h3_ h4_
                                have HO168 := n0_
                                have HO171 := n1_
                                have HO175 := n2_
                                have BK161 := n3_
                                have HB := n4_
                                clear n0_ n1_ n2_ n3_ n4_
                                have hHeld : w36.cell? ⟨gb161, 0, none⟩ = some (.int .i32 a2_0) ∧ w36.cell? ⟨gb161, 1, none⟩ = some (.int .i32 a2_1) ∧ w36.cell? ⟨gb161, 2, none⟩ = some (.int .i32 a2_2) ∧ w36.cell? ⟨gb161, 3, none⟩ = some (.int .u8 a2_3) ∧ w36.cell? ⟨gb161, 4, none⟩ = some (.int .u8 a2_4) ∧ w36.cell? ⟨gb161, 5, none⟩ = some (.int .u8 a2_5) ∧ w36.cell? ⟨gb161, 6, none⟩ = some (.bool true) := hS_
                                obtain ⟨Ao38, co38, eo38⟩ := Kd.R_slice HO175.out
                                (first | subst eo38 | (injection eo38 with f1_ f2_ f3_; have f4_ := f1_.symm; have f5_ := f3_.symm; clear f1_ f2_ f3_; subst f4_; subst f5_))
                                refine norm_ (a' := ?_) ?_ ?_
                                rotate_left
                                · simp only [putAll, Act.put, List.setIfInBounds_toArray, List.set_cons_zero, List.set_cons_succ]
                                  rfl
                                refine two_ (i := 7) (j := 9) (Ni := some 39) (Nj := some 41) #[true, true, true, true, true, true, true, true, true, false, false, false, false, false, false, false] #[true, true, true, true, true, true, true, false, true, true, false, false, false, false, false, false] rfl rfl rfl rfl (two_of HT_.out (by kernel_rfl)) (by decide) (by decide) (fun K hK => ?_) (fun K hK => ?_)
                                · skip
                                  refine Kd.R_append_rows_step k49 (w0 := w) w.heap.size (by rfl) (.tmp 33) (.tmp 38) 44 49 (.agg #[(.int .i64 0), (.string ⟨#[]⟩)]) 24 rfl Tryd.underlying44 info49 rfl (by decide) (by omega) v170 y169 y173 _ _ _ (fun k_ => some k_ ≠ (.slice Ao38 y173.length co38 : Value).ownBlock) (fun _ => False) rfl rfl ?aO ?aR (fun _ _ h => h) (fun _ h => h.elim) ?aF ?aB ?aS ?aL ?_
                                  (case aR => repeat (first | exact (Kd.R_reads' HO175.out).2.2 | (with_reducible refine Kd.C_alloc ?_ _) | (with_reducible refine Kd.C_drewN ?_ _) | (with_reducible refine Kd.C_drew ?_)))
                                  (case aB => exact (by repeat (first | (with_reducible first | exact HB.out | apply below_alloc | apply pw_below_drewN | apply below_drew1 | refine below_set ?_ GE161.out) | exact HB.out)))
                                  (case aF => exact (fun k_ hk => Kd.fresh' (Kd.R_lt (by (with_reducible repeat (first | apply Kd.R_alloc | apply Kd.R_drewN | apply Kd.R_drew)); exact HO175.out)) k_ hk))
                                  (case aO => exact (by (with_reducible repeat (first | apply Kd.R_alloc | apply Kd.R_drewN | apply Kd.R_drew)); exact HO171.out))
                                  (case aS => exact (below_size (by repeat (first | (with_reducible first | exact HB.out | apply below_alloc | apply pw_below_drewN | apply below_drew1 | refine below_set ?_ GE161.out) | exact HB.out))))
                                  (case aL => have := LMc21.out; omega)
                                  intro v177 w37 ho hb hg hat
                                  rw [← Ny176.out] at ho
                                  have n0_ := Aside0.mk (blk_grown (g := gb161) (o := .cells #[.int .i32 a2_0, .int .i32 a2_1, .int .i32 a2_2, .int .u8 a2_3, .int .u8 a2_4, .int .u8 a2_5, .bool true] 23 (0, 0)) (by (with_reducible repeat (first | refine blk_drewN ?_ _ | refine blk_drew ?_ | refine blk_alloc ?_ _)); exact BK161.out) hg (Kd.R_ne HO171.out BK161.out (by decide)))
                                  have n1_ := Aside0.mk (Kd.R_over' (by (with_reducible repeat (first | apply Kd.R_alloc | apply Kd.R_drewN | apply Kd.R_drew)); exact HO168.out) (Kd.R_typed (by (with_reducible repeat (first | apply Kd.R_alloc | apply Kd.R_drewN | apply Kd.R_drew)); exact HO171.out)) (by decide) hg)
                                  have n2_ := Aside0.mk (Kd.R_after (ok := (fun _ => True)) (by (with_reducible repeat (first | apply Kd.R_alloc | apply Kd.R_drewN | apply Kd.R_drew)); exact Kd.R_mono HO175.out (fun _ hk => ⟨trivial, hk⟩)) hg hat)
                                  have n3_ := Aside0.mk (hb)
                                  have n4_ := Aside0.mk (ho)
                                  clear BK161
                                  clear HO168
                                  clear HO175
                                  clear HB
                                  clear HO171
                                  have BK161 := n0_
                                  have HO168 := n1_
                                  have HO175 := n2_
                                  have HB := n3_
                                  have HO178 := n4_
                                  clear n0_ n1_ n2_ n3_ n4_
                                  clear ho hb hg hat
                                  refine hK.out _ _ ⟨(blk_cell BK161.out 0).trans rfl, (blk_cell BK161.out 1).trans rfl, (blk_cell BK161.out 2).trans rfl, (blk_cell BK161.out 3).trans rfl, (blk_cell BK161.out 4).trans rfl, (blk_cell BK161.out 5).trans rfl, (blk_cell BK161.out 6).trans rfl⟩ (fun hHeld => ?_)
                                  clear hK K
                                  refine norm_ (a' := ?_) ?_ ?_
                                  rotate_left
                                  · show Act.put _ (some 39) _ = _
                                    simp only [Act.put, List.setIfInBounds_toArray, List.set_cons_zero, List.set_cons_succ, i64_w, i32_w]
                                    rfl
                                  exact norm_ (by first | (simp only [putAll, Act.put, List.setIfInBounds_toArray, List.set_cons_zero, List.set_cons_succ]; done) | (simp only [putAll, Act.put, List.setIfInBounds_toArray, List.set_cons_zero, List.set_cons_succ]; rfl)) (hJ1_4_6_7 (v170, .slice Ao38 y173.length co38, v177) _ ⟨hHeld, (by (with_reducible repeat (first | apply Kd.R_alloc | apply Kd.R_drewN | apply Kd.R_drew)); exact HO168.out), (by (with_reducible repeat (first | apply Kd.R_alloc | apply Kd.R_drewN | apply Kd.R_drew)); exact Kd.R_mono HO175.out (fun _ hk => hk.2)), (by (with_reducible repeat (first | apply Kd.R_alloc | apply Kd.R_drewN | apply Kd.R_drew)); exact HO178.out), (by (with_reducible repeat (first | refine blk_drewN ?_ _ | refine blk_drew ?_ | refine blk_alloc ?_ _)); exact BK161.out), (by repeat (first | (with_reducible first | exact HB.out | apply below_alloc | apply pw_below_drewN | apply below_drew1 | refine below_set ?_ GE161.out) | exact HB.out))⟩)
                                · skip
                                  refine Kd.R_lit_step (Kd.int .i64) _ 3 ?hg (N := 41) ?hd (xs := ([a1] : List Int)) (inner := [.int .i64 a1]) (ok := fun _ => True) (okp := fun _ => True) ?hr ?hp (fun _ hk => hk) trivial (Below.refl _ _) (Nat.le_refl _) (by simp) ?_; (case hd => rfl); (case hg => first | rfl | (refine wanted_on rfl rfl rfl ?_; assumption)); (case hr => first | (go_simp; done) | (go_simp; rfl)); (case hp => exact (Reps.one (show Kd.M (Kd.int .i64) _ _ _ a1 [.int .i64 a1] from rfl) (Reps.none _ _)))
                                  intro v180 w37 ho38 hb hg_ hnew_
                                  clear hg_ hnew_
                                  (first | rw [← Ny179.out] at ho38 | (simp only [Int.reduceToNat] at ho38; rw [← Ny179.out] at ho38))
                                  have n0_ := Aside0.mk (Kd.R_below (by (with_reducible repeat (first | apply Kd.R_alloc | apply Kd.R_drewN | apply Kd.R_drew)); exact HO168.out) hb)
                                  have n1_ := Aside0.mk (Kd.R_below (by (with_reducible repeat (first | apply Kd.R_alloc | apply Kd.R_drewN | apply Kd.R_drew)); exact HO171.out) hb)
                                  have n2_ := Aside0.mk (Kd.R_below (by (with_reducible repeat (first | apply Kd.R_alloc | apply Kd.R_drewN | apply Kd.R_drew)); exact HO175.out) hb)
                                  have n3_ := Aside0.mk (Kd.R_lower ho38 (below_size (by repeat (first | (with_reducible first | exact HB.out | apply below_alloc | apply pw_below_drewN | apply below_drew1 | refine below_set ?_ GE161.out) | exact HB.out))))
                                  have n4_ := Aside0.mk (blk_below (g := gb161) (o := .cells #[.int .i32 a2_0, .int .i32 a2_1, .int .i32 a2_2, .int .u8 a2_3, .int .u8 a2_4, .int .u8 a2_5, .bool true] 23 (0, 0)) (by (with_reducible repeat (first | refine blk_drewN ?_ _ | refine blk_drew ?_ | refine blk_alloc ?_ _)); exact BK161.out) hb)
                                  have n5_ := Aside0.mk (below_step (by repeat (first | (with_reducible first | exact HB.out | apply below_alloc | apply pw_below_drewN | apply below_drew1 | refine below_set ?_ GE161.out) | exact HB.out)) hb)
                                  clear HO168
                                  clear HO171
                                  clear HO175
                                  clear BK161
                                  clear HB
                                  have HO168 := n0_
                                  have HO171 := n1_
                                  have HO175 := n2_
                                  have HO181 := n3_
                                  have BK161 := n4_
                                  have HB := n5_
                                  clear n0_ n1_ n2_ n3_ n4_ n5_
                                  clear hb ho38
                                  refine hK.out _ _ ⟨(blk_cell BK161.out 0).trans rfl, (blk_cell BK161.out 1).trans rfl, (blk_cell BK161.out 2).trans rfl, (blk_cell BK161.out 3).trans rfl, (blk_cell BK161.out 4).trans rfl, (blk_cell BK161.out 5).trans rfl, (blk_cell BK161.out 6).trans rfl⟩ (fun hHeld => ?_)
                                  clear hK K
                                  refine norm_ (a' := ?_) ?_ ?_
                                  rotate_left
                                  · show Act.put _ (some 41) _ = _
                                    simp only [Act.put, List.setIfInBounds_toArray, List.set_cons_zero, List.set_cons_succ, i64_w, i32_w]
                                    rfl
                                  exact norm_ (by first | (simp only [putAll, Act.put, List.setIfInBounds_toArray, List.set_cons_zero, List.set_cons_succ]; done) | (simp only [putAll, Act.put, List.setIfInBounds_toArray, List.set_cons_zero, List.set_cons_succ]; rfl)) (hJ1_4_6_9 (v170, _, v180) _ ⟨hHeld, (by (with_reducible repeat (first | apply Kd.R_alloc | apply Kd.R_drewN | apply Kd.R_drew)); exact HO168.out), (by (with_reducible repeat (first | apply Kd.R_alloc | apply Kd.R_drewN | apply Kd.R_drew)); exact HO171.out), (by (with_reducible repeat (first | apply Kd.R_alloc | apply Kd.R_drewN | apply Kd.R_drew)); exact HO175.out), (by (with_reducible repeat (first | apply Kd.R_alloc | apply Kd.R_drewN | apply Kd.R_drew)); exact HO181.out), (by (with_reducible repeat (first | refine blk_drewN ?_ _ | refine blk_drew ?_ | refine blk_alloc ?_ _)); exact BK161.out), (by repeat (first | (with_reducible first | exact HB.out | apply below_alloc | apply pw_below_drewN | apply below_drew1 | refine below_set ?_ GE161.out) | exact HB.out))⟩)
                            · skip
                              rintro ⟨v170, v174, v180⟩ w38 ⟨hS_, h0_, h1_, h2_, h3_, h4_, h5_⟩
                              have n0_ : Aside0 (Kd.R k23 23 w38 w.heap.size (fun k_ => k_ ≠ gb161) v167 t165) := ⟨h0_⟩
                              have n1_ : Aside0 (Kd.R k49 49 w38 w.heap.size (fun k_ => some k_ ≠ (v174 : Value).ownBlock) v170 y169) := ⟨h1_⟩
                              have n2_ : Aside0 (Kd.R k49 49 w38 w.heap.size (fun k_ => some k_ ≠ (v170 : Value).ownBlock) v174 y173) := ⟨h2_⟩
                              have n3_ : Aside0 (Kd.R (Kd.int .i64) 3 w38 w.heap.size (fun _ => True) v180 y179) := ⟨h3_⟩
                              have n4_ : Aside0 (w38.heap[gb161]? = some (.cells #[.int .i32 a2_0, .int .i32 a2_1, .int .i32 a2_2, .int .u8 a2_3, .int .u8 a2_4, .int .u8 a2_5, .bool true] 23 (0, 0))) := ⟨h4_⟩
                              have n5_ : Aside0 (Below w.heap.size w w38) := ⟨h5_⟩
                              clear HO168
                              clear BK161
                              clear HB
                              clear h0_ h1_ h2_ h3_ h4_ h5_
                              have HO168 := n0_
                              have HO171 := n1_
                              have HO175 := n2_
                              have HO181 := n3_
                              have BK161 := n4_
                              have HB := n5_
                              clear n0_ n1_ n2_ n3_ n4_ n5_
                              have hHeld : w38.cell? ⟨gb161, 0, none⟩ = some (.int .i32 a2_0) ∧ w38.cell? ⟨gb161, 1, none⟩ = some (.int .i32 a2_1) ∧ w38.cell? ⟨gb161, 2, none⟩ = some (.int .i32 a2_2) ∧ w38.cell? ⟨gb161, 3, none⟩ = some (.int .u8 a2_3) ∧ w38.cell? ⟨gb161, 4, none⟩ = some (.int .u8 a2_4) ∧ w38.cell? ⟨gb161, 5, none⟩ = some (.int .u8 a2_5) ∧ w38.cell? ⟨gb161, 6, none⟩ = some (.bool true) := hS_
                              obtain ⟨Ao40, co40, eo40⟩ := Kd.R_slice HO175.out
                              (first | subst eo40 | (injection eo40 with f1_ f2_ f3_; have f4_ := f1_.symm; have f5_ := f3_.symm; clear f1_ f2_ f3_; subst f4_; subst f5_))
                              refine norm_ (a' := ?_) ?_ ?_
                              rotate_left
                              · simp only [putAll, Act.put, List.setIfInBounds_toArray, List.set_cons_zero, List.set_cons_succ]
                                rfl
                              refine one_ (i := 7) (N := some 39) #[true, true, true, true, true, true, true, true, true, true, false, false, false, false, false, false] rfl rfl (one_of HT_.out (by kernel_rfl)) (by decide) (fun K hK => ?_)
                              refine Kd.R_append_rows_step k49 (w0 := w) w.heap.size (by rfl) (.tmp 33) (.tmp 38) 44 49 (.agg #[(.int .i64 0), (.string ⟨#[]⟩)]) 24 rfl Tryd.underlying44 info49 rfl (by decide) (by omega) v170 y169 y173 _ _ _ (fun k_ => some k_ ≠ (.slice Ao40 y173.length co40 : Value).ownBlock) (fun _ => False) rfl rfl ?aO ?aR (fun _ _ h => h) (fun _ h => h.elim) ?aF ?aB ?aS ?aL ?_
                              (case aR => repeat (first | exact (Kd.R_reads' HO175.out).2.2 | (with_reducible refine Kd.C_alloc ?_ _) | (with_reducible refine Kd.C_drewN ?_ _) | (with_reducible refine Kd.C_drew ?_)))
                              (case aB => exact (by repeat (first | (with_reducible first | exact HB.out | apply below_alloc | apply pw_below_drewN | apply below_drew1 | refine below_set ?_ GE161.out) | exact HB.out)))
                              (case aF => exact (fun k_ hk => Kd.fresh' (Kd.R_lt (by (with_reducible repeat (first | apply Kd.R_alloc | apply Kd.R_drewN | apply Kd.R_drew)); exact HO175.out)) k_ hk))
                              (case aO => exact (by (with_reducible repeat (first | apply Kd.R_alloc | apply Kd.R_drewN | apply Kd.R_drew)); exact HO171.out))
                              (case aS => exact (below_size (by repeat (first | (with_reducible first | exact HB.out | apply below_alloc | apply pw_below_drewN | apply below_drew1 | refine below_set ?_ GE161.out) | exact HB.out))))
                              (case aL => have := LMc21.out; omega)
                              intro v177 w39 ho hb hg hat
                              rw [← Ny176.out] at ho
                              have n0_ := Aside0.mk (blk_grown (g := gb161) (o := .cells #[.int .i32 a2_0, .int .i32 a2_1, .int .i32 a2_2, .int .u8 a2_3, .int .u8 a2_4, .int .u8 a2_5, .bool true] 23 (0, 0)) (by (with_reducible repeat (first | refine blk_drewN ?_ _ | refine blk_drew ?_ | refine blk_alloc ?_ _)); exact BK161.out) hg (Kd.R_ne HO171.out BK161.out (by decide)))
                              have n1_ := Aside0.mk (Kd.R_over' (by (with_reducible repeat (first | apply Kd.R_alloc | apply Kd.R_drewN | apply Kd.R_drew)); exact HO168.out) (Kd.R_typed (by (with_reducible repeat (first | apply Kd.R_alloc | apply Kd.R_drewN | apply Kd.R_drew)); exact HO171.out)) (by decide) hg)
                              have n2_ := Aside0.mk (Kd.R_after (ok := (fun _ => True)) (by (with_reducible repeat (first | apply Kd.R_alloc | apply Kd.R_drewN | apply Kd.R_drew)); exact Kd.R_mono HO175.out (fun _ hk => ⟨trivial, hk⟩)) hg hat)
                              have n3_ := Aside0.mk (Kd.R_over' (by (with_reducible repeat (first | apply Kd.R_alloc | apply Kd.R_drewN | apply Kd.R_drew)); exact HO181.out) (Kd.R_typed (by (with_reducible repeat (first | apply Kd.R_alloc | apply Kd.R_drewN | apply Kd.R_drew)); exact HO171.out)) (by decide) hg)
                              have n4_ := Aside0.mk (hb)
                              have n5_ := Aside0.mk (ho)
                              clear BK161
                              clear HO168
                              clear HO175
                              clear HO181
                              clear HB
                              clear HO171
                              have BK161 := n0_
                              have HO168 := n1_
                              have HO175 := n2_
                              have HO181 := n3_
                              have HB := n4_
                              have HO178 := n5_
                              clear n0_ n1_ n2_ n3_ n4_ n5_
                              clear ho hb hg hat
                              refine hK.out _ _ ⟨(blk_cell BK161.out 0).trans rfl, (blk_cell BK161.out 1).trans rfl, (blk_cell BK161.out 2).trans rfl, (blk_cell BK161.out 3).trans rfl, (blk_cell BK161.out 4).trans rfl, (blk_cell BK161.out 5).trans rfl, (blk_cell BK161.out 6).trans rfl⟩ (fun hHeld => ?_)
                              clear hK K
                              refine norm_ (a' := ?_) ?_ ?_
                              rotate_left
                              · show Act.put _ (some 39) _ = _
                                simp only [Act.put, List.setIfInBounds_toArray, List.set_cons_zero, List.set_cons_succ, i64_w, i32_w]
                                rfl
                              exact norm_ (by first | (simp only [putAll, Act.put, List.setIfInBounds_toArray, List.set_cons_zero, List.set_cons_succ]; done) | (simp only [putAll, Act.put, List.setIfInBounds_toArray, List.set_cons_zero, List.set_cons_succ]; rfl)) (hJ1_4_6_7_9 (v170, .slice Ao40 y173.length co40, v177, v180) _ ⟨hHeld, (by (with_reducible repeat (first | apply Kd.R_alloc | apply Kd.R_drewN | apply Kd.R_drew)); exact HO168.out), (by (with_reducible repeat (first | apply Kd.R_alloc | apply Kd.R_drewN | apply Kd.R_drew)); exact Kd.R_mono HO175.out (fun _ hk => hk.2)), (by (with_reducible repeat (first | apply Kd.R_alloc | apply Kd.R_drewN | apply Kd.R_drew)); exact HO178.out), (by (with_reducible repeat (first | apply Kd.R_alloc | apply Kd.R_drewN | apply Kd.R_drew)); exact HO181.out), (by (with_reducible repeat (first | refine blk_drewN ?_ _ | refine blk_drew ?_ | refine blk_alloc ?_ _)); exact BK161.out), (by repeat (first | (with_reducible first | exact HB.out | apply below_alloc | apply pw_below_drewN | apply below_drew1 | refine below_set ?_ GE161.out) | exact HB.out))⟩)
                          · skip
                            rintro ⟨v170, v174, v177⟩ w38 ⟨hS_, h0_, h1_, h2_, h3_, h4_⟩
                            have n0_ : Aside0 (Kd.R k23 23 w38 w.heap.size (fun k_ => k_ ≠ gb161) v167 t165) := ⟨h0_⟩
                            have n1_ : Aside0 (Kd.R k49 49 w38 w.heap.size (fun k_ => some k_ ≠ (v177 : Value).ownBlock) v174 y173) := ⟨h1_⟩
                            have n2_ : Aside0 (Kd.R k49 49 w38 w.heap.size (fun k_ => some k_ ≠ (v174 : Value).ownBlock) v177 y176) := ⟨h2_⟩
                            have n3_ : Aside0 (w38.heap[gb161]? = some (.cells #[.int .i32 a2_0, .int .i32 a2_1, .int .i32 a2_2, .int .u8 a2_3, .int .u8 a2_4, .int .u8 a2_5, .bool true] 23 (0, 0))) := ⟨h3_⟩
                            have n4_ : Aside0 (Below w.heap.size w w38) := ⟨h4_⟩
                            clear HO168
                            clear BK161
                            clear HB
                            clear h0_ h1_ h2_ h3_ h4_
                            have HO168 := n0_
                            have HO175 := n1_
                            have HO178 := n2_
                            have BK161 := n3_
                            have HB := n4_
                            clear n0_ n1_ n2_ n3_ n4_
                            have hHeld : w38.cell? ⟨gb161, 0, none⟩ = some (.int .i32 a2_0) ∧ w38.cell? ⟨gb161, 1, none⟩ = some (.int .i32 a2_1) ∧ w38.cell? ⟨gb161, 2, none⟩ = some (.int .i32 a2_2) ∧ w38.cell? ⟨gb161, 3, none⟩ = some (.int .u8 a2_3) ∧ w38.cell? ⟨gb161, 4, none⟩ = some (.int .u8 a2_4) ∧ w38.cell? ⟨gb161, 5, none⟩ = some (.int .u8 a2_5) ∧ w38.cell? ⟨gb161, 6, none⟩ = some (.bool true) := hS_
                            refine norm_ (a' := ?_) ?_ ?_
                            rotate_left
                            · simp only [putAll, Act.put, List.setIfInBounds_toArray, List.set_cons_zero, List.set_cons_succ]
                              rfl
                            refine one_ (i := 9) (N := some 41) #[true, true, true, true, true, true, true, true, true, true, false, false, false, false, false, false] rfl rfl (one_of HT_.out (by kernel_rfl)) (by decide) (fun K hK => ?_)
                            refine Kd.R_lit_step (Kd.int .i64) _ 3 ?hg (N := 41) ?hd (xs := ([a1] : List Int)) (inner := [.int .i64 a1]) (ok := fun _ => True) (okp := fun _ => True) ?hr ?hp (fun _ hk => hk) trivial (Below.refl _ _) (Nat.le_refl _) (by simp) ?_; (case hd => rfl); (case hg => first | rfl | (refine wanted_on rfl rfl rfl ?_; assumption)); (case hr => first | (go_simp; done) | (go_simp; rfl)); (case hp => exact (Reps.one (show Kd.M (Kd.int .i64) _ _ _ a1 [.int .i64 a1] from rfl) (Reps.none _ _)))
                            intro v180 w39 ho40 hb hg_ hnew_
                            clear hg_ hnew_
                            (first | rw [← Ny179.out] at ho40 | (simp only [Int.reduceToNat] at ho40; rw [← Ny179.out] at ho40))
                            have n0_ := Aside0.mk (Kd.R_below (by (with_reducible repeat (first | apply Kd.R_alloc | apply Kd.R_drewN | apply Kd.R_drew)); exact HO168.out) hb)
                            have n1_ := Aside0.mk (Kd.R_below (by (with_reducible repeat (first | apply Kd.R_alloc | apply Kd.R_drewN | apply Kd.R_drew)); exact HO175.out) hb)
                            have n2_ := Aside0.mk (Kd.R_below (by (with_reducible repeat (first | apply Kd.R_alloc | apply Kd.R_drewN | apply Kd.R_drew)); exact HO178.out) hb)
                            have n3_ := Aside0.mk (Kd.R_lower ho40 (below_size (by repeat (first | (with_reducible first | exact HB.out | apply below_alloc | apply pw_below_drewN | apply below_drew1 | refine below_set ?_ GE161.out) | exact HB.out))))
                            have n4_ := Aside0.mk (blk_below (g := gb161) (o := .cells #[.int .i32 a2_0, .int .i32 a2_1, .int .i32 a2_2, .int .u8 a2_3, .int .u8 a2_4, .int .u8 a2_5, .bool true] 23 (0, 0)) (by (with_reducible repeat (first | refine blk_drewN ?_ _ | refine blk_drew ?_ | refine blk_alloc ?_ _)); exact BK161.out) hb)
                            have n5_ := Aside0.mk (below_step (by repeat (first | (with_reducible first | exact HB.out | apply below_alloc | apply pw_below_drewN | apply below_drew1 | refine below_set ?_ GE161.out) | exact HB.out)) hb)
                            clear HO168
                            clear HO175
                            clear HO178
                            clear BK161
                            clear HB
                            have HO168 := n0_
                            have HO175 := n1_
                            have HO178 := n2_
                            have HO181 := n3_
                            have BK161 := n4_
                            have HB := n5_
                            clear n0_ n1_ n2_ n3_ n4_ n5_
                            clear hb ho40
                            refine hK.out _ _ ⟨(blk_cell BK161.out 0).trans rfl, (blk_cell BK161.out 1).trans rfl, (blk_cell BK161.out 2).trans rfl, (blk_cell BK161.out 3).trans rfl, (blk_cell BK161.out 4).trans rfl, (blk_cell BK161.out 5).trans rfl, (blk_cell BK161.out 6).trans rfl⟩ (fun hHeld => ?_)
                            clear hK K
                            refine norm_ (a' := ?_) ?_ ?_
                            rotate_left
                            · show Act.put _ (some 41) _ = _
                              simp only [Act.put, List.setIfInBounds_toArray, List.set_cons_zero, List.set_cons_succ, i64_w, i32_w]
                              rfl
                            exact norm_ (by first | (simp only [putAll, Act.put, List.setIfInBounds_toArray, List.set_cons_zero, List.set_cons_succ]; done) | (simp only [putAll, Act.put, List.setIfInBounds_toArray, List.set_cons_zero, List.set_cons_succ]; rfl)) (hJ1_4_6_7_9 (v170, v174, v177, v180) _ ⟨hHeld, (by (with_reducible repeat (first | apply Kd.R_alloc | apply Kd.R_drewN | apply Kd.R_drew)); exact HO168.out), (by (with_reducible repeat (first | apply Kd.R_alloc | apply Kd.R_drewN | apply Kd.R_drew)); exact HO175.out), (by (with_reducible repeat (first | apply Kd.R_alloc | apply Kd.R_drewN | apply Kd.R_drew)); exact HO178.out), (by (with_reducible repeat (first | apply Kd.R_alloc | apply Kd.R_drewN | apply Kd.R_drew)); exact HO181.out), (by (with_reducible repeat (first | refine blk_drewN ?_ _ | refine blk_drew ?_ | refine blk_alloc ?_ _)); exact BK161.out), (by repeat (first | (with_reducible first | exact HB.out | apply below_alloc | apply pw_below_drewN | apply below_drew1 | refine below_set ?_ GE161.out) | exact HB.out))⟩)
                        rintro ⟨v170, v174, v177, v180⟩ w40 ⟨hS_, h0_, h1_, h2_, h3_, h4_, h5_⟩
                        have n0_ : Aside0 (Kd.R k23 23 w40 w.heap.size (fun k_ => k_ ≠ gb161) v167 t165) := ⟨h0_⟩
                        have n1_ : Aside0 (Kd.R k49 49 w40 w.heap.size (fun k_ => some k_ ≠ (v177 : Value).ownBlock) v174 y173) := ⟨h1_⟩
                        have n2_ : Aside0 (Kd.R k49 49 w40 w.heap.size (fun k_ => some k_ ≠ (v174 : Value).ownBlock) v177 y176) := ⟨h2_⟩
                        have n3_ : Aside0 (Kd.R (Kd.int .i64) 3 w40 w.heap.size (fun _ => True) v180 y179) := ⟨h3_⟩
                        have n4_ : Aside0 (w40.heap[gb161]? = some (.cells #[.int .i32 a2_0, .int .i32 a2_1, .int .i32 a2_2, .int .u8 a2_3, .int .u8 a2_4, .int .u8 a2_5, .bool true] 23 (0, 0))) := ⟨h4_⟩
                        have n5_ : Aside0 (Below w.heap.size w w40) := ⟨h5_⟩
                        clear HO168
                        clear BK161
                        clear HB
                        clear h0_ h1_ h2_ h3_ h4_ h5_
                        have HO168 := n0_
                        have HO175 := n1_
                        have HO178 := n2_
                        have HO181 := n3_
                        have BK161 := n4_
                        have HB := n5_
                        clear n0_ n1_ n2_ n3_ n4_ n5_
                        have hHeld : w40.cell? ⟨gb161, 0, none⟩ = some (.int .i32 a2_0) ∧ w40.cell? ⟨gb161, 1, none⟩ = some (.int .i32 a2_1) ∧ w40.cell? ⟨gb161, 2, none⟩ = some (.int .i32 a2_2) ∧ w40.cell? ⟨gb161, 3, none⟩ = some (.int .u8 a2_3) ∧ w40.cell? ⟨gb161, 4, none⟩ = some (.int .u8 a2_4) ∧ w40.cell? ⟨gb161, 5, none⟩ = some (.int .u8 a2_5) ∧ w40.cell? ⟨gb161, 6, none⟩ = some (.bool true) := hS_
                        obtain ⟨Ao41, co41, eo41⟩ := Kd.R_slice HO178.out
                        (first | subst eo41 | (injection eo41 with f1_ f2_ f3_; have f4_ := f1_.symm; have f5_ := f3_.symm; clear f1_ f2_ f3_; subst f4_; subst f5_))
                        obtain ⟨Ao42, co42, eo42⟩ := Kd.R_slice HO181.out
                        (first | subst eo42 | (injection eo42 with f1_ f2_ f3_; have f4_ := f1_.symm; have f5_ := f3_.symm; clear f1_ f2_ f3_; subst f4_; subst f5_))
                        refine norm_ (a' := ?_) ?_ ?_
                        rotate_left
                        · simp only [putAll, Act.put, List.setIfInBounds_toArray, List.set_cons_zero, List.set_cons_succ]
                          rfl
                        refine one_ (i := 10) (N := some 42) #[true, true, true, true, true, true, true, true, true, true, true, false, false, false, false, false] rfl rfl (one_of HT_.out (by kernel_rfl)) (by decide) (fun K hK => ?_)
                        refine goes_ Tryd.func26 (by kernel_rfl) rfl #[.slice Ao41 y176.length co41, .slice Ao42 y179.length co42] (by first | rfl | (refine wanted_on rfl rfl rfl ?_; assumption)) rfl rfl (by (try simp only [List.map_toArray, List.map_cons, List.map_nil]); first | done | rfl | (simp only [List.length_drop, List.length_take]; rfl)) ?_
                        with_reducible refine (impl_StyleGet.calls _ _ y176 _ _ y179 t182 true _ ?side1 ?side2 ?side3 ?side4 ?side5 A22.out).mono ?_
                        (case side1 => repeat (first | exact (Kd.R_reads' HO178.out).2.2 | (with_reducible refine Kd.C_alloc ?_ _) | (with_reducible refine Kd.C_drewN ?_ _) | (with_reducible refine Kd.C_drew ?_)))
                        (case side2 => exact (Kd.R_reads' HO178.out).2.1)
                        (case side3 => repeat (first | exact (Kd.R_reads' HO181.out).2.2 | (with_reducible refine Kd.C_alloc ?_ _) | (with_reducible refine Kd.C_drewN ?_ _) | (with_reducible refine Kd.C_drew ?_)))
                        (case side4 => exact (Kd.R_reads' HO181.out).2.1)
                        (case side5 => exact Go.Proofs.YtifhhejohdmiaaaDoorFmt.VarsOK.below HV.out (by repeat (first | (with_reducible first | exact HB.out | apply below_alloc | apply pw_below_drewN | apply below_drew1 | refine below_set ?_ GE161.out) | exact HB.out)))
                        rintro e w43 ⟨v184, rfl, ho0, hb⟩
                        refine ⟨_, rfl, ?_⟩
                        have n0_ := Aside0.mk (Kd.R_elder' (by (with_reducible repeat (first | apply Kd.R_alloc | apply Kd.R_drewN | apply Kd.R_drew)); exact HO168.out) (Kd.R_base ho0) hb)
                        have n1_ := Aside0.mk (Kd.R_below (by (with_reducible repeat (first | apply Kd.R_alloc | apply Kd.R_drewN | apply Kd.R_drew)); exact HO175.out) hb)
                        have n2_ := Aside0.mk (Kd.R_below (by (with_reducible repeat (first | apply Kd.R_alloc | apply Kd.R_drewN | apply Kd.R_drew)); exact HO178.out) hb)
                        have n3_ := Aside0.mk (Kd.R_below (by (with_reducible repeat (first | apply Kd.R_alloc | apply Kd.R_drewN | apply Kd.R_drew)); exact HO181.out) hb)
                        have n4_ := Aside0.mk (Kd.R_lower (Kd.R_newB (Kd.R_new' ho0 (Kd.R_lt (by (with_reducible repeat (first | apply Kd.R_alloc | apply Kd.R_drewN | apply Kd.R_drew)); exact HO168.out))) (g := gb161) (o := .cells #[.int .i32 a2_0, .int .i32 a2_1, .int .i32 a2_2, .int .u8 a2_3, .int .u8 a2_4, .int .u8 a2_5, .bool true] 23 (0, 0)) (by (with_reducible repeat (first | refine blk_drewN ?_ _ | refine blk_drew ?_ | refine blk_alloc ?_ _)); exact BK161.out)) (below_size (by repeat (first | (with_reducible first | exact HB.out | apply below_alloc | apply pw_below_drewN | apply below_drew1 | refine below_set ?_ GE161.out) | exact HB.out))))
                        have n5_ := Aside0.mk (blk_below (g := gb161) (o := .cells #[.int .i32 a2_0, .int .i32 a2_1, .int .i32 a2_2, .int .u8 a2_3, .int .u8 a2_4, .int .u8 a2_5, .bool true] 23 (0, 0)) (by (with_reducible repeat (first | refine blk_drewN ?_ _ | refine blk_drew ?_ | refine blk_alloc ?_ _)); exact BK161.out) hb)
                        have n6_ := Aside0.mk (below_step (by repeat (first | (with_reducible first | exact HB.out | apply below_alloc | apply pw_below_drewN | apply below_drew1 | refine below_set ?_ GE161.out) | exact HB.out)) hb)
                        clear HO168
                        clear HO175
                        clear HO178
                        clear HO181
                        clear BK161
                        clear HB
                        have HO168 := n0_
                        have HO175 := n1_
                        have HO178 := n2_
                        have HO181 := n3_
                        have HO185 := n4_
                        have BK161 := n5_
                        have HB := n6_
                        clear n0_ n1_ n2_ n3_ n4_ n5_ n6_
                        (try clear hb)
                        (try clear hb2)
                        (try clear hk)
                        (try clear hi)
                        (try clear ho0)
                        refine hK.out _ _ ⟨(blk_cell BK161.out 0).trans rfl, (blk_cell BK161.out 1).trans rfl, (blk_cell BK161.out 2).trans rfl, (blk_cell BK161.out 3).trans rfl, (blk_cell BK161.out 4).trans rfl, (blk_cell BK161.out 5).trans rfl, (blk_cell BK161.out 6).trans rfl⟩ (fun hHeld => ?_)
                        clear hK K
                        refine norm_ (a' := ?_) ?_ ?_
                        rotate_left
                        · show Act.put _ (some 42) _ = _
                          simp only [Act.put, List.setIfInBounds_toArray, List.set_cons_zero, List.set_cons_succ, i64_w, i32_w]
                          rfl
                        refine pure_ (i := 11) (N := some 31) (v := ?_) (a' := ?_) #[true, true, true, true, true, true, true, true, true, true, true, true, false, false, false, false] rfl rfl (any_of HT_.out (by kernel_rfl)) (fun _ _ _ h => h) (Or.inl ⟨by rfl, ?_⟩) ?_ ?_
                        rotate_left
                        · intro w'
                          go_simp
                          first | with_reducible rfl | struct_eq
                        rotate_left
                        · simp only [Act.put, List.setIfInBounds_toArray, List.set_cons_zero, List.set_cons_succ, i64_w, i32_w]
                          rfl
                        refine pure_ (i := 12) (N := some 43) (v := ?_) (a' := ?_) #[true, true, true, true, true, true, true, true, true, true, true, true, true, false, false, false] rfl rfl (any_of HT_.out (by kernel_rfl)) (fun _ _ _ h => h) (Or.inl ⟨by rfl, ?_⟩) ?_ ?_
                        rotate_left
                        · intro w'
                          go_simp
                          first | with_reducible rfl | struct_eq
                        rotate_left
                        · simp only [Act.put, List.setIfInBounds_toArray, List.set_cons_zero, List.set_cons_succ, i64_w, i32_w]
                          rfl
                        refine pure_ (i := 13) (N := some 44) (v := ?_) (a' := ?_) #[true, true, true, true, true, true, true, true, true, true, true, true, true, true, false, false] rfl rfl (any_of HT_.out (by kernel_rfl)) (fun _ _ _ h => h) (Or.inl ⟨by rfl, ?_⟩) ?_ ?_
                        rotate_left
                        · intro w'
                          go_simp
                          first | with_reducible rfl | struct_eq
                        rotate_left
                        · simp only [Act.put, List.setIfInBounds_toArray, List.set_cons_zero, List.set_cons_succ, i64_w, i32_w]
                          rfl
                        refine pure_ (i := 14) (N := some 9) (v := ?_) (a' := ?_) #[true, true, true, true, true, true, true, true, true, true, true, true, true, true, true, false] rfl rfl (any_of HT_.out (by kernel_rfl)) (fun _ _ _ h => h) (Or.inl ⟨by rfl, ?_⟩) ?_ ?_
                        rotate_left
                        · intro w'
                          go_simp
                          first | with_reducible rfl | struct_eq
                        rotate_left
                        · simp only [Act.put, List.setIfInBounds_toArray, List.set_cons_zero, List.set_cons_succ, i64_w, i32_w]
                          rfl
                        refine pure_ (i := 15) (N := some 10) (v := ?_) (a' := ?_) #[true, true, true, true, true, true, true, true, true, true, true, true, true, true, true, true] rfl rfl (any_of HT_.out (by kernel_rfl)) (fun _ _ _ h => h) (Or.inl ⟨by rfl, ?_⟩) ?_ ?_
                        rotate_left
                        · intro w'
                          go_simp
                          first | with_reducible rfl | struct_eq
                        rotate_left
                        · simp only [Act.put, List.setIfInBounds_toArray, List.set_cons_zero, List.set_cons_succ, i64_w, i32_w]
                          rfl
                        refine done_ (done_of HT_.out (by kernel_rfl)) ?_
                        try go_wp2
                        have n0_ := Aside0.mk (Kd.R_drew HO168.out)
                        have n1_ := Aside0.mk (Kd.R_drew HO175.out)
                        have n2_ := Aside0.mk (Kd.R_drew HO178.out)
                        have n3_ := Aside0.mk (Kd.R_drew HO181.out)
                        have n4_ := Aside0.mk (Kd.R_drew HO185.out)
                        have n5_ := Aside0.mk (blk_drew BK161.out)
                        have n6_ := Aside0.mk (below_drew1 HB.out)
                        clear HO168
                        clear HO175
                        clear HO178
                        clear HO181
                        clear HO185
                        clear BK161
                        clear HB
                        have HO168 := n0_
                        have HO175 := n1_
                        have HO178 := n2_
                        have HO181 := n3_
                        have HO185 := n4_
                        have BK161 := n5_
                        have HB := n6_
                        clear n0_ n1_ n2_ n3_ n4_ n5_ n6_
                        obtain ⟨Ao45, co45, eo45⟩ := Kd.R_slice HO185.out
                        (first | subst eo45 | (injection eo45 with f1_ f2_ f3_; have f4_ := f1_.symm; have f5_ := f3_.symm; clear f1_ f2_ f3_; subst f4_; subst f5_))
                        have p186 : 0 ≤ (0 : Int) := (by omega)
                        have q186 : 0 < (t182.length : Int) := of_decide_eq_true (by first | (with_reducible assumption) | assumption)
                        obtain ⟨ad186, e186, hx186_0, hx186_1, hx186_2, hx186_3, hx186_4, hx186_5, hx186_6⟩ := at_T23 (Kd.R_reads' HO185.out).2.2 0 p186 q186
                        cases e186
                        have qi186 : (0 < t182.length) = True := eq_true (by omega)
                        (try rw [show ((0 : Int)).toNat = 0 from rfl] at hx186_0)
                        (try rw [show 0 * 7 = 0 from rfl] at hx186_0)
                        (try rw [Addr.add_zero'] at hx186_0)
                        (try rw [show ((0 : Int)).toNat = 0 from rfl] at hx186_1)
                        (try rw [show 0 * 7 = 0 from rfl] at hx186_1)
                        (try rw [Addr.add_zero'] at hx186_1)
                        (try rw [show ((0 : Int)).toNat = 0 from rfl] at hx186_2)
                        (try rw [show 0 * 7 = 0 from rfl] at hx186_2)
                        (try rw [Addr.add_zero'] at hx186_2)
                        (try rw [show ((0 : Int)).toNat = 0 from rfl] at hx186_3)
                        (try rw [show 0 * 7 = 0 from rfl] at hx186_3)
                        (try rw [Addr.add_zero'] at hx186_3)
                        (try rw [show ((0 : Int)).toNat = 0 from rfl] at hx186_4)
                        (try rw [show 0 * 7 = 0 from rfl] at hx186_4)
                        (try rw [Addr.add_zero'] at hx186_4)
                        (try rw [show ((0 : Int)).toNat = 0 from rfl] at hx186_5)
                        (try rw [show 0 * 7 = 0 from rfl] at hx186_5)
                        (try rw [Addr.add_zero'] at hx186_5)
                        (try rw [show ((0 : Int)).toNat = 0 from rfl] at hx186_6)
                        (try rw [show 0 * 7 = 0 from rfl] at hx186_6)
                        (try rw [Addr.add_zero'] at hx186_6)
                        replace p186 := eq_true p186
                        replace q186 := eq_true q186
                        refine start_ (n := 17) (S := fun w' => w'.cell? ⟨gb161, 0, none⟩ = some (.int .i32 a2_0) ∧ w'.cell? ⟨gb161, 1, none⟩ = some (.int .i32 a2_1) ∧ w'.cell? ⟨gb161, 2, none⟩ = some (.int .i32 a2_2) ∧ w'.cell? ⟨gb161, 3, none⟩ = some (.int .u8 a2_3) ∧ w'.cell? ⟨gb161, 4, none⟩ = some (.int .u8 a2_4) ∧ w'.cell? ⟨gb161, 5, none⟩ = some (.int .u8 a2_5) ∧ w'.cell? ⟨gb161, 6, none⟩ = some (.bool true) ∧ w'.cell? ad186 = some (.int .i32 ((rd_T23 t182 0).f0)) ∧ w'.cell? ⟨ad186.block, ad186.off + 1, none⟩ = some (.int .i32 ((rd_T23 t182 0).f1)) ∧ w'.cell? ⟨ad186.block, ad186.off + 2, none⟩ = some (.int .i32 ((rd_T23 t182 0).f2)) ∧ w'.cell? ⟨ad186.block, ad186.off + 3, none⟩ = some (.int .u8 ((rd_T23 t182 0).f3)) ∧ w'.cell? ⟨ad186.block, ad186.off + 4, none⟩ = some (.int .u8 ((rd_T23 t182 0).f4)) ∧ w'.cell? ⟨ad186.block, ad186.off + 5, none⟩ = some (.int .u8 ((rd_T23 t182 0).f5)) ∧ w'.cell? ⟨ad186.block, ad186.off + 6, none⟩ = some (.bool ((rd_T23 t182 0).f6))) (ds := []) #[false, false, false, false, false, false, false, false, false, false, false, false, false, false, false, false, false] (by kernel_rfl) rfl rfl ⟨(blk_cell BK161.out 0).trans rfl, (blk_cell BK161.out 1).trans rfl, (blk_cell BK161.out 2).trans rfl, (blk_cell BK161.out 3).trans rfl, (blk_cell BK161.out 4).trans rfl, (blk_cell BK161.out 5).trans rfl, (blk_cell BK161.out 6).trans rfl, hx186_0, hx186_1, hx186_2, hx186_3, hx186_4, hx186_5, hx186_6⟩ (fun hHeld => ?_); refine with_tabW laws_FnStyleOwn.tab10 laws_FnStyleOwn.bits10 (fun HT_ HW_ => ?_)
                        generalize w43.drew = w44 at HO168 HO175 HO178 HO181 HO185 BK161 HB hx186_0 hx186_1 hx186_2 hx186_3 hx186_4 hx186_5 hx186_6 hHeld ⊢
                        refine pure_ (i := 0) (N := some 45) (v := ?_) (a' := ?_) #[true, false, false, false, false, false, false, false, false, false, false, false, false, false, false, false, false] rfl rfl (any_of HT_.out (by kernel_rfl)) (fun _ _ _ h => h) (Or.inl ⟨by rfl, ?_⟩) ?_ ?_
                        rotate_left
                        · intro w'
                          go_simp
                          first | with_reducible rfl | struct_eq
                        rotate_left
                        · simp only [Act.put, List.setIfInBounds_toArray, List.set_cons_zero, List.set_cons_succ, i64_w, i32_w]
                          rfl
                        refine pure_ (i := 1) (N := some 46) (v := ?_) (a' := ?_) #[true, true, false, false, false, false, false, false, false, false, false, false, false, false, false, false, false] rfl rfl (any_of HT_.out (by kernel_rfl)) (fun _ _ _ h => h) (Or.inl ⟨by rfl, ?_⟩) ?_ ?_
                        rotate_left
                        · intro w'
                          go_simp
                          first | with_reducible rfl | struct_eq
                        rotate_left
                        · simp only [Act.put, List.setIfInBounds_toArray, List.set_cons_zero, List.set_cons_succ, i64_w, i32_w]
                          rfl
                        refine pure_ (i := 2) (N := some 47) (v := ?_) (a' := ?_) #[true, true, true, false, false, false, false, false, false, false, false, false, false, false, false, false, false] rfl rfl (any_of HT_.out (by kernel_rfl)) (fun _ _ _ h => h) (Or.inl ⟨by rfl, ?_⟩) ?_ ?_
                        rotate_left
                        · intro w'
                          go_simp
                          first | with_reducible rfl | struct_eq
                        rotate_left
                        · simp only [Act.put, List.setIfInBounds_toArray, List.set_cons_zero, List.set_cons_succ, i64_w, i32_w]
                          rfl
                        refine pure_ (i := 3) (N := some 48) (v := ?_) (a' := ?_) #[true, true, true, true, false, false, false, false, false, false, false, false, false, false, false, false, false] rfl rfl (any_of HT_.out (by kernel_rfl)) (fun _ _ _ h => h) (Or.inl ⟨by rfl, ?_⟩) ?_ ?_
                        rotate_left
                        · intro w'
                          go_simp
                          first | with_reducible rfl | struct_eq
                        rotate_left
                        · simp only [Act.put, List.setIfInBounds_toArray, List.set_cons_zero, List.set_cons_succ, i64_w, i32_w]
                          rfl
                        refine pure_ (i := 4) (N := some 49) (v := ?_) (a' := ?_) #[true, true, true, true, true, false, false, false, false, false, false, false, false, false, false, false, false] rfl rfl (any_of HT_.out (by kernel_rfl)) (fun _ _ _ h => h) (Or.inl ⟨by rfl, ?_⟩) ?_ ?_
                        rotate_left
                        · intro w'
                          go_simp
                          first | with_reducible rfl | struct_eq
                        rotate_left
                        · simp only [Act.put, List.setIfInBounds_toArray, List.set_cons_zero, List.set_cons_succ, i64_w, i32_w]
                          rfl
                        refine pure_ (i := 5) (N := some 50) (v := ?_) (a' := ?_) #[true, true, true, true, true, true, false, false, false, false, false, false, false, false, false, false, false] rfl rfl (any_of HT_.out (by kernel_rfl)) (fun _ _ _ h => h) (Or.inl ⟨by rfl, ?_⟩) ?_ ?_
                        rotate_left
                        · intro w'
                          go_simp
                          first | with_reducible rfl | struct_eq
                        rotate_left
                        · simp only [Act.put, List.setIfInBounds_toArray, List.set_cons_zero, List.set_cons_succ, i64_w, i32_w]
                          rfl
                        refine pure_ (i := 6) (N := some 51) (v := ?_) (a' := ?_) #[true, true, true, true, true, true, true, false, false, false, false, false, false, false, false, false, false] rfl rfl (any_of HT_.out (by kernel_rfl)) (fun _ _ _ h => h) (Or.inl ⟨by rfl, ?_⟩) ?_ ?_
                        rotate_left
                        · intro w'
                          go_simp
                          first | with_reducible rfl | struct_eq
                        rotate_left
                        · simp only [Act.put, List.setIfInBounds_toArray, List.set_cons_zero, List.set_cons_succ, i64_w, i32_w]
                          rfl
                        refine pure_ (i := 7) (N := some 52) (v := ?_) (a' := ?_) #[true, true, true, true, true, true, true, true, false, false, false, false, false, false, false, false, false] rfl rfl (any_of HT_.out (by kernel_rfl)) (fun _ _ _ h => h) (Or.inl ⟨by rfl, ?_⟩) ?_ ?_
                        rotate_left
                        · intro w'
                          go_simp
                          first | with_reducible rfl | struct_eq
                        rotate_left
                        · simp only [Act.put, List.setIfInBounds_toArray, List.set_cons_zero, List.set_cons_succ, i64_w, i32_w]
                          rfl
                        refine pure_ (i := 8) (N := some 53) (v := ?_) (a' := ?_) #[true, true, true, true, true, true, true, true, true, false, false, false, false, false, false, false, false] rfl rfl (any_of HT_.out (by kernel_rfl)) (fun _ _ _ h => h) (Or.inl ⟨by rfl, ?_⟩) ?_ ?_
                        rotate_left
                        · intro w'
                          go_simp
                          first | with_reducible rfl | struct_eq
                        rotate_left
                        · simp only [Act.put, List.setIfInBounds_toArray, List.set_cons_zero, List.set_cons_succ, i64_w, i32_w]
                          rfl
                        refine take_ (i := 9) (N := some 54) (v := ?_) (a' := ?_) #[true, true, true, true, true, true, true, true, true, true, false, false, false, false, false, false, false] rfl rfl (take_ofW HT_.out HW_.out (by kernel_rfl)) (fun _ _ _ h => h) (Or.inl ⟨by rfl, ?_⟩) hHeld ?_ ?_
                        rotate_left
                        · rintro w' ⟨s0, s1, s2, s3, s4, s5, s6, s7, s8, s9, s10, s11, s12, s13⟩
                          go_simp
                          first | with_reducible rfl | struct_eq
                        rotate_left
                        · simp only [Act.put, List.setIfInBounds_toArray, List.set_cons_zero, List.set_cons_succ, i64_w, i32_w]
                          rfl
                        refine take_ (i := 10) (N := some 55) (v := ?_) (a' := ?_) #[true, true, true, true, true, true, true, true, true, true, true, false, false, false, false, false, false] rfl rfl (take_ofW HT_.out HW_.out (by kernel_rfl)) (fun _ _ _ h => h) (Or.inl ⟨by rfl, ?_⟩) hHeld ?_ ?_
                        rotate_left
                        · rintro w' ⟨s0, s1, s2, s3, s4, s5, s6, s7, s8, s9, s10, s11, s12, s13⟩
                          go_simp
                          first | with_reducible rfl | struct_eq
                        rotate_left
                        · simp only [Act.put, List.setIfInBounds_toArray, List.set_cons_zero, List.set_cons_succ, i64_w, i32_w]
                          rfl
                        refine pure_ (i := 11) (N := some 56) (v := ?_) (a' := ?_) #[true, true, true, true, true, true, true, true, true, true, true, true, false, false, false, false, false] rfl rfl (any_of HT_.out (by kernel_rfl)) (fun _ _ _ h => h) (Or.inl ⟨by rfl, ?_⟩) ?_ ?_
                        rotate_left
                        · intro w'
                          go_simp
                          first | with_reducible rfl | struct_eq
                        rotate_left
                        · simp only [Act.put, List.setIfInBounds_toArray, List.set_cons_zero, List.set_cons_succ, i64_w, i32_w]
                          rfl
                        refine pure_ (i := 12) (N := some 57) (v := ?_) (a' := ?_) #[true, true, true, true, true, true, true, true, true, true, true, true, true, false, false, false, false] rfl rfl (any_of HT_.out (by kernel_rfl)) (fun _ _ _ h => h) (Or.inl ⟨by rfl, ?_⟩) ?_ ?_
                        rotate_left
                        · intro w'
                          go_simp
                          first | with_reducible rfl | struct_eq
                        rotate_left
                        · simp only [Act.put, List.setIfInBounds_toArray, List.set_cons_zero, List.set_cons_succ, i64_w, i32_w]
                          rfl
                        refine pure_ (i := 13) (N := some 58) (v := ?_) (a' := ?_) #[true, true, true, true, true, true, true, true, true, true, true, true, true, true, false, false, false] rfl rfl (any_of HT_.out (by kernel_rfl)) (fun _ _ _ h => h) (Or.inl ⟨by rfl, ?_⟩) ?_ ?_
                        rotate_left
                        · intro w'
                          go_simp
                          first | with_reducible rfl | struct_eq
                        rotate_left
                        · simp only [Act.put, List.setIfInBounds_toArray, List.set_cons_zero, List.set_cons_succ, i64_w, i32_w]
                          rfl
                        refine one_ (i := 14) (N := some 59) #[true, true, true, true, true, true, true, true, true, true, true, true, true, true, true, false, false] rfl rfl (one_of HT_.out (by kernel_rfl)) (by decide) (fun K hK => ?_)
                        refine goes_ Tryd.func13 (by kernel_rfl) rfl #[] (by first | rfl | (refine wanted_on rfl rfl rfl ?_; assumption)) rfl rfl (by (try simp only [List.map_toArray, List.map_cons, List.map_nil]); first | done | rfl | (simp only [List.length_drop, List.length_take]; rfl)) ?_
                        with_reducible refine (laws_styled.calls  t187 _ ?side1 A27.out).mono ?_
                        (case side1 => exact Go.Proofs.YtifhhejohdmiaaaDoorFmt.VarsOK.below HV.out (by repeat (first | (with_reducible first | exact HB.out | apply below_alloc | apply pw_below_drewN | apply below_drew1 | refine below_set ?_ GE161.out) | exact HB.out)))
                        rintro e w46 ⟨rfl, hb⟩
                        have HS7_ := (hb.cell (World.block_lt_of_cell? _ _ (hHeld.2.2.2.2.2.2.2.1))).trans (hHeld.2.2.2.2.2.2.2.1)
                        have HS8_ := (hb.cell (World.block_lt_of_cell? _ _ (hHeld.2.2.2.2.2.2.2.2.1))).trans (hHeld.2.2.2.2.2.2.2.2.1)
                        have HS9_ := (hb.cell (World.block_lt_of_cell? _ _ (hHeld.2.2.2.2.2.2.2.2.2.1))).trans (hHeld.2.2.2.2.2.2.2.2.2.1)
                        have HS10_ := (hb.cell (World.block_lt_of_cell? _ _ (hHeld.2.2.2.2.2.2.2.2.2.2.1))).trans (hHeld.2.2.2.2.2.2.2.2.2.2.1)
                        have HS11_ := (hb.cell (World.block_lt_of_cell? _ _ (hHeld.2.2.2.2.2.2.2.2.2.2.2.1))).trans (hHeld.2.2.2.2.2.2.2.2.2.2.2.1)
                        have HS12_ := (hb.cell (World.block_lt_of_cell? _ _ (hHeld.2.2.2.2.2.2.2.2.2.2.2.2.1))).trans (hHeld.2.2.2.2.2.2.2.2.2.2.2.2.1)
                        have HS13_ := (hb.cell (World.block_lt_of_cell? _ _ (hHeld.2.2.2.2.2.2.2.2.2.2.2.2.2))).trans (hHeld.2.2.2.2.2.2.2.2.2.2.2.2.2)
                        refine ⟨_, rfl, ?_⟩
                        have n0_ := Aside0.mk (Kd.R_below (by (with_reducible repeat (first | apply Kd.R_alloc | apply Kd.R_drewN | apply Kd.R_drew)); exact HO168.out) hb)
                        have n1_ := Aside0.mk (Kd.R_below (by (with_reducible repeat (first | apply Kd.R_alloc | apply Kd.R_drewN | apply Kd.R_drew)); exact HO175.out) hb)
                        have n2_ := Aside0.mk (Kd.R_below (by (with_reducible repeat (first | apply Kd.R_alloc | apply Kd.R_drewN | apply Kd.R_drew)); exact HO178.out) hb)
                        have n3_ := Aside0.mk (Kd.R_below (by (with_reducible repeat (first | apply Kd.R_alloc | apply Kd.R_drewN | apply Kd.R_drew)); exact HO181.out) hb)
                        have n4_ := Aside0.mk (Kd.R_below (by (with_reducible repeat (first | apply Kd.R_alloc | apply Kd.R_drewN | apply Kd.R_drew)); exact HO185.out) hb)
                        have n5_ := Aside0.mk (blk_below (g := gb161) (o := .cells #[.int .i32 a2_0, .int .i32 a2_1, .int .i32 a2_2, .int .u8 a2_3, .int .u8 a2_4, .int .u8 a2_5, .bool true] 23 (0, 0)) (by (with_reducible repeat (first | refine blk_drewN ?_ _ | refine blk_drew ?_ | refine blk_alloc ?_ _)); exact BK161.out) hb)
                        have n6_ := Aside0.mk (below_step (by repeat (first | (with_reducible first | exact HB.out | apply below_alloc | apply pw_below_drewN | apply below_drew1 | refine below_set ?_ GE161.out) | exact HB.out)) hb)
                        clear HO168
                        clear HO175
                        clear HO178
                        clear HO181
                        clear HO185
                        clear BK161
                        clear HB
                        have HO168 := n0_
                        have HO175 := n1_
                        have HO178 := n2_
                        have HO181 := n3_
                        have HO185 := n4_
                        have BK161 := n5_
                        have HB := n6_
                        clear n0_ n1_ n2_ n3_ n4_ n5_ n6_
                        (try clear hb)
                        (try clear hb2)
                        (try clear hk)
                        (try clear hi)
                        refine hK.out _ _ ⟨(blk_cell BK161.out 0).trans rfl, (blk_cell BK161.out 1).trans rfl, (blk_cell BK161.out 2).trans rfl, (blk_cell BK161.out 3).trans rfl, (blk_cell BK161.out 4).trans rfl, (blk_cell BK161.out 5).trans rfl, (blk_cell BK161.out 6).trans rfl, HS7_, HS8_, HS9_, HS10_, HS11_, HS12_, HS13_⟩ (fun hHeld => ?_)
                        clear hK K
                        refine norm_ (a' := ?_) ?_ ?_
                        rotate_left
                        · show Act.put _ (some 59) _ = _
                          simp only [Act.put, List.setIfInBounds_toArray, List.set_cons_zero, List.set_cons_succ, i64_w, i32_w]
                          rfl
                        refine pure_ (i := 15) (N := some 60) (v := ?_) (a' := ?_) #[true, true, true, true, true, true, true, true, true, true, true, true, true, true, true, true, false] rfl rfl (any_of HT_.out (by kernel_rfl)) (fun _ _ _ h => h) (Or.inl ⟨by rfl, ?_⟩) ?_ ?_
                        rotate_left
                        · intro w'
                          go_simp
                          first | with_reducible rfl | struct_eq
                        rotate_left
                        · simp only [Act.put, List.setIfInBounds_toArray, List.set_cons_zero, List.set_cons_succ, i64_w, i32_w]
                          rfl
                        refine pure_ (i := 16) (N := some 6) (v := ?_) (a' := ?_) #[true, true, true, true, true, true, true, true, true, true, true, true, true, true, true, true, true] rfl rfl (any_of HT_.out (by kernel_rfl)) (fun _ _ _ h => h) (Or.inl ⟨by rfl, ?_⟩) ?_ ?_
                        rotate_left
                        · intro w'
                          go_simp
                          first | with_reducible rfl | struct_eq
                        rotate_left
                        · simp only [Act.put, List.setIfInBounds_toArray, List.set_cons_zero, List.set_cons_succ, i64_w, i32_w]
                          rfl
                        refine done_ (done_of HT_.out (by kernel_rfl)) ?_
                        try go_wp2
                        go_ret
                        exact ⟨by first | rfl | (simp [errW_none, errW_some] <;> rfl) | (simp [*, errW_none, errW_some] <;> rfl), by repeat (first | (with_reducible first | exact HB.out | apply below_alloc | apply pw_below_drewN | apply below_drew1 | refine below_set ?_ GE161.out) | exact HB.out)⟩
                      · rw [if_neg c26] at H
                        have c26b0 : (((rd_T23 t182 0).f0) == a2_0 && (((rd_T23 t182 0).f1) == a2_1 && (((rd_T23 t182 0).f2) == a2_2 && (((rd_T23 t182 0).f3) == a2_3 && (((rd_T23 t182 0).f4) == a2_4 && (((rd_T23 t182 0).f5) == a2_5 && (((rd_T23 t182 0).f6)))))))) = false := by simpa using c26
                        (try (have c26b1 : decide (((rd_T23 t182 0).f0) = a2_0 && (((rd_T23 t182 0).f1) == a2_1 && (((rd_T23 t182 0).f2) == a2_2 && (((rd_T23 t182 0).f3) == a2_3 && (((rd_T23 t182 0).f4) == a2_4 && (((rd_T23 t182 0).f5) == a2_5 && (((rd_T23 t182 0).f6)))))))) = false := by simpa using c26))
                        (try (have c26b2 : (((rd_T23 t182 0).f0) == a2_0 && (((rd_T23 t182 0).f1) == a2_1 && (((rd_T23 t182 0).f2) == a2_2 && (((rd_T23 t182 0).f3) == a2_3 && (((rd_T23 t182 0).f4) == a2_4 && (((rd_T23 t182 0).f5) == a2_5 && (((rd_T23 t182 0).f6)))))))) = false := by simpa using c26))
                        (try (have c26b3 : ¬ (((rd_T23 t182 0).f0) = a2_0 && (((rd_T23 t182 0).f1) == a2_1 && (((rd_T23 t182 0).f2) == a2_2 && (((rd_T23 t182 0).f3) == a2_3 && (((rd_T23 t182 0).f4) == a2_4 && (((rd_T23 t182 0).f5) == a2_5 && (((rd_T23 t182 0).f6)))))))) := by simpa using c26))
                        clear c26
                        exact absurd ((Option.some.inj H).trans hrT.out) (by decide)
                    · rw [if_neg c25] at H
                      exact absurd H (by simp)
                  · rw [if_neg c24] at H
                    have c24b0 : ((t182.length : Int) == 1) = false := beq_eq_false_iff_ne.mpr c24
                    have c24b1 : ((t182.length : Int) != 1) = true := bne_iff_ne.mpr c24
                    exact absurd ((Option.some.inj H).trans hrT.out) (by decide)
                · replace c23 := Bool.eq_false_iff.mpr c23
                  subst c23
                  have H1 : (some false) = some r := by rw [if_neg (show ¬ (false = true) by decide)] at H; exact H
                  clear H
                  have H := H1
                  clear H1
                  exact absurd ((Option.some.inj H).trans hrT.out) (by decide)
              · rw [if_neg c21] at H
                exact absurd H (by simp)
            · rw [if_neg c19] at H
              exact absurd H (by simp)
          · replace c18 := Bool.eq_false_iff.mpr c18
            subst c18
            have H1 : ((laws_styled.f).bind fun t188 => (some t188)) = some r := by rw [if_neg (show ¬ (false = true) by decide)] at H; exact H
            clear H
            have H := H1
            clear H1
            replace H := Option.bind_eq_some_iff.mp H
            obtain ⟨t188, A470, H⟩ := H
            replace H : (some t188) = some r := H
            have A47 := Aside0.mk A470
            clear A470
            obtain rfl := Option.some.inj H
            go_wp2_with (first | ((with_reducible refine gate_callee (f := 26) rfl ?_); refine goesL_ (some 24) rfl rfl Tryd.func26 (by kernel_rfl) rfl #[.slice A0 l0.length c0, .slice none 0 0] rfl (by (try simp only [List.map_toArray, List.map_cons, List.map_nil]); first | done | rfl | (simp only [List.length_drop, List.length_take]; rfl)) ?_; (refine (impl_StyleGet.calls _ _ l0 _ _ ([] : List Int) t165 false _ ?side1 ?side2 ?side3 ?side4 ?side5 A17.out).mono ?_); (case side1 => repeat (first | exact (Kd.C_below HR0.out HB.out) | (with_reducible refine Kd.C_alloc ?_ _) | (with_reducible refine Kd.C_drewN ?_ _) | (with_reducible refine Kd.C_drew ?_))); (case side2 => exact HC0.out); (case side3 => exact Kd.C_nil _ _); (case side4 => exact Nat.le_refl _); (case side5 => exact Go.Proofs.YtifhhejohdmiaaaDoorFmt.VarsOK.below HV.out (by repeat (first | (with_reducible first | exact HB.out | apply below_alloc | apply pw_below_drewN | apply below_drew1 | refine below_set ?_ GE161.out) | exact HB.out))); rintro e w48 ⟨v167, rfl, ho0, hb⟩; refine ⟨_, rfl, ?_⟩; have n0_ := Aside0.mk (Kd.R_lower (Kd.R_newB ho0 (g := gb161) (o := .cells #[.int .i32 a2_0, .int .i32 a2_1, .int .i32 a2_2, .int .u8 a2_3, .int .u8 a2_4, .int .u8 a2_5, .bool a2_6] 23 (0, 0)) (by (with_reducible repeat (first | refine blk_drewN ?_ _ | refine blk_drew ?_ | refine blk_alloc ?_ _)); exact BK161.out)) (below_size (by repeat (first | (with_reducible first | exact HB.out | apply below_alloc | apply pw_below_drewN | apply below_drew1 | refine below_set ?_ GE161.out) | exact HB.out)))); have n1_ := Aside0.mk (blk_below (g := gb161) (o := .cells #[.int .i32 a2_0, .int .i32 a2_1, .int .i32 a2_2, .int .u8 a2_3, .int .u8 a2_4, .int .u8 a2_5, .bool a2_6] 23 (0, 0)) (by (with_reducible repeat (first | refine blk_drewN ?_ _ | refine blk_drew ?_ | refine blk_alloc ?_ _)); exact BK161.out) hb); have n2_ := Aside0.mk (below_step (by repeat (first | (with_reducible first | exact HB.out | apply below_alloc | apply pw_below_drewN | apply below_drew1 | refine below_set ?_ GE161.out) | exact HB.out)) hb); clear BK161; clear HB; have HO168 := n0_; have BK161 := n1_; have HB := n2_; clear n0_ n1_ n2_; (try clear hb); (try clear hb2); (try clear hk); (try clear hi); (try clear ho0)) | ((with_reducible refine gate_callee (f := 13) rfl ?_); refine goesL_ (some 29) rfl rfl Tryd.func13 (by kernel_rfl) rfl #[] rfl (by (try simp only [List.map_toArray, List.map_cons, List.map_nil]); first | done | rfl | (simp only [List.length_drop, List.length_take]; rfl)) ?_; (with_reducible refine (laws_styled.calls  t188 _ ?side1 A47.out).mono ?_); (case side1 => exact Go.Proofs.YtifhhejohdmiaaaDoorFmt.VarsOK.below HV.out (by repeat (first | (with_reducible first | exact HB.out | apply below_alloc | apply pw_below_drewN | apply below_drew1 | refine below_set ?_ GE161.out) | exact HB.out))); rintro e w49 ⟨rfl, hb⟩; refine ⟨_, rfl, ?_⟩; have n0_ := Aside0.mk (Kd.R_below (by (with_reducible repeat (first | apply Kd.R_alloc | apply Kd.R_drewN | apply Kd.R_drew)); exact HO168.out) hb); have n1_ := Aside0.mk (blk_below (g := gb161) (o := .cells #[.int .i32 a2_0, .int .i32 a2_1, .int .i32 a2_2, .int .u8 a2_3, .int .u8 a2_4, .int .u8 a2_5, .bool a2_6] 23 (0, 0)) (by (with_reducible repeat (first | refine blk_drewN ?_ _ | refine blk_drew ?_ | refine blk_alloc ?_ _)); exact BK161.out) hb); have n2_ := Aside0.mk (below_step (by repeat (first | (with_reducible first | exact HB.out | apply below_alloc | apply pw_below_drewN | apply below_drew1 | refine below_set ?_ GE161.out) | exact HB.out)) hb); clear HO168; clear BK161; clear HB; have HO168 := n0_; have BK161 := n1_; have HB := n2_; clear n0_ n1_ n2_; (try clear hb); (try clear hb2); (try clear hk); (try clear hi)))
            go_ret
            exact ⟨by first | rfl | (simp [errW_none, errW_some] <;> rfl) | (simp [*, errW_none, errW_some] <;> rfl), by repeat (first | (with_reducible first | exact HB.out | apply below_alloc | apply pw_below_drewN | apply below_drew1 | refine below_set ?_ GE161.out) | exact HB.out)⟩
  · replace c5 := Bool.eq_false_iff.mpr c5
    subst c5
    have H1 : (some true) = some r := by rw [if_neg (show ¬ (false = true) by decide)] at H; exact H
    clear H
    have H := H1
    clear H1
    obtain rfl := Option.some.inj H
    go_enter Tryd.func11, Tryd.ntmps11
    go_wp2_with (first | ((with_reducible refine gate_dst (N := 5) rfl ?_); (try (refine gate_guard (by rfl) ?_; dsimp only)); refine box_event ?hg (N := 5) ?hd (cs := #[.int .i32 a2_0, .int .i32 a2_1, .int .i32 a2_2, .int .u8 a2_3, .int .u8 a2_4, .int .u8 a2_5, .bool a2_6]) (t := 23) ?hr ?_; (case hd => rfl); (case hg => rfl); (case hr => first | (go_simp; done) | (go_simp; rfl)); intro gb161 hg w50 hbox hb; have n0_ := Aside0.mk (below_step (by repeat (first | (with_reducible first | exact HB.out | apply below_alloc | apply pw_below_drewN | apply below_drew1) | exact HB.out)) hb); have n1_ := Aside0.mk (hbox); have n2_ := Aside0.mk ((by rw [hg]; exact (below_size (by repeat (first | (with_reducible first | exact HB.out | apply below_alloc | apply pw_below_drewN | apply below_drew1) | exact HB.out))) : w.heap.size ≤ gb161)); have n3_ := Aside0.mk ((by rw [hg]; exact (below_size (by repeat (first | (with_reducible first | exact HB.out | apply below_alloc | apply pw_below_drewN | apply below_drew1) | exact HB.out))) : w.heap.size ≤ gb161)); clear HB; have HB := n0_; have BK161 := n1_; have GW161 := n2_; have GE161 := n3_; clear n0_ n1_ n2_ n3_; clear hb hbox hg) | ((with_reducible refine gate_callee (f := 24) rfl ?_); refine goesL_ (some 12) rfl rfl Tryd.func24 (by kernel_rfl) rfl #[.slice A0 l0.length c0] rfl (by (try simp only [List.map_toArray, List.map_cons, List.map_nil]); first | done | rfl | (simp only [List.length_drop, List.length_take]; rfl)) ?_; (with_reducible refine (laws_zzFits2.calls k _ _ l0 false _ ?side1 ?side2 A4.out).mono ?_); (case side1 => repeat (first | exact (Kd.C_below HR0.out HB.out) | (with_reducible refine Kd.C_alloc ?_ _) | (with_reducible refine Kd.C_drewN ?_ _) | (with_reducible refine Kd.C_drew ?_))); (case side2 => exact HC0.out); rintro e w51 ⟨rfl, hb⟩; refine ⟨_, rfl, ?_⟩; have n0_ := Aside0.mk (blk_below (g := gb161) (o := .cells #[.int .i32 a2_0, .int .i32 a2_1, .int .i32 a2_2, .int .u8 a2_3, .int .u8 a2_4, .int .u8 a2_5, .bool a2_6] 23 (0, 0)) (by (with_reducible repeat (first | refine blk_drewN ?_ _ | refine blk_drew ?_ | refine blk_alloc ?_ _)); exact BK161.out) hb); have n1_ := Aside0.mk (below_step (by repeat (first | (with_reducible first | exact HB.out | apply below_alloc | apply pw_below_drewN | apply below_drew1 | refine below_set ?_ GE161.out) | exact HB.out)) hb); clear BK161; clear HB; have BK161 := n0_; have HB := n1_; clear n0_ n1_; (try clear hb); (try clear hb2); (try clear hk); (try clear hi)))
    go_ret
    exact ⟨by first | rfl | (simp [errW_none, errW_some] <;> rfl) | (simp [*, errW_none, errW_some] <;> rfl), by repeat (first | (with_reducible first | exact HB.out | apply below_alloc | apply pw_below_drewN | apply below_drew1 | refine below_set ?_ GE161.out) | exact HB.out)⟩
def wf_S49 (x : S49) : Prop := (IntKind.i64.min ≤ x.f0 ∧ x.f0 ≤ IntKind.i64.max) ∧ (x.f1.size ≤ maxLen)
def wf_S23 (x : S23) : Prop := (IntKind.i32.min ≤ x.f0 ∧ x.f0 ≤ IntKind.i32.max) ∧ (IntKind.i32.min ≤ x.f1 ∧ x.f1 ≤ IntKind.i32.max) ∧ (IntKind.i32.min ≤ x.f2 ∧ x.f2 ≤ IntKind.i32.max) ∧ (IntKind.u8.min ≤ x.f3 ∧ x.f3 ≤ IntKind.u8.max) ∧ (IntKind.u8.min ≤ x.f4 ∧ x.f4 ≤ IntKind.u8.max) ∧ (IntKind.u8.min ≤ x.f5 ∧ x.f5 ≤ IntKind.u8.max) ∧ (True)
def laws_FnStyleOwn.Pure : Prop := ∀ (l0 : List (S49)) (a1 : Int) (a2_0 : Int) (a2_1 : Int) (a2_2 : Int) (a2_3 : Int) (a2_4 : Int) (a2_5 : Int) (a2_6 : Bool), (l0.length ≤ 9223372036854775807 ∧ ∀ x ∈ l0, wf_S49 x) → (Lit.int .i64 a1).wf = true → wf_S23 (⟨a2_0, a2_1, a2_2, a2_3, a2_4, a2_5, a2_6⟩ : S23) → ∃ k, laws_FnStyleOwn.f k l0 a1 a2_0 a2_1 a2_2 a2_3 a2_4 a2_5 a2_6 = some true

end Go.Proofs.YtifhhejohdmiaaaDoor.G
