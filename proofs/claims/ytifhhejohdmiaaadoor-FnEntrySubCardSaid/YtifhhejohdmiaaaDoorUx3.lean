-- WRITTEN BY OUR myprint.py, a program of this session's over the kit's printer
import Derived.Test.YtifhhejohdmiaaaDoorUx0
import Derived.Test.YtifhhejohdmiaaaDoorUx1
import Derived.Test.YtifhhejohdmiaaaDoorUx2
namespace Go.Proofs.YtifhhejohdmiaaaDoor.U
open Go.RowKit Go.Proofs.YtifhhejohdmiaaaDoorW.PrintWords Go.Proofs.YtifhhejohdmiaaaDoorW.PrintLast Go.Proofs.YtifhhejohdmiaaaDoorW.PrintMore
attribute [local go_sem] max2_int min2_int max_two min_two max_three min_three max_four min_four   -- for this text's walks alone
set_option linter.unusedVariables false
set_option linter.unusedSimpArgs false

attribute [local go_sem high] eqA23
/-! ### laws_FnEntrySub: function 7 -/
def laws_FnEntrySub.j0 : Nat → Bool → Int → Int → Int → Int → Int → Int → Bool → Int → Int → Int → Int → Int → Int → Bool → Option (Bool)
  | 0, _, _, _, _, _, _, _, _, _, _, _, _, _, _, _ => none
  | k + 1, x14, x153000, x153001, x153002, x153003, x153004, x153005, x153006, x154000, x154001, x154002, x154003, x154004, x154005, x154006 => if x14 = true then (some true) else ((impl_EntrySub.f x153000 x153001 x153002 x153003 x153004 x153005 x153006 x154000 x154001 x154002 x154003 x154004 x154005 x154006).bind fun bt156 => ((impl_EntryInherit.f x153000 x153001 x153002 x153003 x153004 x153005 false (([(⟨x154000, x154001, x154002, x154003, x154004, x154005, x154006⟩ : S23)] : List (S23)))).bind fun bt167 => ((spec_EntrySub.f x153000 x153001 x153002 x153003 x153004 x153005 false x154000 x154001 x154002 x154003 x154004 x154005 x154006).bind fun bt175 => (if (bt156.1 == bt175.1 && (bt156.2.1 == bt175.2.1 && (bt156.2.2.1 == bt175.2.2.1 && (bt156.2.2.2.1 == bt175.2.2.2.1 && (bt156.2.2.2.2.1 == bt175.2.2.2.2.1 && (bt156.2.2.2.2.2.1 == bt175.2.2.2.2.2.1 && (bt156.2.2.2.2.2.2 == bt175.2.2.2.2.2.2))))))) = true then ((impl_EntrySub.f bt167.1 bt167.2.1 bt167.2.2.1 bt167.2.2.2.1 bt167.2.2.2.2.1 bt167.2.2.2.2.2.1 bt167.2.2.2.2.2.2 x154000 x154001 x154002 x154003 x154004 x154005 x154006).bind fun bt182 => ((impl_EntryInherit.f bt182.1 bt182.2.1 bt182.2.2.1 bt182.2.2.2.1 bt182.2.2.2.2.1 bt182.2.2.2.2.2.1 bt182.2.2.2.2.2.2 (([(⟨x154000, x154001, x154002, x154003, x154004, x154005, x154006⟩ : S23)] : List (S23)))).bind fun bt192 => (if (bt192.1 == bt167.1 && (bt192.2.1 == bt167.2.1 && (bt192.2.2.1 == bt167.2.2.1 && (bt192.2.2.2.1 == bt167.2.2.2.1 && (bt192.2.2.2.2.1 == bt167.2.2.2.2.1 && (bt192.2.2.2.2.2.1 == bt167.2.2.2.2.2.1 && (bt192.2.2.2.2.2.2 == bt167.2.2.2.2.2.2))))))) = true then ((impl_EntrySub.f x153000 x153001 x153002 x153003 x153004 x153005 false x153000 x153001 x153002 x153003 x153004 x153005 false).bind fun bt199 => ((impl_EntryIsZero.f bt199.1 bt199.2.1 bt199.2.2.1 bt199.2.2.2.1 bt199.2.2.2.2.1 bt199.2.2.2.2.2.1 bt199.2.2.2.2.2.2).bind fun t206 => (if t206 = true then ((laws_styled.f).bind fun t207 => (some t207)) else (some false)))) else (some false)))) else (some false)))))
def laws_FnEntrySub.f (k : Nat) (a0_0 : Int) (a0_1 : Int) (a0_2 : Int) (a0_3 : Int) (a0_4 : Int) (a0_5 : Int) (a0_6 : Bool) (a1_0 : Int) (a1_1 : Int) (a1_2 : Int) (a1_3 : Int) (a1_4 : Int) (a1_5 : Int) (a1_6 : Bool) : Option (Bool) := (laws_usual.f k a0_0 a0_1 a0_2 a0_3 a0_4 a0_5 a0_6).bind fun t154 => (if t154 = true then ((laws_usual.f k a1_0 a1_1 a1_2 a1_3 a1_4 a1_5 a1_6).bind fun t155 => (laws_FnEntrySub.j0 k (!t155) a0_0 a0_1 a0_2 a0_3 a0_4 a0_5 a0_6 a1_0 a1_1 a1_2 a1_3 a1_4 a1_5 a1_6)) else (laws_FnEntrySub.j0 k true a0_0 a0_1 a0_2 a0_3 a0_4 a0_5 a0_6 a1_0 a1_1 a1_2 a1_3 a1_4 a1_5 a1_6))
theorem laws_FnEntrySub.mono_l : ∀ k, (∀ y0 y1 y2 y3 y4 y5 y6 y7 y8 y9 y10 y11 y12 y13 y14, LeO (laws_FnEntrySub.j0 k y0 y1 y2 y3 y4 y5 y6 y7 y8 y9 y10 y11 y12 y13 y14) (laws_FnEntrySub.j0 (k + 1) y0 y1 y2 y3 y4 y5 y6 y7 y8 y9 y10 y11 y12 y13 y14))
  | 0 => fun _ _ _ _ _ _ _ _ _ _ _ _ _ _ _ r h => by simp [laws_FnEntrySub.j0] at h
  | k + 1 => by
    have ih0 := laws_FnEntrySub.mono_l k
    · intro y0 y1 y2 y3 y4 y5 y6 y7 y8 y9 y10 y11 y12 y13 y14
      unfold laws_FnEntrySub.j0
      repeat' first
      | (with_reducible exact ih0 _ _ _ _ _ _ _ _ _ _ _ _ _ _ _)
      | (with_reducible exact laws_usual.mono _ _ _ _ _ _ _ _)
      | (with_reducible exact LeO.refl _)
      | (with_reducible exact LeO.none _)
      | (with_reducible refine LeO.ite ?_ ?_)
      | (with_reducible refine LeO.bind ?_ (fun _ => ?_))
      | exact ih0 _ _ _ _ _ _ _ _ _ _ _ _ _ _ _
      | exact laws_usual.mono _ _ _ _ _ _ _ _
      | exact LeO.none _
      | refine LeO.ite ?_ ?_
      | refine LeO.bind ?_ (fun _ => ?_)
theorem laws_FnEntrySub.mono : ∀ a0 a1 a2 a3 a4 a5 a6 a7 a8 a9 a10 a11 a12 a13 k, LeO (laws_FnEntrySub.f k a0 a1 a2 a3 a4 a5 a6 a7 a8 a9 a10 a11 a12 a13) (laws_FnEntrySub.f (k + 1) a0 a1 a2 a3 a4 a5 a6 a7 a8 a9 a10 a11 a12 a13) := by
  intro a0 a1 a2 a3 a4 a5 a6 a7 a8 a9 a10 a11 a12 a13 k
  have ih0 := laws_FnEntrySub.mono_l k
  unfold laws_FnEntrySub.f
  repeat' first
      | (with_reducible exact ih0 _ _ _ _ _ _ _ _ _ _ _ _ _ _ _)
      | (with_reducible exact laws_usual.mono _ _ _ _ _ _ _ _)
      | (with_reducible exact LeO.refl _)
      | (with_reducible exact LeO.none _)
      | (with_reducible refine LeO.ite ?_ ?_)
      | (with_reducible refine LeO.bind ?_ (fun _ => ?_))
      | exact ih0 _ _ _ _ _ _ _ _ _ _ _ _ _ _ _
      | exact laws_usual.mono _ _ _ _ _ _ _ _
      | exact LeO.none _
      | refine LeO.ite ?_ ?_
      | refine LeO.bind ?_ (fun _ => ?_)
def laws_FnEntrySub.T6 : Bool × List (List Nat × List Nat) := (true, [([], []), ([], []), ([], []), ([1, 2], [1, 2]), ([0, 3], [0, 3]), ([4, 3], [4]), ([5], [5]), ([5], [5]), ([6, 7, 5, 5], [5, 6, 7]), ([5], [5]), ([9, 5], [5, 9]), ([8, 10, 8, 5], [5, 8, 10]), ([5], [5]), ([11, 12, 5], [5, 11, 12]), ([5, 13], [5, 13]), ([14, 11], [14]), ([15], [15]), ([15], [15]), ([16, 17, 15, 15], [15, 16, 17]), ([18, 18, 15], [15, 18]), ([15, 19], [15, 19]), ([20, 19], [20]), ([21, 21], [21]), ([21, 22], [21, 22]), ([23, 22, 0, 1, 2, 3, 4, 5, 6, 7, 8, 9, 10, 11, 12, 13, 14, 15, 16, 17, 18, 19, 20, 21, 22, 23], [23])])
def laws_FnEntrySub.B6 : List Nat := [0, 0, 0, 6, 15, 31, 63, 63, 255, 63, 575, 2047, 63, 8191, 16383, 32767, 65535, 65535, 262143, 524287, 1048575, 2097151, 4194303, 8388607, 16777215]
theorem laws_FnEntrySub.tab6 : rtab .any (opsOf Tryd.f7 6) = laws_FnEntrySub.T6 := by kernel_rfl
theorem laws_FnEntrySub.bits6 : waitsOk laws_FnEntrySub.T6.2 laws_FnEntrySub.B6 = true := by kernel_rfl
set_option maxHeartbeats 8000000 in
set_option maxRecDepth 100000 in
theorem laws_FnEntrySub.calls (k : Nat) (a0_0 : Int) (a0_1 : Int) (a0_2 : Int) (a0_3 : Int) (a0_4 : Int) (a0_5 : Int) (a0_6 : Bool) (a1_0 : Int) (a1_1 : Int) (a1_2 : Int) (a1_3 : Int) (a1_4 : Int) (a1_5 : Int) (a1_6 : Bool) (r : Bool) (hrT : Aside0 (r = true)) (w : World) (hV : Go.Proofs.YtifhhejohdmiaaaDoorFmt.VarsOK w) (h : laws_FnEntrySub.f k a0_0 a0_1 a0_2 a0_3 a0_4 a0_5 a0_6 a1_0 a1_1 a1_2 a1_3 a1_4 a1_5 a1_6 = some r) :
    Calls Tryd.prog 7 #[.agg #[.int .i32 a0_0, .int .i32 a0_1, .int .i32 a0_2, .int .u8 a0_3, .int .u8 a0_4, .int .u8 a0_5, .bool a0_6], .agg #[.int .i32 a1_0, .int .i32 a1_1, .int .i32 a1_2, .int .u8 a1_3, .int .u8 a1_4, .int .u8 a1_5, .bool a1_6]] w fun e w' => e = .returned (.bool r) ∧ Below w.heap.size w w' := by
  have hu23 := Tryd.underlying23
  have HB := Aside0.mk (Below.refl w.heap.size w)
  have HV := Aside0.mk hV
  clear hV
  have H : ((laws_usual.f k a0_0 a0_1 a0_2 a0_3 a0_4 a0_5 a0_6).bind fun t154 => (if t154 = true then ((laws_usual.f k a1_0 a1_1 a1_2 a1_3 a1_4 a1_5 a1_6).bind fun t155 => (laws_FnEntrySub.j0 k (!t155) a0_0 a0_1 a0_2 a0_3 a0_4 a0_5 a0_6 a1_0 a1_1 a1_2 a1_3 a1_4 a1_5 a1_6)) else (laws_FnEntrySub.j0 k true a0_0 a0_1 a0_2 a0_3 a0_4 a0_5 a0_6 a1_0 a1_1 a1_2 a1_3 a1_4 a1_5 a1_6))) = some r := h
  clear h
  have HC3 := Aside0.mk H
  clear H
  go_enter Tryd.func7, Tryd.ntmps7
  go_upto_region 1 with (first | ((with_reducible refine gate_dst (N := 2) rfl ?_); (try (refine gate_guard (by rfl) ?_; dsimp only)); refine box_event ?hg (N := 2) ?hd (cs := #[.int .i32 a0_0, .int .i32 a0_1, .int .i32 a0_2, .int .u8 a0_3, .int .u8 a0_4, .int .u8 a0_5, .bool a0_6]) (t := 23) ?hr ?_; (case hd => rfl); (case hg => rfl); (case hr => first | (go_simp; done) | (go_simp; rfl)); intro gb152 hg w4 hbox hb; have n0_ := Aside0.mk (below_step (by repeat (first | (with_reducible first | exact HB.out | apply below_alloc | apply pw_below_drewN | apply below_drew1) | exact HB.out)) hb); have n1_ := Aside0.mk (hbox); have n2_ := Aside0.mk ((by rw [hg]; exact (below_size (by repeat (first | (with_reducible first | exact HB.out | apply below_alloc | apply pw_below_drewN | apply below_drew1) | exact HB.out))) : w.heap.size ≤ gb152)); have n3_ := Aside0.mk ((by rw [hg]; exact (below_size (by repeat (first | (with_reducible first | exact HB.out | apply below_alloc | apply pw_below_drewN | apply below_drew1) | exact HB.out))) : w.heap.size ≤ gb152)); clear HB; have HB := n0_; have BK152 := n1_; have GW152 := n2_; have GE152 := n3_; clear n0_ n1_ n2_ n3_; clear hb hbox hg) | ((with_reducible refine gate_dst (N := 3) rfl ?_); (try (refine gate_guard (by rfl) ?_; dsimp only)); refine box_event ?hg (N := 3) ?hd (cs := #[.int .i32 a1_0, .int .i32 a1_1, .int .i32 a1_2, .int .u8 a1_3, .int .u8 a1_4, .int .u8 a1_5, .bool a1_6]) (t := 23) ?hr ?_; (case hd => rfl); (case hg => rfl); (case hr => first | (go_simp; done) | (go_simp; rfl)); intro gb153 hg w5 hbox hb; have n0_ := Aside0.mk (blk_below (g := gb152) (o := .cells #[.int .i32 a0_0, .int .i32 a0_1, .int .i32 a0_2, .int .u8 a0_3, .int .u8 a0_4, .int .u8 a0_5, .bool a0_6] 23 (0, 0)) (by (with_reducible repeat (first | refine blk_drewN ?_ _ | refine blk_drew ?_ | refine blk_alloc ?_ _)); exact BK152.out) hb); have n1_ := Aside0.mk (below_step (by repeat (first | (with_reducible first | exact HB.out | apply below_alloc | apply pw_below_drewN | apply below_drew1 | refine below_set ?_ GE152.out) | exact HB.out)) hb); have n2_ := Aside0.mk (hbox); have n3_ := Aside0.mk ((by rw [hg]; exact (below_size (by repeat (first | (with_reducible first | exact HB.out | apply below_alloc | apply pw_below_drewN | apply below_drew1 | refine below_set ?_ GE152.out) | exact HB.out))) : w.heap.size ≤ gb153)); have n4_ := Aside0.mk ((by rw [hg]; exact (below_size (by repeat (first | (with_reducible first | exact HB.out | apply below_alloc | apply pw_below_drewN | apply below_drew1 | refine below_set ?_ GE152.out) | exact HB.out))) : w.heap.size ≤ gb153)); have n5_ := Aside0.mk ((by rw [hg]; exact Nat.ne_of_lt (blk_lt (g := gb152) (o := .cells #[.int .i32 a0_0, .int .i32 a0_1, .int .i32 a0_2, .int .u8 a0_3, .int .u8 a0_4, .int .u8 a0_5, .bool a0_6] 23 (0, 0)) (by (with_reducible repeat (first | refine blk_drewN ?_ _ | refine blk_drew ?_ | refine blk_alloc ?_ _)); exact BK152.out)) : gb152 ≠ gb153)); have n6_ := Aside0.mk ((by rw [hg]; exact Nat.ne_of_gt (blk_lt (g := gb152) (o := .cells #[.int .i32 a0_0, .int .i32 a0_1, .int .i32 a0_2, .int .u8 a0_3, .int .u8 a0_4, .int .u8 a0_5, .bool a0_6] 23 (0, 0)) (by (with_reducible repeat (first | refine blk_drewN ?_ _ | refine blk_drew ?_ | refine blk_alloc ?_ _)); exact BK152.out)) : gb153 ≠ gb152)); clear BK152; clear HB; have BK152 := n0_; have HB := n1_; have BK153 := n2_; have GW153 := n3_; have GE153 := n4_; have NB152_153 := n5_; have NB153_152 := n6_; clear n0_ n1_ n2_ n3_ n4_ n5_ n6_; clear hb hbox hg))
  (try simp only [Act.put, List.setIfInBounds_toArray, List.set_cons_zero, List.set_cons_succ])
  go_cut [14] (fun v14 wc => ∃ (kq : Nat) (x14_2 : Bool), v14 = .bool x14_2 ∧ Aside0 (laws_FnEntrySub.j0 kq x14_2 a0_0 a0_1 a0_2 a0_3 a0_4 a0_5 a0_6 a1_0 a1_1 a1_2 a1_3 a1_4 a1_5 a1_6 = some r) ∧ Aside0 (kq ≤ k) ∧ Aside0 (wc.heap[gb152]? = some (.cells #[.int .i32 a0_0, .int .i32 a0_1, .int .i32 a0_2, .int .u8 a0_3, .int .u8 a0_4, .int .u8 a0_5, .bool a0_6] 23 (0, 0))) ∧ Aside0 (wc.heap[gb153]? = some (.cells #[.int .i32 a1_0, .int .i32 a1_1, .int .i32 a1_2, .int .u8 a1_3, .int .u8 a1_4, .int .u8 a1_5, .bool a1_6] 23 (0, 0))) ∧ Aside0 (Below w.heap.size w wc))
  case first =>
    have H := HC3.out
    clear HC3
    replace H := Option.bind_eq_some_iff.mp H
    obtain ⟨t154, A60, H⟩ := H
    replace H : (if t154 = true then ((laws_usual.f k a1_0 a1_1 a1_2 a1_3 a1_4 a1_5 a1_6).bind fun t155 => (laws_FnEntrySub.j0 k (!t155) a0_0 a0_1 a0_2 a0_3 a0_4 a0_5 a0_6 a1_0 a1_1 a1_2 a1_3 a1_4 a1_5 a1_6)) else (laws_FnEntrySub.j0 k true a0_0 a0_1 a0_2 a0_3 a0_4 a0_5 a0_6 a1_0 a1_1 a1_2 a1_3 a1_4 a1_5 a1_6)) = some r := H
    have A6 := Aside0.mk A60
    clear A60
    by_cases c7 : t154 = true
    · subst c7
      have H1 : ((laws_usual.f k a1_0 a1_1 a1_2 a1_3 a1_4 a1_5 a1_6).bind fun t155 => (laws_FnEntrySub.j0 k (!t155) a0_0 a0_1 a0_2 a0_3 a0_4 a0_5 a0_6 a1_0 a1_1 a1_2 a1_3 a1_4 a1_5 a1_6)) = some r := by rw [if_pos rfl] at H; exact H
      clear H
      have H := H1
      clear H1
      replace H := Option.bind_eq_some_iff.mp H
      obtain ⟨t155, A80, H⟩ := H
      replace H : (laws_FnEntrySub.j0 k (!t155) a0_0 a0_1 a0_2 a0_3 a0_4 a0_5 a0_6 a1_0 a1_1 a1_2 a1_3 a1_4 a1_5 a1_6) = some r := H
      have A8 := Aside0.mk A80
      clear A80
      have H' := Aside0.mk H
      clear H
      have hnb9 := NB152_153.out
      have hnc9 := NB153_152.out
      have hcz10_0 : w5.cell? ⟨gb152, 0, none⟩ = some (.int .i32 a0_0) := (blk_cell BK152.out 0).trans rfl
      have hcz10_1 : w5.cell? ⟨gb152, 1, none⟩ = some (.int .i32 a0_1) := (blk_cell BK152.out 1).trans rfl
      have hcz10_2 : w5.cell? ⟨gb152, 2, none⟩ = some (.int .i32 a0_2) := (blk_cell BK152.out 2).trans rfl
      have hcz10_3 : w5.cell? ⟨gb152, 3, none⟩ = some (.int .u8 a0_3) := (blk_cell BK152.out 3).trans rfl
      have hcz10_4 : w5.cell? ⟨gb152, 4, none⟩ = some (.int .u8 a0_4) := (blk_cell BK152.out 4).trans rfl
      have hcz10_5 : w5.cell? ⟨gb152, 5, none⟩ = some (.int .u8 a0_5) := (blk_cell BK152.out 5).trans rfl
      have hcz10_6 : w5.cell? ⟨gb152, 6, none⟩ = some (.bool a0_6) := (blk_cell BK152.out 6).trans rfl
      have hfz10_0 := blk_frozen BK152.out 0
      have hfz10_1 := blk_frozen BK152.out 1
      have hfz10_2 := blk_frozen BK152.out 2
      have hfz10_3 := blk_frozen BK152.out 3
      have hfz10_4 := blk_frozen BK152.out 4
      have hfz10_5 := blk_frozen BK152.out 5
      have hfz10_6 := blk_frozen BK152.out 6
      go_wp2_with (first | ((with_reducible refine gate_callee (f := 16) rfl ?_); refine goesL_ (some 8) rfl rfl Tryd.func16 (by kernel_rfl) rfl #[.agg #[.int .i32 a0_0, .int .i32 a0_1, .int .i32 a0_2, .int .u8 a0_3, .int .u8 a0_4, .int .u8 a0_5, .bool a0_6]] rfl (by (try simp only [List.map_toArray, List.map_cons, List.map_nil]); first | done | rfl | (simp only [List.length_drop, List.length_take]; rfl)) ?_; (with_reducible refine (laws_usual.calls k a0_0 a0_1 a0_2 a0_3 a0_4 a0_5 a0_6 true _ A6.out).mono ?_); rintro e w11 ⟨rfl, hb⟩; refine ⟨_, rfl, ?_⟩; have n0_ := Aside0.mk (blk_below (g := gb152) (o := .cells #[.int .i32 a0_0, .int .i32 a0_1, .int .i32 a0_2, .int .u8 a0_3, .int .u8 a0_4, .int .u8 a0_5, .bool a0_6] 23 (0, 0)) (by (with_reducible repeat (first | refine blk_drewN ?_ _ | refine blk_drew ?_ | refine blk_alloc ?_ _)); exact BK152.out) hb); have n1_ := Aside0.mk (blk_below (g := gb153) (o := .cells #[.int .i32 a1_0, .int .i32 a1_1, .int .i32 a1_2, .int .u8 a1_3, .int .u8 a1_4, .int .u8 a1_5, .bool a1_6] 23 (0, 0)) (by (with_reducible repeat (first | refine blk_drewN ?_ _ | refine blk_drew ?_ | refine blk_alloc ?_ _)); exact BK153.out) hb); have n2_ := Aside0.mk (below_step (by repeat (first | (with_reducible first | exact HB.out | apply below_alloc | apply pw_below_drewN | apply below_drew1 | refine below_set ?_ GE152.out | refine below_set ?_ GE153.out) | exact HB.out)) hb); clear BK152; clear BK153; clear HB; have BK152 := n0_; have BK153 := n1_; have HB := n2_; clear n0_ n1_ n2_; (try clear hb); (try clear hb2); (try clear hk); (try clear hi); have hcz12_0 : w11.cell? ⟨gb153, 0, none⟩ = some (.int .i32 a1_0) := (blk_cell BK153.out 0).trans rfl; have hcz12_1 : w11.cell? ⟨gb153, 1, none⟩ = some (.int .i32 a1_1) := (blk_cell BK153.out 1).trans rfl; have hcz12_2 : w11.cell? ⟨gb153, 2, none⟩ = some (.int .i32 a1_2) := (blk_cell BK153.out 2).trans rfl; have hcz12_3 : w11.cell? ⟨gb153, 3, none⟩ = some (.int .u8 a1_3) := (blk_cell BK153.out 3).trans rfl; have hcz12_4 : w11.cell? ⟨gb153, 4, none⟩ = some (.int .u8 a1_4) := (blk_cell BK153.out 4).trans rfl; have hcz12_5 : w11.cell? ⟨gb153, 5, none⟩ = some (.int .u8 a1_5) := (blk_cell BK153.out 5).trans rfl; have hcz12_6 : w11.cell? ⟨gb153, 6, none⟩ = some (.bool a1_6) := (blk_cell BK153.out 6).trans rfl; have hfz12_0 := blk_frozen BK153.out 0; have hfz12_1 := blk_frozen BK153.out 1; have hfz12_2 := blk_frozen BK153.out 2; have hfz12_3 := blk_frozen BK153.out 3; have hfz12_4 := blk_frozen BK153.out 4; have hfz12_5 := blk_frozen BK153.out 5; have hfz12_6 := blk_frozen BK153.out 6) | (go_at_call 16; (with_reducible refine (laws_usual.calls k a1_0 a1_1 a1_2 a1_3 a1_4 a1_5 a1_6 t155 _ A8.out).mono ?_); rintro e w13 ⟨rfl, hb⟩; have n0_ := Aside0.mk (blk_below (g := gb152) (o := .cells #[.int .i32 a0_0, .int .i32 a0_1, .int .i32 a0_2, .int .u8 a0_3, .int .u8 a0_4, .int .u8 a0_5, .bool a0_6] 23 (0, 0)) (by (with_reducible repeat (first | refine blk_drewN ?_ _ | refine blk_drew ?_ | refine blk_alloc ?_ _)); exact BK152.out) hb); have n1_ := Aside0.mk (blk_below (g := gb153) (o := .cells #[.int .i32 a1_0, .int .i32 a1_1, .int .i32 a1_2, .int .u8 a1_3, .int .u8 a1_4, .int .u8 a1_5, .bool a1_6] 23 (0, 0)) (by (with_reducible repeat (first | refine blk_drewN ?_ _ | refine blk_drew ?_ | refine blk_alloc ?_ _)); exact BK153.out) hb); have n2_ := Aside0.mk (below_step (by repeat (first | (with_reducible first | exact HB.out | apply below_alloc | apply pw_below_drewN | apply below_drew1 | refine below_set ?_ GE152.out | refine below_set ?_ GE153.out) | exact HB.out)) hb); clear BK152; clear BK153; clear HB; have BK152 := n0_; have BK153 := n1_; have HB := n2_; clear n0_ n1_ n2_; (try clear hb); (try clear hb2); (try clear hk); (try clear hi)))
      go_meet
      case rel => exact ⟨_, (!t155), (by first | rfl | (simp; done) | (simp [*]; done)), H', ⟨by first | omega | exact Nat.le_refl _⟩, ⟨by (with_reducible repeat (first | refine blk_drewN ?_ _ | refine blk_drew ?_ | refine blk_alloc ?_ _)); exact BK152.out⟩, ⟨by (with_reducible repeat (first | refine blk_drewN ?_ _ | refine blk_drew ?_ | refine blk_alloc ?_ _)); exact BK153.out⟩, ⟨by repeat (first | (with_reducible first | exact HB.out | apply below_alloc | apply pw_below_drewN | apply below_drew1 | refine below_set ?_ GE152.out | refine below_set ?_ GE153.out) | exact HB.out)⟩⟩
    · replace c7 := Bool.eq_false_iff.mpr c7
      subst c7
      have H1 : (laws_FnEntrySub.j0 k true a0_0 a0_1 a0_2 a0_3 a0_4 a0_5 a0_6 a1_0 a1_1 a1_2 a1_3 a1_4 a1_5 a1_6) = some r := by rw [if_neg (show ¬ (false = true) by decide)] at H; exact H
      clear H
      have H := H1
      clear H1
      have H' := Aside0.mk H
      clear H
      have hnb14 := NB152_153.out
      have hnc14 := NB153_152.out
      have hcz15_0 : w5.cell? ⟨gb152, 0, none⟩ = some (.int .i32 a0_0) := (blk_cell BK152.out 0).trans rfl
      have hcz15_1 : w5.cell? ⟨gb152, 1, none⟩ = some (.int .i32 a0_1) := (blk_cell BK152.out 1).trans rfl
      have hcz15_2 : w5.cell? ⟨gb152, 2, none⟩ = some (.int .i32 a0_2) := (blk_cell BK152.out 2).trans rfl
      have hcz15_3 : w5.cell? ⟨gb152, 3, none⟩ = some (.int .u8 a0_3) := (blk_cell BK152.out 3).trans rfl
      have hcz15_4 : w5.cell? ⟨gb152, 4, none⟩ = some (.int .u8 a0_4) := (blk_cell BK152.out 4).trans rfl
      have hcz15_5 : w5.cell? ⟨gb152, 5, none⟩ = some (.int .u8 a0_5) := (blk_cell BK152.out 5).trans rfl
      have hcz15_6 : w5.cell? ⟨gb152, 6, none⟩ = some (.bool a0_6) := (blk_cell BK152.out 6).trans rfl
      have hfz15_0 := blk_frozen BK152.out 0
      have hfz15_1 := blk_frozen BK152.out 1
      have hfz15_2 := blk_frozen BK152.out 2
      have hfz15_3 := blk_frozen BK152.out 3
      have hfz15_4 := blk_frozen BK152.out 4
      have hfz15_5 := blk_frozen BK152.out 5
      have hfz15_6 := blk_frozen BK152.out 6
      go_wp2_with (first | ((with_reducible refine gate_callee (f := 16) rfl ?_); refine goesL_ (some 8) rfl rfl Tryd.func16 (by kernel_rfl) rfl #[.agg #[.int .i32 a0_0, .int .i32 a0_1, .int .i32 a0_2, .int .u8 a0_3, .int .u8 a0_4, .int .u8 a0_5, .bool a0_6]] rfl (by (try simp only [List.map_toArray, List.map_cons, List.map_nil]); first | done | rfl | (simp only [List.length_drop, List.length_take]; rfl)) ?_; (with_reducible refine (laws_usual.calls k a0_0 a0_1 a0_2 a0_3 a0_4 a0_5 a0_6 false _ A6.out).mono ?_); rintro e w16 ⟨rfl, hb⟩; refine ⟨_, rfl, ?_⟩; have n0_ := Aside0.mk (blk_below (g := gb152) (o := .cells #[.int .i32 a0_0, .int .i32 a0_1, .int .i32 a0_2, .int .u8 a0_3, .int .u8 a0_4, .int .u8 a0_5, .bool a0_6] 23 (0, 0)) (by (with_reducible repeat (first | refine blk_drewN ?_ _ | refine blk_drew ?_ | refine blk_alloc ?_ _)); exact BK152.out) hb); have n1_ := Aside0.mk (blk_below (g := gb153) (o := .cells #[.int .i32 a1_0, .int .i32 a1_1, .int .i32 a1_2, .int .u8 a1_3, .int .u8 a1_4, .int .u8 a1_5, .bool a1_6] 23 (0, 0)) (by (with_reducible repeat (first | refine blk_drewN ?_ _ | refine blk_drew ?_ | refine blk_alloc ?_ _)); exact BK153.out) hb); have n2_ := Aside0.mk (below_step (by repeat (first | (with_reducible first | exact HB.out | apply below_alloc | apply pw_below_drewN | apply below_drew1 | refine below_set ?_ GE152.out | refine below_set ?_ GE153.out) | exact HB.out)) hb); clear BK152; clear BK153; clear HB; have BK152 := n0_; have BK153 := n1_; have HB := n2_; clear n0_ n1_ n2_; (try clear hb); (try clear hb2); (try clear hk); (try clear hi)))
      go_meet
      case rel => exact ⟨_, (true), (by first | rfl | (simp; done) | (simp [*]; done)), H', ⟨by first | omega | exact Nat.le_refl _⟩, ⟨by (with_reducible repeat (first | refine blk_drewN ?_ _ | refine blk_drew ?_ | refine blk_alloc ?_ _)); exact BK152.out⟩, ⟨by (with_reducible repeat (first | refine blk_drewN ?_ _ | refine blk_drew ?_ | refine blk_alloc ?_ _)); exact BK153.out⟩, ⟨by repeat (first | (with_reducible first | exact HB.out | apply below_alloc | apply pw_below_drewN | apply below_drew1 | refine below_set ?_ GE152.out | refine below_set ?_ GE153.out) | exact HB.out)⟩⟩
  case rest =>
    clear HC3
    try clear c1
    try clear p2
    try clear c7
    try clear c9
    try clear c14
    try clear c16
    try clear hcz10_0
    try clear hcz10_1
    try clear hcz10_2
    try clear hcz10_3
    try clear hcz10_4
    try clear hcz10_5
    try clear hcz10_6
    try clear hcz12_0
    try clear hcz12_1
    try clear hcz12_2
    try clear hcz12_3
    try clear hcz12_4
    try clear hcz12_5
    try clear hcz12_6
    try clear hcz15_0
    try clear hcz15_1
    try clear hcz15_2
    try clear hcz15_3
    try clear hcz15_4
    try clear hcz15_5
    try clear hcz15_6
    try clear hfz10_0
    try clear hfz10_1
    try clear hfz10_2
    try clear hfz10_3
    try clear hfz10_4
    try clear hfz10_5
    try clear hfz10_6
    try clear hfz12_0
    try clear hfz12_1
    try clear hfz12_2
    try clear hfz12_3
    try clear hfz12_4
    try clear hfz12_5
    try clear hfz12_6
    try clear hfz15_0
    try clear hfz15_1
    try clear hfz15_2
    try clear hfz15_3
    try clear hfz15_4
    try clear hfz15_5
    try clear hfz15_6
    obtain ⟨kq, x14_2, rfl, HA, HJ2, BK152, BK153, HB⟩ := hcut
    cases kq with
    | zero => exact absurd HA.out (by simp [laws_FnEntrySub.j0])
    | succ kj2 =>
      have H := HA.out
      clear HA
      simp only [laws_FnEntrySub.j0] at H
      by_cases c17 : x14_2 = true
      · subst c17
        have H1 : (some true) = some r := by rw [if_pos rfl] at H; exact H
        clear H
        have H := H1
        clear H1
        obtain rfl := Option.some.inj H
        go_wp2
        go_ret
        exact ⟨by first | rfl | (simp [errW_none, errW_some] <;> rfl) | (simp [*, errW_none, errW_some] <;> rfl), by repeat (first | (with_reducible first | exact HB.out | apply below_alloc | apply pw_below_drewN | apply below_drew1 | refine below_set ?_ GE152.out | refine below_set ?_ GE153.out) | exact HB.out)⟩
      · replace c17 := Bool.eq_false_iff.mpr c17
        subst c17
        have H1 : ((impl_EntrySub.f a0_0 a0_1 a0_2 a0_3 a0_4 a0_5 a0_6 a1_0 a1_1 a1_2 a1_3 a1_4 a1_5 a1_6).bind fun bt156 => ((impl_EntryInherit.f a0_0 a0_1 a0_2 a0_3 a0_4 a0_5 false (([(⟨a1_0, a1_1, a1_2, a1_3, a1_4, a1_5, a1_6⟩ : S23)] : List (S23)))).bind fun bt167 => ((spec_EntrySub.f a0_0 a0_1 a0_2 a0_3 a0_4 a0_5 false a1_0 a1_1 a1_2 a1_3 a1_4 a1_5 a1_6).bind fun bt175 => (if (bt156.1 == bt175.1 && (bt156.2.1 == bt175.2.1 && (bt156.2.2.1 == bt175.2.2.1 && (bt156.2.2.2.1 == bt175.2.2.2.1 && (bt156.2.2.2.2.1 == bt175.2.2.2.2.1 && (bt156.2.2.2.2.2.1 == bt175.2.2.2.2.2.1 && (bt156.2.2.2.2.2.2 == bt175.2.2.2.2.2.2))))))) = true then ((impl_EntrySub.f bt167.1 bt167.2.1 bt167.2.2.1 bt167.2.2.2.1 bt167.2.2.2.2.1 bt167.2.2.2.2.2.1 bt167.2.2.2.2.2.2 a1_0 a1_1 a1_2 a1_3 a1_4 a1_5 a1_6).bind fun bt182 => ((impl_EntryInherit.f bt182.1 bt182.2.1 bt182.2.2.1 bt182.2.2.2.1 bt182.2.2.2.2.1 bt182.2.2.2.2.2.1 bt182.2.2.2.2.2.2 (([(⟨a1_0, a1_1, a1_2, a1_3, a1_4, a1_5, a1_6⟩ : S23)] : List (S23)))).bind fun bt192 => (if (bt192.1 == bt167.1 && (bt192.2.1 == bt167.2.1 && (bt192.2.2.1 == bt167.2.2.1 && (bt192.2.2.2.1 == bt167.2.2.2.1 && (bt192.2.2.2.2.1 == bt167.2.2.2.2.1 && (bt192.2.2.2.2.2.1 == bt167.2.2.2.2.2.1 && (bt192.2.2.2.2.2.2 == bt167.2.2.2.2.2.2))))))) = true then ((impl_EntrySub.f a0_0 a0_1 a0_2 a0_3 a0_4 a0_5 false a0_0 a0_1 a0_2 a0_3 a0_4 a0_5 false).bind fun bt199 => ((impl_EntryIsZero.f bt199.1 bt199.2.1 bt199.2.2.1 bt199.2.2.2.1 bt199.2.2.2.2.1 bt199.2.2.2.2.2.1 bt199.2.2.2.2.2.2).bind fun t206 => (if t206 = true then ((laws_styled.f).bind fun t207 => (some t207)) else (some false)))) else (some false)))) else (some false))))) = some r := by rw [if_neg (show ¬ (false = true) by decide)] at H; exact H
        clear H
        have H := H1
        clear H1
        replace H := Option.bind_eq_some_iff.mp H
        obtain ⟨⟨t156, t157, t158, t159, t160, t161, t162⟩, A180, H⟩ := H
        replace H : ((impl_EntryInherit.f a0_0 a0_1 a0_2 a0_3 a0_4 a0_5 false (([(⟨a1_0, a1_1, a1_2, a1_3, a1_4, a1_5, a1_6⟩ : S23)] : List (S23)))).bind fun bt167 => ((spec_EntrySub.f a0_0 a0_1 a0_2 a0_3 a0_4 a0_5 false a1_0 a1_1 a1_2 a1_3 a1_4 a1_5 a1_6).bind fun bt175 => (if (t156 == bt175.1 && (t157 == bt175.2.1 && (t158 == bt175.2.2.1 && (t159 == bt175.2.2.2.1 && (t160 == bt175.2.2.2.2.1 && (t161 == bt175.2.2.2.2.2.1 && (t162 == bt175.2.2.2.2.2.2))))))) = true then ((impl_EntrySub.f bt167.1 bt167.2.1 bt167.2.2.1 bt167.2.2.2.1 bt167.2.2.2.2.1 bt167.2.2.2.2.2.1 bt167.2.2.2.2.2.2 a1_0 a1_1 a1_2 a1_3 a1_4 a1_5 a1_6).bind fun bt182 => ((impl_EntryInherit.f bt182.1 bt182.2.1 bt182.2.2.1 bt182.2.2.2.1 bt182.2.2.2.2.1 bt182.2.2.2.2.2.1 bt182.2.2.2.2.2.2 (([(⟨a1_0, a1_1, a1_2, a1_3, a1_4, a1_5, a1_6⟩ : S23)] : List (S23)))).bind fun bt192 => (if (bt192.1 == bt167.1 && (bt192.2.1 == bt167.2.1 && (bt192.2.2.1 == bt167.2.2.1 && (bt192.2.2.2.1 == bt167.2.2.2.1 && (bt192.2.2.2.2.1 == bt167.2.2.2.2.1 && (bt192.2.2.2.2.2.1 == bt167.2.2.2.2.2.1 && (bt192.2.2.2.2.2.2 == bt167.2.2.2.2.2.2))))))) = true then ((impl_EntrySub.f a0_0 a0_1 a0_2 a0_3 a0_4 a0_5 false a0_0 a0_1 a0_2 a0_3 a0_4 a0_5 false).bind fun bt199 => ((impl_EntryIsZero.f bt199.1 bt199.2.1 bt199.2.2.1 bt199.2.2.2.1 bt199.2.2.2.2.1 bt199.2.2.2.2.2.1 bt199.2.2.2.2.2.2).bind fun t206 => (if t206 = true then ((laws_styled.f).bind fun t207 => (some t207)) else (some false)))) else (some false)))) else (some false)))) = some r := H
        have A18 := Aside0.mk A180
        clear A180
        obtain ⟨y164, hy164⟩ : ∃ y_ : List (S23), y_ = (([(⟨a1_0, a1_1, a1_2, a1_3, a1_4, a1_5, a1_6⟩ : S23)] : List (S23))) := ⟨_, rfl⟩
        replace H : ((impl_EntryInherit.f a0_0 a0_1 a0_2 a0_3 a0_4 a0_5 false y164).bind fun bt167 => ((spec_EntrySub.f a0_0 a0_1 a0_2 a0_3 a0_4 a0_5 false a1_0 a1_1 a1_2 a1_3 a1_4 a1_5 a1_6).bind fun bt175 => (if (t156 == bt175.1 && (t157 == bt175.2.1 && (t158 == bt175.2.2.1 && (t159 == bt175.2.2.2.1 && (t160 == bt175.2.2.2.2.1 && (t161 == bt175.2.2.2.2.2.1 && (t162 == bt175.2.2.2.2.2.2))))))) = true then ((impl_EntrySub.f bt167.1 bt167.2.1 bt167.2.2.1 bt167.2.2.2.1 bt167.2.2.2.2.1 bt167.2.2.2.2.2.1 bt167.2.2.2.2.2.2 a1_0 a1_1 a1_2 a1_3 a1_4 a1_5 a1_6).bind fun bt182 => ((impl_EntryInherit.f bt182.1 bt182.2.1 bt182.2.2.1 bt182.2.2.2.1 bt182.2.2.2.2.1 bt182.2.2.2.2.2.1 bt182.2.2.2.2.2.2 (([(⟨a1_0, a1_1, a1_2, a1_3, a1_4, a1_5, a1_6⟩ : S23)] : List (S23)))).bind fun bt192 => (if (bt192.1 == bt167.1 && (bt192.2.1 == bt167.2.1 && (bt192.2.2.1 == bt167.2.2.1 && (bt192.2.2.2.1 == bt167.2.2.2.1 && (bt192.2.2.2.2.1 == bt167.2.2.2.2.1 && (bt192.2.2.2.2.2.1 == bt167.2.2.2.2.2.1 && (bt192.2.2.2.2.2.2 == bt167.2.2.2.2.2.2))))))) = true then ((impl_EntrySub.f a0_0 a0_1 a0_2 a0_3 a0_4 a0_5 false a0_0 a0_1 a0_2 a0_3 a0_4 a0_5 false).bind fun bt199 => ((impl_EntryIsZero.f bt199.1 bt199.2.1 bt199.2.2.1 bt199.2.2.2.1 bt199.2.2.2.2.1 bt199.2.2.2.2.2.1 bt199.2.2.2.2.2.2).bind fun t206 => (if t206 = true then ((laws_styled.f).bind fun t207 => (some t207)) else (some false)))) else (some false)))) else (some false)))) = some r := by first | (rw [hy164]; with_reducible exact H) | (have H2_ := (Option.bind_some _ _).symm.trans H; rw [hy164]; with_reducible exact H2_) | (have H2_ := (Option.bind_some _ _).symm.trans H; with_reducible exact H2_) | with_reducible exact H | (rw [hy164]; exact H) | exact H
        have Ny164 := Aside0.mk hy164
        clear hy164
        replace H := Option.bind_eq_some_iff.mp H
        obtain ⟨⟨t167, t168, t169, t170, t171, t172, t173⟩, A190, H⟩ := H
        replace H : ((spec_EntrySub.f a0_0 a0_1 a0_2 a0_3 a0_4 a0_5 false a1_0 a1_1 a1_2 a1_3 a1_4 a1_5 a1_6).bind fun bt175 => (if (t156 == bt175.1 && (t157 == bt175.2.1 && (t158 == bt175.2.2.1 && (t159 == bt175.2.2.2.1 && (t160 == bt175.2.2.2.2.1 && (t161 == bt175.2.2.2.2.2.1 && (t162 == bt175.2.2.2.2.2.2))))))) = true then ((impl_EntrySub.f t167 t168 t169 t170 t171 t172 t173 a1_0 a1_1 a1_2 a1_3 a1_4 a1_5 a1_6).bind fun bt182 => ((impl_EntryInherit.f bt182.1 bt182.2.1 bt182.2.2.1 bt182.2.2.2.1 bt182.2.2.2.2.1 bt182.2.2.2.2.2.1 bt182.2.2.2.2.2.2 (([(⟨a1_0, a1_1, a1_2, a1_3, a1_4, a1_5, a1_6⟩ : S23)] : List (S23)))).bind fun bt192 => (if (bt192.1 == t167 && (bt192.2.1 == t168 && (bt192.2.2.1 == t169 && (bt192.2.2.2.1 == t170 && (bt192.2.2.2.2.1 == t171 && (bt192.2.2.2.2.2.1 == t172 && (bt192.2.2.2.2.2.2 == t173))))))) = true then ((impl_EntrySub.f a0_0 a0_1 a0_2 a0_3 a0_4 a0_5 false a0_0 a0_1 a0_2 a0_3 a0_4 a0_5 false).bind fun bt199 => ((impl_EntryIsZero.f bt199.1 bt199.2.1 bt199.2.2.1 bt199.2.2.2.1 bt199.2.2.2.2.1 bt199.2.2.2.2.2.1 bt199.2.2.2.2.2.2).bind fun t206 => (if t206 = true then ((laws_styled.f).bind fun t207 => (some t207)) else (some false)))) else (some false)))) else (some false))) = some r := H
        have A19 := Aside0.mk A190
        clear A190
        replace H := Option.bind_eq_some_iff.mp H
        obtain ⟨⟨t175, t176, t177, t178, t179, t180, t181⟩, A200, H⟩ := H
        replace H : (if (t156 == t175 && (t157 == t176 && (t158 == t177 && (t159 == t178 && (t160 == t179 && (t161 == t180 && (t162 == t181))))))) = true then ((impl_EntrySub.f t167 t168 t169 t170 t171 t172 t173 a1_0 a1_1 a1_2 a1_3 a1_4 a1_5 a1_6).bind fun bt182 => ((impl_EntryInherit.f bt182.1 bt182.2.1 bt182.2.2.1 bt182.2.2.2.1 bt182.2.2.2.2.1 bt182.2.2.2.2.2.1 bt182.2.2.2.2.2.2 (([(⟨a1_0, a1_1, a1_2, a1_3, a1_4, a1_5, a1_6⟩ : S23)] : List (S23)))).bind fun bt192 => (if (bt192.1 == t167 && (bt192.2.1 == t168 && (bt192.2.2.1 == t169 && (bt192.2.2.2.1 == t170 && (bt192.2.2.2.2.1 == t171 && (bt192.2.2.2.2.2.1 == t172 && (bt192.2.2.2.2.2.2 == t173))))))) = true then ((impl_EntrySub.f a0_0 a0_1 a0_2 a0_3 a0_4 a0_5 false a0_0 a0_1 a0_2 a0_3 a0_4 a0_5 false).bind fun bt199 => ((impl_EntryIsZero.f bt199.1 bt199.2.1 bt199.2.2.1 bt199.2.2.2.1 bt199.2.2.2.2.1 bt199.2.2.2.2.2.1 bt199.2.2.2.2.2.2).bind fun t206 => (if t206 = true then ((laws_styled.f).bind fun t207 => (some t207)) else (some false)))) else (some false)))) else (some false)) = some r := H
        have A20 := Aside0.mk A200
        clear A200
        by_cases c21 : (t156 == t175 && (t157 == t176 && (t158 == t177 && (t159 == t178 && (t160 == t179 && (t161 == t180 && (t162 == t181))))))) = true
        · rw [if_pos c21] at H
          have c21b0 : (t156 == t175 && (t157 == t176 && (t158 == t177 && (t159 == t178 && (t160 == t179 && (t161 == t180 && (t162 == t181))))))) = true := c21
          (try (have c21b1 : decide (t156 = t175 && (t157 == t176 && (t158 == t177 && (t159 == t178 && (t160 == t179 && (t161 == t180 && (t162 == t181))))))) = true := by simpa using c21))
          (try (have c21b2 : (t156 == t175 && (t157 == t176 && (t158 == t177 && (t159 == t178 && (t160 == t179 && (t161 == t180 && (t162 == t181))))))) = true := by simpa using c21))
          clear c21
          replace H := Option.bind_eq_some_iff.mp H
          obtain ⟨⟨t182, t183, t184, t185, t186, t187, t188⟩, A220, H⟩ := H
          replace H : ((impl_EntryInherit.f t182 t183 t184 t185 t186 t187 t188 (([(⟨a1_0, a1_1, a1_2, a1_3, a1_4, a1_5, a1_6⟩ : S23)] : List (S23)))).bind fun bt192 => (if (bt192.1 == t167 && (bt192.2.1 == t168 && (bt192.2.2.1 == t169 && (bt192.2.2.2.1 == t170 && (bt192.2.2.2.2.1 == t171 && (bt192.2.2.2.2.2.1 == t172 && (bt192.2.2.2.2.2.2 == t173))))))) = true then ((impl_EntrySub.f a0_0 a0_1 a0_2 a0_3 a0_4 a0_5 false a0_0 a0_1 a0_2 a0_3 a0_4 a0_5 false).bind fun bt199 => ((impl_EntryIsZero.f bt199.1 bt199.2.1 bt199.2.2.1 bt199.2.2.2.1 bt199.2.2.2.2.1 bt199.2.2.2.2.2.1 bt199.2.2.2.2.2.2).bind fun t206 => (if t206 = true then ((laws_styled.f).bind fun t207 => (some t207)) else (some false)))) else (some false))) = some r := H
          have A22 := Aside0.mk A220
          clear A220
          obtain ⟨y189, hy189⟩ : ∃ y_ : List (S23), y_ = (([(⟨a1_0, a1_1, a1_2, a1_3, a1_4, a1_5, a1_6⟩ : S23)] : List (S23))) := ⟨_, rfl⟩
          replace H : ((impl_EntryInherit.f t182 t183 t184 t185 t186 t187 t188 y189).bind fun bt192 => (if (bt192.1 == t167 && (bt192.2.1 == t168 && (bt192.2.2.1 == t169 && (bt192.2.2.2.1 == t170 && (bt192.2.2.2.2.1 == t171 && (bt192.2.2.2.2.2.1 == t172 && (bt192.2.2.2.2.2.2 == t173))))))) = true then ((impl_EntrySub.f a0_0 a0_1 a0_2 a0_3 a0_4 a0_5 false a0_0 a0_1 a0_2 a0_3 a0_4 a0_5 false).bind fun bt199 => ((impl_EntryIsZero.f bt199.1 bt199.2.1 bt199.2.2.1 bt199.2.2.2.1 bt199.2.2.2.2.1 bt199.2.2.2.2.2.1 bt199.2.2.2.2.2.2).bind fun t206 => (if t206 = true then ((laws_styled.f).bind fun t207 => (some t207)) else (some false)))) else (some false))) = some r := by first | (rw [hy189]; with_reducible exact H) | (have H2_ := (Option.bind_some _ _).symm.trans H; rw [hy189]; with_reducible exact H2_) | (have H2_ := (Option.bind_some _ _).symm.trans H; with_reducible exact H2_) | with_reducible exact H | (rw [hy189]; exact H) | exact H
          have Ny189 := Aside0.mk hy189
          clear hy189
          replace H := Option.bind_eq_some_iff.mp H
          obtain ⟨⟨t192, t193, t194, t195, t196, t197, t198⟩, A230, H⟩ := H
          replace H : (if (t192 == t167 && (t193 == t168 && (t194 == t169 && (t195 == t170 && (t196 == t171 && (t197 == t172 && (t198 == t173))))))) = true then ((impl_EntrySub.f a0_0 a0_1 a0_2 a0_3 a0_4 a0_5 false a0_0 a0_1 a0_2 a0_3 a0_4 a0_5 false).bind fun bt199 => ((impl_EntryIsZero.f bt199.1 bt199.2.1 bt199.2.2.1 bt199.2.2.2.1 bt199.2.2.2.2.1 bt199.2.2.2.2.2.1 bt199.2.2.2.2.2.2).bind fun t206 => (if t206 = true then ((laws_styled.f).bind fun t207 => (some t207)) else (some false)))) else (some false)) = some r := H
          have A23 := Aside0.mk A230
          clear A230
          by_cases c24 : (t192 == t167 && (t193 == t168 && (t194 == t169 && (t195 == t170 && (t196 == t171 && (t197 == t172 && (t198 == t173))))))) = true
          · rw [if_pos c24] at H
            have c24b0 : (t192 == t167 && (t193 == t168 && (t194 == t169 && (t195 == t170 && (t196 == t171 && (t197 == t172 && (t198 == t173))))))) = true := c24
            (try (have c24b1 : decide (t192 = t167 && (t193 == t168 && (t194 == t169 && (t195 == t170 && (t196 == t171 && (t197 == t172 && (t198 == t173))))))) = true := by simpa using c24))
            (try (have c24b2 : (t192 == t167 && (t193 == t168 && (t194 == t169 && (t195 == t170 && (t196 == t171 && (t197 == t172 && (t198 == t173))))))) = true := by simpa using c24))
            clear c24
            replace H := Option.bind_eq_some_iff.mp H
            obtain ⟨⟨t199, t200, t201, t202, t203, t204, t205⟩, A250, H⟩ := H
            replace H : ((impl_EntryIsZero.f t199 t200 t201 t202 t203 t204 t205).bind fun t206 => (if t206 = true then ((laws_styled.f).bind fun t207 => (some t207)) else (some false))) = some r := H
            have A25 := Aside0.mk A250
            clear A250
            replace H := Option.bind_eq_some_iff.mp H
            obtain ⟨t206, A260, H⟩ := H
            replace H : (if t206 = true then ((laws_styled.f).bind fun t207 => (some t207)) else (some false)) = some r := H
            have A26 := Aside0.mk A260
            clear A260
            by_cases c27 : t206 = true
            · subst c27
              have H1 : ((laws_styled.f).bind fun t207 => (some t207)) = some r := by rw [if_pos rfl] at H; exact H
              clear H
              have H := H1
              clear H1
              replace H := Option.bind_eq_some_iff.mp H
              obtain ⟨t207, A280, H⟩ := H
              replace H : (some t207) = some r := H
              have A28 := Aside0.mk A280
              clear A280
              obtain rfl := Option.some.inj H
              have hnb29 := NB152_153.out
              have hnc29 := NB153_152.out
              have hcz30_0 : wc.cell? ⟨gb152, 0, none⟩ = some (.int .i32 a0_0) := (blk_cell BK152.out 0).trans rfl
              have hcz30_1 : wc.cell? ⟨gb152, 1, none⟩ = some (.int .i32 a0_1) := (blk_cell BK152.out 1).trans rfl
              have hcz30_2 : wc.cell? ⟨gb152, 2, none⟩ = some (.int .i32 a0_2) := (blk_cell BK152.out 2).trans rfl
              have hcz30_3 : wc.cell? ⟨gb152, 3, none⟩ = some (.int .u8 a0_3) := (blk_cell BK152.out 3).trans rfl
              have hcz30_4 : wc.cell? ⟨gb152, 4, none⟩ = some (.int .u8 a0_4) := (blk_cell BK152.out 4).trans rfl
              have hcz30_5 : wc.cell? ⟨gb152, 5, none⟩ = some (.int .u8 a0_5) := (blk_cell BK152.out 5).trans rfl
              have hcz30_6 : wc.cell? ⟨gb152, 6, none⟩ = some (.bool a0_6) := (blk_cell BK152.out 6).trans rfl
              have hfz30_0 := blk_frozen BK152.out 0
              have hfz30_1 := blk_frozen BK152.out 1
              have hfz30_2 := blk_frozen BK152.out 2
              have hfz30_3 := blk_frozen BK152.out 3
              have hfz30_4 := blk_frozen BK152.out 4
              have hfz30_5 := blk_frozen BK152.out 5
              have hfz30_6 := blk_frozen BK152.out 6
              have hcz31_0 : wc.cell? ⟨gb153, 0, none⟩ = some (.int .i32 a1_0) := (blk_cell BK153.out 0).trans rfl
              have hcz31_1 : wc.cell? ⟨gb153, 1, none⟩ = some (.int .i32 a1_1) := (blk_cell BK153.out 1).trans rfl
              have hcz31_2 : wc.cell? ⟨gb153, 2, none⟩ = some (.int .i32 a1_2) := (blk_cell BK153.out 2).trans rfl
              have hcz31_3 : wc.cell? ⟨gb153, 3, none⟩ = some (.int .u8 a1_3) := (blk_cell BK153.out 3).trans rfl
              have hcz31_4 : wc.cell? ⟨gb153, 4, none⟩ = some (.int .u8 a1_4) := (blk_cell BK153.out 4).trans rfl
              have hcz31_5 : wc.cell? ⟨gb153, 5, none⟩ = some (.int .u8 a1_5) := (blk_cell BK153.out 5).trans rfl
              have hcz31_6 : wc.cell? ⟨gb153, 6, none⟩ = some (.bool a1_6) := (blk_cell BK153.out 6).trans rfl
              have hfz31_0 := blk_frozen BK153.out 0
              have hfz31_1 := blk_frozen BK153.out 1
              have hfz31_2 := blk_frozen BK153.out 2
              have hfz31_3 := blk_frozen BK153.out 3
              have hfz31_4 := blk_frozen BK153.out 4
              have hfz31_5 := blk_frozen BK153.out 5
              have hfz31_6 := blk_frozen BK153.out 6
              try go_wp2_with (first | ((with_reducible refine gate_callee (f := 21) rfl ?_); refine goesL_ (some 17) rfl rfl Tryd.func21 (by kernel_rfl) rfl #[.agg #[.int .i32 a0_0, .int .i32 a0_1, .int .i32 a0_2, .int .u8 a0_3, .int .u8 a0_4, .int .u8 a0_5, .bool a0_6], .agg #[.int .i32 a1_0, .int .i32 a1_1, .int .i32 a1_2, .int .u8 a1_3, .int .u8 a1_4, .int .u8 a1_5, .bool a1_6]] rfl (by (try simp only [List.map_toArray, List.map_cons, List.map_nil]); first | done | rfl | (simp only [List.length_drop, List.length_take]; rfl)) ?_; (with_reducible refine (impl_EntrySub.calls a0_0 a0_1 a0_2 a0_3 a0_4 a0_5 a0_6 a1_0 a1_1 a1_2 a1_3 a1_4 a1_5 a1_6 t156 t157 t158 t159 t160 t161 t162 _ A18.out).mono ?_); rintro e w32 ⟨rfl, hb⟩; refine ⟨_, rfl, ?_⟩; have n0_ := Aside0.mk (blk_below (g := gb152) (o := .cells #[.int .i32 a0_0, .int .i32 a0_1, .int .i32 a0_2, .int .u8 a0_3, .int .u8 a0_4, .int .u8 a0_5, .bool a0_6] 23 (0, 0)) (by (with_reducible repeat (first | refine blk_drewN ?_ _ | refine blk_drew ?_ | refine blk_alloc ?_ _)); exact BK152.out) hb); have n1_ := Aside0.mk (blk_below (g := gb153) (o := .cells #[.int .i32 a1_0, .int .i32 a1_1, .int .i32 a1_2, .int .u8 a1_3, .int .u8 a1_4, .int .u8 a1_5, .bool a1_6] 23 (0, 0)) (by (with_reducible repeat (first | refine blk_drewN ?_ _ | refine blk_drew ?_ | refine blk_alloc ?_ _)); exact BK153.out) hb); have n2_ := Aside0.mk (below_step (by repeat (first | (with_reducible first | exact HB.out | apply below_alloc | apply pw_below_drewN | apply below_drew1 | refine below_set ?_ GE152.out | refine below_set ?_ GE153.out) | exact HB.out)) hb); clear BK152; clear BK153; clear HB; have BK152 := n0_; have BK153 := n1_; have HB := n2_; clear n0_ n1_ n2_; (try clear hb); (try clear hb2); (try clear hk); (try clear hi)) | ((with_reducible refine gate_dst (N := 5) rfl ?_); (try (refine gate_guard (by rfl) ?_; dsimp only)); refine box_event ?hg (N := 5) ?hd (cs := #[.int .i32 0, .int .i32 0, .int .i32 0, .int .u8 0, .int .u8 0, .int .u8 0, .bool false]) (t := 23) ?hr ?_; (case hd => rfl); (case hg => rfl); (case hr => first | (go_simp; done) | (go_simp; rfl)); intro gb163 hg w33 hbox hb; have n0_ := Aside0.mk (blk_below (g := gb152) (o := .cells #[.int .i32 a0_0, .int .i32 a0_1, .int .i32 a0_2, .int .u8 a0_3, .int .u8 a0_4, .int .u8 a0_5, .bool a0_6] 23 (0, 0)) (by (with_reducible repeat (first | refine blk_drewN ?_ _ | refine blk_drew ?_ | refine blk_alloc ?_ _)); exact BK152.out) hb); have n1_ := Aside0.mk (blk_below (g := gb153) (o := .cells #[.int .i32 a1_0, .int .i32 a1_1, .int .i32 a1_2, .int .u8 a1_3, .int .u8 a1_4, .int .u8 a1_5, .bool a1_6] 23 (0, 0)) (by (with_reducible repeat (first | refine blk_drewN ?_ _ | refine blk_drew ?_ | refine blk_alloc ?_ _)); exact BK153.out) hb); have n2_ := Aside0.mk (below_step (by repeat (first | (with_reducible first | exact HB.out | apply below_alloc | apply pw_below_drewN | apply below_drew1 | refine below_set ?_ GE152.out | refine below_set ?_ GE153.out) | exact HB.out)) hb); have n3_ := Aside0.mk (hbox); have n4_ := Aside0.mk ((by rw [hg]; exact (below_size (by repeat (first | (with_reducible first | exact HB.out | apply below_alloc | apply pw_below_drewN | apply below_drew1 | refine below_set ?_ GE152.out | refine below_set ?_ GE153.out) | exact HB.out))) : w.heap.size ≤ gb163)); have n5_ := Aside0.mk ((by rw [hg]; exact (below_size (by repeat (first | (with_reducible first | exact HB.out | apply below_alloc | apply pw_below_drewN | apply below_drew1 | refine below_set ?_ GE152.out | refine below_set ?_ GE153.out) | exact HB.out))) : w.heap.size ≤ gb163)); have n6_ := Aside0.mk ((by rw [hg]; exact Nat.ne_of_lt (blk_lt (g := gb152) (o := .cells #[.int .i32 a0_0, .int .i32 a0_1, .int .i32 a0_2, .int .u8 a0_3, .int .u8 a0_4, .int .u8 a0_5, .bool a0_6] 23 (0, 0)) (by (with_reducible repeat (first | refine blk_drewN ?_ _ | refine blk_drew ?_ | refine blk_alloc ?_ _)); exact BK152.out)) : gb152 ≠ gb163)); have n7_ := Aside0.mk ((by rw [hg]; exact Nat.ne_of_gt (blk_lt (g := gb152) (o := .cells #[.int .i32 a0_0, .int .i32 a0_1, .int .i32 a0_2, .int .u8 a0_3, .int .u8 a0_4, .int .u8 a0_5, .bool a0_6] 23 (0, 0)) (by (with_reducible repeat (first | refine blk_drewN ?_ _ | refine blk_drew ?_ | refine blk_alloc ?_ _)); exact BK152.out)) : gb163 ≠ gb152)); have n8_ := Aside0.mk ((by rw [hg]; exact Nat.ne_of_lt (blk_lt (g := gb153) (o := .cells #[.int .i32 a1_0, .int .i32 a1_1, .int .i32 a1_2, .int .u8 a1_3, .int .u8 a1_4, .int .u8 a1_5, .bool a1_6] 23 (0, 0)) (by (with_reducible repeat (first | refine blk_drewN ?_ _ | refine blk_drew ?_ | refine blk_alloc ?_ _)); exact BK153.out)) : gb153 ≠ gb163)); have n9_ := Aside0.mk ((by rw [hg]; exact Nat.ne_of_gt (blk_lt (g := gb153) (o := .cells #[.int .i32 a1_0, .int .i32 a1_1, .int .i32 a1_2, .int .u8 a1_3, .int .u8 a1_4, .int .u8 a1_5, .bool a1_6] 23 (0, 0)) (by (with_reducible repeat (first | refine blk_drewN ?_ _ | refine blk_drew ?_ | refine blk_alloc ?_ _)); exact BK153.out)) : gb163 ≠ gb153)); clear BK152; clear BK153; clear HB; have BK152 := n0_; have BK153 := n1_; have HB := n2_; have BK163 := n3_; have GW163 := n4_; have GE163 := n5_; have NB152_163 := n6_; have NB163_152 := n7_; have NB153_163 := n8_; have NB163_153 := n9_; clear n0_ n1_ n2_ n3_ n4_ n5_ n6_ n7_ n8_ n9_; clear hb hbox hg; have hnb34 := NB163_152.out; have hnc34 := NB152_163.out; have hnb35 := NB163_153.out; have hnc35 := NB153_163.out; have hcz36_0 : w33.cell? ⟨gb163, 0, none⟩ = some (.int .i32 0) := (blk_cell BK163.out 0).trans rfl; have hcz36_1 : w33.cell? ⟨gb163, 1, none⟩ = some (.int .i32 0) := (blk_cell BK163.out 1).trans rfl; have hcz36_2 : w33.cell? ⟨gb163, 2, none⟩ = some (.int .i32 0) := (blk_cell BK163.out 2).trans rfl; have hcz36_3 : w33.cell? ⟨gb163, 3, none⟩ = some (.int .u8 0) := (blk_cell BK163.out 3).trans rfl; have hcz36_4 : w33.cell? ⟨gb163, 4, none⟩ = some (.int .u8 0) := (blk_cell BK163.out 4).trans rfl; have hcz36_5 : w33.cell? ⟨gb163, 5, none⟩ = some (.int .u8 0) := (blk_cell BK163.out 5).trans rfl; have hcz36_6 : w33.cell? ⟨gb163, 6, none⟩ = some (.bool false) := (blk_cell BK163.out 6).trans rfl; have hfz36_0 := blk_frozen BK163.out 0; have hfz36_1 := blk_frozen BK163.out 1; have hfz36_2 := blk_frozen BK163.out 2; have hfz36_3 := blk_frozen BK163.out 3; have hfz36_4 := blk_frozen BK163.out 4; have hfz36_5 := blk_frozen BK163.out 5; have hfz36_6 := blk_frozen BK163.out 6; have hcz37_0 : w33.cell? ⟨gb152, 0, none⟩ = some (.int .i32 a0_0) := (blk_cell BK152.out 0).trans rfl; have hcz37_1 : w33.cell? ⟨gb152, 1, none⟩ = some (.int .i32 a0_1) := (blk_cell BK152.out 1).trans rfl; have hcz37_2 : w33.cell? ⟨gb152, 2, none⟩ = some (.int .i32 a0_2) := (blk_cell BK152.out 2).trans rfl; have hcz37_3 : w33.cell? ⟨gb152, 3, none⟩ = some (.int .u8 a0_3) := (blk_cell BK152.out 3).trans rfl; have hcz37_4 : w33.cell? ⟨gb152, 4, none⟩ = some (.int .u8 a0_4) := (blk_cell BK152.out 4).trans rfl; have hcz37_5 : w33.cell? ⟨gb152, 5, none⟩ = some (.int .u8 a0_5) := (blk_cell BK152.out 5).trans rfl; have hcz37_6 : w33.cell? ⟨gb152, 6, none⟩ = some (.bool a0_6) := (blk_cell BK152.out 6).trans rfl; have hfz37_0 := blk_frozen BK152.out 0; have hfz37_1 := blk_frozen BK152.out 1; have hfz37_2 := blk_frozen BK152.out 2; have hfz37_3 := blk_frozen BK152.out 3; have hfz37_4 := blk_frozen BK152.out 4; have hfz37_5 := blk_frozen BK152.out 5; have hfz37_6 := blk_frozen BK152.out 6; have hcz38_0 : w33.cell? ⟨gb153, 0, none⟩ = some (.int .i32 a1_0) := (blk_cell BK153.out 0).trans rfl; have hcz38_1 : w33.cell? ⟨gb153, 1, none⟩ = some (.int .i32 a1_1) := (blk_cell BK153.out 1).trans rfl; have hcz38_2 : w33.cell? ⟨gb153, 2, none⟩ = some (.int .i32 a1_2) := (blk_cell BK153.out 2).trans rfl; have hcz38_3 : w33.cell? ⟨gb153, 3, none⟩ = some (.int .u8 a1_3) := (blk_cell BK153.out 3).trans rfl; have hcz38_4 : w33.cell? ⟨gb153, 4, none⟩ = some (.int .u8 a1_4) := (blk_cell BK153.out 4).trans rfl; have hcz38_5 : w33.cell? ⟨gb153, 5, none⟩ = some (.int .u8 a1_5) := (blk_cell BK153.out 5).trans rfl; have hcz38_6 : w33.cell? ⟨gb153, 6, none⟩ = some (.bool a1_6) := (blk_cell BK153.out 6).trans rfl; have hfz38_0 := blk_frozen BK153.out 0; have hfz38_1 := blk_frozen BK153.out 1; have hfz38_2 := blk_frozen BK153.out 2; have hfz38_3 := blk_frozen BK153.out 3; have hfz38_4 := blk_frozen BK153.out 4; have hfz38_5 := blk_frozen BK153.out 5; have hfz38_6 := blk_frozen BK153.out 6) | ((with_reducible refine gate_dst (N := 21) rfl ?_); (try (refine gate_guard (by rfl) ?_; dsimp only)); refine Kd.R_lit k23 _ 23 ?hg (N := 21) ?hd (xs := ([(⟨a1_0, a1_1, a1_2, a1_3, a1_4, a1_5, a1_6⟩ : S23)] : List (S23))) (inner := [.int .i32 a1_0, .int .i32 a1_1, .int .i32 a1_2, .int .u8 a1_3, .int .u8 a1_4, .int .u8 a1_5, .bool a1_6]) (ok := fun _ => True) (okp := fun _ => True) ?hr ?hp (fun _ hk => hk) trivial (Below.refl _ _) (Nat.le_refl _) (by simp) ?_; (case hd => rfl); (case hg => rfl); (case hr => first | (go_simp; done) | (go_simp; rfl)); (case hp => exact (Reps.c7 (show Kd.M k23 _ _ _ (⟨a1_0, a1_1, a1_2, a1_3, a1_4, a1_5, a1_6⟩ : S23) [.int .i32 a1_0, .int .i32 a1_1, .int .i32 a1_2, .int .u8 a1_3, .int .u8 a1_4, .int .u8 a1_5, .bool a1_6] from (k23_mkM _ _ _ (⟨a1_0, a1_1, a1_2, a1_3, a1_4, a1_5, a1_6⟩ : S23) )) (Reps.none _ _))); intro v165 w39 ho40 hb hg_ hnew_; clear hg_ hnew_; (first | rw [← Ny164.out] at ho40 | (simp only [Int.reduceToNat] at ho40; rw [← Ny164.out] at ho40)); have n0_ := Aside0.mk (Kd.R_lower (Kd.R_newB (Kd.R_newB (Kd.R_newB ho40 (g := gb152) (o := .cells #[.int .i32 a0_0, .int .i32 a0_1, .int .i32 a0_2, .int .u8 a0_3, .int .u8 a0_4, .int .u8 a0_5, .bool false] 23 (0, 0)) (by (with_reducible repeat (first | refine blk_drewN ?_ _ | refine blk_drew ?_ | refine blk_alloc ?_ _)); refine blk_put (cs := #[.int .i32 a0_0, .int .i32 a0_1, .int .i32 a0_2, .int .u8 a0_3, .int .u8 a0_4, .int .u8 a0_5, .bool a0_6]) ?_ 6 _ rfl; (with_reducible repeat (first | refine blk_drewN ?_ _ | refine blk_drew ?_ | refine blk_alloc ?_ _)); refine blk_far ?_ NB152_163.out _; (with_reducible repeat (first | refine blk_drewN ?_ _ | refine blk_drew ?_ | refine blk_alloc ?_ _)); refine blk_far ?_ NB152_163.out _; (with_reducible repeat (first | refine blk_drewN ?_ _ | refine blk_drew ?_ | refine blk_alloc ?_ _)); refine blk_far ?_ NB152_163.out _; (with_reducible repeat (first | refine blk_drewN ?_ _ | refine blk_drew ?_ | refine blk_alloc ?_ _)); refine blk_far ?_ NB152_163.out _; (with_reducible repeat (first | refine blk_drewN ?_ _ | refine blk_drew ?_ | refine blk_alloc ?_ _)); refine blk_far ?_ NB152_163.out _; (with_reducible repeat (first | refine blk_drewN ?_ _ | refine blk_drew ?_ | refine blk_alloc ?_ _)); refine blk_far ?_ NB152_163.out _; (with_reducible repeat (first | refine blk_drewN ?_ _ | refine blk_drew ?_ | refine blk_alloc ?_ _)); refine blk_far ?_ NB152_163.out _; (with_reducible repeat (first | refine blk_drewN ?_ _ | refine blk_drew ?_ | refine blk_alloc ?_ _)); exact BK152.out)) (g := gb153) (o := .cells #[.int .i32 a1_0, .int .i32 a1_1, .int .i32 a1_2, .int .u8 a1_3, .int .u8 a1_4, .int .u8 a1_5, .bool a1_6] 23 (0, 0)) (by (with_reducible repeat (first | refine blk_drewN ?_ _ | refine blk_drew ?_ | refine blk_alloc ?_ _)); refine blk_far ?_ NB153_152.out _; (with_reducible repeat (first | refine blk_drewN ?_ _ | refine blk_drew ?_ | refine blk_alloc ?_ _)); refine blk_far ?_ NB153_163.out _; (with_reducible repeat (first | refine blk_drewN ?_ _ | refine blk_drew ?_ | refine blk_alloc ?_ _)); refine blk_far ?_ NB153_163.out _; (with_reducible repeat (first | refine blk_drewN ?_ _ | refine blk_drew ?_ | refine blk_alloc ?_ _)); refine blk_far ?_ NB153_163.out _; (with_reducible repeat (first | refine blk_drewN ?_ _ | refine blk_drew ?_ | refine blk_alloc ?_ _)); refine blk_far ?_ NB153_163.out _; (with_reducible repeat (first | refine blk_drewN ?_ _ | refine blk_drew ?_ | refine blk_alloc ?_ _)); refine blk_far ?_ NB153_163.out _; (with_reducible repeat (first | refine blk_drewN ?_ _ | refine blk_drew ?_ | refine blk_alloc ?_ _)); refine blk_far ?_ NB153_163.out _; (with_reducible repeat (first | refine blk_drewN ?_ _ | refine blk_drew ?_ | refine blk_alloc ?_ _)); refine blk_far ?_ NB153_163.out _; (with_reducible repeat (first | refine blk_drewN ?_ _ | refine blk_drew ?_ | refine blk_alloc ?_ _)); exact BK153.out)) (g := gb163) (o := .cells #[.int .i32 t156, .int .i32 t157, .int .i32 t158, .int .u8 t159, .int .u8 t160, .int .u8 t161, .bool t162] 23 (0, 0)) (by (with_reducible repeat (first | refine blk_drewN ?_ _ | refine blk_drew ?_ | refine blk_alloc ?_ _)); refine blk_far ?_ NB163_152.out _; (with_reducible repeat (first | refine blk_drewN ?_ _ | refine blk_drew ?_ | refine blk_alloc ?_ _)); refine blk_put (cs := #[.int .i32 t156, .int .i32 t157, .int .i32 t158, .int .u8 t159, .int .u8 t160, .int .u8 t161, .bool false]) ?_ 6 _ rfl; (with_reducible repeat (first | refine blk_drewN ?_ _ | refine blk_drew ?_ | refine blk_alloc ?_ _)); refine blk_put (cs := #[.int .i32 t156, .int .i32 t157, .int .i32 t158, .int .u8 t159, .int .u8 t160, .int .u8 0, .bool false]) ?_ 5 _ rfl; (with_reducible repeat (first | refine blk_drewN ?_ _ | refine blk_drew ?_ | refine blk_alloc ?_ _)); refine blk_put (cs := #[.int .i32 t156, .int .i32 t157, .int .i32 t158, .int .u8 t159, .int .u8 0, .int .u8 0, .bool false]) ?_ 4 _ rfl; (with_reducible repeat (first | refine blk_drewN ?_ _ | refine blk_drew ?_ | refine blk_alloc ?_ _)); refine blk_put (cs := #[.int .i32 t156, .int .i32 t157, .int .i32 t158, .int .u8 0, .int .u8 0, .int .u8 0, .bool false]) ?_ 3 _ rfl; (with_reducible repeat (first | refine blk_drewN ?_ _ | refine blk_drew ?_ | refine blk_alloc ?_ _)); refine blk_put (cs := #[.int .i32 t156, .int .i32 t157, .int .i32 0, .int .u8 0, .int .u8 0, .int .u8 0, .bool false]) ?_ 2 _ rfl; (with_reducible repeat (first | refine blk_drewN ?_ _ | refine blk_drew ?_ | refine blk_alloc ?_ _)); refine blk_put (cs := #[.int .i32 t156, .int .i32 0, .int .i32 0, .int .u8 0, .int .u8 0, .int .u8 0, .bool false]) ?_ 1 _ rfl; (with_reducible repeat (first | refine blk_drewN ?_ _ | refine blk_drew ?_ | refine blk_alloc ?_ _)); refine blk_put (cs := #[.int .i32 0, .int .i32 0, .int .i32 0, .int .u8 0, .int .u8 0, .int .u8 0, .bool false]) ?_ 0 _ rfl; (with_reducible repeat (first | refine blk_drewN ?_ _ | refine blk_drew ?_ | refine blk_alloc ?_ _)); exact BK163.out)) (below_size (by repeat (first | (with_reducible first | exact HB.out | apply below_alloc | apply pw_below_drewN | apply below_drew1 | refine below_set ?_ GE152.out | refine below_set ?_ GE153.out | refine below_set ?_ GE163.out) | exact HB.out)))); have n1_ := Aside0.mk (blk_below (g := gb152) (o := .cells #[.int .i32 a0_0, .int .i32 a0_1, .int .i32 a0_2, .int .u8 a0_3, .int .u8 a0_4, .int .u8 a0_5, .bool false] 23 (0, 0)) (by (with_reducible repeat (first | refine blk_drewN ?_ _ | refine blk_drew ?_ | refine blk_alloc ?_ _)); refine blk_put (cs := #[.int .i32 a0_0, .int .i32 a0_1, .int .i32 a0_2, .int .u8 a0_3, .int .u8 a0_4, .int .u8 a0_5, .bool a0_6]) ?_ 6 _ rfl; (with_reducible repeat (first | refine blk_drewN ?_ _ | refine blk_drew ?_ | refine blk_alloc ?_ _)); refine blk_far ?_ NB152_163.out _; (with_reducible repeat (first | refine blk_drewN ?_ _ | refine blk_drew ?_ | refine blk_alloc ?_ _)); refine blk_far ?_ NB152_163.out _; (with_reducible repeat (first | refine blk_drewN ?_ _ | refine blk_drew ?_ | refine blk_alloc ?_ _)); refine blk_far ?_ NB152_163.out _; (with_reducible repeat (first | refine blk_drewN ?_ _ | refine blk_drew ?_ | refine blk_alloc ?_ _)); refine blk_far ?_ NB152_163.out _; (with_reducible repeat (first | refine blk_drewN ?_ _ | refine blk_drew ?_ | refine blk_alloc ?_ _)); refine blk_far ?_ NB152_163.out _; (with_reducible repeat (first | refine blk_drewN ?_ _ | refine blk_drew ?_ | refine blk_alloc ?_ _)); refine blk_far ?_ NB152_163.out _; (with_reducible repeat (first | refine blk_drewN ?_ _ | refine blk_drew ?_ | refine blk_alloc ?_ _)); refine blk_far ?_ NB152_163.out _; (with_reducible repeat (first | refine blk_drewN ?_ _ | refine blk_drew ?_ | refine blk_alloc ?_ _)); exact BK152.out) hb); have n2_ := Aside0.mk (blk_below (g := gb153) (o := .cells #[.int .i32 a1_0, .int .i32 a1_1, .int .i32 a1_2, .int .u8 a1_3, .int .u8 a1_4, .int .u8 a1_5, .bool a1_6] 23 (0, 0)) (by (with_reducible repeat (first | refine blk_drewN ?_ _ | refine blk_drew ?_ | refine blk_alloc ?_ _)); refine blk_far ?_ NB153_152.out _; (with_reducible repeat (first | refine blk_drewN ?_ _ | refine blk_drew ?_ | refine blk_alloc ?_ _)); refine blk_far ?_ NB153_163.out _; (with_reducible repeat (first | refine blk_drewN ?_ _ | refine blk_drew ?_ | refine blk_alloc ?_ _)); refine blk_far ?_ NB153_163.out _; (with_reducible repeat (first | refine blk_drewN ?_ _ | refine blk_drew ?_ | refine blk_alloc ?_ _)); refine blk_far ?_ NB153_163.out _; (with_reducible repeat (first | refine blk_drewN ?_ _ | refine blk_drew ?_ | refine blk_alloc ?_ _)); refine blk_far ?_ NB153_163.out _; (with_reducible repeat (first | refine blk_drewN ?_ _ | refine blk_drew ?_ | refine blk_alloc ?_ _)); refine blk_far ?_ NB153_163.out _; (with_reducible repeat (first | refine blk_drewN ?_ _ | refine blk_drew ?_ | refine blk_alloc ?_ _)); refine blk_far ?_ NB153_163.out _; (with_reducible repeat (first | refine blk_drewN ?_ _ | refine blk_drew ?_ | refine blk_alloc ?_ _)); refine blk_far ?_ NB153_163.out _; (with_reducible repeat (first | refine blk_drewN ?_ _ | refine blk_drew ?_ | refine blk_alloc ?_ _)); exact BK153.out) hb); have n3_ := Aside0.mk (blk_below (g := gb163) (o := .cells #[.int .i32 t156, .int .i32 t157, .int .i32 t158, .int .u8 t159, .int .u8 t160, .int .u8 t161, .bool t162] 23 (0, 0)) (by (with_reducible repeat (first | refine blk_drewN ?_ _ | refine blk_drew ?_ | refine blk_alloc ?_ _)); refine blk_far ?_ NB163_152.out _; (with_reducible repeat (first | refine blk_drewN ?_ _ | refine blk_drew ?_ | refine blk_alloc ?_ _)); refine blk_put (cs := #[.int .i32 t156, .int .i32 t157, .int .i32 t158, .int .u8 t159, .int .u8 t160, .int .u8 t161, .bool false]) ?_ 6 _ rfl; (with_reducible repeat (first | refine blk_drewN ?_ _ | refine blk_drew ?_ | refine blk_alloc ?_ _)); refine blk_put (cs := #[.int .i32 t156, .int .i32 t157, .int .i32 t158, .int .u8 t159, .int .u8 t160, .int .u8 0, .bool false]) ?_ 5 _ rfl; (with_reducible repeat (first | refine blk_drewN ?_ _ | refine blk_drew ?_ | refine blk_alloc ?_ _)); refine blk_put (cs := #[.int .i32 t156, .int .i32 t157, .int .i32 t158, .int .u8 t159, .int .u8 0, .int .u8 0, .bool false]) ?_ 4 _ rfl; (with_reducible repeat (first | refine blk_drewN ?_ _ | refine blk_drew ?_ | refine blk_alloc ?_ _)); refine blk_put (cs := #[.int .i32 t156, .int .i32 t157, .int .i32 t158, .int .u8 0, .int .u8 0, .int .u8 0, .bool false]) ?_ 3 _ rfl; (with_reducible repeat (first | refine blk_drewN ?_ _ | refine blk_drew ?_ | refine blk_alloc ?_ _)); refine blk_put (cs := #[.int .i32 t156, .int .i32 t157, .int .i32 0, .int .u8 0, .int .u8 0, .int .u8 0, .bool false]) ?_ 2 _ rfl; (with_reducible repeat (first | refine blk_drewN ?_ _ | refine blk_drew ?_ | refine blk_alloc ?_ _)); refine blk_put (cs := #[.int .i32 t156, .int .i32 0, .int .i32 0, .int .u8 0, .int .u8 0, .int .u8 0, .bool false]) ?_ 1 _ rfl; (with_reducible repeat (first | refine blk_drewN ?_ _ | refine blk_drew ?_ | refine blk_alloc ?_ _)); refine blk_put (cs := #[.int .i32 0, .int .i32 0, .int .i32 0, .int .u8 0, .int .u8 0, .int .u8 0, .bool false]) ?_ 0 _ rfl; (with_reducible repeat (first | refine blk_drewN ?_ _ | refine blk_drew ?_ | refine blk_alloc ?_ _)); exact BK163.out) hb); have n4_ := Aside0.mk (below_step (by repeat (first | (with_reducible first | exact HB.out | apply below_alloc | apply pw_below_drewN | apply below_drew1 | refine below_set ?_ GE152.out | refine below_set ?_ GE153.out | refine below_set ?_ GE163.out) | exact HB.out)) hb); clear BK152; clear BK153; clear BK163; clear HB; have HO166 := n0_; have BK152 := n1_; have BK153 := n2_; have BK163 := n3_; have HB := n4_; clear n0_ n1_ n2_ n3_ n4_; clear hb ho40; obtain ⟨Ao41, co41, eo41⟩ := Kd.R_slice HO166.out; subst eo41) | ((with_reducible refine gate_callee (f := 18) rfl ?_); refine goesL_ (some 22) rfl rfl Tryd.func18 (by kernel_rfl) rfl #[.agg #[.int .i32 a0_0, .int .i32 a0_1, .int .i32 a0_2, .int .u8 a0_3, .int .u8 a0_4, .int .u8 a0_5, .bool false], .slice Ao41 y164.length co41] rfl (by (try simp only [List.map_toArray, List.map_cons, List.map_nil]); first | done | rfl | (simp only [List.length_drop, List.length_take]; rfl)) ?_; (with_reducible refine (impl_EntryInherit.calls a0_0 a0_1 a0_2 a0_3 a0_4 a0_5 false _ _ y164 t167 t168 t169 t170 t171 t172 t173 _ ?side1 ?side2 A19.out).mono ?_); (case side1 => repeat (first | exact (Kd.R_reads' HO166.out).2.2 | (with_reducible refine Kd.C_alloc ?_ _) | (with_reducible refine Kd.C_drewN ?_ _) | (with_reducible refine Kd.C_drew ?_))); (case side2 => exact (Kd.R_reads' HO166.out).2.1); rintro e w42 ⟨rfl, hb⟩; refine ⟨_, rfl, ?_⟩; have n0_ := Aside0.mk (Kd.R_below (by (with_reducible repeat (first | apply Kd.R_alloc | apply Kd.R_drewN | apply Kd.R_drew)); exact HO166.out) hb); have n1_ := Aside0.mk (blk_below (g := gb152) (o := .cells #[.int .i32 a0_0, .int .i32 a0_1, .int .i32 a0_2, .int .u8 a0_3, .int .u8 a0_4, .int .u8 a0_5, .bool false] 23 (0, 0)) (by (with_reducible repeat (first | refine blk_drewN ?_ _ | refine blk_drew ?_ | refine blk_alloc ?_ _)); exact BK152.out) hb); have n2_ := Aside0.mk (blk_below (g := gb153) (o := .cells #[.int .i32 a1_0, .int .i32 a1_1, .int .i32 a1_2, .int .u8 a1_3, .int .u8 a1_4, .int .u8 a1_5, .bool a1_6] 23 (0, 0)) (by (with_reducible repeat (first | refine blk_drewN ?_ _ | refine blk_drew ?_ | refine blk_alloc ?_ _)); exact BK153.out) hb); have n3_ := Aside0.mk (blk_below (g := gb163) (o := .cells #[.int .i32 t156, .int .i32 t157, .int .i32 t158, .int .u8 t159, .int .u8 t160, .int .u8 t161, .bool t162] 23 (0, 0)) (by (with_reducible repeat (first | refine blk_drewN ?_ _ | refine blk_drew ?_ | refine blk_alloc ?_ _)); exact BK163.out) hb); have n4_ := Aside0.mk (below_step (by repeat (first | (with_reducible first | exact HB.out | apply below_alloc | apply pw_below_drewN | apply below_drew1 | refine below_set ?_ GE152.out | refine below_set ?_ GE153.out | refine below_set ?_ GE163.out) | exact HB.out)) hb); clear HO166; clear BK152; clear BK153; clear BK163; clear HB; have HO166 := n0_; have BK152 := n1_; have BK153 := n2_; have BK163 := n3_; have HB := n4_; clear n0_ n1_ n2_ n3_ n4_; (try clear hb); (try clear hb2); (try clear hk); (try clear hi)) | ((with_reducible refine gate_dst (N := 6) rfl ?_); (try (refine gate_guard (by rfl) ?_; dsimp only)); refine box_event ?hg (N := 6) ?hd (cs := #[.int .i32 0, .int .i32 0, .int .i32 0, .int .u8 0, .int .u8 0, .int .u8 0, .bool false]) (t := 23) ?hr ?_; (case hd => rfl); (case hg => rfl); (case hr => first | (go_simp; done) | (go_simp; rfl)); intro gb174 hg w43 hbox hb; have n0_ := Aside0.mk (Kd.R_below (Kd.R_elderB (by (with_reducible repeat (first | apply Kd.R_alloc | apply Kd.R_drewN | apply Kd.R_drew)); exact HO166.out) gb174 (Nat.le_of_eq hg.symm)) hb); have n1_ := Aside0.mk (blk_below (g := gb152) (o := .cells #[.int .i32 a0_0, .int .i32 a0_1, .int .i32 a0_2, .int .u8 a0_3, .int .u8 a0_4, .int .u8 a0_5, .bool false] 23 (0, 0)) (by (with_reducible repeat (first | refine blk_drewN ?_ _ | refine blk_drew ?_ | refine blk_alloc ?_ _)); exact BK152.out) hb); have n2_ := Aside0.mk (blk_below (g := gb153) (o := .cells #[.int .i32 a1_0, .int .i32 a1_1, .int .i32 a1_2, .int .u8 a1_3, .int .u8 a1_4, .int .u8 a1_5, .bool a1_6] 23 (0, 0)) (by (with_reducible repeat (first | refine blk_drewN ?_ _ | refine blk_drew ?_ | refine blk_alloc ?_ _)); exact BK153.out) hb); have n3_ := Aside0.mk (blk_below (g := gb163) (o := .cells #[.int .i32 t156, .int .i32 t157, .int .i32 t158, .int .u8 t159, .int .u8 t160, .int .u8 t161, .bool t162] 23 (0, 0)) (by (with_reducible repeat (first | refine blk_drewN ?_ _ | refine blk_drew ?_ | refine blk_alloc ?_ _)); exact BK163.out) hb); have n4_ := Aside0.mk (below_step (by repeat (first | (with_reducible first | exact HB.out | apply below_alloc | apply pw_below_drewN | apply below_drew1 | refine below_set ?_ GE152.out | refine below_set ?_ GE153.out | refine below_set ?_ GE163.out) | exact HB.out)) hb); have n5_ := Aside0.mk (hbox); have n6_ := Aside0.mk ((by rw [hg]; exact (below_size (by repeat (first | (with_reducible first | exact HB.out | apply below_alloc | apply pw_below_drewN | apply below_drew1 | refine below_set ?_ GE152.out | refine below_set ?_ GE153.out | refine below_set ?_ GE163.out) | exact HB.out))) : w.heap.size ≤ gb174)); have n7_ := Aside0.mk ((by rw [hg]; exact (below_size (by repeat (first | (with_reducible first | exact HB.out | apply below_alloc | apply pw_below_drewN | apply below_drew1 | refine below_set ?_ GE152.out | refine below_set ?_ GE153.out | refine below_set ?_ GE163.out) | exact HB.out))) : w.heap.size ≤ gb174)); have n8_ := Aside0.mk ((by rw [hg]; exact Nat.ne_of_lt (blk_lt (g := gb152) (o := .cells #[.int .i32 a0_0, .int .i32 a0_1, .int .i32 a0_2, .int .u8 a0_3, .int .u8 a0_4, .int .u8 a0_5, .bool false] 23 (0, 0)) (by (with_reducible repeat (first | refine blk_drewN ?_ _ | refine blk_drew ?_ | refine blk_alloc ?_ _)); exact BK152.out)) : gb152 ≠ gb174)); have n9_ := Aside0.mk ((by rw [hg]; exact Nat.ne_of_gt (blk_lt (g := gb152) (o := .cells #[.int .i32 a0_0, .int .i32 a0_1, .int .i32 a0_2, .int .u8 a0_3, .int .u8 a0_4, .int .u8 a0_5, .bool false] 23 (0, 0)) (by (with_reducible repeat (first | refine blk_drewN ?_ _ | refine blk_drew ?_ | refine blk_alloc ?_ _)); exact BK152.out)) : gb174 ≠ gb152)); have n10_ := Aside0.mk ((by rw [hg]; exact Nat.ne_of_lt (blk_lt (g := gb153) (o := .cells #[.int .i32 a1_0, .int .i32 a1_1, .int .i32 a1_2, .int .u8 a1_3, .int .u8 a1_4, .int .u8 a1_5, .bool a1_6] 23 (0, 0)) (by (with_reducible repeat (first | refine blk_drewN ?_ _ | refine blk_drew ?_ | refine blk_alloc ?_ _)); exact BK153.out)) : gb153 ≠ gb174)); have n11_ := Aside0.mk ((by rw [hg]; exact Nat.ne_of_gt (blk_lt (g := gb153) (o := .cells #[.int .i32 a1_0, .int .i32 a1_1, .int .i32 a1_2, .int .u8 a1_3, .int .u8 a1_4, .int .u8 a1_5, .bool a1_6] 23 (0, 0)) (by (with_reducible repeat (first | refine blk_drewN ?_ _ | refine blk_drew ?_ | refine blk_alloc ?_ _)); exact BK153.out)) : gb174 ≠ gb153)); have n12_ := Aside0.mk ((by rw [hg]; exact Nat.ne_of_lt (blk_lt (g := gb163) (o := .cells #[.int .i32 t156, .int .i32 t157, .int .i32 t158, .int .u8 t159, .int .u8 t160, .int .u8 t161, .bool t162] 23 (0, 0)) (by (with_reducible repeat (first | refine blk_drewN ?_ _ | refine blk_drew ?_ | refine blk_alloc ?_ _)); exact BK163.out)) : gb163 ≠ gb174)); have n13_ := Aside0.mk ((by rw [hg]; exact Nat.ne_of_gt (blk_lt (g := gb163) (o := .cells #[.int .i32 t156, .int .i32 t157, .int .i32 t158, .int .u8 t159, .int .u8 t160, .int .u8 t161, .bool t162] 23 (0, 0)) (by (with_reducible repeat (first | refine blk_drewN ?_ _ | refine blk_drew ?_ | refine blk_alloc ?_ _)); exact BK163.out)) : gb174 ≠ gb163)); clear HO166; clear BK152; clear BK153; clear BK163; clear HB; have HO166 := n0_; have BK152 := n1_; have BK153 := n2_; have BK163 := n3_; have HB := n4_; have BK174 := n5_; have GW174 := n6_; have GE174 := n7_; have NB152_174 := n8_; have NB174_152 := n9_; have NB153_174 := n10_; have NB174_153 := n11_; have NB163_174 := n12_; have NB174_163 := n13_; clear n0_ n1_ n2_ n3_ n4_ n5_ n6_ n7_ n8_ n9_ n10_ n11_ n12_ n13_; clear hb hbox hg; have hnb44 := NB174_152.out; have hnc44 := NB152_174.out; have hnb45 := NB174_153.out; have hnc45 := NB153_174.out; have hnb46 := NB174_163.out; have hnc46 := NB163_174.out; have hcz47_0 : w43.cell? ⟨gb174, 0, none⟩ = some (.int .i32 0) := (blk_cell BK174.out 0).trans rfl; have hcz47_1 : w43.cell? ⟨gb174, 1, none⟩ = some (.int .i32 0) := (blk_cell BK174.out 1).trans rfl; have hcz47_2 : w43.cell? ⟨gb174, 2, none⟩ = some (.int .i32 0) := (blk_cell BK174.out 2).trans rfl; have hcz47_3 : w43.cell? ⟨gb174, 3, none⟩ = some (.int .u8 0) := (blk_cell BK174.out 3).trans rfl; have hcz47_4 : w43.cell? ⟨gb174, 4, none⟩ = some (.int .u8 0) := (blk_cell BK174.out 4).trans rfl; have hcz47_5 : w43.cell? ⟨gb174, 5, none⟩ = some (.int .u8 0) := (blk_cell BK174.out 5).trans rfl; have hcz47_6 : w43.cell? ⟨gb174, 6, none⟩ = some (.bool false) := (blk_cell BK174.out 6).trans rfl; have hfz47_0 := blk_frozen BK174.out 0; have hfz47_1 := blk_frozen BK174.out 1; have hfz47_2 := blk_frozen BK174.out 2; have hfz47_3 := blk_frozen BK174.out 3; have hfz47_4 := blk_frozen BK174.out 4; have hfz47_5 := blk_frozen BK174.out 5; have hfz47_6 := blk_frozen BK174.out 6))
              have n0_ : Aside0 (Kd.R k23 23 (((((((w43.setCell ⟨gb174, 0, none⟩ (.int .i32 t167)).setCell ⟨gb174, 1, none⟩ (.int .i32 t168)).setCell ⟨gb174, 2, none⟩ (.int .i32 t169)).setCell ⟨gb174, 3, none⟩ (.int .u8 t170)).setCell ⟨gb174, 4, none⟩ (.int .u8 t171)).setCell ⟨gb174, 5, none⟩ (.int .u8 t172)).setCell ⟨gb174, 6, none⟩ (.bool t173)) w.heap.size (fun k_ => k_ ≠ gb152 ∧ k_ ≠ gb153 ∧ k_ ≠ gb163 ∧ k_ ≠ gb174) (.slice Ao41 y164.length co41) y164) := ⟨by (with_reducible repeat (first | apply Kd.R_alloc | apply Kd.R_drewN | apply Kd.R_drew)); exact Kd.R_mono (Kd.R_far (p := ⟨gb174, 6, none⟩) (Kd.R_far (p := ⟨gb174, 5, none⟩) (Kd.R_far (p := ⟨gb174, 4, none⟩) (Kd.R_far (p := ⟨gb174, 3, none⟩) (Kd.R_far (p := ⟨gb174, 2, none⟩) (Kd.R_far (p := ⟨gb174, 1, none⟩) (Kd.R_far (p := ⟨gb174, 0, none⟩) (Kd.R_mono HO166.out (fun k_ hk => (⟨hk, hk.2⟩ : _ ∧ k_ ≠ gb174))) (fun _ hk => hk.2) (.int .i32 t167)) (fun _ hk => hk.2) (.int .i32 t168)) (fun _ hk => hk.2) (.int .i32 t169)) (fun _ hk => hk.2) (.int .u8 t170)) (fun _ hk => hk.2) (.int .u8 t171)) (fun _ hk => hk.2) (.int .u8 t172)) (fun _ hk => hk.2) (.bool t173)) (fun _ hk => by first | exact ⟨hk.1.1.1.1.2, ⟨hk.1.1.1.2, ⟨hk.1.1.2, hk.1.2⟩⟩⟩ | exact hk.1)⟩
              have n1_ : Aside0 ((((((((w43.setCell ⟨gb174, 0, none⟩ (.int .i32 t167)).setCell ⟨gb174, 1, none⟩ (.int .i32 t168)).setCell ⟨gb174, 2, none⟩ (.int .i32 t169)).setCell ⟨gb174, 3, none⟩ (.int .u8 t170)).setCell ⟨gb174, 4, none⟩ (.int .u8 t171)).setCell ⟨gb174, 5, none⟩ (.int .u8 t172)).setCell ⟨gb174, 6, none⟩ (.bool t173)).heap[gb152]? = some (.cells #[.int .i32 a0_0, .int .i32 a0_1, .int .i32 a0_2, .int .u8 a0_3, .int .u8 a0_4, .int .u8 a0_5, .bool false] 23 (0, 0))) := ⟨by (with_reducible repeat (first | refine blk_drewN ?_ _ | refine blk_drew ?_ | refine blk_alloc ?_ _)); refine blk_far ?_ NB152_174.out _; (with_reducible repeat (first | refine blk_drewN ?_ _ | refine blk_drew ?_ | refine blk_alloc ?_ _)); refine blk_far ?_ NB152_174.out _; (with_reducible repeat (first | refine blk_drewN ?_ _ | refine blk_drew ?_ | refine blk_alloc ?_ _)); refine blk_far ?_ NB152_174.out _; (with_reducible repeat (first | refine blk_drewN ?_ _ | refine blk_drew ?_ | refine blk_alloc ?_ _)); refine blk_far ?_ NB152_174.out _; (with_reducible repeat (first | refine blk_drewN ?_ _ | refine blk_drew ?_ | refine blk_alloc ?_ _)); refine blk_far ?_ NB152_174.out _; (with_reducible repeat (first | refine blk_drewN ?_ _ | refine blk_drew ?_ | refine blk_alloc ?_ _)); refine blk_far ?_ NB152_174.out _; (with_reducible repeat (first | refine blk_drewN ?_ _ | refine blk_drew ?_ | refine blk_alloc ?_ _)); refine blk_far ?_ NB152_174.out _; (with_reducible repeat (first | refine blk_drewN ?_ _ | refine blk_drew ?_ | refine blk_alloc ?_ _)); exact BK152.out⟩
              have n2_ : Aside0 ((((((((w43.setCell ⟨gb174, 0, none⟩ (.int .i32 t167)).setCell ⟨gb174, 1, none⟩ (.int .i32 t168)).setCell ⟨gb174, 2, none⟩ (.int .i32 t169)).setCell ⟨gb174, 3, none⟩ (.int .u8 t170)).setCell ⟨gb174, 4, none⟩ (.int .u8 t171)).setCell ⟨gb174, 5, none⟩ (.int .u8 t172)).setCell ⟨gb174, 6, none⟩ (.bool t173)).heap[gb153]? = some (.cells #[.int .i32 a1_0, .int .i32 a1_1, .int .i32 a1_2, .int .u8 a1_3, .int .u8 a1_4, .int .u8 a1_5, .bool a1_6] 23 (0, 0))) := ⟨by (with_reducible repeat (first | refine blk_drewN ?_ _ | refine blk_drew ?_ | refine blk_alloc ?_ _)); refine blk_far ?_ NB153_174.out _; (with_reducible repeat (first | refine blk_drewN ?_ _ | refine blk_drew ?_ | refine blk_alloc ?_ _)); refine blk_far ?_ NB153_174.out _; (with_reducible repeat (first | refine blk_drewN ?_ _ | refine blk_drew ?_ | refine blk_alloc ?_ _)); refine blk_far ?_ NB153_174.out _; (with_reducible repeat (first | refine blk_drewN ?_ _ | refine blk_drew ?_ | refine blk_alloc ?_ _)); refine blk_far ?_ NB153_174.out _; (with_reducible repeat (first | refine blk_drewN ?_ _ | refine blk_drew ?_ | refine blk_alloc ?_ _)); refine blk_far ?_ NB153_174.out _; (with_reducible repeat (first | refine blk_drewN ?_ _ | refine blk_drew ?_ | refine blk_alloc ?_ _)); refine blk_far ?_ NB153_174.out _; (with_reducible repeat (first | refine blk_drewN ?_ _ | refine blk_drew ?_ | refine blk_alloc ?_ _)); refine blk_far ?_ NB153_174.out _; (with_reducible repeat (first | refine blk_drewN ?_ _ | refine blk_drew ?_ | refine blk_alloc ?_ _)); exact BK153.out⟩
              have n3_ : Aside0 ((((((((w43.setCell ⟨gb174, 0, none⟩ (.int .i32 t167)).setCell ⟨gb174, 1, none⟩ (.int .i32 t168)).setCell ⟨gb174, 2, none⟩ (.int .i32 t169)).setCell ⟨gb174, 3, none⟩ (.int .u8 t170)).setCell ⟨gb174, 4, none⟩ (.int .u8 t171)).setCell ⟨gb174, 5, none⟩ (.int .u8 t172)).setCell ⟨gb174, 6, none⟩ (.bool t173)).heap[gb163]? = some (.cells #[.int .i32 t156, .int .i32 t157, .int .i32 t158, .int .u8 t159, .int .u8 t160, .int .u8 t161, .bool t162] 23 (0, 0))) := ⟨by (with_reducible repeat (first | refine blk_drewN ?_ _ | refine blk_drew ?_ | refine blk_alloc ?_ _)); refine blk_far ?_ NB163_174.out _; (with_reducible repeat (first | refine blk_drewN ?_ _ | refine blk_drew ?_ | refine blk_alloc ?_ _)); refine blk_far ?_ NB163_174.out _; (with_reducible repeat (first | refine blk_drewN ?_ _ | refine blk_drew ?_ | refine blk_alloc ?_ _)); refine blk_far ?_ NB163_174.out _; (with_reducible repeat (first | refine blk_drewN ?_ _ | refine blk_drew ?_ | refine blk_alloc ?_ _)); refine blk_far ?_ NB163_174.out _; (with_reducible repeat (first | refine blk_drewN ?_ _ | refine blk_drew ?_ | refine blk_alloc ?_ _)); refine blk_far ?_ NB163_174.out _; (with_reducible repeat (first | refine blk_drewN ?_ _ | refine blk_drew ?_ | refine blk_alloc ?_ _)); refine blk_far ?_ NB163_174.out _; (with_reducible repeat (first | refine blk_drewN ?_ _ | refine blk_drew ?_ | refine blk_alloc ?_ _)); refine blk_far ?_ NB163_174.out _; (with_reducible repeat (first | refine blk_drewN ?_ _ | refine blk_drew ?_ | refine blk_alloc ?_ _)); exact BK163.out⟩
              have n4_ : Aside0 ((((((((w43.setCell ⟨gb174, 0, none⟩ (.int .i32 t167)).setCell ⟨gb174, 1, none⟩ (.int .i32 t168)).setCell ⟨gb174, 2, none⟩ (.int .i32 t169)).setCell ⟨gb174, 3, none⟩ (.int .u8 t170)).setCell ⟨gb174, 4, none⟩ (.int .u8 t171)).setCell ⟨gb174, 5, none⟩ (.int .u8 t172)).setCell ⟨gb174, 6, none⟩ (.bool t173)).heap[gb174]? = some (.cells #[.int .i32 t167, .int .i32 t168, .int .i32 t169, .int .u8 t170, .int .u8 t171, .int .u8 t172, .bool t173] 23 (0, 0))) := ⟨by (with_reducible repeat (first | refine blk_drewN ?_ _ | refine blk_drew ?_ | refine blk_alloc ?_ _)); refine blk_put (cs := #[.int .i32 t167, .int .i32 t168, .int .i32 t169, .int .u8 t170, .int .u8 t171, .int .u8 t172, .bool false]) ?_ 6 _ rfl; (with_reducible repeat (first | refine blk_drewN ?_ _ | refine blk_drew ?_ | refine blk_alloc ?_ _)); refine blk_put (cs := #[.int .i32 t167, .int .i32 t168, .int .i32 t169, .int .u8 t170, .int .u8 t171, .int .u8 0, .bool false]) ?_ 5 _ rfl; (with_reducible repeat (first | refine blk_drewN ?_ _ | refine blk_drew ?_ | refine blk_alloc ?_ _)); refine blk_put (cs := #[.int .i32 t167, .int .i32 t168, .int .i32 t169, .int .u8 t170, .int .u8 0, .int .u8 0, .bool false]) ?_ 4 _ rfl; (with_reducible repeat (first | refine blk_drewN ?_ _ | refine blk_drew ?_ | refine blk_alloc ?_ _)); refine blk_put (cs := #[.int .i32 t167, .int .i32 t168, .int .i32 t169, .int .u8 0, .int .u8 0, .int .u8 0, .bool false]) ?_ 3 _ rfl; (with_reducible repeat (first | refine blk_drewN ?_ _ | refine blk_drew ?_ | refine blk_alloc ?_ _)); refine blk_put (cs := #[.int .i32 t167, .int .i32 t168, .int .i32 0, .int .u8 0, .int .u8 0, .int .u8 0, .bool false]) ?_ 2 _ rfl; (with_reducible repeat (first | refine blk_drewN ?_ _ | refine blk_drew ?_ | refine blk_alloc ?_ _)); refine blk_put (cs := #[.int .i32 t167, .int .i32 0, .int .i32 0, .int .u8 0, .int .u8 0, .int .u8 0, .bool false]) ?_ 1 _ rfl; (with_reducible repeat (first | refine blk_drewN ?_ _ | refine blk_drew ?_ | refine blk_alloc ?_ _)); refine blk_put (cs := #[.int .i32 0, .int .i32 0, .int .i32 0, .int .u8 0, .int .u8 0, .int .u8 0, .bool false]) ?_ 0 _ rfl; (with_reducible repeat (first | refine blk_drewN ?_ _ | refine blk_drew ?_ | refine blk_alloc ?_ _)); exact BK174.out⟩
              have n5_ : Aside0 (Below w.heap.size w (((((((w43.setCell ⟨gb174, 0, none⟩ (.int .i32 t167)).setCell ⟨gb174, 1, none⟩ (.int .i32 t168)).setCell ⟨gb174, 2, none⟩ (.int .i32 t169)).setCell ⟨gb174, 3, none⟩ (.int .u8 t170)).setCell ⟨gb174, 4, none⟩ (.int .u8 t171)).setCell ⟨gb174, 5, none⟩ (.int .u8 t172)).setCell ⟨gb174, 6, none⟩ (.bool t173))) := ⟨by repeat (first | (with_reducible first | exact HB.out | apply below_alloc | apply pw_below_drewN | apply below_drew1 | refine below_set ?_ GE152.out | refine below_set ?_ GE153.out | refine below_set ?_ GE163.out | refine below_set ?_ GE174.out) | exact HB.out)⟩
              (try clear HO166)
              (try clear BK152)
              (try clear BK153)
              (try clear BK163)
              (try clear BK174)
              (try clear HB)
              generalize (((((((w43.setCell ⟨gb174, 0, none⟩ (.int .i32 t167)).setCell ⟨gb174, 1, none⟩ (.int .i32 t168)).setCell ⟨gb174, 2, none⟩ (.int .i32 t169)).setCell ⟨gb174, 3, none⟩ (.int .u8 t170)).setCell ⟨gb174, 4, none⟩ (.int .u8 t171)).setCell ⟨gb174, 5, none⟩ (.int .u8 t172)).setCell ⟨gb174, 6, none⟩ (.bool t173)) = w48 at n0_ n1_ n2_ n3_ n4_ n5_ ⊢
              have HO166 := n0_
              have BK152 := n1_
              have BK153 := n2_
              have BK163 := n3_
              have BK174 := n4_
              have HB := n5_
              clear n0_ n1_ n2_ n3_ n4_ n5_
              have n0_ := Aside0.mk (Kd.R_drew HO166.out)
              have n1_ := Aside0.mk (blk_drew BK152.out)
              have n2_ := Aside0.mk (blk_drew BK153.out)
              have n3_ := Aside0.mk (blk_drew BK163.out)
              have n4_ := Aside0.mk (blk_drew BK174.out)
              have n5_ := Aside0.mk (below_drew1 HB.out)
              clear HO166
              clear BK152
              clear BK153
              clear BK163
              clear BK174
              clear HB
              have HO166 := n0_
              have BK152 := n1_
              have BK153 := n2_
              have BK163 := n3_
              have BK174 := n4_
              have HB := n5_
              clear n0_ n1_ n2_ n3_ n4_ n5_
              refine start_ (n := 25) (S := fun w' => True) (ds := []) #[false, false, false, false, false, false, false, false, false, false, false, false, false, false, false, false, false, false, false, false, false, false, false, false, false] (by kernel_rfl) rfl rfl trivial (fun hHeld => ?_); refine with_tabW laws_FnEntrySub.tab6 laws_FnEntrySub.bits6 (fun HT_ HW_ => ?_)
              generalize w48.drew = w49 at HO166 BK152 BK153 BK163 BK174 HB hHeld ⊢
              refine inv_at [0, 1, 2, 3, 4, 5, 6, 7, 8, 9, 10, 11, 12, 13, 14, 15, 16, 17, 18, 19, 20, 21, 22, 23, 24] (fun a0_ b a w' => ∃ (v190 : Value), a = putSel a0_ b [(0, 23, .agg #[.int .i32 t156, .int .i32 t157, .int .i32 t158, .int .u8 t159, .int .u8 t160, .int .u8 t161, .bool t162]), (1, 24, .agg #[.int .i32 a0_0, .int .i32 a0_1, .int .i32 a0_2, .int .u8 a0_3, .int .u8 a0_4, .int .u8 a0_5, .bool false]), (2, 25, .agg #[.int .i32 a1_0, .int .i32 a1_1, .int .i32 a1_2, .int .u8 a1_3, .int .u8 a1_4, .int .u8 a1_5, .bool a1_6]), (3, 26, .agg #[.int .i32 t175, .int .i32 t176, .int .i32 t177, .int .u8 t178, .int .u8 t179, .int .u8 t180, .bool t181]), (4, 27, .bool true), (5, 28, .bool true), (6, 29, .agg #[.int .i32 t167, .int .i32 t168, .int .i32 t169, .int .u8 t170, .int .u8 t171, .int .u8 t172, .bool t173]), (7, 30, .agg #[.int .i32 a1_0, .int .i32 a1_1, .int .i32 a1_2, .int .u8 a1_3, .int .u8 a1_4, .int .u8 a1_5, .bool a1_6]), (8, 31, .agg #[.int .i32 t182, .int .i32 t183, .int .i32 t184, .int .u8 t185, .int .u8 t186, .int .u8 t187, .bool t188]), (9, 32, .agg #[.int .i32 a1_0, .int .i32 a1_1, .int .i32 a1_2, .int .u8 a1_3, .int .u8 a1_4, .int .u8 a1_5, .bool a1_6]), (10, 33, v190), (11, 34, .agg #[.int .i32 t192, .int .i32 t193, .int .i32 t194, .int .u8 t195, .int .u8 t196, .int .u8 t197, .bool t198]), (12, 35, .agg #[.int .i32 t167, .int .i32 t168, .int .i32 t169, .int .u8 t170, .int .u8 t171, .int .u8 t172, .bool t173]), (13, 36, .bool true), (14, 37, .bool true), (15, 38, .bool true), (16, 39, .agg #[.int .i32 a0_0, .int .i32 a0_1, .int .i32 a0_2, .int .u8 a0_3, .int .u8 a0_4, .int .u8 a0_5, .bool false]), (17, 40, .agg #[.int .i32 a0_0, .int .i32 a0_1, .int .i32 a0_2, .int .u8 a0_3, .int .u8 a0_4, .int .u8 a0_5, .bool false]), (18, 41, .agg #[.int .i32 t199, .int .i32 t200, .int .i32 t201, .int .u8 t202, .int .u8 t203, .int .u8 t204, .bool t205]), (19, 42, .bool true), (20, 43, .bool true), (21, 44, .bool true), (22, 45, .bool t207), (23, 46, .bool t207), (24, 4, .bool t207)] ∧ (Kd.R k23 23 w' w.heap.size (fun k_ => k_ ≠ gb152 ∧ k_ ≠ gb153 ∧ k_ ≠ gb163 ∧ k_ ≠ gb174) (.slice Ao41 y164.length co41) y164) ∧ (w'.heap[gb152]? = some (.cells #[.int .i32 a0_0, .int .i32 a0_1, .int .i32 a0_2, .int .u8 a0_3, .int .u8 a0_4, .int .u8 a0_5, .bool false] 23 (0, 0))) ∧ (w'.heap[gb153]? = some (.cells #[.int .i32 a1_0, .int .i32 a1_1, .int .i32 a1_2, .int .u8 a1_3, .int .u8 a1_4, .int .u8 a1_5, .bool a1_6] 23 (0, 0))) ∧ (w'.heap[gb163]? = some (.cells #[.int .i32 t156, .int .i32 t157, .int .i32 t158, .int .u8 t159, .int .u8 t160, .int .u8 t161, .bool t162] 23 (0, 0))) ∧ (w'.heap[gb174]? = some (.cells #[.int .i32 t167, .int .i32 t168, .int .i32 t169, .int .u8 t170, .int .u8 t171, .int .u8 t172, .bool t173] 23 (0, 0))) ∧ (Below w.heap.size w w') ∧ (b 10 = true → Kd.R k23 23 w' w.heap.size (fun k_ => some k_ ≠ (.slice Ao41 y164.length co41 : Value).ownBlock ∧ k_ ≠ gb152 ∧ k_ ≠ gb153 ∧ k_ ≠ gb163 ∧ k_ ≠ gb174) v190 y189)) HT_.out HW_.out (by kernel_rfl) (by kernel_rfl) ?_ ?_ ?_
              · exact ⟨.bool false, by simp only [putSel, Bool.false_eq_true, if_false], HO166.out, BK152.out, BK153.out, BK163.out, BK174.out, HB.out, fun h_ => absurd h_ (by decide)⟩
              · skip
                clear BK152 BK153 BK163 BK174 HB HO166
                refine steps_cons ?_ ?_
                · rintro b a w' ⟨v190, ha, Q_HO166, Q_BK152, Q_BK153, Q_BK163, Q_BK174, Q_HB, Q_HO191⟩ hb_ hon hoff
                  refine ⟨_, rfl, fun K hK => ?_⟩
                  have e5 : a.tmps[5]? = some (.pointer (some ⟨gb163, 0, none⟩)) := by rw [ha]; exact (putSel_off rfl).trans rfl
                  replace ha := Aside0.mk ha
                  have HO166 := Aside0.mk Q_HO166
                  have BK152 := Aside0.mk Q_BK152
                  have BK153 := Aside0.mk Q_BK153
                  have BK163 := Aside0.mk Q_BK163
                  have BK174 := Aside0.mk Q_BK174
                  have HB := Aside0.mk Q_HB
                  have hc0_ : w'.cell? ⟨gb163, 0, none⟩ = some (.int .i32 t156) := (blk_cell BK163.out 0).trans rfl
                  have hc1_ : w'.cell? ⟨gb163, 1, none⟩ = some (.int .i32 t157) := (blk_cell BK163.out 1).trans rfl
                  have hc2_ : w'.cell? ⟨gb163, 2, none⟩ = some (.int .i32 t158) := (blk_cell BK163.out 2).trans rfl
                  have hc3_ : w'.cell? ⟨gb163, 3, none⟩ = some (.int .u8 t159) := (blk_cell BK163.out 3).trans rfl
                  have hc4_ : w'.cell? ⟨gb163, 4, none⟩ = some (.int .u8 t160) := (blk_cell BK163.out 4).trans rfl
                  have hc5_ : w'.cell? ⟨gb163, 5, none⟩ = some (.int .u8 t161) := (blk_cell BK163.out 5).trans rfl
                  have hc6_ : w'.cell? ⟨gb163, 6, none⟩ = some (.bool t162) := (blk_cell BK163.out 6).trans rfl
                  refine value_ (w1 := w') (v := .agg #[.int .i32 t156, .int .i32 t157, .int .i32 t158, .int .u8 t159, .int .u8 t160, .int .u8 t161, .bool t162]) (by rfl) rfl ?_ ?_
                  · go_simp
                    (try simp only [i64_w])
                    all_goals first | done | rfl | (simp only [Go.Proofs.YtifhhejohdmiaaaDoorSeq.eq_i, Go.Proofs.YtifhhejohdmiaaaDoorSeq.eq_b, Go.Proofs.YtifhhejohdmiaaaDoorSeq.and_t] <;> (try simp only [*]) <;> (try with_reducible rfl))
                  refine hK.out _ _ ⟨v190, (by rw [ha.out]; exact putSel_upk 0 hb_ rfl rfl rfl), Q_HO166, Q_BK152, Q_BK153, Q_BK163, Q_BK174, Q_HB, fun h0_ => absurd ((hoff 10 (by kernel_rfl)).symm.trans h0_) (by decide)⟩
                refine steps_cons ?_ ?_
                · rintro b a w' ⟨v190, ha, Q_HO166, Q_BK152, Q_BK153, Q_BK163, Q_BK174, Q_HB, Q_HO191⟩ hb_ hon hoff
                  refine ⟨_, rfl, fun K hK => ?_⟩
                  have e2 : a.tmps[2]? = some (.pointer (some ⟨gb152, 0, none⟩)) := by rw [ha]; exact (putSel_off rfl).trans rfl
                  replace ha := Aside0.mk ha
                  have HO166 := Aside0.mk Q_HO166
                  have BK152 := Aside0.mk Q_BK152
                  have BK153 := Aside0.mk Q_BK153
                  have BK163 := Aside0.mk Q_BK163
                  have BK174 := Aside0.mk Q_BK174
                  have HB := Aside0.mk Q_HB
                  have hc0_ : w'.cell? ⟨gb152, 0, none⟩ = some (.int .i32 a0_0) := (blk_cell BK152.out 0).trans rfl
                  have hc1_ : w'.cell? ⟨gb152, 1, none⟩ = some (.int .i32 a0_1) := (blk_cell BK152.out 1).trans rfl
                  have hc2_ : w'.cell? ⟨gb152, 2, none⟩ = some (.int .i32 a0_2) := (blk_cell BK152.out 2).trans rfl
                  have hc3_ : w'.cell? ⟨gb152, 3, none⟩ = some (.int .u8 a0_3) := (blk_cell BK152.out 3).trans rfl
                  have hc4_ : w'.cell? ⟨gb152, 4, none⟩ = some (.int .u8 a0_4) := (blk_cell BK152.out 4).trans rfl
                  have hc5_ : w'.cell? ⟨gb152, 5, none⟩ = some (.int .u8 a0_5) := (blk_cell BK152.out 5).trans rfl
                  have hc6_ : w'.cell? ⟨gb152, 6, none⟩ = some (.bool false) := (blk_cell BK152.out 6).trans rfl
                  refine value_ (w1 := w') (v := .agg #[.int .i32 a0_0, .int .i32 a0_1, .int .i32 a0_2, .int .u8 a0_3, .int .u8 a0_4, .int .u8 a0_5, .bool false]) (by rfl) rfl ?_ ?_
                  · go_simp
                    (try simp only [i64_w])
                    all_goals first | done | rfl | (simp only [Go.Proofs.YtifhhejohdmiaaaDoorSeq.eq_i, Go.Proofs.YtifhhejohdmiaaaDoorSeq.eq_b, Go.Proofs.YtifhhejohdmiaaaDoorSeq.and_t] <;> (try simp only [*]) <;> (try with_reducible rfl))
                  refine hK.out _ _ ⟨v190, (by rw [ha.out]; exact putSel_upk 1 hb_ rfl rfl rfl), Q_HO166, Q_BK152, Q_BK153, Q_BK163, Q_BK174, Q_HB, fun h0_ => absurd ((hoff 10 (by kernel_rfl)).symm.trans h0_) (by decide)⟩
                refine steps_cons ?_ ?_
                · rintro b a w' ⟨v190, ha, Q_HO166, Q_BK152, Q_BK153, Q_BK163, Q_BK174, Q_HB, Q_HO191⟩ hb_ hon hoff
                  refine ⟨_, rfl, fun K hK => ?_⟩
                  have e3 : a.tmps[3]? = some (.pointer (some ⟨gb153, 0, none⟩)) := by rw [ha]; exact (putSel_off rfl).trans rfl
                  replace ha := Aside0.mk ha
                  have HO166 := Aside0.mk Q_HO166
                  have BK152 := Aside0.mk Q_BK152
                  have BK153 := Aside0.mk Q_BK153
                  have BK163 := Aside0.mk Q_BK163
                  have BK174 := Aside0.mk Q_BK174
                  have HB := Aside0.mk Q_HB
                  have hc0_ : w'.cell? ⟨gb153, 0, none⟩ = some (.int .i32 a1_0) := (blk_cell BK153.out 0).trans rfl
                  have hc1_ : w'.cell? ⟨gb153, 1, none⟩ = some (.int .i32 a1_1) := (blk_cell BK153.out 1).trans rfl
                  have hc2_ : w'.cell? ⟨gb153, 2, none⟩ = some (.int .i32 a1_2) := (blk_cell BK153.out 2).trans rfl
                  have hc3_ : w'.cell? ⟨gb153, 3, none⟩ = some (.int .u8 a1_3) := (blk_cell BK153.out 3).trans rfl
                  have hc4_ : w'.cell? ⟨gb153, 4, none⟩ = some (.int .u8 a1_4) := (blk_cell BK153.out 4).trans rfl
                  have hc5_ : w'.cell? ⟨gb153, 5, none⟩ = some (.int .u8 a1_5) := (blk_cell BK153.out 5).trans rfl
                  have hc6_ : w'.cell? ⟨gb153, 6, none⟩ = some (.bool a1_6) := (blk_cell BK153.out 6).trans rfl
                  refine value_ (w1 := w') (v := .agg #[.int .i32 a1_0, .int .i32 a1_1, .int .i32 a1_2, .int .u8 a1_3, .int .u8 a1_4, .int .u8 a1_5, .bool a1_6]) (by rfl) rfl ?_ ?_
                  · go_simp
                    (try simp only [i64_w])
                    all_goals first | done | rfl | (simp only [Go.Proofs.YtifhhejohdmiaaaDoorSeq.eq_i, Go.Proofs.YtifhhejohdmiaaaDoorSeq.eq_b, Go.Proofs.YtifhhejohdmiaaaDoorSeq.and_t] <;> (try simp only [*]) <;> (try with_reducible rfl))
                  refine hK.out _ _ ⟨v190, (by rw [ha.out]; exact putSel_upk 2 hb_ rfl rfl rfl), Q_HO166, Q_BK152, Q_BK153, Q_BK163, Q_BK174, Q_HB, fun h0_ => absurd ((hoff 10 (by kernel_rfl)).symm.trans h0_) (by decide)⟩
                refine steps_cons ?_ ?_
                · rintro b a w' ⟨v190, ha, Q_HO166, Q_BK152, Q_BK153, Q_BK163, Q_BK174, Q_HB, Q_HO191⟩ hb_ hon hoff
                  refine ⟨_, rfl, fun K hK => ?_⟩
                  have e24 : a.tmps[24]? = some (.agg #[.int .i32 a0_0, .int .i32 a0_1, .int .i32 a0_2, .int .u8 a0_3, .int .u8 a0_4, .int .u8 a0_5, .bool false]) := by rw [ha]; exact putSel_on (e := (1, 24, .agg #[.int .i32 a0_0, .int .i32 a0_1, .int .i32 a0_2, .int .u8 a0_3, .int .u8 a0_4, .int .u8 a0_5, .bool false])) 1 rfl rfl (hon 1 (by kernel_rfl)) rfl
                  have e25 : a.tmps[25]? = some (.agg #[.int .i32 a1_0, .int .i32 a1_1, .int .i32 a1_2, .int .u8 a1_3, .int .u8 a1_4, .int .u8 a1_5, .bool a1_6]) := by rw [ha]; exact putSel_on (e := (2, 25, .agg #[.int .i32 a1_0, .int .i32 a1_1, .int .i32 a1_2, .int .u8 a1_3, .int .u8 a1_4, .int .u8 a1_5, .bool a1_6])) 2 rfl rfl (hon 2 (by kernel_rfl)) rfl
                  replace ha := Aside0.mk ha
                  have HO166 := Aside0.mk Q_HO166
                  have BK152 := Aside0.mk Q_BK152
                  have BK153 := Aside0.mk Q_BK153
                  have BK163 := Aside0.mk Q_BK163
                  have BK174 := Aside0.mk Q_BK174
                  have HB := Aside0.mk Q_HB
                  refine goes_ Tryd.func22 (by kernel_rfl) rfl #[.agg #[.int .i32 a0_0, .int .i32 a0_1, .int .i32 a0_2, .int .u8 a0_3, .int .u8 a0_4, .int .u8 a0_5, .bool false], .agg #[.int .i32 a1_0, .int .i32 a1_1, .int .i32 a1_2, .int .u8 a1_3, .int .u8 a1_4, .int .u8 a1_5, .bool a1_6]] (by first | rfl | (refine wanted_on rfl rfl rfl ?_; assumption)) rfl rfl (by first | (simp only [List.map_toArray, List.map_cons, List.map_nil, Act.eval, Array.getD_eq_getD_getElem?, Option.getD_some, e24, e25]; done) | (simp only [List.map_toArray, List.map_cons, List.map_nil, Act.eval, Array.getD_eq_getD_getElem?, Option.getD_some, e24, e25]; rfl)) ?_
                  with_reducible refine (spec_EntrySub.calls a0_0 a0_1 a0_2 a0_3 a0_4 a0_5 false a1_0 a1_1 a1_2 a1_3 a1_4 a1_5 a1_6 t175 t176 t177 t178 t179 t180 t181 _ A20.out).mono ?_
                  rintro e w50 ⟨rfl, hb⟩
                  refine ⟨_, rfl, ?_⟩
                  have n0_ := Aside0.mk (Kd.R_below (by (with_reducible repeat (first | apply Kd.R_alloc | apply Kd.R_drewN | apply Kd.R_drew)); exact HO166.out) hb)
                  have n1_ := Aside0.mk (blk_below (g := gb152) (o := .cells #[.int .i32 a0_0, .int .i32 a0_1, .int .i32 a0_2, .int .u8 a0_3, .int .u8 a0_4, .int .u8 a0_5, .bool false] 23 (0, 0)) (by (with_reducible repeat (first | refine blk_drewN ?_ _ | refine blk_drew ?_ | refine blk_alloc ?_ _)); exact BK152.out) hb)
                  have n2_ := Aside0.mk (blk_below (g := gb153) (o := .cells #[.int .i32 a1_0, .int .i32 a1_1, .int .i32 a1_2, .int .u8 a1_3, .int .u8 a1_4, .int .u8 a1_5, .bool a1_6] 23 (0, 0)) (by (with_reducible repeat (first | refine blk_drewN ?_ _ | refine blk_drew ?_ | refine blk_alloc ?_ _)); exact BK153.out) hb)
                  have n3_ := Aside0.mk (blk_below (g := gb163) (o := .cells #[.int .i32 t156, .int .i32 t157, .int .i32 t158, .int .u8 t159, .int .u8 t160, .int .u8 t161, .bool t162] 23 (0, 0)) (by (with_reducible repeat (first | refine blk_drewN ?_ _ | refine blk_drew ?_ | refine blk_alloc ?_ _)); exact BK163.out) hb)
                  have n4_ := Aside0.mk (blk_below (g := gb174) (o := .cells #[.int .i32 t167, .int .i32 t168, .int .i32 t169, .int .u8 t170, .int .u8 t171, .int .u8 t172, .bool t173] 23 (0, 0)) (by (with_reducible repeat (first | refine blk_drewN ?_ _ | refine blk_drew ?_ | refine blk_alloc ?_ _)); exact BK174.out) hb)
                  have n5_ := Aside0.mk (below_step (by repeat (first | (with_reducible first | exact HB.out | apply below_alloc | apply pw_below_drewN | apply below_drew1 | refine below_set ?_ GE152.out | refine below_set ?_ GE153.out | refine below_set ?_ GE163.out | refine below_set ?_ GE174.out) | exact HB.out)) hb)
                  clear HO166
                  clear BK152
                  clear BK153
                  clear BK163
                  clear BK174
                  clear HB
                  have HO166 := n0_
                  have BK152 := n1_
                  have BK153 := n2_
                  have BK163 := n3_
                  have BK174 := n4_
                  have HB := n5_
                  clear n0_ n1_ n2_ n3_ n4_ n5_
                  (try clear hb)
                  (try clear hb2)
                  (try clear hk)
                  (try clear hi)
                  refine hK.out _ _ ⟨v190, (by rw [ha.out]; exact putSel_upk 3 hb_ rfl rfl rfl), (by (with_reducible repeat (first | apply Kd.R_alloc | apply Kd.R_drewN | apply Kd.R_drew)); exact HO166.out), (by (with_reducible repeat (first | refine blk_drewN ?_ _ | refine blk_drew ?_ | refine blk_alloc ?_ _)); exact BK152.out), (by (with_reducible repeat (first | refine blk_drewN ?_ _ | refine blk_drew ?_ | refine blk_alloc ?_ _)); exact BK153.out), (by (with_reducible repeat (first | refine blk_drewN ?_ _ | refine blk_drew ?_ | refine blk_alloc ?_ _)); exact BK163.out), (by (with_reducible repeat (first | refine blk_drewN ?_ _ | refine blk_drew ?_ | refine blk_alloc ?_ _)); exact BK174.out), (by repeat (first | (with_reducible first | exact HB.out | apply below_alloc | apply pw_below_drewN | apply below_drew1 | refine below_set ?_ GE152.out | refine below_set ?_ GE153.out | refine below_set ?_ GE163.out | refine below_set ?_ GE174.out) | exact HB.out)), fun h0_ => absurd ((hoff 10 (by kernel_rfl)).symm.trans h0_) (by decide)⟩
                refine steps_cons ?_ ?_
                · rintro b a w' ⟨v190, ha, Q_HO166, Q_BK152, Q_BK153, Q_BK163, Q_BK174, Q_HB, Q_HO191⟩ hb_ hon hoff
                  refine ⟨_, rfl, fun K hK => ?_⟩
                  have e23 : a.tmps[23]? = some (.agg #[.int .i32 t156, .int .i32 t157, .int .i32 t158, .int .u8 t159, .int .u8 t160, .int .u8 t161, .bool t162]) := by rw [ha]; exact putSel_on (e := (0, 23, .agg #[.int .i32 t156, .int .i32 t157, .int .i32 t158, .int .u8 t159, .int .u8 t160, .int .u8 t161, .bool t162])) 0 rfl rfl (hon 0 (by kernel_rfl)) rfl
                  have e26 : a.tmps[26]? = some (.agg #[.int .i32 t175, .int .i32 t176, .int .i32 t177, .int .u8 t178, .int .u8 t179, .int .u8 t180, .bool t181]) := by rw [ha]; exact putSel_on (e := (3, 26, .agg #[.int .i32 t175, .int .i32 t176, .int .i32 t177, .int .u8 t178, .int .u8 t179, .int .u8 t180, .bool t181])) 3 rfl rfl (hon 3 (by kernel_rfl)) rfl
                  replace ha := Aside0.mk ha
                  have HO166 := Aside0.mk Q_HO166
                  have BK152 := Aside0.mk Q_BK152
                  have BK153 := Aside0.mk Q_BK153
                  have BK163 := Aside0.mk Q_BK163
                  have BK174 := Aside0.mk Q_BK174
                  have HB := Aside0.mk Q_HB
                  refine value_ (w1 := w') (v := .bool true) (by rfl) rfl ?_ ?_
                  · go_simp
                    (try simp only [i64_w])
                    all_goals first | done | rfl | (simp only [Go.Proofs.YtifhhejohdmiaaaDoorSeq.eq_i, Go.Proofs.YtifhhejohdmiaaaDoorSeq.eq_b, Go.Proofs.YtifhhejohdmiaaaDoorSeq.and_t] <;> (try simp only [*]) <;> (try with_reducible rfl))
                  refine hK.out _ _ ⟨v190, (by rw [ha.out]; exact putSel_upk 4 hb_ rfl rfl rfl), Q_HO166, Q_BK152, Q_BK153, Q_BK163, Q_BK174, Q_HB, fun h0_ => absurd ((hoff 10 (by kernel_rfl)).symm.trans h0_) (by decide)⟩
                refine steps_cons ?_ ?_
                · rintro b a w' ⟨v190, ha, Q_HO166, Q_BK152, Q_BK153, Q_BK163, Q_BK174, Q_HB, Q_HO191⟩ hb_ hon hoff
                  refine ⟨_, rfl, fun K hK => ?_⟩
                  have e27 : a.tmps[27]? = some (.bool true) := by rw [ha]; exact putSel_on (e := (4, 27, .bool true)) 4 rfl rfl (hon 4 (by kernel_rfl)) rfl
                  replace ha := Aside0.mk ha
                  have HO166 := Aside0.mk Q_HO166
                  have BK152 := Aside0.mk Q_BK152
                  have BK153 := Aside0.mk Q_BK153
                  have BK163 := Aside0.mk Q_BK163
                  have BK174 := Aside0.mk Q_BK174
                  have HB := Aside0.mk Q_HB
                  refine value_ (w1 := w') (v := .bool true) (by rfl) rfl ?_ ?_
                  · go_simp
                    (try simp only [i64_w])
                    all_goals first | done | rfl | (simp only [Go.Proofs.YtifhhejohdmiaaaDoorSeq.eq_i, Go.Proofs.YtifhhejohdmiaaaDoorSeq.eq_b, Go.Proofs.YtifhhejohdmiaaaDoorSeq.and_t] <;> (try simp only [*]) <;> (try with_reducible rfl))
                  refine hK.out _ _ ⟨v190, (by rw [ha.out]; exact putSel_upk 5 hb_ rfl rfl rfl), Q_HO166, Q_BK152, Q_BK153, Q_BK163, Q_BK174, Q_HB, fun h0_ => absurd ((hoff 10 (by kernel_rfl)).symm.trans h0_) (by decide)⟩
                refine steps_cons ?_ ?_
                · rintro b a w' ⟨v190, ha, Q_HO166, Q_BK152, Q_BK153, Q_BK163, Q_BK174, Q_HB, Q_HO191⟩ hb_ hon hoff
                  refine ⟨_, rfl, fun K hK => ?_⟩
                  have e6 : a.tmps[6]? = some (.pointer (some ⟨gb174, 0, none⟩)) := by rw [ha]; exact (putSel_off rfl).trans rfl
                  have e28 : a.tmps[28]? = some (.bool true) := by rw [ha]; exact putSel_on (e := (5, 28, .bool true)) 5 rfl rfl (hon 5 (by kernel_rfl)) rfl
                  replace ha := Aside0.mk ha
                  have HO166 := Aside0.mk Q_HO166
                  have BK152 := Aside0.mk Q_BK152
                  have BK153 := Aside0.mk Q_BK153
                  have BK163 := Aside0.mk Q_BK163
                  have BK174 := Aside0.mk Q_BK174
                  have HB := Aside0.mk Q_HB
                  have hc0_ : w'.cell? ⟨gb174, 0, none⟩ = some (.int .i32 t167) := (blk_cell BK174.out 0).trans rfl
                  have hc1_ : w'.cell? ⟨gb174, 1, none⟩ = some (.int .i32 t168) := (blk_cell BK174.out 1).trans rfl
                  have hc2_ : w'.cell? ⟨gb174, 2, none⟩ = some (.int .i32 t169) := (blk_cell BK174.out 2).trans rfl
                  have hc3_ : w'.cell? ⟨gb174, 3, none⟩ = some (.int .u8 t170) := (blk_cell BK174.out 3).trans rfl
                  have hc4_ : w'.cell? ⟨gb174, 4, none⟩ = some (.int .u8 t171) := (blk_cell BK174.out 4).trans rfl
                  have hc5_ : w'.cell? ⟨gb174, 5, none⟩ = some (.int .u8 t172) := (blk_cell BK174.out 5).trans rfl
                  have hc6_ : w'.cell? ⟨gb174, 6, none⟩ = some (.bool t173) := (blk_cell BK174.out 6).trans rfl
                  refine value_ (w1 := w') (v := .agg #[.int .i32 t167, .int .i32 t168, .int .i32 t169, .int .u8 t170, .int .u8 t171, .int .u8 t172, .bool t173]) (wanted_on rfl rfl rfl (e28.trans (by first | rfl | (simp [*]; done)))) rfl ?_ ?_
                  · go_simp
                    (try simp only [i64_w])
                    all_goals first | done | rfl | (simp only [Go.Proofs.YtifhhejohdmiaaaDoorSeq.eq_i, Go.Proofs.YtifhhejohdmiaaaDoorSeq.eq_b, Go.Proofs.YtifhhejohdmiaaaDoorSeq.and_t] <;> (try simp only [*]) <;> (try with_reducible rfl))
                  refine hK.out _ _ ⟨v190, (by rw [ha.out]; exact putSel_upk 6 hb_ rfl rfl rfl), Q_HO166, Q_BK152, Q_BK153, Q_BK163, Q_BK174, Q_HB, Q_HO191⟩
                refine steps_cons ?_ ?_
                · rintro b a w' ⟨v190, ha, Q_HO166, Q_BK152, Q_BK153, Q_BK163, Q_BK174, Q_HB, Q_HO191⟩ hb_ hon hoff
                  refine ⟨_, rfl, fun K hK => ?_⟩
                  have e3 : a.tmps[3]? = some (.pointer (some ⟨gb153, 0, none⟩)) := by rw [ha]; exact (putSel_off rfl).trans rfl
                  have e28 : a.tmps[28]? = some (.bool true) := by rw [ha]; exact putSel_on (e := (5, 28, .bool true)) 5 rfl rfl (hon 5 (by kernel_rfl)) rfl
                  replace ha := Aside0.mk ha
                  have HO166 := Aside0.mk Q_HO166
                  have BK152 := Aside0.mk Q_BK152
                  have BK153 := Aside0.mk Q_BK153
                  have BK163 := Aside0.mk Q_BK163
                  have BK174 := Aside0.mk Q_BK174
                  have HB := Aside0.mk Q_HB
                  have hc0_ : w'.cell? ⟨gb153, 0, none⟩ = some (.int .i32 a1_0) := (blk_cell BK153.out 0).trans rfl
                  have hc1_ : w'.cell? ⟨gb153, 1, none⟩ = some (.int .i32 a1_1) := (blk_cell BK153.out 1).trans rfl
                  have hc2_ : w'.cell? ⟨gb153, 2, none⟩ = some (.int .i32 a1_2) := (blk_cell BK153.out 2).trans rfl
                  have hc3_ : w'.cell? ⟨gb153, 3, none⟩ = some (.int .u8 a1_3) := (blk_cell BK153.out 3).trans rfl
                  have hc4_ : w'.cell? ⟨gb153, 4, none⟩ = some (.int .u8 a1_4) := (blk_cell BK153.out 4).trans rfl
                  have hc5_ : w'.cell? ⟨gb153, 5, none⟩ = some (.int .u8 a1_5) := (blk_cell BK153.out 5).trans rfl
                  have hc6_ : w'.cell? ⟨gb153, 6, none⟩ = some (.bool a1_6) := (blk_cell BK153.out 6).trans rfl
                  refine value_ (w1 := w') (v := .agg #[.int .i32 a1_0, .int .i32 a1_1, .int .i32 a1_2, .int .u8 a1_3, .int .u8 a1_4, .int .u8 a1_5, .bool a1_6]) (wanted_on rfl rfl rfl (e28.trans (by first | rfl | (simp [*]; done)))) rfl ?_ ?_
                  · go_simp
                    (try simp only [i64_w])
                    all_goals first | done | rfl | (simp only [Go.Proofs.YtifhhejohdmiaaaDoorSeq.eq_i, Go.Proofs.YtifhhejohdmiaaaDoorSeq.eq_b, Go.Proofs.YtifhhejohdmiaaaDoorSeq.and_t] <;> (try simp only [*]) <;> (try with_reducible rfl))
                  refine hK.out _ _ ⟨v190, (by rw [ha.out]; exact putSel_upk 7 hb_ rfl rfl rfl), Q_HO166, Q_BK152, Q_BK153, Q_BK163, Q_BK174, Q_HB, Q_HO191⟩
                refine steps_cons ?_ ?_
                · rintro b a w' ⟨v190, ha, Q_HO166, Q_BK152, Q_BK153, Q_BK163, Q_BK174, Q_HB, Q_HO191⟩ hb_ hon hoff
                  refine ⟨_, rfl, fun K hK => ?_⟩
                  have e29 : a.tmps[29]? = some (.agg #[.int .i32 t167, .int .i32 t168, .int .i32 t169, .int .u8 t170, .int .u8 t171, .int .u8 t172, .bool t173]) := by rw [ha]; exact putSel_on (e := (6, 29, .agg #[.int .i32 t167, .int .i32 t168, .int .i32 t169, .int .u8 t170, .int .u8 t171, .int .u8 t172, .bool t173])) 6 rfl rfl (hon 6 (by kernel_rfl)) rfl
                  have e30 : a.tmps[30]? = some (.agg #[.int .i32 a1_0, .int .i32 a1_1, .int .i32 a1_2, .int .u8 a1_3, .int .u8 a1_4, .int .u8 a1_5, .bool a1_6]) := by rw [ha]; exact putSel_on (e := (7, 30, .agg #[.int .i32 a1_0, .int .i32 a1_1, .int .i32 a1_2, .int .u8 a1_3, .int .u8 a1_4, .int .u8 a1_5, .bool a1_6])) 7 rfl rfl (hon 7 (by kernel_rfl)) rfl
                  have e28 : a.tmps[28]? = some (.bool true) := by rw [ha]; exact putSel_on (e := (5, 28, .bool true)) 5 rfl rfl (hon 5 (by kernel_rfl)) rfl
                  replace ha := Aside0.mk ha
                  have HO166 := Aside0.mk Q_HO166
                  have BK152 := Aside0.mk Q_BK152
                  have BK153 := Aside0.mk Q_BK153
                  have BK163 := Aside0.mk Q_BK163
                  have BK174 := Aside0.mk Q_BK174
                  have HB := Aside0.mk Q_HB
                  refine goes_ Tryd.func21 (by kernel_rfl) rfl #[.agg #[.int .i32 t167, .int .i32 t168, .int .i32 t169, .int .u8 t170, .int .u8 t171, .int .u8 t172, .bool t173], .agg #[.int .i32 a1_0, .int .i32 a1_1, .int .i32 a1_2, .int .u8 a1_3, .int .u8 a1_4, .int .u8 a1_5, .bool a1_6]] (by first | rfl | (refine wanted_on rfl rfl rfl ?_; assumption)) rfl rfl (by first | (simp only [List.map_toArray, List.map_cons, List.map_nil, Act.eval, Array.getD_eq_getD_getElem?, Option.getD_some, e29, e30, e28]; done) | (simp only [List.map_toArray, List.map_cons, List.map_nil, Act.eval, Array.getD_eq_getD_getElem?, Option.getD_some, e29, e30, e28]; rfl)) ?_
                  with_reducible refine (impl_EntrySub.calls t167 t168 t169 t170 t171 t172 t173 a1_0 a1_1 a1_2 a1_3 a1_4 a1_5 a1_6 t182 t183 t184 t185 t186 t187 t188 _ A22.out).mono ?_
                  rintro e w52 ⟨rfl, hb⟩
                  refine ⟨_, rfl, ?_⟩
                  have n0_ := Aside0.mk (Kd.R_below (by (with_reducible repeat (first | apply Kd.R_alloc | apply Kd.R_drewN | apply Kd.R_drew)); exact HO166.out) hb)
                  have n1_ := Aside0.mk (blk_below (g := gb152) (o := .cells #[.int .i32 a0_0, .int .i32 a0_1, .int .i32 a0_2, .int .u8 a0_3, .int .u8 a0_4, .int .u8 a0_5, .bool false] 23 (0, 0)) (by (with_reducible repeat (first | refine blk_drewN ?_ _ | refine blk_drew ?_ | refine blk_alloc ?_ _)); exact BK152.out) hb)
                  have n2_ := Aside0.mk (blk_below (g := gb153) (o := .cells #[.int .i32 a1_0, .int .i32 a1_1, .int .i32 a1_2, .int .u8 a1_3, .int .u8 a1_4, .int .u8 a1_5, .bool a1_6] 23 (0, 0)) (by (with_reducible repeat (first | refine blk_drewN ?_ _ | refine blk_drew ?_ | refine blk_alloc ?_ _)); exact BK153.out) hb)
                  have n3_ := Aside0.mk (blk_below (g := gb163) (o := .cells #[.int .i32 t156, .int .i32 t157, .int .i32 t158, .int .u8 t159, .int .u8 t160, .int .u8 t161, .bool t162] 23 (0, 0)) (by (with_reducible repeat (first | refine blk_drewN ?_ _ | refine blk_drew ?_ | refine blk_alloc ?_ _)); exact BK163.out) hb)
                  have n4_ := Aside0.mk (blk_below (g := gb174) (o := .cells #[.int .i32 t167, .int .i32 t168, .int .i32 t169, .int .u8 t170, .int .u8 t171, .int .u8 t172, .bool t173] 23 (0, 0)) (by (with_reducible repeat (first | refine blk_drewN ?_ _ | refine blk_drew ?_ | refine blk_alloc ?_ _)); exact BK174.out) hb)
                  have n5_ := Aside0.mk (below_step (by repeat (first | (with_reducible first | exact HB.out | apply below_alloc | apply pw_below_drewN | apply below_drew1 | refine below_set ?_ GE152.out | refine below_set ?_ GE153.out | refine below_set ?_ GE163.out | refine below_set ?_ GE174.out) | exact HB.out)) hb)
                  have z_HO191 := fun (h0_ : b 10 = true) => (show Kd.R k23 23 w52 w.heap.size (fun k_ => some k_ ≠ (.slice Ao41 y164.length co41 : Value).ownBlock ∧ k_ ≠ gb152 ∧ k_ ≠ gb153 ∧ k_ ≠ gb163 ∧ k_ ≠ gb174) v190 y189 from by first | exact (Kd.R_below (by (with_reducible repeat (first | apply Kd.R_alloc | apply Kd.R_drewN | apply Kd.R_drew)); exact (Q_HO191 h0_)) hb) | exact Kd.R_mono (Kd.R_below (by (with_reducible repeat (first | apply Kd.R_alloc | apply Kd.R_drewN | apply Kd.R_drew)); exact (Q_HO191 h0_)) hb) (fun _ h_ => by first | trivial | exact h_ | exact h_.1))
                  clear HO166
                  clear BK152
                  clear BK153
                  clear BK163
                  clear BK174
                  clear HB
                  have HO166 := n0_
                  have BK152 := n1_
                  have BK153 := n2_
                  have BK163 := n3_
                  have BK174 := n4_
                  have HB := n5_
                  clear n0_ n1_ n2_ n3_ n4_ n5_
                  (try clear hb)
                  (try clear hb2)
                  (try clear hk)
                  (try clear hi)
                  refine hK.out _ _ ⟨v190, (by rw [ha.out]; exact putSel_upk 8 hb_ rfl rfl rfl), (by (with_reducible repeat (first | apply Kd.R_alloc | apply Kd.R_drewN | apply Kd.R_drew)); exact HO166.out), (by (with_reducible repeat (first | refine blk_drewN ?_ _ | refine blk_drew ?_ | refine blk_alloc ?_ _)); exact BK152.out), (by (with_reducible repeat (first | refine blk_drewN ?_ _ | refine blk_drew ?_ | refine blk_alloc ?_ _)); exact BK153.out), (by (with_reducible repeat (first | refine blk_drewN ?_ _ | refine blk_drew ?_ | refine blk_alloc ?_ _)); exact BK163.out), (by (with_reducible repeat (first | refine blk_drewN ?_ _ | refine blk_drew ?_ | refine blk_alloc ?_ _)); exact BK174.out), (by repeat (first | (with_reducible first | exact HB.out | apply below_alloc | apply pw_below_drewN | apply below_drew1 | refine below_set ?_ GE152.out | refine below_set ?_ GE153.out | refine below_set ?_ GE163.out | refine below_set ?_ GE174.out) | exact HB.out)), z_HO191⟩
                refine steps_cons ?_ ?_
                · rintro b a w' ⟨v190, ha, Q_HO166, Q_BK152, Q_BK153, Q_BK163, Q_BK174, Q_HB, Q_HO191⟩ hb_ hon hoff
                  refine ⟨_, rfl, fun K hK => ?_⟩
                  have e3 : a.tmps[3]? = some (.pointer (some ⟨gb153, 0, none⟩)) := by rw [ha]; exact (putSel_off rfl).trans rfl
                  have e28 : a.tmps[28]? = some (.bool true) := by rw [ha]; exact putSel_on (e := (5, 28, .bool true)) 5 rfl rfl (hon 5 (by kernel_rfl)) rfl
                  replace ha := Aside0.mk ha
                  have HO166 := Aside0.mk Q_HO166
                  have BK152 := Aside0.mk Q_BK152
                  have BK153 := Aside0.mk Q_BK153
                  have BK163 := Aside0.mk Q_BK163
                  have BK174 := Aside0.mk Q_BK174
                  have HB := Aside0.mk Q_HB
                  have hc0_ : w'.cell? ⟨gb153, 0, none⟩ = some (.int .i32 a1_0) := (blk_cell BK153.out 0).trans rfl
                  have hc1_ : w'.cell? ⟨gb153, 1, none⟩ = some (.int .i32 a1_1) := (blk_cell BK153.out 1).trans rfl
                  have hc2_ : w'.cell? ⟨gb153, 2, none⟩ = some (.int .i32 a1_2) := (blk_cell BK153.out 2).trans rfl
                  have hc3_ : w'.cell? ⟨gb153, 3, none⟩ = some (.int .u8 a1_3) := (blk_cell BK153.out 3).trans rfl
                  have hc4_ : w'.cell? ⟨gb153, 4, none⟩ = some (.int .u8 a1_4) := (blk_cell BK153.out 4).trans rfl
                  have hc5_ : w'.cell? ⟨gb153, 5, none⟩ = some (.int .u8 a1_5) := (blk_cell BK153.out 5).trans rfl
                  have hc6_ : w'.cell? ⟨gb153, 6, none⟩ = some (.bool a1_6) := (blk_cell BK153.out 6).trans rfl
                  refine value_ (w1 := w') (v := .agg #[.int .i32 a1_0, .int .i32 a1_1, .int .i32 a1_2, .int .u8 a1_3, .int .u8 a1_4, .int .u8 a1_5, .bool a1_6]) (wanted_on rfl rfl rfl (e28.trans (by first | rfl | (simp [*]; done)))) rfl ?_ ?_
                  · go_simp
                    (try simp only [i64_w])
                    all_goals first | done | rfl | (simp only [Go.Proofs.YtifhhejohdmiaaaDoorSeq.eq_i, Go.Proofs.YtifhhejohdmiaaaDoorSeq.eq_b, Go.Proofs.YtifhhejohdmiaaaDoorSeq.and_t] <;> (try simp only [*]) <;> (try with_reducible rfl))
                  refine hK.out _ _ ⟨v190, (by rw [ha.out]; exact putSel_upk 9 hb_ rfl rfl rfl), Q_HO166, Q_BK152, Q_BK153, Q_BK163, Q_BK174, Q_HB, fun h0_ => absurd ((hoff 10 (by kernel_rfl)).symm.trans h0_) (by decide)⟩
                refine steps_cons ?_ ?_
                · rintro b a w' ⟨v190, ha, Q_HO166, Q_BK152, Q_BK153, Q_BK163, Q_BK174, Q_HB, Q_HO191⟩ hb_ hon hoff
                  refine ⟨_, rfl, fun K hK => ?_⟩
                  have e32 : a.tmps[32]? = some (.agg #[.int .i32 a1_0, .int .i32 a1_1, .int .i32 a1_2, .int .u8 a1_3, .int .u8 a1_4, .int .u8 a1_5, .bool a1_6]) := by rw [ha]; exact putSel_on (e := (9, 32, .agg #[.int .i32 a1_0, .int .i32 a1_1, .int .i32 a1_2, .int .u8 a1_3, .int .u8 a1_4, .int .u8 a1_5, .bool a1_6])) 9 rfl rfl (hon 9 (by kernel_rfl)) rfl
                  have e28 : a.tmps[28]? = some (.bool true) := by rw [ha]; exact putSel_on (e := (5, 28, .bool true)) 5 rfl rfl (hon 5 (by kernel_rfl)) rfl
                  replace ha := Aside0.mk ha
                  have HO166 := Aside0.mk Q_HO166
                  have BK152 := Aside0.mk Q_BK152
                  have BK153 := Aside0.mk Q_BK153
                  have BK163 := Aside0.mk Q_BK163
                  have BK174 := Aside0.mk Q_BK174
                  have HB := Aside0.mk Q_HB
                  refine Kd.R_lit_step k23 _ 23 ?hg (N := 33) ?hd (xs := ([(⟨a1_0, a1_1, a1_2, a1_3, a1_4, a1_5, a1_6⟩ : S23)] : List (S23))) (inner := [.int .i32 a1_0, .int .i32 a1_1, .int .i32 a1_2, .int .u8 a1_3, .int .u8 a1_4, .int .u8 a1_5, .bool a1_6]) (ok := fun _ => True) (okp := fun _ => True) ?hr ?hp (fun _ hk => hk) trivial (Below.refl _ _) (Nat.le_refl _) (by simp) ?_; (case hd => rfl); (case hg => first | rfl | (refine wanted_on rfl rfl rfl ?_; assumption)); (case hr => first | (go_simp; done) | (go_simp; rfl)); (case hp => exact (Reps.c7 (show Kd.M k23 _ _ _ (⟨a1_0, a1_1, a1_2, a1_3, a1_4, a1_5, a1_6⟩ : S23) [.int .i32 a1_0, .int .i32 a1_1, .int .i32 a1_2, .int .u8 a1_3, .int .u8 a1_4, .int .u8 a1_5, .bool a1_6] from (k23_mkM _ _ _ (⟨a1_0, a1_1, a1_2, a1_3, a1_4, a1_5, a1_6⟩ : S23) )) (Reps.none _ _)))
                  intro v190 w52 ho53 hb hg_ hnew_
                  clear hg_ hnew_
                  (first | rw [← Ny189.out] at ho53 | (simp only [Int.reduceToNat] at ho53; rw [← Ny189.out] at ho53))
                  have n0_ := Aside0.mk (Kd.R_elder' (by (with_reducible repeat (first | apply Kd.R_alloc | apply Kd.R_drewN | apply Kd.R_drew)); exact HO166.out) (Kd.R_base ho53) hb)
                  have n1_ := Aside0.mk (Kd.R_lower (Kd.R_newB (Kd.R_newB (Kd.R_newB (Kd.R_newB (Kd.R_new' ho53 (Kd.R_lt (by (with_reducible repeat (first | apply Kd.R_alloc | apply Kd.R_drewN | apply Kd.R_drew)); exact HO166.out))) (g := gb152) (o := .cells #[.int .i32 a0_0, .int .i32 a0_1, .int .i32 a0_2, .int .u8 a0_3, .int .u8 a0_4, .int .u8 a0_5, .bool false] 23 (0, 0)) (by (with_reducible repeat (first | refine blk_drewN ?_ _ | refine blk_drew ?_ | refine blk_alloc ?_ _)); exact BK152.out)) (g := gb153) (o := .cells #[.int .i32 a1_0, .int .i32 a1_1, .int .i32 a1_2, .int .u8 a1_3, .int .u8 a1_4, .int .u8 a1_5, .bool a1_6] 23 (0, 0)) (by (with_reducible repeat (first | refine blk_drewN ?_ _ | refine blk_drew ?_ | refine blk_alloc ?_ _)); exact BK153.out)) (g := gb163) (o := .cells #[.int .i32 t156, .int .i32 t157, .int .i32 t158, .int .u8 t159, .int .u8 t160, .int .u8 t161, .bool t162] 23 (0, 0)) (by (with_reducible repeat (first | refine blk_drewN ?_ _ | refine blk_drew ?_ | refine blk_alloc ?_ _)); exact BK163.out)) (g := gb174) (o := .cells #[.int .i32 t167, .int .i32 t168, .int .i32 t169, .int .u8 t170, .int .u8 t171, .int .u8 t172, .bool t173] 23 (0, 0)) (by (with_reducible repeat (first | refine blk_drewN ?_ _ | refine blk_drew ?_ | refine blk_alloc ?_ _)); exact BK174.out)) (below_size (by repeat (first | (with_reducible first | exact HB.out | apply below_alloc | apply pw_below_drewN | apply below_drew1 | refine below_set ?_ GE152.out | refine below_set ?_ GE153.out | refine below_set ?_ GE163.out | refine below_set ?_ GE174.out) | exact HB.out))))
                  have n2_ := Aside0.mk (blk_below (g := gb152) (o := .cells #[.int .i32 a0_0, .int .i32 a0_1, .int .i32 a0_2, .int .u8 a0_3, .int .u8 a0_4, .int .u8 a0_5, .bool false] 23 (0, 0)) (by (with_reducible repeat (first | refine blk_drewN ?_ _ | refine blk_drew ?_ | refine blk_alloc ?_ _)); exact BK152.out) hb)
                  have n3_ := Aside0.mk (blk_below (g := gb153) (o := .cells #[.int .i32 a1_0, .int .i32 a1_1, .int .i32 a1_2, .int .u8 a1_3, .int .u8 a1_4, .int .u8 a1_5, .bool a1_6] 23 (0, 0)) (by (with_reducible repeat (first | refine blk_drewN ?_ _ | refine blk_drew ?_ | refine blk_alloc ?_ _)); exact BK153.out) hb)
                  have n4_ := Aside0.mk (blk_below (g := gb163) (o := .cells #[.int .i32 t156, .int .i32 t157, .int .i32 t158, .int .u8 t159, .int .u8 t160, .int .u8 t161, .bool t162] 23 (0, 0)) (by (with_reducible repeat (first | refine blk_drewN ?_ _ | refine blk_drew ?_ | refine blk_alloc ?_ _)); exact BK163.out) hb)
                  have n5_ := Aside0.mk (blk_below (g := gb174) (o := .cells #[.int .i32 t167, .int .i32 t168, .int .i32 t169, .int .u8 t170, .int .u8 t171, .int .u8 t172, .bool t173] 23 (0, 0)) (by (with_reducible repeat (first | refine blk_drewN ?_ _ | refine blk_drew ?_ | refine blk_alloc ?_ _)); exact BK174.out) hb)
                  have n6_ := Aside0.mk (below_step (by repeat (first | (with_reducible first | exact HB.out | apply below_alloc | apply pw_below_drewN | apply below_drew1 | refine below_set ?_ GE152.out | refine below_set ?_ GE153.out | refine below_set ?_ GE163.out | refine below_set ?_ GE174.out) | exact HB.out)) hb)
                  clear HO166
                  clear BK152
                  clear BK153
                  clear BK163
                  clear BK174
                  clear HB
                  have HO166 := n0_
                  have HO191 := n1_
                  have BK152 := n2_
                  have BK153 := n3_
                  have BK163 := n4_
                  have BK174 := n5_
                  have HB := n6_
                  clear n0_ n1_ n2_ n3_ n4_ n5_ n6_
                  clear hb ho53
                  refine hK.out _ _ ⟨v190, (by rw [ha.out]; exact putSel_upk 10 hb_ rfl rfl rfl), (by (with_reducible repeat (first | apply Kd.R_alloc | apply Kd.R_drewN | apply Kd.R_drew)); exact Kd.R_mono HO166.out (fun _ hk => by first | exact ⟨hk.2, ⟨hk.1.1, ⟨hk.1.2.1, ⟨hk.1.2.2.1, hk.1.2.2.2⟩⟩⟩⟩ | exact hk.1)), (by (with_reducible repeat (first | refine blk_drewN ?_ _ | refine blk_drew ?_ | refine blk_alloc ?_ _)); exact BK152.out), (by (with_reducible repeat (first | refine blk_drewN ?_ _ | refine blk_drew ?_ | refine blk_alloc ?_ _)); exact BK153.out), (by (with_reducible repeat (first | refine blk_drewN ?_ _ | refine blk_drew ?_ | refine blk_alloc ?_ _)); exact BK163.out), (by (with_reducible repeat (first | refine blk_drewN ?_ _ | refine blk_drew ?_ | refine blk_alloc ?_ _)); exact BK174.out), (by repeat (first | (with_reducible first | exact HB.out | apply below_alloc | apply pw_below_drewN | apply below_drew1 | refine below_set ?_ GE152.out | refine below_set ?_ GE153.out | refine below_set ?_ GE163.out | refine below_set ?_ GE174.out) | exact HB.out)), fun _ => (by (with_reducible repeat (first | apply Kd.R_alloc | apply Kd.R_drewN | apply Kd.R_drew)); exact Kd.R_mono HO191.out (fun _ hk => by first | exact ⟨hk.1.1.1.1.2, ⟨hk.1.1.1.2, ⟨hk.1.1.2, ⟨hk.1.2, hk.2⟩⟩⟩⟩ | exact hk.1))⟩
                refine steps_cons ?_ ?_
                · rintro b a w' ⟨v190, ha, Q_HO166, Q_BK152, Q_BK153, Q_BK163, Q_BK174, Q_HB, Q_HO191⟩ hb_ hon hoff
                  refine ⟨_, rfl, fun K hK => ?_⟩
                  have e31 : a.tmps[31]? = some (.agg #[.int .i32 t182, .int .i32 t183, .int .i32 t184, .int .u8 t185, .int .u8 t186, .int .u8 t187, .bool t188]) := by rw [ha]; exact putSel_on (e := (8, 31, .agg #[.int .i32 t182, .int .i32 t183, .int .i32 t184, .int .u8 t185, .int .u8 t186, .int .u8 t187, .bool t188])) 8 rfl rfl (hon 8 (by kernel_rfl)) rfl
                  have e33 : a.tmps[33]? = some (v190) := by rw [ha]; exact putSel_on (e := (10, 33, v190)) 10 rfl rfl (hon 10 (by kernel_rfl)) rfl
                  have e28 : a.tmps[28]? = some (.bool true) := by rw [ha]; exact putSel_on (e := (5, 28, .bool true)) 5 rfl rfl (hon 5 (by kernel_rfl)) rfl
                  replace ha := Aside0.mk ha
                  have HO166 := Aside0.mk Q_HO166
                  have BK152 := Aside0.mk Q_BK152
                  have BK153 := Aside0.mk Q_BK153
                  have BK163 := Aside0.mk Q_BK163
                  have BK174 := Aside0.mk Q_BK174
                  have HB := Aside0.mk Q_HB
                  have HO191 := Aside0.mk (Q_HO191 (hon 10 (by kernel_rfl)))
                  obtain ⟨Ao55, co55, eo55⟩ := Kd.R_slice HO191.out
                  (first | subst eo55 | (injection eo55 with f1_ f2_ f3_; have f4_ := f1_.symm; have f5_ := f3_.symm; clear f1_ f2_ f3_; subst f4_; subst f5_))
                  refine goes_ Tryd.func18 (by kernel_rfl) rfl #[.agg #[.int .i32 t182, .int .i32 t183, .int .i32 t184, .int .u8 t185, .int .u8 t186, .int .u8 t187, .bool t188], .slice Ao55 y189.length co55] (by first | rfl | (refine wanted_on rfl rfl rfl ?_; assumption)) rfl rfl (by first | (simp only [List.map_toArray, List.map_cons, List.map_nil, Act.eval, Array.getD_eq_getD_getElem?, Option.getD_some, e31, e33, e28]; done) | (simp only [List.map_toArray, List.map_cons, List.map_nil, Act.eval, Array.getD_eq_getD_getElem?, Option.getD_some, e31, e33, e28]; rfl)) ?_
                  with_reducible refine (impl_EntryInherit.calls t182 t183 t184 t185 t186 t187 t188 _ _ y189 t192 t193 t194 t195 t196 t197 t198 _ ?side1 ?side2 A23.out).mono ?_
                  (case side1 => repeat (first | exact (Kd.R_reads' HO191.out).2.2 | (with_reducible refine Kd.C_alloc ?_ _) | (with_reducible refine Kd.C_drewN ?_ _) | (with_reducible refine Kd.C_drew ?_)))
                  (case side2 => exact (Kd.R_reads' HO191.out).2.1)
                  rintro e w56 ⟨rfl, hb⟩
                  refine ⟨_, rfl, ?_⟩
                  have n0_ := Aside0.mk (Kd.R_below (by (with_reducible repeat (first | apply Kd.R_alloc | apply Kd.R_drewN | apply Kd.R_drew)); exact HO166.out) hb)
                  have n1_ := Aside0.mk (Kd.R_below (by (with_reducible repeat (first | apply Kd.R_alloc | apply Kd.R_drewN | apply Kd.R_drew)); exact HO191.out) hb)
                  have n2_ := Aside0.mk (blk_below (g := gb152) (o := .cells #[.int .i32 a0_0, .int .i32 a0_1, .int .i32 a0_2, .int .u8 a0_3, .int .u8 a0_4, .int .u8 a0_5, .bool false] 23 (0, 0)) (by (with_reducible repeat (first | refine blk_drewN ?_ _ | refine blk_drew ?_ | refine blk_alloc ?_ _)); exact BK152.out) hb)
                  have n3_ := Aside0.mk (blk_below (g := gb153) (o := .cells #[.int .i32 a1_0, .int .i32 a1_1, .int .i32 a1_2, .int .u8 a1_3, .int .u8 a1_4, .int .u8 a1_5, .bool a1_6] 23 (0, 0)) (by (with_reducible repeat (first | refine blk_drewN ?_ _ | refine blk_drew ?_ | refine blk_alloc ?_ _)); exact BK153.out) hb)
                  have n4_ := Aside0.mk (blk_below (g := gb163) (o := .cells #[.int .i32 t156, .int .i32 t157, .int .i32 t158, .int .u8 t159, .int .u8 t160, .int .u8 t161, .bool t162] 23 (0, 0)) (by (with_reducible repeat (first | refine blk_drewN ?_ _ | refine blk_drew ?_ | refine blk_alloc ?_ _)); exact BK163.out) hb)
                  have n5_ := Aside0.mk (blk_below (g := gb174) (o := .cells #[.int .i32 t167, .int .i32 t168, .int .i32 t169, .int .u8 t170, .int .u8 t171, .int .u8 t172, .bool t173] 23 (0, 0)) (by (with_reducible repeat (first | refine blk_drewN ?_ _ | refine blk_drew ?_ | refine blk_alloc ?_ _)); exact BK174.out) hb)
                  have n6_ := Aside0.mk (below_step (by repeat (first | (with_reducible first | exact HB.out | apply below_alloc | apply pw_below_drewN | apply below_drew1 | refine below_set ?_ GE152.out | refine below_set ?_ GE153.out | refine below_set ?_ GE163.out | refine below_set ?_ GE174.out) | exact HB.out)) hb)
                  clear HO166
                  clear HO191
                  clear BK152
                  clear BK153
                  clear BK163
                  clear BK174
                  clear HB
                  have HO166 := n0_
                  have HO191 := n1_
                  have BK152 := n2_
                  have BK153 := n3_
                  have BK163 := n4_
                  have BK174 := n5_
                  have HB := n6_
                  clear n0_ n1_ n2_ n3_ n4_ n5_ n6_
                  (try clear hb)
                  (try clear hb2)
                  (try clear hk)
                  (try clear hi)
                  refine hK.out _ _ ⟨.slice Ao55 y189.length co55, (by rw [ha.out]; exact putSel_upk 11 hb_ rfl rfl rfl), (by (with_reducible repeat (first | apply Kd.R_alloc | apply Kd.R_drewN | apply Kd.R_drew)); exact HO166.out), (by (with_reducible repeat (first | refine blk_drewN ?_ _ | refine blk_drew ?_ | refine blk_alloc ?_ _)); exact BK152.out), (by (with_reducible repeat (first | refine blk_drewN ?_ _ | refine blk_drew ?_ | refine blk_alloc ?_ _)); exact BK153.out), (by (with_reducible repeat (first | refine blk_drewN ?_ _ | refine blk_drew ?_ | refine blk_alloc ?_ _)); exact BK163.out), (by (with_reducible repeat (first | refine blk_drewN ?_ _ | refine blk_drew ?_ | refine blk_alloc ?_ _)); exact BK174.out), (by repeat (first | (with_reducible first | exact HB.out | apply below_alloc | apply pw_below_drewN | apply below_drew1 | refine below_set ?_ GE152.out | refine below_set ?_ GE153.out | refine below_set ?_ GE163.out | refine below_set ?_ GE174.out) | exact HB.out)), fun _ => (by (with_reducible repeat (first | apply Kd.R_alloc | apply Kd.R_drewN | apply Kd.R_drew)); exact HO191.out)⟩
                refine steps_cons ?_ ?_
                · rintro b a w' ⟨v190, ha, Q_HO166, Q_BK152, Q_BK153, Q_BK163, Q_BK174, Q_HB, Q_HO191⟩ hb_ hon hoff
                  refine ⟨_, rfl, fun K hK => ?_⟩
                  have e6 : a.tmps[6]? = some (.pointer (some ⟨gb174, 0, none⟩)) := by rw [ha]; exact (putSel_off rfl).trans rfl
                  have e28 : a.tmps[28]? = some (.bool true) := by rw [ha]; exact putSel_on (e := (5, 28, .bool true)) 5 rfl rfl (hon 5 (by kernel_rfl)) rfl
                  replace ha := Aside0.mk ha
                  have HO166 := Aside0.mk Q_HO166
                  have BK152 := Aside0.mk Q_BK152
                  have BK153 := Aside0.mk Q_BK153
                  have BK163 := Aside0.mk Q_BK163
                  have BK174 := Aside0.mk Q_BK174
                  have HB := Aside0.mk Q_HB
                  have hc0_ : w'.cell? ⟨gb174, 0, none⟩ = some (.int .i32 t167) := (blk_cell BK174.out 0).trans rfl
                  have hc1_ : w'.cell? ⟨gb174, 1, none⟩ = some (.int .i32 t168) := (blk_cell BK174.out 1).trans rfl
                  have hc2_ : w'.cell? ⟨gb174, 2, none⟩ = some (.int .i32 t169) := (blk_cell BK174.out 2).trans rfl
                  have hc3_ : w'.cell? ⟨gb174, 3, none⟩ = some (.int .u8 t170) := (blk_cell BK174.out 3).trans rfl
                  have hc4_ : w'.cell? ⟨gb174, 4, none⟩ = some (.int .u8 t171) := (blk_cell BK174.out 4).trans rfl
                  have hc5_ : w'.cell? ⟨gb174, 5, none⟩ = some (.int .u8 t172) := (blk_cell BK174.out 5).trans rfl
                  have hc6_ : w'.cell? ⟨gb174, 6, none⟩ = some (.bool t173) := (blk_cell BK174.out 6).trans rfl
                  refine value_ (w1 := w') (v := .agg #[.int .i32 t167, .int .i32 t168, .int .i32 t169, .int .u8 t170, .int .u8 t171, .int .u8 t172, .bool t173]) (wanted_on rfl rfl rfl (e28.trans (by first | rfl | (simp [*]; done)))) rfl ?_ ?_
                  · go_simp
                    (try simp only [i64_w])
                    all_goals first | done | rfl | (simp only [Go.Proofs.YtifhhejohdmiaaaDoorSeq.eq_i, Go.Proofs.YtifhhejohdmiaaaDoorSeq.eq_b, Go.Proofs.YtifhhejohdmiaaaDoorSeq.and_t] <;> (try simp only [*]) <;> (try with_reducible rfl))
                  refine hK.out _ _ ⟨v190, (by rw [ha.out]; exact putSel_upk 12 hb_ rfl rfl rfl), Q_HO166, Q_BK152, Q_BK153, Q_BK163, Q_BK174, Q_HB, Q_HO191⟩
                refine steps_cons ?_ ?_
                · rintro b a w' ⟨v190, ha, Q_HO166, Q_BK152, Q_BK153, Q_BK163, Q_BK174, Q_HB, Q_HO191⟩ hb_ hon hoff
                  refine ⟨_, rfl, fun K hK => ?_⟩
                  have e34 : a.tmps[34]? = some (.agg #[.int .i32 t192, .int .i32 t193, .int .i32 t194, .int .u8 t195, .int .u8 t196, .int .u8 t197, .bool t198]) := by rw [ha]; exact putSel_on (e := (11, 34, .agg #[.int .i32 t192, .int .i32 t193, .int .i32 t194, .int .u8 t195, .int .u8 t196, .int .u8 t197, .bool t198])) 11 rfl rfl (hon 11 (by kernel_rfl)) rfl
                  have e35 : a.tmps[35]? = some (.agg #[.int .i32 t167, .int .i32 t168, .int .i32 t169, .int .u8 t170, .int .u8 t171, .int .u8 t172, .bool t173]) := by rw [ha]; exact putSel_on (e := (12, 35, .agg #[.int .i32 t167, .int .i32 t168, .int .i32 t169, .int .u8 t170, .int .u8 t171, .int .u8 t172, .bool t173])) 12 rfl rfl (hon 12 (by kernel_rfl)) rfl
                  have e28 : a.tmps[28]? = some (.bool true) := by rw [ha]; exact putSel_on (e := (5, 28, .bool true)) 5 rfl rfl (hon 5 (by kernel_rfl)) rfl
                  replace ha := Aside0.mk ha
                  have HO166 := Aside0.mk Q_HO166
                  have BK152 := Aside0.mk Q_BK152
                  have BK153 := Aside0.mk Q_BK153
                  have BK163 := Aside0.mk Q_BK163
                  have BK174 := Aside0.mk Q_BK174
                  have HB := Aside0.mk Q_HB
                  have HO191 := Aside0.mk (Q_HO191 (hon 10 (by kernel_rfl)))
                  refine value_ (w1 := w') (v := .bool true) (wanted_on rfl rfl rfl (e28.trans (by first | rfl | (simp [*]; done)))) rfl ?_ ?_
                  · go_simp
                    (try simp only [i64_w])
                    all_goals first | done | rfl | (simp only [Go.Proofs.YtifhhejohdmiaaaDoorSeq.eq_i, Go.Proofs.YtifhhejohdmiaaaDoorSeq.eq_b, Go.Proofs.YtifhhejohdmiaaaDoorSeq.and_t] <;> (try simp only [*]) <;> (try with_reducible rfl))
                  refine hK.out _ _ ⟨v190, (by rw [ha.out]; exact putSel_upk 13 hb_ rfl rfl rfl), Q_HO166, Q_BK152, Q_BK153, Q_BK163, Q_BK174, Q_HB, Q_HO191⟩
                refine steps_cons ?_ ?_
                · rintro b a w' ⟨v190, ha, Q_HO166, Q_BK152, Q_BK153, Q_BK163, Q_BK174, Q_HB, Q_HO191⟩ hb_ hon hoff
                  refine ⟨_, rfl, fun K hK => ?_⟩
                  have e28 : a.tmps[28]? = some (.bool true) := by rw [ha]; exact putSel_on (e := (5, 28, .bool true)) 5 rfl rfl (hon 5 (by kernel_rfl)) rfl
                  have e36 : a.tmps[36]? = some (.bool true) := by rw [ha]; exact putSel_on (e := (13, 36, .bool true)) 13 rfl rfl (hon 13 (by kernel_rfl)) rfl
                  replace ha := Aside0.mk ha
                  have HO166 := Aside0.mk Q_HO166
                  have BK152 := Aside0.mk Q_BK152
                  have BK153 := Aside0.mk Q_BK153
                  have BK163 := Aside0.mk Q_BK163
                  have BK174 := Aside0.mk Q_BK174
                  have HB := Aside0.mk Q_HB
                  have HO191 := Aside0.mk (Q_HO191 (hon 10 (by kernel_rfl)))
                  refine value_ (w1 := w') (v := .bool true) (by rfl) rfl ?_ ?_
                  · go_simp
                    (try simp only [i64_w])
                    all_goals first | done | rfl | (simp only [Go.Proofs.YtifhhejohdmiaaaDoorSeq.eq_i, Go.Proofs.YtifhhejohdmiaaaDoorSeq.eq_b, Go.Proofs.YtifhhejohdmiaaaDoorSeq.and_t] <;> (try simp only [*]) <;> (try with_reducible rfl))
                  refine hK.out _ _ ⟨v190, (by rw [ha.out]; exact putSel_upk 14 hb_ rfl rfl rfl), Q_HO166, Q_BK152, Q_BK153, Q_BK163, Q_BK174, Q_HB, Q_HO191⟩
                refine steps_cons ?_ ?_
                · rintro b a w' ⟨v190, ha, Q_HO166, Q_BK152, Q_BK153, Q_BK163, Q_BK174, Q_HB, Q_HO191⟩ hb_ hon hoff
                  refine ⟨_, rfl, fun K hK => ?_⟩
                  have e37 : a.tmps[37]? = some (.bool true) := by rw [ha]; exact putSel_on (e := (14, 37, .bool true)) 14 rfl rfl (hon 14 (by kernel_rfl)) rfl
                  replace ha := Aside0.mk ha
                  have HO166 := Aside0.mk Q_HO166
                  have BK152 := Aside0.mk Q_BK152
                  have BK153 := Aside0.mk Q_BK153
                  have BK163 := Aside0.mk Q_BK163
                  have BK174 := Aside0.mk Q_BK174
                  have HB := Aside0.mk Q_HB
                  have HO191 := Aside0.mk (Q_HO191 (hon 10 (by kernel_rfl)))
                  refine value_ (w1 := w') (v := .bool true) (by rfl) rfl ?_ ?_
                  · go_simp
                    (try simp only [i64_w])
                    all_goals first | done | rfl | (simp only [Go.Proofs.YtifhhejohdmiaaaDoorSeq.eq_i, Go.Proofs.YtifhhejohdmiaaaDoorSeq.eq_b, Go.Proofs.YtifhhejohdmiaaaDoorSeq.and_t] <;> (try simp only [*]) <;> (try with_reducible rfl))
                  refine hK.out _ _ ⟨v190, (by rw [ha.out]; exact putSel_upk 15 hb_ rfl rfl rfl), Q_HO166, Q_BK152, Q_BK153, Q_BK163, Q_BK174, Q_HB, Q_HO191⟩
                refine steps_cons ?_ ?_
                · rintro b a w' ⟨v190, ha, Q_HO166, Q_BK152, Q_BK153, Q_BK163, Q_BK174, Q_HB, Q_HO191⟩ hb_ hon hoff
                  refine ⟨_, rfl, fun K hK => ?_⟩
                  have e2 : a.tmps[2]? = some (.pointer (some ⟨gb152, 0, none⟩)) := by rw [ha]; exact (putSel_off rfl).trans rfl
                  have e38 : a.tmps[38]? = some (.bool true) := by rw [ha]; exact putSel_on (e := (15, 38, .bool true)) 15 rfl rfl (hon 15 (by kernel_rfl)) rfl
                  replace ha := Aside0.mk ha
                  have HO166 := Aside0.mk Q_HO166
                  have BK152 := Aside0.mk Q_BK152
                  have BK153 := Aside0.mk Q_BK153
                  have BK163 := Aside0.mk Q_BK163
                  have BK174 := Aside0.mk Q_BK174
                  have HB := Aside0.mk Q_HB
                  have HO191 := Aside0.mk (Q_HO191 (hon 10 (by kernel_rfl)))
                  have hc0_ : w'.cell? ⟨gb152, 0, none⟩ = some (.int .i32 a0_0) := (blk_cell BK152.out 0).trans rfl
                  have hc1_ : w'.cell? ⟨gb152, 1, none⟩ = some (.int .i32 a0_1) := (blk_cell BK152.out 1).trans rfl
                  have hc2_ : w'.cell? ⟨gb152, 2, none⟩ = some (.int .i32 a0_2) := (blk_cell BK152.out 2).trans rfl
                  have hc3_ : w'.cell? ⟨gb152, 3, none⟩ = some (.int .u8 a0_3) := (blk_cell BK152.out 3).trans rfl
                  have hc4_ : w'.cell? ⟨gb152, 4, none⟩ = some (.int .u8 a0_4) := (blk_cell BK152.out 4).trans rfl
                  have hc5_ : w'.cell? ⟨gb152, 5, none⟩ = some (.int .u8 a0_5) := (blk_cell BK152.out 5).trans rfl
                  have hc6_ : w'.cell? ⟨gb152, 6, none⟩ = some (.bool false) := (blk_cell BK152.out 6).trans rfl
                  refine value_ (w1 := w') (v := .agg #[.int .i32 a0_0, .int .i32 a0_1, .int .i32 a0_2, .int .u8 a0_3, .int .u8 a0_4, .int .u8 a0_5, .bool false]) (wanted_on rfl rfl rfl (e38.trans (by first | rfl | (simp [*]; done)))) rfl ?_ ?_
                  · go_simp
                    (try simp only [i64_w])
                    all_goals first | done | rfl | (simp only [Go.Proofs.YtifhhejohdmiaaaDoorSeq.eq_i, Go.Proofs.YtifhhejohdmiaaaDoorSeq.eq_b, Go.Proofs.YtifhhejohdmiaaaDoorSeq.and_t] <;> (try simp only [*]) <;> (try with_reducible rfl))
                  refine hK.out _ _ ⟨v190, (by rw [ha.out]; exact putSel_upk 16 hb_ rfl rfl rfl), Q_HO166, Q_BK152, Q_BK153, Q_BK163, Q_BK174, Q_HB, Q_HO191⟩
                refine steps_cons ?_ ?_
                · rintro b a w' ⟨v190, ha, Q_HO166, Q_BK152, Q_BK153, Q_BK163, Q_BK174, Q_HB, Q_HO191⟩ hb_ hon hoff
                  refine ⟨_, rfl, fun K hK => ?_⟩
                  have e2 : a.tmps[2]? = some (.pointer (some ⟨gb152, 0, none⟩)) := by rw [ha]; exact (putSel_off rfl).trans rfl
                  have e38 : a.tmps[38]? = some (.bool true) := by rw [ha]; exact putSel_on (e := (15, 38, .bool true)) 15 rfl rfl (hon 15 (by kernel_rfl)) rfl
                  replace ha := Aside0.mk ha
                  have HO166 := Aside0.mk Q_HO166
                  have BK152 := Aside0.mk Q_BK152
                  have BK153 := Aside0.mk Q_BK153
                  have BK163 := Aside0.mk Q_BK163
                  have BK174 := Aside0.mk Q_BK174
                  have HB := Aside0.mk Q_HB
                  have HO191 := Aside0.mk (Q_HO191 (hon 10 (by kernel_rfl)))
                  have hc0_ : w'.cell? ⟨gb152, 0, none⟩ = some (.int .i32 a0_0) := (blk_cell BK152.out 0).trans rfl
                  have hc1_ : w'.cell? ⟨gb152, 1, none⟩ = some (.int .i32 a0_1) := (blk_cell BK152.out 1).trans rfl
                  have hc2_ : w'.cell? ⟨gb152, 2, none⟩ = some (.int .i32 a0_2) := (blk_cell BK152.out 2).trans rfl
                  have hc3_ : w'.cell? ⟨gb152, 3, none⟩ = some (.int .u8 a0_3) := (blk_cell BK152.out 3).trans rfl
                  have hc4_ : w'.cell? ⟨gb152, 4, none⟩ = some (.int .u8 a0_4) := (blk_cell BK152.out 4).trans rfl
                  have hc5_ : w'.cell? ⟨gb152, 5, none⟩ = some (.int .u8 a0_5) := (blk_cell BK152.out 5).trans rfl
                  have hc6_ : w'.cell? ⟨gb152, 6, none⟩ = some (.bool false) := (blk_cell BK152.out 6).trans rfl
                  refine value_ (w1 := w') (v := .agg #[.int .i32 a0_0, .int .i32 a0_1, .int .i32 a0_2, .int .u8 a0_3, .int .u8 a0_4, .int .u8 a0_5, .bool false]) (wanted_on rfl rfl rfl (e38.trans (by first | rfl | (simp [*]; done)))) rfl ?_ ?_
                  · go_simp
                    (try simp only [i64_w])
                    all_goals first | done | rfl | (simp only [Go.Proofs.YtifhhejohdmiaaaDoorSeq.eq_i, Go.Proofs.YtifhhejohdmiaaaDoorSeq.eq_b, Go.Proofs.YtifhhejohdmiaaaDoorSeq.and_t] <;> (try simp only [*]) <;> (try with_reducible rfl))
                  refine hK.out _ _ ⟨v190, (by rw [ha.out]; exact putSel_upk 17 hb_ rfl rfl rfl), Q_HO166, Q_BK152, Q_BK153, Q_BK163, Q_BK174, Q_HB, Q_HO191⟩
                refine steps_cons ?_ ?_
                · rintro b a w' ⟨v190, ha, Q_HO166, Q_BK152, Q_BK153, Q_BK163, Q_BK174, Q_HB, Q_HO191⟩ hb_ hon hoff
                  refine ⟨_, rfl, fun K hK => ?_⟩
                  have e39 : a.tmps[39]? = some (.agg #[.int .i32 a0_0, .int .i32 a0_1, .int .i32 a0_2, .int .u8 a0_3, .int .u8 a0_4, .int .u8 a0_5, .bool false]) := by rw [ha]; exact putSel_on (e := (16, 39, .agg #[.int .i32 a0_0, .int .i32 a0_1, .int .i32 a0_2, .int .u8 a0_3, .int .u8 a0_4, .int .u8 a0_5, .bool false])) 16 rfl rfl (hon 16 (by kernel_rfl)) rfl
                  have e40 : a.tmps[40]? = some (.agg #[.int .i32 a0_0, .int .i32 a0_1, .int .i32 a0_2, .int .u8 a0_3, .int .u8 a0_4, .int .u8 a0_5, .bool false]) := by rw [ha]; exact putSel_on (e := (17, 40, .agg #[.int .i32 a0_0, .int .i32 a0_1, .int .i32 a0_2, .int .u8 a0_3, .int .u8 a0_4, .int .u8 a0_5, .bool false])) 17 rfl rfl (hon 17 (by kernel_rfl)) rfl
                  have e38 : a.tmps[38]? = some (.bool true) := by rw [ha]; exact putSel_on (e := (15, 38, .bool true)) 15 rfl rfl (hon 15 (by kernel_rfl)) rfl
                  replace ha := Aside0.mk ha
                  have HO166 := Aside0.mk Q_HO166
                  have BK152 := Aside0.mk Q_BK152
                  have BK153 := Aside0.mk Q_BK153
                  have BK163 := Aside0.mk Q_BK163
                  have BK174 := Aside0.mk Q_BK174
                  have HB := Aside0.mk Q_HB
                  have HO191 := Aside0.mk (Q_HO191 (hon 10 (by kernel_rfl)))
                  refine goes_ Tryd.func21 (by kernel_rfl) rfl #[.agg #[.int .i32 a0_0, .int .i32 a0_1, .int .i32 a0_2, .int .u8 a0_3, .int .u8 a0_4, .int .u8 a0_5, .bool false], .agg #[.int .i32 a0_0, .int .i32 a0_1, .int .i32 a0_2, .int .u8 a0_3, .int .u8 a0_4, .int .u8 a0_5, .bool false]] (by first | rfl | (refine wanted_on rfl rfl rfl ?_; assumption)) rfl rfl (by first | (simp only [List.map_toArray, List.map_cons, List.map_nil, Act.eval, Array.getD_eq_getD_getElem?, Option.getD_some, e39, e40, e38]; done) | (simp only [List.map_toArray, List.map_cons, List.map_nil, Act.eval, Array.getD_eq_getD_getElem?, Option.getD_some, e39, e40, e38]; rfl)) ?_
                  with_reducible refine (impl_EntrySub.calls a0_0 a0_1 a0_2 a0_3 a0_4 a0_5 false a0_0 a0_1 a0_2 a0_3 a0_4 a0_5 false t199 t200 t201 t202 t203 t204 t205 _ A25.out).mono ?_
                  rintro e w57 ⟨rfl, hb⟩
                  refine ⟨_, rfl, ?_⟩
                  have n0_ := Aside0.mk (Kd.R_below (by (with_reducible repeat (first | apply Kd.R_alloc | apply Kd.R_drewN | apply Kd.R_drew)); exact HO166.out) hb)
                  have n1_ := Aside0.mk (Kd.R_below (by (with_reducible repeat (first | apply Kd.R_alloc | apply Kd.R_drewN | apply Kd.R_drew)); exact HO191.out) hb)
                  have n2_ := Aside0.mk (blk_below (g := gb152) (o := .cells #[.int .i32 a0_0, .int .i32 a0_1, .int .i32 a0_2, .int .u8 a0_3, .int .u8 a0_4, .int .u8 a0_5, .bool false] 23 (0, 0)) (by (with_reducible repeat (first | refine blk_drewN ?_ _ | refine blk_drew ?_ | refine blk_alloc ?_ _)); exact BK152.out) hb)
                  have n3_ := Aside0.mk (blk_below (g := gb153) (o := .cells #[.int .i32 a1_0, .int .i32 a1_1, .int .i32 a1_2, .int .u8 a1_3, .int .u8 a1_4, .int .u8 a1_5, .bool a1_6] 23 (0, 0)) (by (with_reducible repeat (first | refine blk_drewN ?_ _ | refine blk_drew ?_ | refine blk_alloc ?_ _)); exact BK153.out) hb)
                  have n4_ := Aside0.mk (blk_below (g := gb163) (o := .cells #[.int .i32 t156, .int .i32 t157, .int .i32 t158, .int .u8 t159, .int .u8 t160, .int .u8 t161, .bool t162] 23 (0, 0)) (by (with_reducible repeat (first | refine blk_drewN ?_ _ | refine blk_drew ?_ | refine blk_alloc ?_ _)); exact BK163.out) hb)
                  have n5_ := Aside0.mk (blk_below (g := gb174) (o := .cells #[.int .i32 t167, .int .i32 t168, .int .i32 t169, .int .u8 t170, .int .u8 t171, .int .u8 t172, .bool t173] 23 (0, 0)) (by (with_reducible repeat (first | refine blk_drewN ?_ _ | refine blk_drew ?_ | refine blk_alloc ?_ _)); exact BK174.out) hb)
                  have n6_ := Aside0.mk (below_step (by repeat (first | (with_reducible first | exact HB.out | apply below_alloc | apply pw_below_drewN | apply below_drew1 | refine below_set ?_ GE152.out | refine below_set ?_ GE153.out | refine below_set ?_ GE163.out | refine below_set ?_ GE174.out) | exact HB.out)) hb)
                  clear HO166
                  clear HO191
                  clear BK152
                  clear BK153
                  clear BK163
                  clear BK174
                  clear HB
                  have HO166 := n0_
                  have HO191 := n1_
                  have BK152 := n2_
                  have BK153 := n3_
                  have BK163 := n4_
                  have BK174 := n5_
                  have HB := n6_
                  clear n0_ n1_ n2_ n3_ n4_ n5_ n6_
                  (try clear hb)
                  (try clear hb2)
                  (try clear hk)
                  (try clear hi)
                  refine hK.out _ _ ⟨v190, (by rw [ha.out]; exact putSel_upk 18 hb_ rfl rfl rfl), (by (with_reducible repeat (first | apply Kd.R_alloc | apply Kd.R_drewN | apply Kd.R_drew)); exact HO166.out), (by (with_reducible repeat (first | refine blk_drewN ?_ _ | refine blk_drew ?_ | refine blk_alloc ?_ _)); exact BK152.out), (by (with_reducible repeat (first | refine blk_drewN ?_ _ | refine blk_drew ?_ | refine blk_alloc ?_ _)); exact BK153.out), (by (with_reducible repeat (first | refine blk_drewN ?_ _ | refine blk_drew ?_ | refine blk_alloc ?_ _)); exact BK163.out), (by (with_reducible repeat (first | refine blk_drewN ?_ _ | refine blk_drew ?_ | refine blk_alloc ?_ _)); exact BK174.out), (by repeat (first | (with_reducible first | exact HB.out | apply below_alloc | apply pw_below_drewN | apply below_drew1 | refine below_set ?_ GE152.out | refine below_set ?_ GE153.out | refine below_set ?_ GE163.out | refine below_set ?_ GE174.out) | exact HB.out)), fun _ => (by (with_reducible repeat (first | apply Kd.R_alloc | apply Kd.R_drewN | apply Kd.R_drew)); exact HO191.out)⟩
                refine steps_cons ?_ ?_
                · rintro b a w' ⟨v190, ha, Q_HO166, Q_BK152, Q_BK153, Q_BK163, Q_BK174, Q_HB, Q_HO191⟩ hb_ hon hoff
                  refine ⟨_, rfl, fun K hK => ?_⟩
                  have e41 : a.tmps[41]? = some (.agg #[.int .i32 t199, .int .i32 t200, .int .i32 t201, .int .u8 t202, .int .u8 t203, .int .u8 t204, .bool t205]) := by rw [ha]; exact putSel_on (e := (18, 41, .agg #[.int .i32 t199, .int .i32 t200, .int .i32 t201, .int .u8 t202, .int .u8 t203, .int .u8 t204, .bool t205])) 18 rfl rfl (hon 18 (by kernel_rfl)) rfl
                  have e38 : a.tmps[38]? = some (.bool true) := by rw [ha]; exact putSel_on (e := (15, 38, .bool true)) 15 rfl rfl (hon 15 (by kernel_rfl)) rfl
                  replace ha := Aside0.mk ha
                  have HO166 := Aside0.mk Q_HO166
                  have BK152 := Aside0.mk Q_BK152
                  have BK153 := Aside0.mk Q_BK153
                  have BK163 := Aside0.mk Q_BK163
                  have BK174 := Aside0.mk Q_BK174
                  have HB := Aside0.mk Q_HB
                  have HO191 := Aside0.mk (Q_HO191 (hon 10 (by kernel_rfl)))
                  refine goes_ Tryd.func12 (by kernel_rfl) rfl #[.agg #[.int .i32 t199, .int .i32 t200, .int .i32 t201, .int .u8 t202, .int .u8 t203, .int .u8 t204, .bool t205]] (by first | rfl | (refine wanted_on rfl rfl rfl ?_; assumption)) rfl rfl (by first | (simp only [List.map_toArray, List.map_cons, List.map_nil, Act.eval, Array.getD_eq_getD_getElem?, Option.getD_some, e41, e38]; done) | (simp only [List.map_toArray, List.map_cons, List.map_nil, Act.eval, Array.getD_eq_getD_getElem?, Option.getD_some, e41, e38]; rfl)) ?_
                  with_reducible refine (impl_EntryIsZero.calls t199 t200 t201 t202 t203 t204 t205 true _ A26.out).mono ?_
                  rintro e w58 ⟨rfl, hb⟩
                  refine ⟨_, rfl, ?_⟩
                  have n0_ := Aside0.mk (Kd.R_below (by (with_reducible repeat (first | apply Kd.R_alloc | apply Kd.R_drewN | apply Kd.R_drew)); exact HO166.out) hb)
                  have n1_ := Aside0.mk (Kd.R_below (by (with_reducible repeat (first | apply Kd.R_alloc | apply Kd.R_drewN | apply Kd.R_drew)); exact HO191.out) hb)
                  have n2_ := Aside0.mk (blk_below (g := gb152) (o := .cells #[.int .i32 a0_0, .int .i32 a0_1, .int .i32 a0_2, .int .u8 a0_3, .int .u8 a0_4, .int .u8 a0_5, .bool false] 23 (0, 0)) (by (with_reducible repeat (first | refine blk_drewN ?_ _ | refine blk_drew ?_ | refine blk_alloc ?_ _)); exact BK152.out) hb)
                  have n3_ := Aside0.mk (blk_below (g := gb153) (o := .cells #[.int .i32 a1_0, .int .i32 a1_1, .int .i32 a1_2, .int .u8 a1_3, .int .u8 a1_4, .int .u8 a1_5, .bool a1_6] 23 (0, 0)) (by (with_reducible repeat (first | refine blk_drewN ?_ _ | refine blk_drew ?_ | refine blk_alloc ?_ _)); exact BK153.out) hb)
                  have n4_ := Aside0.mk (blk_below (g := gb163) (o := .cells #[.int .i32 t156, .int .i32 t157, .int .i32 t158, .int .u8 t159, .int .u8 t160, .int .u8 t161, .bool t162] 23 (0, 0)) (by (with_reducible repeat (first | refine blk_drewN ?_ _ | refine blk_drew ?_ | refine blk_alloc ?_ _)); exact BK163.out) hb)
                  have n5_ := Aside0.mk (blk_below (g := gb174) (o := .cells #[.int .i32 t167, .int .i32 t168, .int .i32 t169, .int .u8 t170, .int .u8 t171, .int .u8 t172, .bool t173] 23 (0, 0)) (by (with_reducible repeat (first | refine blk_drewN ?_ _ | refine blk_drew ?_ | refine blk_alloc ?_ _)); exact BK174.out) hb)
                  have n6_ := Aside0.mk (below_step (by repeat (first | (with_reducible first | exact HB.out | apply below_alloc | apply pw_below_drewN | apply below_drew1 | refine below_set ?_ GE152.out | refine below_set ?_ GE153.out | refine below_set ?_ GE163.out | refine below_set ?_ GE174.out) | exact HB.out)) hb)
                  clear HO166
                  clear HO191
                  clear BK152
                  clear BK153
                  clear BK163
                  clear BK174
                  clear HB
                  have HO166 := n0_
                  have HO191 := n1_
                  have BK152 := n2_
                  have BK153 := n3_
                  have BK163 := n4_
                  have BK174 := n5_
                  have HB := n6_
                  clear n0_ n1_ n2_ n3_ n4_ n5_ n6_
                  (try clear hb)
                  (try clear hb2)
                  (try clear hk)
                  (try clear hi)
                  refine hK.out _ _ ⟨v190, (by rw [ha.out]; exact putSel_upk 19 hb_ rfl rfl rfl), (by (with_reducible repeat (first | apply Kd.R_alloc | apply Kd.R_drewN | apply Kd.R_drew)); exact HO166.out), (by (with_reducible repeat (first | refine blk_drewN ?_ _ | refine blk_drew ?_ | refine blk_alloc ?_ _)); exact BK152.out), (by (with_reducible repeat (first | refine blk_drewN ?_ _ | refine blk_drew ?_ | refine blk_alloc ?_ _)); exact BK153.out), (by (with_reducible repeat (first | refine blk_drewN ?_ _ | refine blk_drew ?_ | refine blk_alloc ?_ _)); exact BK163.out), (by (with_reducible repeat (first | refine blk_drewN ?_ _ | refine blk_drew ?_ | refine blk_alloc ?_ _)); exact BK174.out), (by repeat (first | (with_reducible first | exact HB.out | apply below_alloc | apply pw_below_drewN | apply below_drew1 | refine below_set ?_ GE152.out | refine below_set ?_ GE153.out | refine below_set ?_ GE163.out | refine below_set ?_ GE174.out) | exact HB.out)), fun _ => (by (with_reducible repeat (first | apply Kd.R_alloc | apply Kd.R_drewN | apply Kd.R_drew)); exact HO191.out)⟩
                refine steps_cons ?_ ?_
                · rintro b a w' ⟨v190, ha, Q_HO166, Q_BK152, Q_BK153, Q_BK163, Q_BK174, Q_HB, Q_HO191⟩ hb_ hon hoff
                  refine ⟨_, rfl, fun K hK => ?_⟩
                  have e38 : a.tmps[38]? = some (.bool true) := by rw [ha]; exact putSel_on (e := (15, 38, .bool true)) 15 rfl rfl (hon 15 (by kernel_rfl)) rfl
                  have e42 : a.tmps[42]? = some (.bool true) := by rw [ha]; exact putSel_on (e := (19, 42, .bool true)) 19 rfl rfl (hon 19 (by kernel_rfl)) rfl
                  replace ha := Aside0.mk ha
                  have HO166 := Aside0.mk Q_HO166
                  have BK152 := Aside0.mk Q_BK152
                  have BK153 := Aside0.mk Q_BK153
                  have BK163 := Aside0.mk Q_BK163
                  have BK174 := Aside0.mk Q_BK174
                  have HB := Aside0.mk Q_HB
                  have HO191 := Aside0.mk (Q_HO191 (hon 10 (by kernel_rfl)))
                  refine value_ (w1 := w') (v := .bool true) (by rfl) rfl ?_ ?_
                  · go_simp
                    (try simp only [i64_w])
                    all_goals first | done | rfl | (simp only [Go.Proofs.YtifhhejohdmiaaaDoorSeq.eq_i, Go.Proofs.YtifhhejohdmiaaaDoorSeq.eq_b, Go.Proofs.YtifhhejohdmiaaaDoorSeq.and_t] <;> (try simp only [*]) <;> (try with_reducible rfl))
                  refine hK.out _ _ ⟨v190, (by rw [ha.out]; exact putSel_upk 20 hb_ rfl rfl rfl), Q_HO166, Q_BK152, Q_BK153, Q_BK163, Q_BK174, Q_HB, Q_HO191⟩
                refine steps_cons ?_ ?_
                · rintro b a w' ⟨v190, ha, Q_HO166, Q_BK152, Q_BK153, Q_BK163, Q_BK174, Q_HB, Q_HO191⟩ hb_ hon hoff
                  refine ⟨_, rfl, fun K hK => ?_⟩
                  have e43 : a.tmps[43]? = some (.bool true) := by rw [ha]; exact putSel_on (e := (20, 43, .bool true)) 20 rfl rfl (hon 20 (by kernel_rfl)) rfl
                  replace ha := Aside0.mk ha
                  have HO166 := Aside0.mk Q_HO166
                  have BK152 := Aside0.mk Q_BK152
                  have BK153 := Aside0.mk Q_BK153
                  have BK163 := Aside0.mk Q_BK163
                  have BK174 := Aside0.mk Q_BK174
                  have HB := Aside0.mk Q_HB
                  have HO191 := Aside0.mk (Q_HO191 (hon 10 (by kernel_rfl)))
                  refine value_ (w1 := w') (v := .bool true) (by rfl) rfl ?_ ?_
                  · go_simp
                    (try simp only [i64_w])
                    all_goals first | done | rfl | (simp only [Go.Proofs.YtifhhejohdmiaaaDoorSeq.eq_i, Go.Proofs.YtifhhejohdmiaaaDoorSeq.eq_b, Go.Proofs.YtifhhejohdmiaaaDoorSeq.and_t] <;> (try simp only [*]) <;> (try with_reducible rfl))
                  refine hK.out _ _ ⟨v190, (by rw [ha.out]; exact putSel_upk 21 hb_ rfl rfl rfl), Q_HO166, Q_BK152, Q_BK153, Q_BK163, Q_BK174, Q_HB, Q_HO191⟩
                refine steps_cons ?_ ?_
                · rintro b a w' ⟨v190, ha, Q_HO166, Q_BK152, Q_BK153, Q_BK163, Q_BK174, Q_HB, Q_HO191⟩ hb_ hon hoff
                  refine ⟨_, rfl, fun K hK => ?_⟩
                  have e44 : a.tmps[44]? = some (.bool true) := by rw [ha]; exact putSel_on (e := (21, 44, .bool true)) 21 rfl rfl (hon 21 (by kernel_rfl)) rfl
                  replace ha := Aside0.mk ha
                  have HO166 := Aside0.mk Q_HO166
                  have BK152 := Aside0.mk Q_BK152
                  have BK153 := Aside0.mk Q_BK153
                  have BK163 := Aside0.mk Q_BK163
                  have BK174 := Aside0.mk Q_BK174
                  have HB := Aside0.mk Q_HB
                  have HO191 := Aside0.mk (Q_HO191 (hon 10 (by kernel_rfl)))
                  refine goes_ Tryd.func13 (by kernel_rfl) rfl #[] (by first | rfl | (refine wanted_on rfl rfl rfl ?_; assumption)) rfl rfl (by first | (simp only [List.map_toArray, List.map_cons, List.map_nil, Act.eval, Array.getD_eq_getD_getElem?, Option.getD_some, e44]; done) | (simp only [List.map_toArray, List.map_cons, List.map_nil, Act.eval, Array.getD_eq_getD_getElem?, Option.getD_some, e44]; rfl)) ?_
                  with_reducible refine (laws_styled.calls  t207 _ ?side1 A28.out).mono ?_
                  (case side1 => exact Go.Proofs.YtifhhejohdmiaaaDoorFmt.VarsOK.below HV.out (by repeat (first | (with_reducible first | exact HB.out | apply below_alloc | apply pw_below_drewN | apply below_drew1 | refine below_set ?_ GE152.out | refine below_set ?_ GE153.out | refine below_set ?_ GE163.out | refine below_set ?_ GE174.out) | exact HB.out)))
                  rintro e w59 ⟨rfl, hb⟩
                  refine ⟨_, rfl, ?_⟩
                  have n0_ := Aside0.mk (Kd.R_below (by (with_reducible repeat (first | apply Kd.R_alloc | apply Kd.R_drewN | apply Kd.R_drew)); exact HO166.out) hb)
                  have n1_ := Aside0.mk (Kd.R_below (by (with_reducible repeat (first | apply Kd.R_alloc | apply Kd.R_drewN | apply Kd.R_drew)); exact HO191.out) hb)
                  have n2_ := Aside0.mk (blk_below (g := gb152) (o := .cells #[.int .i32 a0_0, .int .i32 a0_1, .int .i32 a0_2, .int .u8 a0_3, .int .u8 a0_4, .int .u8 a0_5, .bool false] 23 (0, 0)) (by (with_reducible repeat (first | refine blk_drewN ?_ _ | refine blk_drew ?_ | refine blk_alloc ?_ _)); exact BK152.out) hb)
                  have n3_ := Aside0.mk (blk_below (g := gb153) (o := .cells #[.int .i32 a1_0, .int .i32 a1_1, .int .i32 a1_2, .int .u8 a1_3, .int .u8 a1_4, .int .u8 a1_5, .bool a1_6] 23 (0, 0)) (by (with_reducible repeat (first | refine blk_drewN ?_ _ | refine blk_drew ?_ | refine blk_alloc ?_ _)); exact BK153.out) hb)
                  have n4_ := Aside0.mk (blk_below (g := gb163) (o := .cells #[.int .i32 t156, .int .i32 t157, .int .i32 t158, .int .u8 t159, .int .u8 t160, .int .u8 t161, .bool t162] 23 (0, 0)) (by (with_reducible repeat (first | refine blk_drewN ?_ _ | refine blk_drew ?_ | refine blk_alloc ?_ _)); exact BK163.out) hb)
                  have n5_ := Aside0.mk (blk_below (g := gb174) (o := .cells #[.int .i32 t167, .int .i32 t168, .int .i32 t169, .int .u8 t170, .int .u8 t171, .int .u8 t172, .bool t173] 23 (0, 0)) (by (with_reducible repeat (first | refine blk_drewN ?_ _ | refine blk_drew ?_ | refine blk_alloc ?_ _)); exact BK174.out) hb)
                  have n6_ := Aside0.mk (below_step (by repeat (first | (with_reducible first | exact HB.out | apply below_alloc | apply pw_below_drewN | apply below_drew1 | refine below_set ?_ GE152.out | refine below_set ?_ GE153.out | refine below_set ?_ GE163.out | refine below_set ?_ GE174.out) | exact HB.out)) hb)
                  clear HO166
                  clear HO191
                  clear BK152
                  clear BK153
                  clear BK163
                  clear BK174
                  clear HB
                  have HO166 := n0_
                  have HO191 := n1_
                  have BK152 := n2_
                  have BK153 := n3_
                  have BK163 := n4_
                  have BK174 := n5_
                  have HB := n6_
                  clear n0_ n1_ n2_ n3_ n4_ n5_ n6_
                  (try clear hb)
                  (try clear hb2)
                  (try clear hk)
                  (try clear hi)
                  refine hK.out _ _ ⟨v190, (by rw [ha.out]; exact putSel_upk 22 hb_ rfl rfl rfl), (by (with_reducible repeat (first | apply Kd.R_alloc | apply Kd.R_drewN | apply Kd.R_drew)); exact HO166.out), (by (with_reducible repeat (first | refine blk_drewN ?_ _ | refine blk_drew ?_ | refine blk_alloc ?_ _)); exact BK152.out), (by (with_reducible repeat (first | refine blk_drewN ?_ _ | refine blk_drew ?_ | refine blk_alloc ?_ _)); exact BK153.out), (by (with_reducible repeat (first | refine blk_drewN ?_ _ | refine blk_drew ?_ | refine blk_alloc ?_ _)); exact BK163.out), (by (with_reducible repeat (first | refine blk_drewN ?_ _ | refine blk_drew ?_ | refine blk_alloc ?_ _)); exact BK174.out), (by repeat (first | (with_reducible first | exact HB.out | apply below_alloc | apply pw_below_drewN | apply below_drew1 | refine below_set ?_ GE152.out | refine below_set ?_ GE153.out | refine below_set ?_ GE163.out | refine below_set ?_ GE174.out) | exact HB.out)), fun _ => (by (with_reducible repeat (first | apply Kd.R_alloc | apply Kd.R_drewN | apply Kd.R_drew)); exact HO191.out)⟩
                refine steps_cons ?_ ?_
                · rintro b a w' ⟨v190, ha, Q_HO166, Q_BK152, Q_BK153, Q_BK163, Q_BK174, Q_HB, Q_HO191⟩ hb_ hon hoff
                  refine ⟨_, rfl, fun K hK => ?_⟩
                  have e44 : a.tmps[44]? = some (.bool true) := by rw [ha]; exact putSel_on (e := (21, 44, .bool true)) 21 rfl rfl (hon 21 (by kernel_rfl)) rfl
                  have e45 : a.tmps[45]? = some (.bool t207) := by rw [ha]; exact putSel_on (e := (22, 45, .bool t207)) 22 rfl rfl (hon 22 (by kernel_rfl)) rfl
                  replace ha := Aside0.mk ha
                  have HO166 := Aside0.mk Q_HO166
                  have BK152 := Aside0.mk Q_BK152
                  have BK153 := Aside0.mk Q_BK153
                  have BK163 := Aside0.mk Q_BK163
                  have BK174 := Aside0.mk Q_BK174
                  have HB := Aside0.mk Q_HB
                  have HO191 := Aside0.mk (Q_HO191 (hon 10 (by kernel_rfl)))
                  refine value_ (w1 := w') (v := .bool t207) (by rfl) rfl ?_ ?_
                  · go_simp
                    (try simp only [i64_w])
                    all_goals first | done | rfl | (simp only [Go.Proofs.YtifhhejohdmiaaaDoorSeq.eq_i, Go.Proofs.YtifhhejohdmiaaaDoorSeq.eq_b, Go.Proofs.YtifhhejohdmiaaaDoorSeq.and_t] <;> (try simp only [*]) <;> (try with_reducible rfl))
                  refine hK.out _ _ ⟨v190, (by rw [ha.out]; exact putSel_upk 23 hb_ rfl rfl rfl), Q_HO166, Q_BK152, Q_BK153, Q_BK163, Q_BK174, Q_HB, Q_HO191⟩
                refine steps_cons ?_ ?_
                · rintro b a w' ⟨v190, ha, Q_HO166, Q_BK152, Q_BK153, Q_BK163, Q_BK174, Q_HB, Q_HO191⟩ hb_ hon hoff
                  refine ⟨_, rfl, fun K hK => ?_⟩
                  have e46 : a.tmps[46]? = some (.bool t207) := by rw [ha]; exact putSel_on (e := (23, 46, .bool t207)) 23 rfl rfl (hon 23 (by kernel_rfl)) rfl
                  replace ha := Aside0.mk ha
                  have HO166 := Aside0.mk Q_HO166
                  have BK152 := Aside0.mk Q_BK152
                  have BK153 := Aside0.mk Q_BK153
                  have BK163 := Aside0.mk Q_BK163
                  have BK174 := Aside0.mk Q_BK174
                  have HB := Aside0.mk Q_HB
                  have HO191 := Aside0.mk (Q_HO191 (hon 10 (by kernel_rfl)))
                  refine value_ (w1 := w') (v := .bool t207) (by rfl) rfl ?_ ?_
                  · go_simp
                    (try simp only [i64_w])
                    all_goals first | done | rfl | (simp only [Go.Proofs.YtifhhejohdmiaaaDoorSeq.eq_i, Go.Proofs.YtifhhejohdmiaaaDoorSeq.eq_b, Go.Proofs.YtifhhejohdmiaaaDoorSeq.and_t] <;> (try simp only [*]) <;> (try with_reducible rfl))
                  refine hK.out _ _ ⟨v190, (by rw [ha.out]; exact putSel_upk 24 hb_ rfl rfl rfl), Q_HO166, Q_BK152, Q_BK153, Q_BK163, Q_BK174, Q_HB, Q_HO191⟩
                exact steps_nil
              rintro b a w59 hall ⟨v190, ha, Q_HO166, Q_BK152, Q_BK153, Q_BK163, Q_BK174, Q_HB, Q_HO191⟩
              clear BK152 BK153 BK163 BK174 HB HO166
              have hb0_ := hall 0 (by kernel_rfl)
              have hb1_ := hall 1 (by kernel_rfl)
              have hb2_ := hall 2 (by kernel_rfl)
              have hb3_ := hall 3 (by kernel_rfl)
              have hb4_ := hall 4 (by kernel_rfl)
              have hb5_ := hall 5 (by kernel_rfl)
              have hb6_ := hall 6 (by kernel_rfl)
              have hb7_ := hall 7 (by kernel_rfl)
              have hb8_ := hall 8 (by kernel_rfl)
              have hb9_ := hall 9 (by kernel_rfl)
              have hb10_ := hall 10 (by kernel_rfl)
              have hb11_ := hall 11 (by kernel_rfl)
              have hb12_ := hall 12 (by kernel_rfl)
              have hb13_ := hall 13 (by kernel_rfl)
              have hb14_ := hall 14 (by kernel_rfl)
              have hb15_ := hall 15 (by kernel_rfl)
              have hb16_ := hall 16 (by kernel_rfl)
              have hb17_ := hall 17 (by kernel_rfl)
              have hb18_ := hall 18 (by kernel_rfl)
              have hb19_ := hall 19 (by kernel_rfl)
              have hb20_ := hall 20 (by kernel_rfl)
              have hb21_ := hall 21 (by kernel_rfl)
              have hb22_ := hall 22 (by kernel_rfl)
              have hb23_ := hall 23 (by kernel_rfl)
              have hb24_ := hall 24 (by kernel_rfl)
              subst ha
              simp only [putSel, hb0_, hb1_, hb2_, hb3_, hb4_, hb5_, hb6_, hb7_, hb8_, hb9_, hb10_, hb11_, hb12_, hb13_, hb14_, hb15_, hb16_, hb17_, hb18_, hb19_, hb20_, hb21_, hb22_, hb23_, hb24_, if_true, Act.put, List.setIfInBounds_toArray, List.set_cons_zero, List.set_cons_succ]
              have HO166 := Aside0.mk Q_HO166
              clear Q_HO166
              have BK152 := Aside0.mk Q_BK152
              clear Q_BK152
              have BK153 := Aside0.mk Q_BK153
              clear Q_BK153
              have BK163 := Aside0.mk Q_BK163
              clear Q_BK163
              have BK174 := Aside0.mk Q_BK174
              clear Q_BK174
              have HB := Aside0.mk Q_HB
              clear Q_HB
              have HO191 := Aside0.mk (Q_HO191 hb10_)
              clear Q_HO191
              clear hall hb0_ hb1_ hb2_ hb3_ hb4_ hb5_ hb6_ hb7_ hb8_ hb9_ hb10_ hb11_ hb12_ hb13_ hb14_ hb15_ hb16_ hb17_ hb18_ hb19_ hb20_ hb21_ hb22_ hb23_ hb24_
              try go_wp2
              go_ret
              exact ⟨by first | rfl | (simp [errW_none, errW_some] <;> rfl) | (simp [*, errW_none, errW_some] <;> rfl), by repeat (first | (with_reducible first | exact HB.out | apply below_alloc | apply pw_below_drewN | apply below_drew1 | refine below_set ?_ GE152.out | refine below_set ?_ GE153.out | refine below_set ?_ GE163.out | refine below_set ?_ GE174.out) | exact HB.out)⟩
            · replace c27 := Bool.eq_false_iff.mpr c27
              subst c27
              have H1 : (some false) = some r := by rw [if_neg (show ¬ (false = true) by decide)] at H; exact H
              clear H
              have H := H1
              clear H1
              exact absurd ((Option.some.inj H).trans hrT.out) (by decide)
          · rw [if_neg c24] at H
            have c24b0 : (t192 == t167 && (t193 == t168 && (t194 == t169 && (t195 == t170 && (t196 == t171 && (t197 == t172 && (t198 == t173))))))) = false := by simpa using c24
            (try (have c24b1 : decide (t192 = t167 && (t193 == t168 && (t194 == t169 && (t195 == t170 && (t196 == t171 && (t197 == t172 && (t198 == t173))))))) = false := by simpa using c24))
            (try (have c24b2 : (t192 == t167 && (t193 == t168 && (t194 == t169 && (t195 == t170 && (t196 == t171 && (t197 == t172 && (t198 == t173))))))) = false := by simpa using c24))
            (try (have c24b3 : ¬ (t192 = t167 && (t193 == t168 && (t194 == t169 && (t195 == t170 && (t196 == t171 && (t197 == t172 && (t198 == t173))))))) := by simpa using c24))
            clear c24
            exact absurd ((Option.some.inj H).trans hrT.out) (by decide)
        · rw [if_neg c21] at H
          have c21b0 : (t156 == t175 && (t157 == t176 && (t158 == t177 && (t159 == t178 && (t160 == t179 && (t161 == t180 && (t162 == t181))))))) = false := by simpa using c21
          (try (have c21b1 : decide (t156 = t175 && (t157 == t176 && (t158 == t177 && (t159 == t178 && (t160 == t179 && (t161 == t180 && (t162 == t181))))))) = false := by simpa using c21))
          (try (have c21b2 : (t156 == t175 && (t157 == t176 && (t158 == t177 && (t159 == t178 && (t160 == t179 && (t161 == t180 && (t162 == t181))))))) = false := by simpa using c21))
          (try (have c21b3 : ¬ (t156 = t175 && (t157 == t176 && (t158 == t177 && (t159 == t178 && (t160 == t179 && (t161 == t180 && (t162 == t181))))))) := by simpa using c21))
          clear c21
          exact absurd ((Option.some.inj H).trans hrT.out) (by decide)
def wf_S23 (x : S23) : Prop := (IntKind.i32.min ≤ x.f0 ∧ x.f0 ≤ IntKind.i32.max) ∧ (IntKind.i32.min ≤ x.f1 ∧ x.f1 ≤ IntKind.i32.max) ∧ (IntKind.i32.min ≤ x.f2 ∧ x.f2 ≤ IntKind.i32.max) ∧ (IntKind.u8.min ≤ x.f3 ∧ x.f3 ≤ IntKind.u8.max) ∧ (IntKind.u8.min ≤ x.f4 ∧ x.f4 ≤ IntKind.u8.max) ∧ (IntKind.u8.min ≤ x.f5 ∧ x.f5 ≤ IntKind.u8.max) ∧ (True)
def laws_FnEntrySub.Pure : Prop := ∀ (a0_0 : Int) (a0_1 : Int) (a0_2 : Int) (a0_3 : Int) (a0_4 : Int) (a0_5 : Int) (a0_6 : Bool) (a1_0 : Int) (a1_1 : Int) (a1_2 : Int) (a1_3 : Int) (a1_4 : Int) (a1_5 : Int) (a1_6 : Bool), wf_S23 (⟨a0_0, a0_1, a0_2, a0_3, a0_4, a0_5, a0_6⟩ : S23) → wf_S23 (⟨a1_0, a1_1, a1_2, a1_3, a1_4, a1_5, a1_6⟩ : S23) → ∃ k, laws_FnEntrySub.f k a0_0 a0_1 a0_2 a0_3 a0_4 a0_5 a0_6 a1_0 a1_1 a1_2 a1_3 a1_4 a1_5 a1_6 = some true

end Go.Proofs.YtifhhejohdmiaaaDoor.U
