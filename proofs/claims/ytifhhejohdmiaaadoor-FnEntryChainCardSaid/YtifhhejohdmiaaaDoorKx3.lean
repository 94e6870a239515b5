-- WRITTEN BY OUR myprint.py, a program of this session's over the kit's printer
import Derived.Test.YtifhhejohdmiaaaDoorKx0
import Derived.Test.YtifhhejohdmiaaaDoorKx1
import Derived.Test.YtifhhejohdmiaaaDoorKx2
namespace Go.Proofs.YtifhhejohdmiaaaDoor.K
open Go.RowKit Go.Proofs.YtifhhejohdmiaaaDoorW.PrintWords Go.Proofs.YtifhhejohdmiaaaDoorW.PrintLast Go.Proofs.YtifhhejohdmiaaaDoorW.PrintMore
attribute [local go_sem] max2_int min2_int max_two min_two max_three min_three max_four min_four   -- for this text's walks alone
set_option linter.unusedVariables false
set_option linter.unusedSimpArgs false

attribute [local go_sem high] eqA23
/-! ### laws_FnEntryChain: function 5 -/
def laws_FnEntryChain.j0 : Nat → List (S23) → Bool → Int → Int → Int → Int → Int → Int → Bool → Int → Int → Int → Int → Int → Int → Bool → Option (Bool)
  | 0, _, _, _, _, _, _, _, _, _, _, _, _, _, _, _, _ => none
  | k + 1, x1, x23, x111000, x111001, x111002, x111003, x111004, x111005, x111006, x112000, x112001, x112002, x112003, x112004, x112005, x112006 => if x23 = true then (some true) else (if ([] : List (S23)).length + x1.length < 8796093022208 then ((some (([] : List (S23)) ++ x1 : List (S23))).bind fun y115 => ((some (([(⟨x112000, x112001, x112002, x112003, x112004, x112005, x112006⟩ : S23)] : List (S23)) : List (S23))).bind fun y118 => (if y115.length + y118.length < 8796093022208 then ((impl_EntryInherit.f x111000 x111001 x111002 x111003 x111004 x111005 x111006 (y115 ++ y118)).bind fun bt124 => ((impl_EntryInherit.f x111000 x111001 x111002 x111003 x111004 x111005 x111006 (([(⟨x112000, x112001, x112002, x112003, x112004, x112005, x112006⟩ : S23)] : List (S23)))).bind fun bt134 => ((impl_EntryInherit.f bt134.1 bt134.2.1 bt134.2.2.1 bt134.2.2.2.1 bt134.2.2.2.2.1 bt134.2.2.2.2.2.1 bt134.2.2.2.2.2.2 x1).bind fun bt141 => (if (bt124.1 == bt141.1 && (bt124.2.1 == bt141.2.1 && (bt124.2.2.1 == bt141.2.2.1 && (bt124.2.2.2.1 == bt141.2.2.2.1 && (bt124.2.2.2.2.1 == bt141.2.2.2.2.1 && (bt124.2.2.2.2.2.1 == bt141.2.2.2.2.2.1 && (bt124.2.2.2.2.2.2 == bt141.2.2.2.2.2.2))))))) = true then ((laws_styled.f).bind fun t148 => (some t148)) else (some false))))) else (none)))) else (none))
def laws_FnEntryChain.f (k : Nat) (a0_0 : Int) (a0_1 : Int) (a0_2 : Int) (a0_3 : Int) (a0_4 : Int) (a0_5 : Int) (a0_6 : Bool) (l1 : List (S23)) (a2_0 : Int) (a2_1 : Int) (a2_2 : Int) (a2_3 : Int) (a2_4 : Int) (a2_5 : Int) (a2_6 : Bool) : Option (Bool) := if (l1.length : Int) > 2147483647 then (some true) else ((laws_usual.f k a0_0 a0_1 a0_2 a0_3 a0_4 a0_5 a0_6).bind fun t112 => (if t112 = true then ((laws_usual.f k a2_0 a2_1 a2_2 a2_3 a2_4 a2_5 a2_6).bind fun t113 => (if t113 = true then ((laws_lines.f k l1).bind fun t114 => (laws_FnEntryChain.j0 k l1 (!t114) a0_0 a0_1 a0_2 a0_3 a0_4 a0_5 a0_6 a2_0 a2_1 a2_2 a2_3 a2_4 a2_5 a2_6)) else (laws_FnEntryChain.j0 k l1 true a0_0 a0_1 a0_2 a0_3 a0_4 a0_5 a0_6 a2_0 a2_1 a2_2 a2_3 a2_4 a2_5 a2_6))) else (laws_FnEntryChain.j0 k l1 true a0_0 a0_1 a0_2 a0_3 a0_4 a0_5 a0_6 a2_0 a2_1 a2_2 a2_3 a2_4 a2_5 a2_6)))
theorem laws_FnEntryChain.mono_l : ∀ k, (∀ y0 y1 y2 y3 y4 y5 y6 y7 y8 y9 y10 y11 y12 y13 y14 y15, LeO (laws_FnEntryChain.j0 k y0 y1 y2 y3 y4 y5 y6 y7 y8 y9 y10 y11 y12 y13 y14 y15) (laws_FnEntryChain.j0 (k + 1) y0 y1 y2 y3 y4 y5 y6 y7 y8 y9 y10 y11 y12 y13 y14 y15))
  | 0 => fun _ _ _ _ _ _ _ _ _ _ _ _ _ _ _ _ r h => by simp [laws_FnEntryChain.j0] at h
  | k + 1 => by
    have ih0 := laws_FnEntryChain.mono_l k
    · intro y0 y1 y2 y3 y4 y5 y6 y7 y8 y9 y10 y11 y12 y13 y14 y15
      unfold laws_FnEntryChain.j0
      repeat' first
      | (with_reducible exact ih0 _ _ _ _ _ _ _ _ _ _ _ _ _ _ _ _)
      | (with_reducible exact laws_lines.mono _ _)
      | (with_reducible exact laws_usual.mono _ _ _ _ _ _ _ _)
      | (with_reducible exact LeO.refl _)
      | (with_reducible exact LeO.none _)
      | (with_reducible refine LeO.ite ?_ ?_)
      | (with_reducible refine LeO.bind ?_ (fun _ => ?_))
      | exact ih0 _ _ _ _ _ _ _ _ _ _ _ _ _ _ _ _
      | exact laws_lines.mono _ _
      | exact laws_usual.mono _ _ _ _ _ _ _ _
      | exact LeO.none _
      | refine LeO.ite ?_ ?_
      | refine LeO.bind ?_ (fun _ => ?_)
theorem laws_FnEntryChain.mono : ∀ a0 a1 a2 a3 a4 a5 a6 a7 a8 a9 a10 a11 a12 a13 a14 k, LeO (laws_FnEntryChain.f k a0 a1 a2 a3 a4 a5 a6 a7 a8 a9 a10 a11 a12 a13 a14) (laws_FnEntryChain.f (k + 1) a0 a1 a2 a3 a4 a5 a6 a7 a8 a9 a10 a11 a12 a13 a14) := by
  intro a0 a1 a2 a3 a4 a5 a6 a7 a8 a9 a10 a11 a12 a13 a14 k
  have ih0 := laws_FnEntryChain.mono_l k
  unfold laws_FnEntryChain.f
  repeat' first
      | (with_reducible exact ih0 _ _ _ _ _ _ _ _ _ _ _ _ _ _ _ _)
      | (with_reducible exact laws_lines.mono _ _)
      | (with_reducible exact laws_usual.mono _ _ _ _ _ _ _ _)
      | (with_reducible exact LeO.refl _)
      | (with_reducible exact LeO.none _)
      | (with_reducible refine LeO.ite ?_ ?_)
      | (with_reducible refine LeO.bind ?_ (fun _ => ?_))
      | exact ih0 _ _ _ _ _ _ _ _ _ _ _ _ _ _ _ _
      | exact laws_lines.mono _ _
      | exact laws_usual.mono _ _ _ _ _ _ _ _
      | exact LeO.none _
      | refine LeO.ite ?_ ?_
      | refine LeO.bind ?_ (fun _ => ?_)
def laws_FnEntryChain.T6 : Bool × List (List Nat × List Nat) := (true, [([], []), ([], []), ([0, 1], [0, 1]), ([], []), ([], []), ([4], [4]), ([3, 5, 2], [3, 5]), ([], []), ([6, 7, 6], [6, 7]), ([2, 8], [2, 8]), ([9, 8], [9]), ([10, 10], [10]), ([10, 11], [10, 11]), ([12, 11, 0, 1, 2, 3, 4, 5, 6, 7, 8, 9, 10, 11, 12], [12])])
def laws_FnEntryChain.B6 : List Nat := [0, 0, 3, 0, 0, 16, 63, 0, 255, 511, 1023, 2047, 4095, 8191]
theorem laws_FnEntryChain.tab6 : rtab .any (opsOf Tryd.f5 6) = laws_FnEntryChain.T6 := by kernel_rfl
theorem laws_FnEntryChain.bits6 : waitsOk laws_FnEntryChain.T6.2 laws_FnEntryChain.B6 = true := by kernel_rfl
set_option maxHeartbeats 8000000 in
set_option maxRecDepth 100000 in
theorem laws_FnEntryChain.calls (k : Nat) (a0_0 : Int) (a0_1 : Int) (a0_2 : Int) (a0_3 : Int) (a0_4 : Int) (a0_5 : Int) (a0_6 : Bool) (A1 : Option Addr) (c1 : Nat) (l1 : List (S23)) (a2_0 : Int) (a2_1 : Int) (a2_2 : Int) (a2_3 : Int) (a2_4 : Int) (a2_5 : Int) (a2_6 : Bool) (r : Bool) (hrT : Aside0 (r = true)) (w : World) (hr1 : Kd.C k23 w A1 l1.length l1) (hc1 : l1.length ≤ c1) (hV : Go.Proofs.YtifhhejohdmiaaaDoorFmt.VarsOK w) (h : laws_FnEntryChain.f k a0_0 a0_1 a0_2 a0_3 a0_4 a0_5 a0_6 l1 a2_0 a2_1 a2_2 a2_3 a2_4 a2_5 a2_6 = some r) :
    Calls Tryd.prog 5 #[.agg #[.int .i32 a0_0, .int .i32 a0_1, .int .i32 a0_2, .int .u8 a0_3, .int .u8 a0_4, .int .u8 a0_5, .bool a0_6], .slice A1 l1.length c1, .agg #[.int .i32 a2_0, .int .i32 a2_1, .int .i32 a2_2, .int .u8 a2_3, .int .u8 a2_4, .int .u8 a2_5, .bool a2_6]] w fun e w' => e = .returned (.bool r) ∧ Below w.heap.size w w' := by
  have hu23 := Tryd.underlying23
  have HR1 := Aside0.mk hr1
  have HC1 := Aside0.mk hc1
  clear hr1 hc1
  have HB := Aside0.mk (Below.refl w.heap.size w)
  have HV := Aside0.mk hV
  clear hV
  have H : (if (l1.length : Int) > 2147483647 then (some true) else ((laws_usual.f k a0_0 a0_1 a0_2 a0_3 a0_4 a0_5 a0_6).bind fun t112 => (if t112 = true then ((laws_usual.f k a2_0 a2_1 a2_2 a2_3 a2_4 a2_5 a2_6).bind fun t113 => (if t113 = true then ((laws_lines.f k l1).bind fun t114 => (laws_FnEntryChain.j0 k l1 (!t114) a0_0 a0_1 a0_2 a0_3 a0_4 a0_5 a0_6 a2_0 a2_1 a2_2 a2_3 a2_4 a2_5 a2_6)) else (laws_FnEntryChain.j0 k l1 true a0_0 a0_1 a0_2 a0_3 a0_4 a0_5 a0_6 a2_0 a2_1 a2_2 a2_3 a2_4 a2_5 a2_6))) else (laws_FnEntryChain.j0 k l1 true a0_0 a0_1 a0_2 a0_3 a0_4 a0_5 a0_6 a2_0 a2_1 a2_2 a2_3 a2_4 a2_5 a2_6)))) = some r := h
  clear h
  by_cases c4 : (l1.length : Int) > 2147483647
  · rw [if_pos c4] at H
    have c4b0 : decide (2147483647 < (l1.length : Int)) = true := decide_eq_true c4
    have c4b1 : decide (2147483647 < l1.length) = true := decide_eq_true (by omega)
    clear c4
    obtain rfl := Option.some.inj H
    go_enter Tryd.func5, Tryd.ntmps5
    go_wp2_with (first | ((with_reducible refine gate_dst (N := 3) rfl ?_); refine box_event ?hg (N := 3) ?hd (cs := #[.int .i32 a0_0, .int .i32 a0_1, .int .i32 a0_2, .int .u8 a0_3, .int .u8 a0_4, .int .u8 a0_5, .bool a0_6]) (t := 23) ?hr ?_; (case hd => rfl); (case hg => rfl); (case hr => first | (go_simp; done) | (go_simp; rfl)); intro gb110 hg w5 hbox hb; have n0_ := Aside0.mk (below_step (by repeat (first | (with_reducible first | exact HB.out | apply below_alloc | apply pw_below_drewN | apply below_drew1) | exact HB.out)) hb); have n1_ := Aside0.mk (hbox); have n2_ := Aside0.mk ((by rw [hg]; exact (below_size (by repeat (first | (with_reducible first | exact HB.out | apply below_alloc | apply pw_below_drewN | apply below_drew1) | exact HB.out))) : w.heap.size ≤ gb110)); have n3_ := Aside0.mk ((by rw [hg]; exact (below_size (by repeat (first | (with_reducible first | exact HB.out | apply below_alloc | apply pw_below_drewN | apply below_drew1) | exact HB.out))) : w.heap.size ≤ gb110)); clear HB; have HB := n0_; have BK110 := n1_; have GW110 := n2_; have GE110 := n3_; clear n0_ n1_ n2_ n3_; clear hb hbox hg) | ((with_reducible refine gate_dst (N := 5) rfl ?_); refine box_event ?hg (N := 5) ?hd (cs := #[.int .i32 a2_0, .int .i32 a2_1, .int .i32 a2_2, .int .u8 a2_3, .int .u8 a2_4, .int .u8 a2_5, .bool a2_6]) (t := 23) ?hr ?_; (case hd => rfl); (case hg => rfl); (case hr => first | (go_simp; done) | (go_simp; rfl)); intro gb111 hg w6 hbox hb; have n0_ := Aside0.mk (blk_below (g := gb110) (o := .cells #[.int .i32 a0_0, .int .i32 a0_1, .int .i32 a0_2, .int .u8 a0_3, .int .u8 a0_4, .int .u8 a0_5, .bool a0_6] 23 (0, 0)) (by (with_reducible repeat (first | refine blk_drewN ?_ _ | refine blk_drew ?_ | refine blk_alloc ?_ _)); exact BK110.out) hb); have n1_ := Aside0.mk (below_step (by repeat (first | (with_reducible first | exact HB.out | apply below_alloc | apply pw_below_drewN | apply below_drew1 | refine below_set ?_ GE110.out) | exact HB.out)) hb); have n2_ := Aside0.mk (hbox); have n3_ := Aside0.mk ((by rw [hg]; exact (below_size (by repeat (first | (with_reducible first | exact HB.out | apply below_alloc | apply pw_below_drewN | apply below_drew1 | refine below_set ?_ GE110.out) | exact HB.out))) : w.heap.size ≤ gb111)); have n4_ := Aside0.mk ((by rw [hg]; exact (below_size (by repeat (first | (with_reducible first | exact HB.out | apply below_alloc | apply pw_below_drewN | apply below_drew1 | refine below_set ?_ GE110.out) | exact HB.out))) : w.heap.size ≤ gb111)); have n5_ := Aside0.mk ((by rw [hg]; exact Nat.ne_of_lt (blk_lt (g := gb110) (o := .cells #[.int .i32 a0_0, .int .i32 a0_1, .int .i32 a0_2, .int .u8 a0_3, .int .u8 a0_4, .int .u8 a0_5, .bool a0_6] 23 (0, 0)) (by (with_reducible repeat (first | refine blk_drewN ?_ _ | refine blk_drew ?_ | refine blk_alloc ?_ _)); exact BK110.out)) : gb110 ≠ gb111)); have n6_ := Aside0.mk ((by rw [hg]; exact Nat.ne_of_gt (blk_lt (g := gb110) (o := .cells #[.int .i32 a0_0, .int .i32 a0_1, .int .i32 a0_2, .int .u8 a0_3, .int .u8 a0_4, .int .u8 a0_5, .bool a0_6] 23 (0, 0)) (by (with_reducible repeat (first | refine blk_drewN ?_ _ | refine blk_drew ?_ | refine blk_alloc ?_ _)); exact BK110.out)) : gb111 ≠ gb110)); clear BK110; clear HB; have BK110 := n0_; have HB := n1_; have BK111 := n2_; have GW111 := n3_; have GE111 := n4_; have NB110_111 := n5_; have NB111_110 := n6_; clear n0_ n1_ n2_ n3_ n4_ n5_ n6_; clear hb hbox hg))
    go_ret
    exact ⟨by first | rfl | (simp [errW_none, errW_some] <;> rfl) | (simp [*, errW_none, errW_some] <;> rfl), by repeat (first | (with_reducible first | exact HB.out | apply below_alloc | apply pw_below_drewN | apply below_drew1 | refine below_set ?_ GE110.out | refine below_set ?_ GE111.out) | exact HB.out)⟩
  · rw [if_neg c4] at H
    have c4b0 : decide (2147483647 < (l1.length : Int)) = false := decide_eq_false c4
    have c4b1 : decide (2147483647 < l1.length) = false := decide_eq_false (by omega)
    clear c4
    have HC7 := Aside0.mk H
    clear H
    go_enter Tryd.func5, Tryd.ntmps5
    go_upto_region 3 with (first | ((with_reducible refine gate_dst (N := 3) rfl ?_); refine box_event ?hg (N := 3) ?hd (cs := #[.int .i32 a0_0, .int .i32 a0_1, .int .i32 a0_2, .int .u8 a0_3, .int .u8 a0_4, .int .u8 a0_5, .bool a0_6]) (t := 23) ?hr ?_; (case hd => rfl); (case hg => rfl); (case hr => first | (go_simp; done) | (go_simp; rfl)); intro gb110 hg w8 hbox hb; have n0_ := Aside0.mk (below_step (by repeat (first | (with_reducible first | exact HB.out | apply below_alloc | apply pw_below_drewN | apply below_drew1) | exact HB.out)) hb); have n1_ := Aside0.mk (hbox); have n2_ := Aside0.mk ((by rw [hg]; exact (below_size (by repeat (first | (with_reducible first | exact HB.out | apply below_alloc | apply pw_below_drewN | apply below_drew1) | exact HB.out))) : w.heap.size ≤ gb110)); have n3_ := Aside0.mk ((by rw [hg]; exact (below_size (by repeat (first | (with_reducible first | exact HB.out | apply below_alloc | apply pw_below_drewN | apply below_drew1) | exact HB.out))) : w.heap.size ≤ gb110)); clear HB; have HB := n0_; have BK110 := n1_; have GW110 := n2_; have GE110 := n3_; clear n0_ n1_ n2_ n3_; clear hb hbox hg) | ((with_reducible refine gate_dst (N := 5) rfl ?_); refine box_event ?hg (N := 5) ?hd (cs := #[.int .i32 a2_0, .int .i32 a2_1, .int .i32 a2_2, .int .u8 a2_3, .int .u8 a2_4, .int .u8 a2_5, .bool a2_6]) (t := 23) ?hr ?_; (case hd => rfl); (case hg => rfl); (case hr => first | (go_simp; done) | (go_simp; rfl)); intro gb111 hg w9 hbox hb; have n0_ := Aside0.mk (blk_below (g := gb110) (o := .cells #[.int .i32 a0_0, .int .i32 a0_1, .int .i32 a0_2, .int .u8 a0_3, .int .u8 a0_4, .int .u8 a0_5, .bool a0_6] 23 (0, 0)) (by (with_reducible repeat (first | refine blk_drewN ?_ _ | refine blk_drew ?_ | refine blk_alloc ?_ _)); exact BK110.out) hb); have n1_ := Aside0.mk (below_step (by repeat (first | (with_reducible first | exact HB.out | apply below_alloc | apply pw_below_drewN | apply below_drew1 | refine below_set ?_ GE110.out) | exact HB.out)) hb); have n2_ := Aside0.mk (hbox); have n3_ := Aside0.mk ((by rw [hg]; exact (below_size (by repeat (first | (with_reducible first | exact HB.out | apply below_alloc | apply pw_below_drewN | apply below_drew1 | refine below_set ?_ GE110.out) | exact HB.out))) : w.heap.size ≤ gb111)); have n4_ := Aside0.mk ((by rw [hg]; exact (below_size (by repeat (first | (with_reducible first | exact HB.out | apply below_alloc | apply pw_below_drewN | apply below_drew1 | refine below_set ?_ GE110.out) | exact HB.out))) : w.heap.size ≤ gb111)); have n5_ := Aside0.mk ((by rw [hg]; exact Nat.ne_of_lt (blk_lt (g := gb110) (o := .cells #[.int .i32 a0_0, .int .i32 a0_1, .int .i32 a0_2, .int .u8 a0_3, .int .u8 a0_4, .int .u8 a0_5, .bool a0_6] 23 (0, 0)) (by (with_reducible repeat (first | refine blk_drewN ?_ _ | refine blk_drew ?_ | refine blk_alloc ?_ _)); exact BK110.out)) : gb110 ≠ gb111)); have n6_ := Aside0.mk ((by rw [hg]; exact Nat.ne_of_gt (blk_lt (g := gb110) (o := .cells #[.int .i32 a0_0, .int .i32 a0_1, .int .i32 a0_2, .int .u8 a0_3, .int .u8 a0_4, .int .u8 a0_5, .bool a0_6] 23 (0, 0)) (by (with_reducible repeat (first | refine blk_drewN ?_ _ | refine blk_drew ?_ | refine blk_alloc ?_ _)); exact BK110.out)) : gb111 ≠ gb110)); clear BK110; clear HB; have BK110 := n0_; have HB := n1_; have BK111 := n2_; have GW111 := n3_; have GE111 := n4_; have NB110_111 := n5_; have NB111_110 := n6_; clear n0_ n1_ n2_ n3_ n4_ n5_ n6_; clear hb hbox hg))
    (try simp only [Act.put, List.setIfInBounds_toArray, List.set_cons_zero, List.set_cons_succ])
    go_cut [23] (fun v23 wc => ∃ (kq : Nat) (x23_6 : Bool), v23 = .bool x23_6 ∧ Aside0 (laws_FnEntryChain.j0 kq l1 x23_6 a0_0 a0_1 a0_2 a0_3 a0_4 a0_5 a0_6 a2_0 a2_1 a2_2 a2_3 a2_4 a2_5 a2_6 = some r) ∧ Aside0 (kq ≤ k) ∧ Aside0 (wc.heap[gb110]? = some (.cells #[.int .i32 a0_0, .int .i32 a0_1, .int .i32 a0_2, .int .u8 a0_3, .int .u8 a0_4, .int .u8 a0_5, .bool a0_6] 23 (0, 0))) ∧ Aside0 (wc.heap[gb111]? = some (.cells #[.int .i32 a2_0, .int .i32 a2_1, .int .i32 a2_2, .int .u8 a2_3, .int .u8 a2_4, .int .u8 a2_5, .bool a2_6] 23 (0, 0))) ∧ Aside0 (Below w.heap.size w wc))
    case first =>
      have H := HC7.out
      clear HC7
      replace H := Option.bind_eq_some_iff.mp H
      obtain ⟨t112, A100, H⟩ := H
      replace H : (if t112 = true then ((laws_usual.f k a2_0 a2_1 a2_2 a2_3 a2_4 a2_5 a2_6).bind fun t113 => (if t113 = true then ((laws_lines.f k l1).bind fun t114 => (laws_FnEntryChain.j0 k l1 (!t114) a0_0 a0_1 a0_2 a0_3 a0_4 a0_5 a0_6 a2_0 a2_1 a2_2 a2_3 a2_4 a2_5 a2_6)) else (laws_FnEntryChain.j0 k l1 true a0_0 a0_1 a0_2 a0_3 a0_4 a0_5 a0_6 a2_0 a2_1 a2_2 a2_3 a2_4 a2_5 a2_6))) else (laws_FnEntryChain.j0 k l1 true a0_0 a0_1 a0_2 a0_3 a0_4 a0_5 a0_6 a2_0 a2_1 a2_2 a2_3 a2_4 a2_5 a2_6)) = some r := H
      have A10 := Aside0.mk A100
      clear A100
      by_cases c11 : t112 = true
      · subst c11
        have H1 : ((laws_usual.f k a2_0 a2_1 a2_2 a2_3 a2_4 a2_5 a2_6).bind fun t113 => (if t113 = true then ((laws_lines.f k l1).bind fun t114 => (laws_FnEntryChain.j0 k l1 (!t114) a0_0 a0_1 a0_2 a0_3 a0_4 a0_5 a0_6 a2_0 a2_1 a2_2 a2_3 a2_4 a2_5 a2_6)) else (laws_FnEntryChain.j0 k l1 true a0_0 a0_1 a0_2 a0_3 a0_4 a0_5 a0_6 a2_0 a2_1 a2_2 a2_3 a2_4 a2_5 a2_6))) = some r := by rw [if_pos rfl] at H; exact H
        clear H
        have H := H1
        clear H1
        replace H := Option.bind_eq_some_iff.mp H
        obtain ⟨t113, A120, H⟩ := H
        replace H : (if t113 = true then ((laws_lines.f k l1).bind fun t114 => (laws_FnEntryChain.j0 k l1 (!t114) a0_0 a0_1 a0_2 a0_3 a0_4 a0_5 a0_6 a2_0 a2_1 a2_2 a2_3 a2_4 a2_5 a2_6)) else (laws_FnEntryChain.j0 k l1 true a0_0 a0_1 a0_2 a0_3 a0_4 a0_5 a0_6 a2_0 a2_1 a2_2 a2_3 a2_4 a2_5 a2_6)) = some r := H
        have A12 := Aside0.mk A120
        clear A120
        by_cases c13 : t113 = true
        · subst c13
          have H1 : ((laws_lines.f k l1).bind fun t114 => (laws_FnEntryChain.j0 k l1 (!t114) a0_0 a0_1 a0_2 a0_3 a0_4 a0_5 a0_6 a2_0 a2_1 a2_2 a2_3 a2_4 a2_5 a2_6)) = some r := by rw [if_pos rfl] at H; exact H
          clear H
          have H := H1
          clear H1
          replace H := Option.bind_eq_some_iff.mp H
          obtain ⟨t114, A140, H⟩ := H
          replace H : (laws_FnEntryChain.j0 k l1 (!t114) a0_0 a0_1 a0_2 a0_3 a0_4 a0_5 a0_6 a2_0 a2_1 a2_2 a2_3 a2_4 a2_5 a2_6) = some r := H
          have A14 := Aside0.mk A140
          clear A140
          have H' := Aside0.mk H
          clear H
          have hnb15 := NB110_111.out
          have hnc15 := NB111_110.out
          have hcz16_0 : w9.cell? ⟨gb110, 0, none⟩ = some (.int .i32 a0_0) := (blk_cell BK110.out 0).trans rfl
          have hcz16_1 : w9.cell? ⟨gb110, 1, none⟩ = some (.int .i32 a0_1) := (blk_cell BK110.out 1).trans rfl
          have hcz16_2 : w9.cell? ⟨gb110, 2, none⟩ = some (.int .i32 a0_2) := (blk_cell BK110.out 2).trans rfl
          have hcz16_3 : w9.cell? ⟨gb110, 3, none⟩ = some (.int .u8 a0_3) := (blk_cell BK110.out 3).trans rfl
          have hcz16_4 : w9.cell? ⟨gb110, 4, none⟩ = some (.int .u8 a0_4) := (blk_cell BK110.out 4).trans rfl
          have hcz16_5 : w9.cell? ⟨gb110, 5, none⟩ = some (.int .u8 a0_5) := (blk_cell BK110.out 5).trans rfl
          have hcz16_6 : w9.cell? ⟨gb110, 6, none⟩ = some (.bool a0_6) := (blk_cell BK110.out 6).trans rfl
          have hfz16_0 := blk_frozen BK110.out 0
          have hfz16_1 := blk_frozen BK110.out 1
          have hfz16_2 := blk_frozen BK110.out 2
          have hfz16_3 := blk_frozen BK110.out 3
          have hfz16_4 := blk_frozen BK110.out 4
          have hfz16_5 := blk_frozen BK110.out 5
          have hfz16_6 := blk_frozen BK110.out 6
          go_wp2_with (first | ((with_reducible refine gate_callee (f := 16) rfl ?_); refine goesL_ (some 12) rfl rfl Tryd.func16 (by kernel_rfl) rfl #[.agg #[.int .i32 a0_0, .int .i32 a0_1, .int .i32 a0_2, .int .u8 a0_3, .int .u8 a0_4, .int .u8 a0_5, .bool a0_6]] rfl (by (try simp only [List.map_toArray, List.map_cons, List.map_nil]); first | done | rfl | (simp only [List.length_drop, List.length_take]; rfl)) ?_; (with_reducible refine (laws_usual.calls k a0_0 a0_1 a0_2 a0_3 a0_4 a0_5 a0_6 true _ A10.out).mono ?_); rintro e w17 ⟨rfl, hb⟩; refine ⟨_, rfl, ?_⟩; have n0_ := Aside0.mk (blk_below (g := gb110) (o := .cells #[.int .i32 a0_0, .int .i32 a0_1, .int .i32 a0_2, .int .u8 a0_3, .int .u8 a0_4, .int .u8 a0_5, .bool a0_6] 23 (0, 0)) (by (with_reducible repeat (first | refine blk_drewN ?_ _ | refine blk_drew ?_ | refine blk_alloc ?_ _)); exact BK110.out) hb); have n1_ := Aside0.mk (blk_below (g := gb111) (o := .cells #[.int .i32 a2_0, .int .i32 a2_1, .int .i32 a2_2, .int .u8 a2_3, .int .u8 a2_4, .int .u8 a2_5, .bool a2_6] 23 (0, 0)) (by (with_reducible repeat (first | refine blk_drewN ?_ _ | refine blk_drew ?_ | refine blk_alloc ?_ _)); exact BK111.out) hb); have n2_ := Aside0.mk (below_step (by repeat (first | (with_reducible first | exact HB.out | apply below_alloc | apply pw_below_drewN | apply below_drew1 | refine below_set ?_ GE110.out | refine below_set ?_ GE111.out) | exact HB.out)) hb); clear BK110; clear BK111; clear HB; have BK110 := n0_; have BK111 := n1_; have HB := n2_; clear n0_ n1_ n2_; (try clear hb); (try clear hb2); (try clear hk); (try clear hi); have hcz18_0 : w17.cell? ⟨gb111, 0, none⟩ = some (.int .i32 a2_0) := (blk_cell BK111.out 0).trans rfl; have hcz18_1 : w17.cell? ⟨gb111, 1, none⟩ = some (.int .i32 a2_1) := (blk_cell BK111.out 1).trans rfl; have hcz18_2 : w17.cell? ⟨gb111, 2, none⟩ = some (.int .i32 a2_2) := (blk_cell BK111.out 2).trans rfl; have hcz18_3 : w17.cell? ⟨gb111, 3, none⟩ = some (.int .u8 a2_3) := (blk_cell BK111.out 3).trans rfl; have hcz18_4 : w17.cell? ⟨gb111, 4, none⟩ = some (.int .u8 a2_4) := (blk_cell BK111.out 4).trans rfl; have hcz18_5 : w17.cell? ⟨gb111, 5, none⟩ = some (.int .u8 a2_5) := (blk_cell BK111.out 5).trans rfl; have hcz18_6 : w17.cell? ⟨gb111, 6, none⟩ = some (.bool a2_6) := (blk_cell BK111.out 6).trans rfl; have hfz18_0 := blk_frozen BK111.out 0; have hfz18_1 := blk_frozen BK111.out 1; have hfz18_2 := blk_frozen BK111.out 2; have hfz18_3 := blk_frozen BK111.out 3; have hfz18_4 := blk_frozen BK111.out 4; have hfz18_5 := blk_frozen BK111.out 5; have hfz18_6 := blk_frozen BK111.out 6) | (go_at_call 16; (with_reducible refine (laws_usual.calls k a2_0 a2_1 a2_2 a2_3 a2_4 a2_5 a2_6 true _ A12.out).mono ?_); rintro e w19 ⟨rfl, hb⟩; have n0_ := Aside0.mk (blk_below (g := gb110) (o := .cells #[.int .i32 a0_0, .int .i32 a0_1, .int .i32 a0_2, .int .u8 a0_3, .int .u8 a0_4, .int .u8 a0_5, .bool a0_6] 23 (0, 0)) (by (with_reducible repeat (first | refine blk_drewN ?_ _ | refine blk_drew ?_ | refine blk_alloc ?_ _)); exact BK110.out) hb); have n1_ := Aside0.mk (blk_below (g := gb111) (o := .cells #[.int .i32 a2_0, .int .i32 a2_1, .int .i32 a2_2, .int .u8 a2_3, .int .u8 a2_4, .int .u8 a2_5, .bool a2_6] 23 (0, 0)) (by (with_reducible repeat (first | refine blk_drewN ?_ _ | refine blk_drew ?_ | refine blk_alloc ?_ _)); exact BK111.out) hb); have n2_ := Aside0.mk (below_step (by repeat (first | (with_reducible first | exact HB.out | apply below_alloc | apply pw_below_drewN | apply below_drew1 | refine below_set ?_ GE110.out | refine below_set ?_ GE111.out) | exact HB.out)) hb); clear BK110; clear BK111; clear HB; have BK110 := n0_; have BK111 := n1_; have HB := n2_; clear n0_ n1_ n2_; (try clear hb); (try clear hb2); (try clear hk); (try clear hi)) | (go_at_call 17; (with_reducible refine (laws_lines.calls k _ _ l1 t114 _ ?side1 ?side2 A14.out).mono ?_); (case side1 => repeat (first | exact (Kd.C_below HR1.out HB.out) | (with_reducible refine Kd.C_alloc ?_ _) | (with_reducible refine Kd.C_drewN ?_ _) | (with_reducible refine Kd.C_drew ?_))); (case side2 => exact HC1.out); rintro e w20 ⟨rfl, hb⟩; have n0_ := Aside0.mk (blk_below (g := gb110) (o := .cells #[.int .i32 a0_0, .int .i32 a0_1, .int .i32 a0_2, .int .u8 a0_3, .int .u8 a0_4, .int .u8 a0_5, .bool a0_6] 23 (0, 0)) (by (with_reducible repeat (first | refine blk_drewN ?_ _ | refine blk_drew ?_ | refine blk_alloc ?_ _)); exact BK110.out) hb); have n1_ := Aside0.mk (blk_below (g := gb111) (o := .cells #[.int .i32 a2_0, .int .i32 a2_1, .int .i32 a2_2, .int .u8 a2_3, .int .u8 a2_4, .int .u8 a2_5, .bool a2_6] 23 (0, 0)) (by (with_reducible repeat (first | refine blk_drewN ?_ _ | refine blk_drew ?_ | refine blk_alloc ?_ _)); exact BK111.out) hb); have n2_ := Aside0.mk (below_step (by repeat (first | (with_reducible first | exact HB.out | apply below_alloc | apply pw_below_drewN | apply below_drew1 | refine below_set ?_ GE110.out | refine below_set ?_ GE111.out) | exact HB.out)) hb); clear BK110; clear BK111; clear HB; have BK110 := n0_; have BK111 := n1_; have HB := n2_; clear n0_ n1_ n2_; (try clear hb); (try clear hb2); (try clear hk); (try clear hi)))
          go_meet
          case rel => exact ⟨_, (!t114), (by first | rfl | (simp; done) | (simp [*]; done)), H', ⟨by first | omega | exact Nat.le_refl _⟩, ⟨by (with_reducible repeat (first | refine blk_drewN ?_ _ | refine blk_drew ?_ | refine blk_alloc ?_ _)); exact BK110.out⟩, ⟨by (with_reducible repeat (first | refine blk_drewN ?_ _ | refine blk_drew ?_ | refine blk_alloc ?_ _)); exact BK111.out⟩, ⟨by repeat (first | (with_reducible first | exact HB.out | apply below_alloc | apply pw_below_drewN | apply below_drew1 | refine below_set ?_ GE110.out | refine below_set ?_ GE111.out) | exact HB.out)⟩⟩
        · replace c13 := Bool.eq_false_iff.mpr c13
          subst c13
          have H1 : (laws_FnEntryChain.j0 k l1 true a0_0 a0_1 a0_2 a0_3 a0_4 a0_5 a0_6 a2_0 a2_1 a2_2 a2_3 a2_4 a2_5 a2_6) = some r := by rw [if_neg (show ¬ (false = true) by decide)] at H; exact H
          clear H
          have H := H1
          clear H1
          have H' := Aside0.mk H
          clear H
          have hnb21 := NB110_111.out
          have hnc21 := NB111_110.out
          have hcz22_0 : w9.cell? ⟨gb110, 0, none⟩ = some (.int .i32 a0_0) := (blk_cell BK110.out 0).trans rfl
          have hcz22_1 : w9.cell? ⟨gb110, 1, none⟩ = some (.int .i32 a0_1) := (blk_cell BK110.out 1).trans rfl
          have hcz22_2 : w9.cell? ⟨gb110, 2, none⟩ = some (.int .i32 a0_2) := (blk_cell BK110.out 2).trans rfl
          have hcz22_3 : w9.cell? ⟨gb110, 3, none⟩ = some (.int .u8 a0_3) := (blk_cell BK110.out 3).trans rfl
          have hcz22_4 : w9.cell? ⟨gb110, 4, none⟩ = some (.int .u8 a0_4) := (blk_cell BK110.out 4).trans rfl
          have hcz22_5 : w9.cell? ⟨gb110, 5, none⟩ = some (.int .u8 a0_5) := (blk_cell BK110.out 5).trans rfl
          have hcz22_6 : w9.cell? ⟨gb110, 6, none⟩ = some (.bool a0_6) := (blk_cell BK110.out 6).trans rfl
          have hfz22_0 := blk_frozen BK110.out 0
          have hfz22_1 := blk_frozen BK110.out 1
          have hfz22_2 := blk_frozen BK110.out 2
          have hfz22_3 := blk_frozen BK110.out 3
          have hfz22_4 := blk_frozen BK110.out 4
          have hfz22_5 := blk_frozen BK110.out 5
          have hfz22_6 := blk_frozen BK110.out 6
          go_wp2_with (first | ((with_reducible refine gate_callee (f := 16) rfl ?_); refine goesL_ (some 12) rfl rfl Tryd.func16 (by kernel_rfl) rfl #[.agg #[.int .i32 a0_0, .int .i32 a0_1, .int .i32 a0_2, .int .u8 a0_3, .int .u8 a0_4, .int .u8 a0_5, .bool a0_6]] rfl (by (try simp only [List.map_toArray, List.map_cons, List.map_nil]); first | done | rfl | (simp only [List.length_drop, List.length_take]; rfl)) ?_; (with_reducible refine (laws_usual.calls k a0_0 a0_1 a0_2 a0_3 a0_4 a0_5 a0_6 true _ A10.out).mono ?_); rintro e w23 ⟨rfl, hb⟩; refine ⟨_, rfl, ?_⟩; have n0_ := Aside0.mk (blk_below (g := gb110) (o := .cells #[.int .i32 a0_0, .int .i32 a0_1, .int .i32 a0_2, .int .u8 a0_3, .int .u8 a0_4, .int .u8 a0_5, .bool a0_6] 23 (0, 0)) (by (with_reducible repeat (first | refine blk_drewN ?_ _ | refine blk_drew ?_ | refine blk_alloc ?_ _)); exact BK110.out) hb); have n1_ := Aside0.mk (blk_below (g := gb111) (o := .cells #[.int .i32 a2_0, .int .i32 a2_1, .int .i32 a2_2, .int .u8 a2_3, .int .u8 a2_4, .int .u8 a2_5, .bool a2_6] 23 (0, 0)) (by (with_reducible repeat (first | refine blk_drewN ?_ _ | refine blk_drew ?_ | refine blk_alloc ?_ _)); exact BK111.out) hb); have n2_ := Aside0.mk (below_step (by repeat (first | (with_reducible first | exact HB.out | apply below_alloc | apply pw_below_drewN | apply below_drew1 | refine below_set ?_ GE110.out | refine below_set ?_ GE111.out) | exact HB.out)) hb); clear BK110; clear BK111; clear HB; have BK110 := n0_; have BK111 := n1_; have HB := n2_; clear n0_ n1_ n2_; (try clear hb); (try clear hb2); (try clear hk); (try clear hi); have hcz24_0 : w23.cell? ⟨gb111, 0, none⟩ = some (.int .i32 a2_0) := (blk_cell BK111.out 0).trans rfl; have hcz24_1 : w23.cell? ⟨gb111, 1, none⟩ = some (.int .i32 a2_1) := (blk_cell BK111.out 1).trans rfl; have hcz24_2 : w23.cell? ⟨gb111, 2, none⟩ = some (.int .i32 a2_2) := (blk_cell BK111.out 2).trans rfl; have hcz24_3 : w23.cell? ⟨gb111, 3, none⟩ = some (.int .u8 a2_3) := (blk_cell BK111.out 3).trans rfl; have hcz24_4 : w23.cell? ⟨gb111, 4, none⟩ = some (.int .u8 a2_4) := (blk_cell BK111.out 4).trans rfl; have hcz24_5 : w23.cell? ⟨gb111, 5, none⟩ = some (.int .u8 a2_5) := (blk_cell BK111.out 5).trans rfl; have hcz24_6 : w23.cell? ⟨gb111, 6, none⟩ = some (.bool a2_6) := (blk_cell BK111.out 6).trans rfl; have hfz24_0 := blk_frozen BK111.out 0; have hfz24_1 := blk_frozen BK111.out 1; have hfz24_2 := blk_frozen BK111.out 2; have hfz24_3 := blk_frozen BK111.out 3; have hfz24_4 := blk_frozen BK111.out 4; have hfz24_5 := blk_frozen BK111.out 5; have hfz24_6 := blk_frozen BK111.out 6) | (go_at_call 16; (with_reducible refine (laws_usual.calls k a2_0 a2_1 a2_2 a2_3 a2_4 a2_5 a2_6 false _ A12.out).mono ?_); rintro e w25 ⟨rfl, hb⟩; have n0_ := Aside0.mk (blk_below (g := gb110) (o := .cells #[.int .i32 a0_0, .int .i32 a0_1, .int .i32 a0_2, .int .u8 a0_3, .int .u8 a0_4, .int .u8 a0_5, .bool a0_6] 23 (0, 0)) (by (with_reducible repeat (first | refine blk_drewN ?_ _ | refine blk_drew ?_ | refine blk_alloc ?_ _)); exact BK110.out) hb); have n1_ := Aside0.mk (blk_below (g := gb111) (o := .cells #[.int .i32 a2_0, .int .i32 a2_1, .int .i32 a2_2, .int .u8 a2_3, .int .u8 a2_4, .int .u8 a2_5, .bool a2_6] 23 (0, 0)) (by (with_reducible repeat (first | refine blk_drewN ?_ _ | refine blk_drew ?_ | refine blk_alloc ?_ _)); exact BK111.out) hb); have n2_ := Aside0.mk (below_step (by repeat (first | (with_reducible first | exact HB.out | apply below_alloc | apply pw_below_drewN | apply below_drew1 | refine below_set ?_ GE110.out | refine below_set ?_ GE111.out) | exact HB.out)) hb); clear BK110; clear BK111; clear HB; have BK110 := n0_; have BK111 := n1_; have HB := n2_; clear n0_ n1_ n2_; (try clear hb); (try clear hb2); (try clear hk); (try clear hi)))
          go_meet
          case rel => exact ⟨_, (true), (by first | rfl | (simp; done) | (simp [*]; done)), H', ⟨by first | omega | exact Nat.le_refl _⟩, ⟨by (with_reducible repeat (first | refine blk_drewN ?_ _ | refine blk_drew ?_ | refine blk_alloc ?_ _)); exact BK110.out⟩, ⟨by (with_reducible repeat (first | refine blk_drewN ?_ _ | refine blk_drew ?_ | refine blk_alloc ?_ _)); exact BK111.out⟩, ⟨by repeat (first | (with_reducible first | exact HB.out | apply below_alloc | apply pw_below_drewN | apply below_drew1 | refine below_set ?_ GE110.out | refine below_set ?_ GE111.out) | exact HB.out)⟩⟩
      · replace c11 := Bool.eq_false_iff.mpr c11
        subst c11
        have H1 : (laws_FnEntryChain.j0 k l1 true a0_0 a0_1 a0_2 a0_3 a0_4 a0_5 a0_6 a2_0 a2_1 a2_2 a2_3 a2_4 a2_5 a2_6) = some r := by rw [if_neg (show ¬ (false = true) by decide)] at H; exact H
        clear H
        have H := H1
        clear H1
        have H' := Aside0.mk H
        clear H
        have hnb26 := NB110_111.out
        have hnc26 := NB111_110.out
        have hcz27_0 : w9.cell? ⟨gb110, 0, none⟩ = some (.int .i32 a0_0) := (blk_cell BK110.out 0).trans rfl
        have hcz27_1 : w9.cell? ⟨gb110, 1, none⟩ = some (.int .i32 a0_1) := (blk_cell BK110.out 1).trans rfl
        have hcz27_2 : w9.cell? ⟨gb110, 2, none⟩ = some (.int .i32 a0_2) := (blk_cell BK110.out 2).trans rfl
        have hcz27_3 : w9.cell? ⟨gb110, 3, none⟩ = some (.int .u8 a0_3) := (blk_cell BK110.out 3).trans rfl
        have hcz27_4 : w9.cell? ⟨gb110, 4, none⟩ = some (.int .u8 a0_4) := (blk_cell BK110.out 4).trans rfl
        have hcz27_5 : w9.cell? ⟨gb110, 5, none⟩ = some (.int .u8 a0_5) := (blk_cell BK110.out 5).trans rfl
        have hcz27_6 : w9.cell? ⟨gb110, 6, none⟩ = some (.bool a0_6) := (blk_cell BK110.out 6).trans rfl
        have hfz27_0 := blk_frozen BK110.out 0
        have hfz27_1 := blk_frozen BK110.out 1
        have hfz27_2 := blk_frozen BK110.out 2
        have hfz27_3 := blk_frozen BK110.out 3
        have hfz27_4 := blk_frozen BK110.out 4
        have hfz27_5 := blk_frozen BK110.out 5
        have hfz27_6 := blk_frozen BK110.out 6
        go_wp2_with (first | ((with_reducible refine gate_callee (f := 16) rfl ?_); refine goesL_ (some 12) rfl rfl Tryd.func16 (by kernel_rfl) rfl #[.agg #[.int .i32 a0_0, .int .i32 a0_1, .int .i32 a0_2, .int .u8 a0_3, .int .u8 a0_4, .int .u8 a0_5, .bool a0_6]] rfl (by (try simp only [List.map_toArray, List.map_cons, List.map_nil]); first | done | rfl | (simp only [List.length_drop, List.length_take]; rfl)) ?_; (with_reducible refine (laws_usual.calls k a0_0 a0_1 a0_2 a0_3 a0_4 a0_5 a0_6 false _ A10.out).mono ?_); rintro e w28 ⟨rfl, hb⟩; refine ⟨_, rfl, ?_⟩; have n0_ := Aside0.mk (blk_below (g := gb110) (o := .cells #[.int .i32 a0_0, .int .i32 a0_1, .int .i32 a0_2, .int .u8 a0_3, .int .u8 a0_4, .int .u8 a0_5, .bool a0_6] 23 (0, 0)) (by (with_reducible repeat (first | refine blk_drewN ?_ _ | refine blk_drew ?_ | refine blk_alloc ?_ _)); exact BK110.out) hb); have n1_ := Aside0.mk (blk_below (g := gb111) (o := .cells #[.int .i32 a2_0, .int .i32 a2_1, .int .i32 a2_2, .int .u8 a2_3, .int .u8 a2_4, .int .u8 a2_5, .bool a2_6] 23 (0, 0)) (by (with_reducible repeat (first | refine blk_drewN ?_ _ | refine blk_drew ?_ | refine blk_alloc ?_ _)); exact BK111.out) hb); have n2_ := Aside0.mk (below_step (by repeat (first | (with_reducible first | exact HB.out | apply below_alloc | apply pw_below_drewN | apply below_drew1 | refine below_set ?_ GE110.out | refine below_set ?_ GE111.out) | exact HB.out)) hb); clear BK110; clear BK111; clear HB; have BK110 := n0_; have BK111 := n1_; have HB := n2_; clear n0_ n1_ n2_; (try clear hb); (try clear hb2); (try clear hk); (try clear hi)))
        go_meet
        case rel => exact ⟨_, (true), (by first | rfl | (simp; done) | (simp [*]; done)), H', ⟨by first | omega | exact Nat.le_refl _⟩, ⟨by (with_reducible repeat (first | refine blk_drewN ?_ _ | refine blk_drew ?_ | refine blk_alloc ?_ _)); exact BK110.out⟩, ⟨by (with_reducible repeat (first | refine blk_drewN ?_ _ | refine blk_drew ?_ | refine blk_alloc ?_ _)); exact BK111.out⟩, ⟨by repeat (first | (with_reducible first | exact HB.out | apply below_alloc | apply pw_below_drewN | apply below_drew1 | refine below_set ?_ GE110.out | refine below_set ?_ GE111.out) | exact HB.out)⟩⟩
    case rest =>
      clear HC7
      try clear c1
      try clear c2
      try clear p2
      try clear c4
      try clear c4b0
      try clear c4b1
      try clear c5
      try clear c11
      try clear c13
      try clear c15
      try clear c16
      try clear c21
      try clear c26
      try clear hcz16_0
      try clear hcz16_1
      try clear hcz16_2
      try clear hcz16_3
      try clear hcz16_4
      try clear hcz16_5
      try clear hcz16_6
      try clear hcz18_0
      try clear hcz18_1
      try clear hcz18_2
      try clear hcz18_3
      try clear hcz18_4
      try clear hcz18_5
      try clear hcz18_6
      try clear hcz22_0
      try clear hcz22_1
      try clear hcz22_2
      try clear hcz22_3
      try clear hcz22_4
      try clear hcz22_5
      try clear hcz22_6
      try clear hcz24_0
      try clear hcz24_1
      try clear hcz24_2
      try clear hcz24_3
      try clear hcz24_4
      try clear hcz24_5
      try clear hcz24_6
      try clear hcz27_0
      try clear hcz27_1
      try clear hcz27_2
      try clear hcz27_3
      try clear hcz27_4
      try clear hcz27_5
      try clear hcz27_6
      try clear hfz16_0
      try clear hfz16_1
      try clear hfz16_2
      try clear hfz16_3
      try clear hfz16_4
      try clear hfz16_5
      try clear hfz16_6
      try clear hfz18_0
      try clear hfz18_1
      try clear hfz18_2
      try clear hfz18_3
      try clear hfz18_4
      try clear hfz18_5
      try clear hfz18_6
      try clear hfz22_0
      try clear hfz22_1
      try clear hfz22_2
      try clear hfz22_3
      try clear hfz22_4
      try clear hfz22_5
      try clear hfz22_6
      try clear hfz24_0
      try clear hfz24_1
      try clear hfz24_2
      try clear hfz24_3
      try clear hfz24_4
      try clear hfz24_5
      try clear hfz24_6
      try clear hfz27_0
      try clear hfz27_1
      try clear hfz27_2
      try clear hfz27_3
      try clear hfz27_4
      try clear hfz27_5
      try clear hfz27_6
      obtain ⟨kq, x23_6, rfl, HA, HJ6, BK110, BK111, HB⟩ := hcut
      cases kq with
      | zero => exact absurd HA.out (by simp [laws_FnEntryChain.j0])
      | succ kj6 =>
        have H := HA.out
        clear HA
        simp only [laws_FnEntryChain.j0] at H
        by_cases c29 : x23_6 = true
        · subst c29
          have H1 : (some true) = some r := by rw [if_pos rfl] at H; exact H
          clear H
          have H := H1
          clear H1
          obtain rfl := Option.some.inj H
          go_wp2
          go_ret
          exact ⟨by first | rfl | (simp [errW_none, errW_some] <;> rfl) | (simp [*, errW_none, errW_some] <;> rfl), by repeat (first | (with_reducible first | exact HB.out | apply below_alloc | apply pw_below_drewN | apply below_drew1 | refine below_set ?_ GE110.out | refine below_set ?_ GE111.out) | exact HB.out)⟩
        · replace c29 := Bool.eq_false_iff.mpr c29
          subst c29
          have H1 : (if ([] : List (S23)).length + l1.length < 8796093022208 then ((some (([] : List (S23)) ++ l1 : List (S23))).bind fun y115 => ((some (([(⟨a2_0, a2_1, a2_2, a2_3, a2_4, a2_5, a2_6⟩ : S23)] : List (S23)) : List (S23))).bind fun y118 => (if y115.length + y118.length < 8796093022208 then ((impl_EntryInherit.f a0_0 a0_1 a0_2 a0_3 a0_4 a0_5 a0_6 (y115 ++ y118)).bind fun bt124 => ((impl_EntryInherit.f a0_0 a0_1 a0_2 a0_3 a0_4 a0_5 a0_6 (([(⟨a2_0, a2_1, a2_2, a2_3, a2_4, a2_5, a2_6⟩ : S23)] : List (S23)))).bind fun bt134 => ((impl_EntryInherit.f bt134.1 bt134.2.1 bt134.2.2.1 bt134.2.2.2.1 bt134.2.2.2.2.1 bt134.2.2.2.2.2.1 bt134.2.2.2.2.2.2 l1).bind fun bt141 => (if (bt124.1 == bt141.1 && (bt124.2.1 == bt141.2.1 && (bt124.2.2.1 == bt141.2.2.1 && (bt124.2.2.2.1 == bt141.2.2.2.1 && (bt124.2.2.2.2.1 == bt141.2.2.2.2.1 && (bt124.2.2.2.2.2.1 == bt141.2.2.2.2.2.1 && (bt124.2.2.2.2.2.2 == bt141.2.2.2.2.2.2))))))) = true then ((laws_styled.f).bind fun t148 => (some t148)) else (some false))))) else (none)))) else (none)) = some r := by rw [if_neg (show ¬ (false = true) by decide)] at H; exact H
          clear H
          have H := H1
          clear H1
          by_cases c30 : ([] : List (S23)).length + l1.length < 8796093022208
          · rw [if_pos c30] at H
            have LMc30 := Aside0.mk c30
            clear c30
            obtain ⟨y115, hy115⟩ : ∃ y_ : List (S23), y_ = (([] : List (S23)) ++ l1) := ⟨_, rfl⟩
            replace H : ((some (([(⟨a2_0, a2_1, a2_2, a2_3, a2_4, a2_5, a2_6⟩ : S23)] : List (S23)) : List (S23))).bind fun y118 => (if y115.length + y118.length < 8796093022208 then ((impl_EntryInherit.f a0_0 a0_1 a0_2 a0_3 a0_4 a0_5 a0_6 (y115 ++ y118)).bind fun bt124 => ((impl_EntryInherit.f a0_0 a0_1 a0_2 a0_3 a0_4 a0_5 a0_6 (([(⟨a2_0, a2_1, a2_2, a2_3, a2_4, a2_5, a2_6⟩ : S23)] : List (S23)))).bind fun bt134 => ((impl_EntryInherit.f bt134.1 bt134.2.1 bt134.2.2.1 bt134.2.2.2.1 bt134.2.2.2.2.1 bt134.2.2.2.2.2.1 bt134.2.2.2.2.2.2 l1).bind fun bt141 => (if (bt124.1 == bt141.1 && (bt124.2.1 == bt141.2.1 && (bt124.2.2.1 == bt141.2.2.1 && (bt124.2.2.2.1 == bt141.2.2.2.1 && (bt124.2.2.2.2.1 == bt141.2.2.2.2.1 && (bt124.2.2.2.2.2.1 == bt141.2.2.2.2.2.1 && (bt124.2.2.2.2.2.2 == bt141.2.2.2.2.2.2))))))) = true then ((laws_styled.f).bind fun t148 => (some t148)) else (some false))))) else (none))) = some r := by first | (rw [hy115]; with_reducible exact H) | (have H2_ := (Option.bind_some _ _).symm.trans H; rw [hy115]; with_reducible exact H2_) | (have H2_ := (Option.bind_some _ _).symm.trans H; with_reducible exact H2_) | with_reducible exact H | (rw [hy115]; exact H) | exact H
            have Ny115 := Aside0.mk hy115
            clear hy115
            obtain ⟨y118, hy118⟩ : ∃ y_ : List (S23), y_ = (([(⟨a2_0, a2_1, a2_2, a2_3, a2_4, a2_5, a2_6⟩ : S23)] : List (S23))) := ⟨_, rfl⟩
            replace H : (if y115.length + y118.length < 8796093022208 then ((impl_EntryInherit.f a0_0 a0_1 a0_2 a0_3 a0_4 a0_5 a0_6 (y115 ++ y118)).bind fun bt124 => ((impl_EntryInherit.f a0_0 a0_1 a0_2 a0_3 a0_4 a0_5 a0_6 (([(⟨a2_0, a2_1, a2_2, a2_3, a2_4, a2_5, a2_6⟩ : S23)] : List (S23)))).bind fun bt134 => ((impl_EntryInherit.f bt134.1 bt134.2.1 bt134.2.2.1 bt134.2.2.2.1 bt134.2.2.2.2.1 bt134.2.2.2.2.2.1 bt134.2.2.2.2.2.2 l1).bind fun bt141 => (if (bt124.1 == bt141.1 && (bt124.2.1 == bt141.2.1 && (bt124.2.2.1 == bt141.2.2.1 && (bt124.2.2.2.1 == bt141.2.2.2.1 && (bt124.2.2.2.2.1 == bt141.2.2.2.2.1 && (bt124.2.2.2.2.2.1 == bt141.2.2.2.2.2.1 && (bt124.2.2.2.2.2.2 == bt141.2.2.2.2.2.2))))))) = true then ((laws_styled.f).bind fun t148 => (some t148)) else (some false))))) else (none)) = some r := by first | (rw [hy118]; with_reducible exact H) | (have H2_ := (Option.bind_some _ _).symm.trans H; rw [hy118]; with_reducible exact H2_) | (have H2_ := (Option.bind_some _ _).symm.trans H; with_reducible exact H2_) | with_reducible exact H | (rw [hy118]; exact H) | exact H
            have Ny118 := Aside0.mk hy118
            clear hy118
            by_cases c31 : y115.length + y118.length < 8796093022208
            · rw [if_pos c31] at H
              have LMc31 := Aside0.mk c31
              clear c31
              obtain ⟨y121, hy121⟩ : ∃ y_ : List (S23), y_ = (y115 ++ y118) := ⟨_, rfl⟩
              replace H : ((impl_EntryInherit.f a0_0 a0_1 a0_2 a0_3 a0_4 a0_5 a0_6 y121).bind fun bt124 => ((impl_EntryInherit.f a0_0 a0_1 a0_2 a0_3 a0_4 a0_5 a0_6 (([(⟨a2_0, a2_1, a2_2, a2_3, a2_4, a2_5, a2_6⟩ : S23)] : List (S23)))).bind fun bt134 => ((impl_EntryInherit.f bt134.1 bt134.2.1 bt134.2.2.1 bt134.2.2.2.1 bt134.2.2.2.2.1 bt134.2.2.2.2.2.1 bt134.2.2.2.2.2.2 l1).bind fun bt141 => (if (bt124.1 == bt141.1 && (bt124.2.1 == bt141.2.1 && (bt124.2.2.1 == bt141.2.2.1 && (bt124.2.2.2.1 == bt141.2.2.2.1 && (bt124.2.2.2.2.1 == bt141.2.2.2.2.1 && (bt124.2.2.2.2.2.1 == bt141.2.2.2.2.2.1 && (bt124.2.2.2.2.2.2 == bt141.2.2.2.2.2.2))))))) = true then ((laws_styled.f).bind fun t148 => (some t148)) else (some false))))) = some r := by first | (rw [hy121]; with_reducible exact H) | (have H2_ := (Option.bind_some _ _).symm.trans H; rw [hy121]; with_reducible exact H2_) | (have H2_ := (Option.bind_some _ _).symm.trans H; with_reducible exact H2_) | with_reducible exact H | (rw [hy121]; exact H) | exact H
              have Ny121 := Aside0.mk hy121
              clear hy121
              replace H := Option.bind_eq_some_iff.mp H
              obtain ⟨⟨t124, t125, t126, t127, t128, t129, t130⟩, A320, H⟩ := H
              replace H : ((impl_EntryInherit.f a0_0 a0_1 a0_2 a0_3 a0_4 a0_5 a0_6 (([(⟨a2_0, a2_1, a2_2, a2_3, a2_4, a2_5, a2_6⟩ : S23)] : List (S23)))).bind fun bt134 => ((impl_EntryInherit.f bt134.1 bt134.2.1 bt134.2.2.1 bt134.2.2.2.1 bt134.2.2.2.2.1 bt134.2.2.2.2.2.1 bt134.2.2.2.2.2.2 l1).bind fun bt141 => (if (t124 == bt141.1 && (t125 == bt141.2.1 && (t126 == bt141.2.2.1 && (t127 == bt141.2.2.2.1 && (t128 == bt141.2.2.2.2.1 && (t129 == bt141.2.2.2.2.2.1 && (t130 == bt141.2.2.2.2.2.2))))))) = true then ((laws_styled.f).bind fun t148 => (some t148)) else (some false)))) = some r := H
              have A32 := Aside0.mk A320
              clear A320
              obtain ⟨y131, hy131⟩ : ∃ y_ : List (S23), y_ = (([(⟨a2_0, a2_1, a2_2, a2_3, a2_4, a2_5, a2_6⟩ : S23)] : List (S23))) := ⟨_, rfl⟩
              replace H : ((impl_EntryInherit.f a0_0 a0_1 a0_2 a0_3 a0_4 a0_5 a0_6 y131).bind fun bt134 => ((impl_EntryInherit.f bt134.1 bt134.2.1 bt134.2.2.1 bt134.2.2.2.1 bt134.2.2.2.2.1 bt134.2.2.2.2.2.1 bt134.2.2.2.2.2.2 l1).bind fun bt141 => (if (t124 == bt141.1 && (t125 == bt141.2.1 && (t126 == bt141.2.2.1 && (t127 == bt141.2.2.2.1 && (t128 == bt141.2.2.2.2.1 && (t129 == bt141.2.2.2.2.2.1 && (t130 == bt141.2.2.2.2.2.2))))))) = true then ((laws_styled.f).bind fun t148 => (some t148)) else (some false)))) = some r := by first | (rw [hy131]; with_reducible exact H) | (have H2_ := (Option.bind_some _ _).symm.trans H; rw [hy131]; with_reducible exact H2_) | (have H2_ := (Option.bind_some _ _).symm.trans H; with_reducible exact H2_) | with_reducible exact H | (rw [hy131]; exact H) | exact H
              have Ny131 := Aside0.mk hy131
              clear hy131
              replace H := Option.bind_eq_some_iff.mp H
              obtain ⟨⟨t134, t135, t136, t137, t138, t139, t140⟩, A330, H⟩ := H
              replace H : ((impl_EntryInherit.f t134 t135 t136 t137 t138 t139 t140 l1).bind fun bt141 => (if (t124 == bt141.1 && (t125 == bt141.2.1 && (t126 == bt141.2.2.1 && (t127 == bt141.2.2.2.1 && (t128 == bt141.2.2.2.2.1 && (t129 == bt141.2.2.2.2.2.1 && (t130 == bt141.2.2.2.2.2.2))))))) = true then ((laws_styled.f).bind fun t148 => (some t148)) else (some false))) = some r := H
              have A33 := Aside0.mk A330
              clear A330
              replace H := Option.bind_eq_some_iff.mp H
              obtain ⟨⟨t141, t142, t143, t144, t145, t146, t147⟩, A340, H⟩ := H
              replace H : (if (t124 == t141 && (t125 == t142 && (t126 == t143 && (t127 == t144 && (t128 == t145 && (t129 == t146 && (t130 == t147))))))) = true then ((laws_styled.f).bind fun t148 => (some t148)) else (some false)) = some r := H
              have A34 := Aside0.mk A340
              clear A340
              by_cases c35 : (t124 == t141 && (t125 == t142 && (t126 == t143 && (t127 == t144 && (t128 == t145 && (t129 == t146 && (t130 == t147))))))) = true
              · rw [if_pos c35] at H
                have c35b0 : (t124 == t141 && (t125 == t142 && (t126 == t143 && (t127 == t144 && (t128 == t145 && (t129 == t146 && (t130 == t147))))))) = true := c35
                (try (have c35b1 : decide (t124 = t141 && (t125 == t142 && (t126 == t143 && (t127 == t144 && (t128 == t145 && (t129 == t146 && (t130 == t147))))))) = true := by simpa using c35))
                (try (have c35b2 : (t124 == t141 && (t125 == t142 && (t126 == t143 && (t127 == t144 && (t128 == t145 && (t129 == t146 && (t130 == t147))))))) = true := by simpa using c35))
                clear c35
                replace H := Option.bind_eq_some_iff.mp H
                obtain ⟨t148, A360, H⟩ := H
                replace H : (some t148) = some r := H
                have A36 := Aside0.mk A360
                clear A360
                obtain rfl := Option.some.inj H
                try go_wp2
                have n0_ := Aside0.mk (blk_drew BK110.out)
                have n1_ := Aside0.mk (blk_drew BK111.out)
                have n2_ := Aside0.mk (below_drew1 HB.out)
                clear BK110
                clear BK111
                clear HB
                have BK110 := n0_
                have BK111 := n1_
                have HB := n2_
                clear n0_ n1_ n2_
                refine start_ (n := 6) (S := fun w' => w'.cell? ⟨gb111, 0, none⟩ = some (.int .i32 a2_0) ∧ w'.cell? ⟨gb111, 1, none⟩ = some (.int .i32 a2_1) ∧ w'.cell? ⟨gb111, 2, none⟩ = some (.int .i32 a2_2) ∧ w'.cell? ⟨gb111, 3, none⟩ = some (.int .u8 a2_3) ∧ w'.cell? ⟨gb111, 4, none⟩ = some (.int .u8 a2_4) ∧ w'.cell? ⟨gb111, 5, none⟩ = some (.int .u8 a2_5) ∧ w'.cell? ⟨gb111, 6, none⟩ = some (.bool a2_6)) (ds := []) #[false, false, false, false, false, false] (by kernel_rfl) rfl rfl ⟨(blk_cell BK111.out 0).trans rfl, (blk_cell BK111.out 1).trans rfl, (blk_cell BK111.out 2).trans rfl, (blk_cell BK111.out 3).trans rfl, (blk_cell BK111.out 4).trans rfl, (blk_cell BK111.out 5).trans rfl, (blk_cell BK111.out 6).trans rfl⟩ (fun hHeld => ?_)
                generalize wc.drew = w37 at BK110 BK111 HB hHeld ⊢
                refine pure_ (i := 0) (N := some 24) (v := ?_) (a' := ?_) #[true, false, false, false, false, false] rfl rfl (by kernel_rfl) (fun _ _ _ h => h) (Or.inl ⟨by rfl, ?_⟩) ?_ ?_
                rotate_left
                · intro w'
                  go_simp
                  first | with_reducible rfl | struct_eq
                rotate_left
                · simp only [Act.put, List.setIfInBounds_toArray, List.set_cons_zero, List.set_cons_succ, i64_w, i32_w]
                  rfl
                refine take_ (i := 2) (N := some 26) (v := ?_) (a' := ?_) #[true, false, true, false, false, false] rfl rfl (by kernel_rfl) (fun _ _ _ h => h) (Or.inl ⟨by rfl, ?_⟩) hHeld ?_ ?_
                rotate_left
                · rintro w' ⟨s0, s1, s2, s3, s4, s5, s6⟩
                  go_simp
                  first | with_reducible rfl | struct_eq
                rotate_left
                · simp only [Act.put, List.setIfInBounds_toArray, List.set_cons_zero, List.set_cons_succ, i64_w, i32_w]
                  rfl
                refine join_ (σ := Value × Value) 2 #[true, true, true, true, false, false] (fun s_ => [(25, s_.1), (27, s_.2)]) (fun s_ w' => (w'.cell? ⟨gb111, 0, none⟩ = some (.int .i32 a2_0) ∧ w'.cell? ⟨gb111, 1, none⟩ = some (.int .i32 a2_1) ∧ w'.cell? ⟨gb111, 2, none⟩ = some (.int .i32 a2_2) ∧ w'.cell? ⟨gb111, 3, none⟩ = some (.int .u8 a2_3) ∧ w'.cell? ⟨gb111, 4, none⟩ = some (.int .u8 a2_4) ∧ w'.cell? ⟨gb111, 5, none⟩ = some (.int .u8 a2_5) ∧ w'.cell? ⟨gb111, 6, none⟩ = some (.bool a2_6)) ∧ (Kd.R k23 23 w' w.heap.size (fun k_ => some k_ ≠ (s_.2 : Value).ownBlock ∧ k_ ≠ gb110 ∧ k_ ≠ gb111) s_.1 y115) ∧ (Kd.R k23 23 w' w.heap.size (fun k_ => some k_ ≠ (s_.1 : Value).ownBlock ∧ k_ ≠ gb110 ∧ k_ ≠ gb111) s_.2 y118) ∧ (w'.heap[gb110]? = some (.cells #[.int .i32 a0_0, .int .i32 a0_1, .int .i32 a0_2, .int .u8 a0_3, .int .u8 a0_4, .int .u8 a0_5, .bool a0_6] 23 (0, 0))) ∧ (w'.heap[gb111]? = some (.cells #[.int .i32 a2_0, .int .i32 a2_1, .int .i32 a2_2, .int .u8 a2_3, .int .u8 a2_4, .int .u8 a2_5, .bool a2_6] 23 (0, 0))) ∧ (Below w.heap.size w w')) ?_ ?_
                rotate_left
                · intro hCont
                  refine two_ (i := 1) (j := 3) (Ni := some 25) (Nj := some 27) #[true, true, true, false, false, false] #[true, false, true, true, false, false] rfl rfl rfl rfl (by kernel_rfl) (by decide) (by decide) (fun K hK => ?_) (fun K hK => ?_)
                  · skip
                    refine Kd.R_append_rows_step k23 (w0 := w) w.heap.size (by rfl) (.const (.slice none 0 0)) (.tmp 24) 32 23 (.agg #[(.int .i32 0), (.int .i32 0), (.int .i32 0), (.int .u8 0), (.int .u8 0), (.int .u8 0), (.bool false)]) 16 rfl Tryd.underlying32 info23 rfl (by decide) (by omega) (.slice none 0 0) ([] : List (S23)) l1 _ _ _ (fun k_ => k_ ≠ gb110 ∧ k_ ≠ gb111) (fun _ => False) rfl rfl ?aO ?aR (fun _ _ h => h) (fun _ h => h.elim) ?aF ?aB ?aS ?aL ?_
                    (case aR => repeat (first | exact (Kd.C_below HR1.out HB.out) | (with_reducible refine Kd.C_alloc ?_ _) | (with_reducible refine Kd.C_drewN ?_ _) | (with_reducible refine Kd.C_drew ?_)))
                    (case aB => exact (by repeat (first | (with_reducible first | exact HB.out | apply below_alloc | apply pw_below_drewN | apply below_drew1 | refine below_set ?_ GE110.out | refine below_set ?_ GE111.out) | exact HB.out)))
                    (case aF => exact (fun k_ hk => ⟨Kd.freshB (g := gb110) (o := .cells #[.int .i32 a0_0, .int .i32 a0_1, .int .i32 a0_2, .int .u8 a0_3, .int .u8 a0_4, .int .u8 a0_5, .bool a0_6] 23 (0, 0)) (by (with_reducible repeat (first | refine blk_drewN ?_ _ | refine blk_drew ?_ | refine blk_alloc ?_ _)); exact BK110.out) k_ hk, Kd.freshB (g := gb111) (o := .cells #[.int .i32 a2_0, .int .i32 a2_1, .int .i32 a2_2, .int .u8 a2_3, .int .u8 a2_4, .int .u8 a2_5, .bool a2_6] 23 (0, 0)) (by (with_reducible repeat (first | refine blk_drewN ?_ _ | refine blk_drew ?_ | refine blk_alloc ?_ _)); exact BK111.out) k_ hk⟩))
                    (case aO => exact ((Kd.R_nil _ _ _ _ (fun k_ => k_ ≠ gb110 ∧ k_ ≠ gb111))))
                    (case aS => exact (below_size (by repeat (first | (with_reducible first | exact HB.out | apply below_alloc | apply pw_below_drewN | apply below_drew1 | refine below_set ?_ GE110.out | refine below_set ?_ GE111.out) | exact HB.out))))
                    (case aL => have := LMc30.out; omega)
                    intro v116 w38 ho hb hg hat
                    rw [← Ny115.out] at ho
                    have n0_ := Aside0.mk (blk_grown (g := gb110) (o := .cells #[.int .i32 a0_0, .int .i32 a0_1, .int .i32 a0_2, .int .u8 a0_3, .int .u8 a0_4, .int .u8 a0_5, .bool a0_6] 23 (0, 0)) (by (with_reducible repeat (first | refine blk_drewN ?_ _ | refine blk_drew ?_ | refine blk_alloc ?_ _)); exact BK110.out) hg (by simp [Value.ownBlock]))
                    have n1_ := Aside0.mk (blk_grown (g := gb111) (o := .cells #[.int .i32 a2_0, .int .i32 a2_1, .int .i32 a2_2, .int .u8 a2_3, .int .u8 a2_4, .int .u8 a2_5, .bool a2_6] 23 (0, 0)) (by (with_reducible repeat (first | refine blk_drewN ?_ _ | refine blk_drew ?_ | refine blk_alloc ?_ _)); exact BK111.out) hg (by simp [Value.ownBlock]))
                    have n2_ := Aside0.mk (hb)
                    have n3_ := Aside0.mk (ho)
                    clear BK110
                    clear BK111
                    clear HB
                    have BK110 := n0_
                    have BK111 := n1_
                    have HB := n2_
                    have HO117 := n3_
                    clear n0_ n1_ n2_ n3_
                    clear ho hb hg hat
                    refine hK.out _ _ ⟨(blk_cell BK111.out 0).trans rfl, (blk_cell BK111.out 1).trans rfl, (blk_cell BK111.out 2).trans rfl, (blk_cell BK111.out 3).trans rfl, (blk_cell BK111.out 4).trans rfl, (blk_cell BK111.out 5).trans rfl, (blk_cell BK111.out 6).trans rfl⟩ (fun hHeld => ?_)
                    clear hK K
                    refine norm_ (a' := ?_) ?_ ?_
                    rotate_left
                    · show Act.put _ (some 25) _ = _
                      simp only [Act.put, List.setIfInBounds_toArray, List.set_cons_zero, List.set_cons_succ, i64_w, i32_w]
                      rfl
                    refine one_ (i := 3) (N := some 27) #[true, true, true, true, false, false] rfl rfl (by kernel_rfl) (by decide) (fun K hK => ?_)
                    refine Kd.R_lit_step k23 _ 23 ?hg (N := 27) ?hd (xs := ([(⟨a2_0, a2_1, a2_2, a2_3, a2_4, a2_5, a2_6⟩ : S23)] : List (S23))) (inner := [.int .i32 a2_0, .int .i32 a2_1, .int .i32 a2_2, .int .u8 a2_3, .int .u8 a2_4, .int .u8 a2_5, .bool a2_6]) (ok := fun _ => True) (okp := fun _ => True) ?hr ?hp (fun _ hk => hk) trivial (Below.refl _ _) (Nat.le_refl _) (by simp) ?_; (case hd => rfl); (case hg => first | rfl | (refine wanted_on rfl rfl rfl ?_; assumption)); (case hr => first | (go_simp; done) | (go_simp; rfl)); (case hp => exact (Reps.c7 (show Kd.M k23 _ _ _ (⟨a2_0, a2_1, a2_2, a2_3, a2_4, a2_5, a2_6⟩ : S23) [.int .i32 a2_0, .int .i32 a2_1, .int .i32 a2_2, .int .u8 a2_3, .int .u8 a2_4, .int .u8 a2_5, .bool a2_6] from (k23_mkM _ _ _ (⟨a2_0, a2_1, a2_2, a2_3, a2_4, a2_5, a2_6⟩ : S23) )) (Reps.none _ _)))
                    intro v119 w39 ho40 hb hg_ hnew_
                    clear hg_ hnew_
                    (first | rw [← Ny118.out] at ho40 | (simp only [Int.reduceToNat] at ho40; rw [← Ny118.out] at ho40))
                    have n0_ := Aside0.mk (Kd.R_elder' (by (with_reducible repeat (first | apply Kd.R_alloc | apply Kd.R_drewN | apply Kd.R_drew)); exact HO117.out) (Kd.R_base ho40) hb)
                    have n1_ := Aside0.mk (Kd.R_lower (Kd.R_newB (Kd.R_newB (Kd.R_new' ho40 (Kd.R_lt (by (with_reducible repeat (first | apply Kd.R_alloc | apply Kd.R_drewN | apply Kd.R_drew)); exact HO117.out))) (g := gb110) (o := .cells #[.int .i32 a0_0, .int .i32 a0_1, .int .i32 a0_2, .int .u8 a0_3, .int .u8 a0_4, .int .u8 a0_5, .bool a0_6] 23 (0, 0)) (by (with_reducible repeat (first | refine blk_drewN ?_ _ | refine blk_drew ?_ | refine blk_alloc ?_ _)); exact BK110.out)) (g := gb111) (o := .cells #[.int .i32 a2_0, .int .i32 a2_1, .int .i32 a2_2, .int .u8 a2_3, .int .u8 a2_4, .int .u8 a2_5, .bool a2_6] 23 (0, 0)) (by (with_reducible repeat (first | refine blk_drewN ?_ _ | refine blk_drew ?_ | refine blk_alloc ?_ _)); exact BK111.out)) (below_size (by repeat (first | (with_reducible first | exact HB.out | apply below_alloc | apply pw_below_drewN | apply below_drew1 | refine below_set ?_ GE110.out | refine below_set ?_ GE111.out) | exact HB.out))))
                    have n2_ := Aside0.mk (blk_below (g := gb110) (o := .cells #[.int .i32 a0_0, .int .i32 a0_1, .int .i32 a0_2, .int .u8 a0_3, .int .u8 a0_4, .int .u8 a0_5, .bool a0_6] 23 (0, 0)) (by (with_reducible repeat (first | refine blk_drewN ?_ _ | refine blk_drew ?_ | refine blk_alloc ?_ _)); exact BK110.out) hb)
                    have n3_ := Aside0.mk (blk_below (g := gb111) (o := .cells #[.int .i32 a2_0, .int .i32 a2_1, .int .i32 a2_2, .int .u8 a2_3, .int .u8 a2_4, .int .u8 a2_5, .bool a2_6] 23 (0, 0)) (by (with_reducible repeat (first | refine blk_drewN ?_ _ | refine blk_drew ?_ | refine blk_alloc ?_ _)); exact BK111.out) hb)
                    have n4_ := Aside0.mk (below_step (by repeat (first | (with_reducible first | exact HB.out | apply below_alloc | apply pw_below_drewN | apply below_drew1 | refine below_set ?_ GE110.out | refine below_set ?_ GE111.out) | exact HB.out)) hb)
                    clear HO117
                    clear BK110
                    clear BK111
                    clear HB
                    have HO117 := n0_
                    have HO120 := n1_
                    have BK110 := n2_
                    have BK111 := n3_
                    have HB := n4_
                    clear n0_ n1_ n2_ n3_ n4_
                    clear hb ho40
                    refine hK.out _ _ ⟨(blk_cell BK111.out 0).trans rfl, (blk_cell BK111.out 1).trans rfl, (blk_cell BK111.out 2).trans rfl, (blk_cell BK111.out 3).trans rfl, (blk_cell BK111.out 4).trans rfl, (blk_cell BK111.out 5).trans rfl, (blk_cell BK111.out 6).trans rfl⟩ (fun hHeld => ?_)
                    clear hK K
                    refine norm_ (a' := ?_) ?_ ?_
                    rotate_left
                    · show Act.put _ (some 27) _ = _
                      simp only [Act.put, List.setIfInBounds_toArray, List.set_cons_zero, List.set_cons_succ, i64_w, i32_w]
                      rfl
                    exact norm_ (by simp only [putAll, Act.put, List.setIfInBounds_toArray, List.set_cons_zero, List.set_cons_succ]) (hCont (v116, v119) _ ⟨hHeld, (by (with_reducible repeat (first | apply Kd.R_alloc | apply Kd.R_drewN | apply Kd.R_drew)); exact Kd.R_mono HO117.out (fun _ hk => by first | exact ⟨hk.2, ⟨hk.1.1, hk.1.2⟩⟩ | exact hk.1)), (by (with_reducible repeat (first | apply Kd.R_alloc | apply Kd.R_drewN | apply Kd.R_drew)); exact Kd.R_mono HO120.out (fun _ hk => by first | exact ⟨hk.1.1.2, ⟨hk.1.2, hk.2⟩⟩ | exact hk.1)), (by (with_reducible repeat (first | refine blk_drewN ?_ _ | refine blk_drew ?_ | refine blk_alloc ?_ _)); exact BK110.out), (by (with_reducible repeat (first | refine blk_drewN ?_ _ | refine blk_drew ?_ | refine blk_alloc ?_ _)); exact BK111.out), (by repeat (first | (with_reducible first | exact HB.out | apply below_alloc | apply pw_below_drewN | apply below_drew1 | refine below_set ?_ GE110.out | refine below_set ?_ GE111.out) | exact HB.out))⟩)
                  · skip
                    refine Kd.R_lit_step k23 _ 23 ?hg (N := 27) ?hd (xs := ([(⟨a2_0, a2_1, a2_2, a2_3, a2_4, a2_5, a2_6⟩ : S23)] : List (S23))) (inner := [.int .i32 a2_0, .int .i32 a2_1, .int .i32 a2_2, .int .u8 a2_3, .int .u8 a2_4, .int .u8 a2_5, .bool a2_6]) (ok := fun _ => True) (okp := fun _ => True) ?hr ?hp (fun _ hk => hk) trivial (Below.refl _ _) (Nat.le_refl _) (by simp) ?_; (case hd => rfl); (case hg => first | rfl | (refine wanted_on rfl rfl rfl ?_; assumption)); (case hr => first | (go_simp; done) | (go_simp; rfl)); (case hp => exact (Reps.c7 (show Kd.M k23 _ _ _ (⟨a2_0, a2_1, a2_2, a2_3, a2_4, a2_5, a2_6⟩ : S23) [.int .i32 a2_0, .int .i32 a2_1, .int .i32 a2_2, .int .u8 a2_3, .int .u8 a2_4, .int .u8 a2_5, .bool a2_6] from (k23_mkM _ _ _ (⟨a2_0, a2_1, a2_2, a2_3, a2_4, a2_5, a2_6⟩ : S23) )) (Reps.none _ _)))
                    intro v119 w38 ho39 hb hg_ hnew_
                    clear hg_ hnew_
                    (first | rw [← Ny118.out] at ho39 | (simp only [Int.reduceToNat] at ho39; rw [← Ny118.out] at ho39))
                    have n0_ := Aside0.mk (Kd.R_lower (Kd.R_newB (Kd.R_newB ho39 (g := gb110) (o := .cells #[.int .i32 a0_0, .int .i32 a0_1, .int .i32 a0_2, .int .u8 a0_3, .int .u8 a0_4, .int .u8 a0_5, .bool a0_6] 23 (0, 0)) (by (with_reducible repeat (first | refine blk_drewN ?_ _ | refine blk_drew ?_ | refine blk_alloc ?_ _)); exact BK110.out)) (g := gb111) (o := .cells #[.int .i32 a2_0, .int .i32 a2_1, .int .i32 a2_2, .int .u8 a2_3, .int .u8 a2_4, .int .u8 a2_5, .bool a2_6] 23 (0, 0)) (by (with_reducible repeat (first | refine blk_drewN ?_ _ | refine blk_drew ?_ | refine blk_alloc ?_ _)); exact BK111.out)) (below_size (by repeat (first | (with_reducible first | exact HB.out | apply below_alloc | apply pw_below_drewN | apply below_drew1 | refine below_set ?_ GE110.out | refine below_set ?_ GE111.out) | exact HB.out))))
                    have n1_ := Aside0.mk (blk_below (g := gb110) (o := .cells #[.int .i32 a0_0, .int .i32 a0_1, .int .i32 a0_2, .int .u8 a0_3, .int .u8 a0_4, .int .u8 a0_5, .bool a0_6] 23 (0, 0)) (by (with_reducible repeat (first | refine blk_drewN ?_ _ | refine blk_drew ?_ | refine blk_alloc ?_ _)); exact BK110.out) hb)
                    have n2_ := Aside0.mk (blk_below (g := gb111) (o := .cells #[.int .i32 a2_0, .int .i32 a2_1, .int .i32 a2_2, .int .u8 a2_3, .int .u8 a2_4, .int .u8 a2_5, .bool a2_6] 23 (0, 0)) (by (with_reducible repeat (first | refine blk_drewN ?_ _ | refine blk_drew ?_ | refine blk_alloc ?_ _)); exact BK111.out) hb)
                    have n3_ := Aside0.mk (below_step (by repeat (first | (with_reducible first | exact HB.out | apply below_alloc | apply pw_below_drewN | apply below_drew1 | refine below_set ?_ GE110.out | refine below_set ?_ GE111.out) | exact HB.out)) hb)
                    clear BK110
                    clear BK111
                    clear HB
                    have HO120 := n0_
                    have BK110 := n1_
                    have BK111 := n2_
                    have HB := n3_
                    clear n0_ n1_ n2_ n3_
                    clear hb ho39
                    refine hK.out _ _ ⟨(blk_cell BK111.out 0).trans rfl, (blk_cell BK111.out 1).trans rfl, (blk_cell BK111.out 2).trans rfl, (blk_cell BK111.out 3).trans rfl, (blk_cell BK111.out 4).trans rfl, (blk_cell BK111.out 5).trans rfl, (blk_cell BK111.out 6).trans rfl⟩ (fun hHeld => ?_)
                    clear hK K
                    refine norm_ (a' := ?_) ?_ ?_
                    rotate_left
                    · show Act.put _ (some 27) _ = _
                      simp only [Act.put, List.setIfInBounds_toArray, List.set_cons_zero, List.set_cons_succ, i64_w, i32_w]
                      rfl
                    refine one_ (i := 1) (N := some 25) #[true, true, true, true, false, false] rfl rfl (by kernel_rfl) (by decide) (fun K hK => ?_)
                    refine Kd.R_append_rows_step k23 (w0 := w) w.heap.size (by rfl) (.const (.slice none 0 0)) (.tmp 24) 32 23 (.agg #[(.int .i32 0), (.int .i32 0), (.int .i32 0), (.int .u8 0), (.int .u8 0), (.int .u8 0), (.bool false)]) 16 rfl Tryd.underlying32 info23 rfl (by decide) (by omega) (.slice none 0 0) ([] : List (S23)) l1 _ _ _ (fun k_ => some k_ ≠ (v119 : Value).ownBlock ∧ k_ ≠ gb110 ∧ k_ ≠ gb111) (fun _ => False) rfl rfl ?aO ?aR (fun _ _ h => h) (fun _ h => h.elim) ?aF ?aB ?aS ?aL ?_
                    (case aR => repeat (first | exact (Kd.C_below HR1.out HB.out) | (with_reducible refine Kd.C_alloc ?_ _) | (with_reducible refine Kd.C_drewN ?_ _) | (with_reducible refine Kd.C_drew ?_)))
                    (case aB => exact (by repeat (first | (with_reducible first | exact HB.out | apply below_alloc | apply pw_below_drewN | apply below_drew1 | refine below_set ?_ GE110.out | refine below_set ?_ GE111.out) | exact HB.out)))
                    (case aF => exact (fun k_ hk => ⟨Kd.fresh' (Kd.R_lt (by (with_reducible repeat (first | apply Kd.R_alloc | apply Kd.R_drewN | apply Kd.R_drew)); exact HO120.out)) k_ hk, Kd.freshB (g := gb110) (o := .cells #[.int .i32 a0_0, .int .i32 a0_1, .int .i32 a0_2, .int .u8 a0_3, .int .u8 a0_4, .int .u8 a0_5, .bool a0_6] 23 (0, 0)) (by (with_reducible repeat (first | refine blk_drewN ?_ _ | refine blk_drew ?_ | refine blk_alloc ?_ _)); exact BK110.out) k_ hk, Kd.freshB (g := gb111) (o := .cells #[.int .i32 a2_0, .int .i32 a2_1, .int .i32 a2_2, .int .u8 a2_3, .int .u8 a2_4, .int .u8 a2_5, .bool a2_6] 23 (0, 0)) (by (with_reducible repeat (first | refine blk_drewN ?_ _ | refine blk_drew ?_ | refine blk_alloc ?_ _)); exact BK111.out) k_ hk⟩))
                    (case aO => exact ((Kd.R_nil _ _ _ _ (fun k_ => some k_ ≠ (v119 : Value).ownBlock ∧ k_ ≠ gb110 ∧ k_ ≠ gb111))))
                    (case aS => exact (below_size (by repeat (first | (with_reducible first | exact HB.out | apply below_alloc | apply pw_below_drewN | apply below_drew1 | refine below_set ?_ GE110.out | refine below_set ?_ GE111.out) | exact HB.out))))
                    (case aL => have := LMc30.out; omega)
                    intro v116 w40 ho hb hg hat
                    rw [← Ny115.out] at ho
                    have n0_ := Aside0.mk (blk_grown (g := gb110) (o := .cells #[.int .i32 a0_0, .int .i32 a0_1, .int .i32 a0_2, .int .u8 a0_3, .int .u8 a0_4, .int .u8 a0_5, .bool a0_6] 23 (0, 0)) (by (with_reducible repeat (first | refine blk_drewN ?_ _ | refine blk_drew ?_ | refine blk_alloc ?_ _)); exact BK110.out) hg (by simp [Value.ownBlock]))
                    have n1_ := Aside0.mk (blk_grown (g := gb111) (o := .cells #[.int .i32 a2_0, .int .i32 a2_1, .int .i32 a2_2, .int .u8 a2_3, .int .u8 a2_4, .int .u8 a2_5, .bool a2_6] 23 (0, 0)) (by (with_reducible repeat (first | refine blk_drewN ?_ _ | refine blk_drew ?_ | refine blk_alloc ?_ _)); exact BK111.out) hg (by simp [Value.ownBlock]))
                    have n2_ := Aside0.mk (Kd.R_after (Kd.R_apart_nil (by (with_reducible repeat (first | apply Kd.R_alloc | apply Kd.R_drewN | apply Kd.R_drew)); exact HO120.out)) hg hat)
                    have n3_ := Aside0.mk (hb)
                    have n4_ := Aside0.mk (ho)
                    clear BK110
                    clear BK111
                    clear HO120
                    clear HB
                    have BK110 := n0_
                    have BK111 := n1_
                    have HO120 := n2_
                    have HB := n3_
                    have HO117 := n4_
                    clear n0_ n1_ n2_ n3_ n4_
                    clear ho hb hg hat
                    refine hK.out _ _ ⟨(blk_cell BK111.out 0).trans rfl, (blk_cell BK111.out 1).trans rfl, (blk_cell BK111.out 2).trans rfl, (blk_cell BK111.out 3).trans rfl, (blk_cell BK111.out 4).trans rfl, (blk_cell BK111.out 5).trans rfl, (blk_cell BK111.out 6).trans rfl⟩ (fun hHeld => ?_)
                    clear hK K
                    refine norm_ (a' := ?_) ?_ ?_
                    rotate_left
                    · show Act.put _ (some 25) _ = _
                      simp only [Act.put, List.setIfInBounds_toArray, List.set_cons_zero, List.set_cons_succ, i64_w, i32_w]
                      rfl
                    exact norm_ (by simp only [putAll, Act.put, List.setIfInBounds_toArray, List.set_cons_zero, List.set_cons_succ]) (hCont (v116, v119) _ ⟨hHeld, (by (with_reducible repeat (first | apply Kd.R_alloc | apply Kd.R_drewN | apply Kd.R_drew)); exact HO117.out), (by (with_reducible repeat (first | apply Kd.R_alloc | apply Kd.R_drewN | apply Kd.R_drew)); exact Kd.R_mono HO120.out (fun _ hk => by first | exact ⟨hk.2, ⟨hk.1.1.2, hk.1.2⟩⟩ | exact hk.1)), (by (with_reducible repeat (first | refine blk_drewN ?_ _ | refine blk_drew ?_ | refine blk_alloc ?_ _)); exact BK110.out), (by (with_reducible repeat (first | refine blk_drewN ?_ _ | refine blk_drew ?_ | refine blk_alloc ?_ _)); exact BK111.out), (by repeat (first | (with_reducible first | exact HB.out | apply below_alloc | apply pw_below_drewN | apply below_drew1 | refine below_set ?_ GE110.out | refine below_set ?_ GE111.out) | exact HB.out))⟩)
                rintro ⟨v116, v119⟩ w41 ⟨hS_, h0_, h1_, h2_, h3_, h4_⟩
                have n0_ : Aside0 (Kd.R k23 23 w41 w.heap.size (fun k_ => some k_ ≠ (v119 : Value).ownBlock ∧ k_ ≠ gb110 ∧ k_ ≠ gb111) v116 y115) := ⟨h0_⟩
                have n1_ : Aside0 (Kd.R k23 23 w41 w.heap.size (fun k_ => some k_ ≠ (v116 : Value).ownBlock ∧ k_ ≠ gb110 ∧ k_ ≠ gb111) v119 y118) := ⟨h1_⟩
                have n2_ : Aside0 (w41.heap[gb110]? = some (.cells #[.int .i32 a0_0, .int .i32 a0_1, .int .i32 a0_2, .int .u8 a0_3, .int .u8 a0_4, .int .u8 a0_5, .bool a0_6] 23 (0, 0))) := ⟨h2_⟩
                have n3_ : Aside0 (w41.heap[gb111]? = some (.cells #[.int .i32 a2_0, .int .i32 a2_1, .int .i32 a2_2, .int .u8 a2_3, .int .u8 a2_4, .int .u8 a2_5, .bool a2_6] 23 (0, 0))) := ⟨h3_⟩
                have n4_ : Aside0 (Below w.heap.size w w41) := ⟨h4_⟩
                clear BK110
                clear BK111
                clear HB
                clear h0_ h1_ h2_ h3_ h4_
                have HO117 := n0_
                have HO120 := n1_
                have BK110 := n2_
                have BK111 := n3_
                have HB := n4_
                clear n0_ n1_ n2_ n3_ n4_
                have hHeld : w41.cell? ⟨gb111, 0, none⟩ = some (.int .i32 a2_0) ∧ w41.cell? ⟨gb111, 1, none⟩ = some (.int .i32 a2_1) ∧ w41.cell? ⟨gb111, 2, none⟩ = some (.int .i32 a2_2) ∧ w41.cell? ⟨gb111, 3, none⟩ = some (.int .u8 a2_3) ∧ w41.cell? ⟨gb111, 4, none⟩ = some (.int .u8 a2_4) ∧ w41.cell? ⟨gb111, 5, none⟩ = some (.int .u8 a2_5) ∧ w41.cell? ⟨gb111, 6, none⟩ = some (.bool a2_6) := hS_
                obtain ⟨Ao43, co43, eo43⟩ := Kd.R_slice HO120.out
                (first | subst eo43 | (injection eo43 with f1_ f2_ f3_; have f4_ := f1_.symm; have f5_ := f3_.symm; clear f1_ f2_ f3_; subst f4_; subst f5_))
                refine norm_ (a' := ?_) ?_ ?_
                rotate_left
                · simp only [putAll, Act.put, List.setIfInBounds_toArray, List.set_cons_zero, List.set_cons_succ]
                  rfl
                refine one_ (i := 4) (N := some 28) #[true, true, true, true, true, false] rfl rfl (by kernel_rfl) (by decide) (fun K hK => ?_)
                refine Kd.R_append_rows_step k23 (w0 := w) w.heap.size (by rfl) (.tmp 25) (.tmp 27) 32 23 (.agg #[(.int .i32 0), (.int .i32 0), (.int .i32 0), (.int .u8 0), (.int .u8 0), (.int .u8 0), (.bool false)]) 16 rfl Tryd.underlying32 info23 rfl (by decide) (by omega) v116 y115 y118 _ _ _ (fun k_ => some k_ ≠ (.slice Ao43 y118.length co43 : Value).ownBlock ∧ k_ ≠ gb110 ∧ k_ ≠ gb111) (fun _ => False) rfl rfl ?aO ?aR (fun _ _ h => h) (fun _ h => h.elim) ?aF ?aB ?aS ?aL ?_
                (case aR => repeat (first | exact (Kd.R_reads' HO120.out).2.2 | (with_reducible refine Kd.C_alloc ?_ _) | (with_reducible refine Kd.C_drewN ?_ _) | (with_reducible refine Kd.C_drew ?_)))
                (case aB => exact (by repeat (first | (with_reducible first | exact HB.out | apply below_alloc | apply pw_below_drewN | apply below_drew1 | refine below_set ?_ GE110.out | refine below_set ?_ GE111.out) | exact HB.out)))
                (case aF => exact (fun k_ hk => ⟨Kd.fresh' (Kd.R_lt (by (with_reducible repeat (first | apply Kd.R_alloc | apply Kd.R_drewN | apply Kd.R_drew)); exact HO120.out)) k_ hk, Kd.freshB (g := gb110) (o := .cells #[.int .i32 a0_0, .int .i32 a0_1, .int .i32 a0_2, .int .u8 a0_3, .int .u8 a0_4, .int .u8 a0_5, .bool a0_6] 23 (0, 0)) (by (with_reducible repeat (first | refine blk_drewN ?_ _ | refine blk_drew ?_ | refine blk_alloc ?_ _)); exact BK110.out) k_ hk, Kd.freshB (g := gb111) (o := .cells #[.int .i32 a2_0, .int .i32 a2_1, .int .i32 a2_2, .int .u8 a2_3, .int .u8 a2_4, .int .u8 a2_5, .bool a2_6] 23 (0, 0)) (by (with_reducible repeat (first | refine blk_drewN ?_ _ | refine blk_drew ?_ | refine blk_alloc ?_ _)); exact BK111.out) k_ hk⟩))
                (case aO => exact (by (with_reducible repeat (first | apply Kd.R_alloc | apply Kd.R_drewN | apply Kd.R_drew)); exact HO117.out))
                (case aS => exact (below_size (by repeat (first | (with_reducible first | exact HB.out | apply below_alloc | apply pw_below_drewN | apply below_drew1 | refine below_set ?_ GE110.out | refine below_set ?_ GE111.out) | exact HB.out))))
                (case aL => have := LMc31.out; omega)
                intro v122 w42 ho hb hg hat
                rw [← Ny121.out] at ho
                have n0_ := Aside0.mk (blk_grown (g := gb110) (o := .cells #[.int .i32 a0_0, .int .i32 a0_1, .int .i32 a0_2, .int .u8 a0_3, .int .u8 a0_4, .int .u8 a0_5, .bool a0_6] 23 (0, 0)) (by (with_reducible repeat (first | refine blk_drewN ?_ _ | refine blk_drew ?_ | refine blk_alloc ?_ _)); exact BK110.out) hg (Kd.R_away HO117.out (fun _ hk => hk.2.1)))
                have n1_ := Aside0.mk (blk_grown (g := gb111) (o := .cells #[.int .i32 a2_0, .int .i32 a2_1, .int .i32 a2_2, .int .u8 a2_3, .int .u8 a2_4, .int .u8 a2_5, .bool a2_6] 23 (0, 0)) (by (with_reducible repeat (first | refine blk_drewN ?_ _ | refine blk_drew ?_ | refine blk_alloc ?_ _)); exact BK111.out) hg (Kd.R_away HO117.out (fun _ hk => hk.2.2)))
                have n2_ := Aside0.mk (Kd.R_after (ok := (fun k_ => k_ ≠ gb110 ∧ k_ ≠ gb111)) (by (with_reducible repeat (first | apply Kd.R_alloc | apply Kd.R_drewN | apply Kd.R_drew)); exact Kd.R_mono HO120.out (fun _ hk => by first | exact ⟨⟨hk.2.1, hk.2.2⟩, hk.1⟩ | exact hk.1)) hg hat)
                have n3_ := Aside0.mk (hb)
                have n4_ := Aside0.mk (ho)
                clear BK110
                clear BK111
                clear HO120
                clear HB
                clear HO117
                have BK110 := n0_
                have BK111 := n1_
                have HO120 := n2_
                have HB := n3_
                have HO123 := n4_
                clear n0_ n1_ n2_ n3_ n4_
                clear ho hb hg hat
                refine hK.out _ _ ⟨(blk_cell BK111.out 0).trans rfl, (blk_cell BK111.out 1).trans rfl, (blk_cell BK111.out 2).trans rfl, (blk_cell BK111.out 3).trans rfl, (blk_cell BK111.out 4).trans rfl, (blk_cell BK111.out 5).trans rfl, (blk_cell BK111.out 6).trans rfl⟩ (fun hHeld => ?_)
                clear hK K
                refine norm_ (a' := ?_) ?_ ?_
                rotate_left
                · show Act.put _ (some 28) _ = _
                  simp only [Act.put, List.setIfInBounds_toArray, List.set_cons_zero, List.set_cons_succ, i64_w, i32_w]
                  rfl
                refine pure_ (i := 5) (N := some 7) (v := ?_) (a' := ?_) #[true, true, true, true, true, true] rfl rfl (by kernel_rfl) (fun _ _ _ h => h) (Or.inl ⟨by rfl, ?_⟩) ?_ ?_
                rotate_left
                · intro w'
                  go_simp
                  first | with_reducible rfl | struct_eq
                rotate_left
                · simp only [Act.put, List.setIfInBounds_toArray, List.set_cons_zero, List.set_cons_succ, i64_w, i32_w]
                  rfl
                refine done_ (by kernel_rfl) ?_
                obtain ⟨Ao44, co44, eo44⟩ := Kd.R_slice HO123.out
                subst eo44
                try go_wp2
                have n0_ := Aside0.mk (Kd.R_drew HO120.out)
                have n1_ := Aside0.mk (Kd.R_drew HO123.out)
                have n2_ := Aside0.mk (blk_drew BK110.out)
                have n3_ := Aside0.mk (blk_drew BK111.out)
                have n4_ := Aside0.mk (below_drew1 HB.out)
                clear HO120
                clear HO123
                clear BK110
                clear BK111
                clear HB
                have HO120 := n0_
                have HO123 := n1_
                have BK110 := n2_
                have BK111 := n3_
                have HB := n4_
                clear n0_ n1_ n2_ n3_ n4_
                refine start_ (n := 14) (S := fun w' => w'.cell? ⟨gb110, 0, none⟩ = some (.int .i32 a0_0) ∧ w'.cell? ⟨gb110, 1, none⟩ = some (.int .i32 a0_1) ∧ w'.cell? ⟨gb110, 2, none⟩ = some (.int .i32 a0_2) ∧ w'.cell? ⟨gb110, 3, none⟩ = some (.int .u8 a0_3) ∧ w'.cell? ⟨gb110, 4, none⟩ = some (.int .u8 a0_4) ∧ w'.cell? ⟨gb110, 5, none⟩ = some (.int .u8 a0_5) ∧ w'.cell? ⟨gb110, 6, none⟩ = some (.bool a0_6) ∧ w'.cell? ⟨gb111, 0, none⟩ = some (.int .i32 a2_0) ∧ w'.cell? ⟨gb111, 1, none⟩ = some (.int .i32 a2_1) ∧ w'.cell? ⟨gb111, 2, none⟩ = some (.int .i32 a2_2) ∧ w'.cell? ⟨gb111, 3, none⟩ = some (.int .u8 a2_3) ∧ w'.cell? ⟨gb111, 4, none⟩ = some (.int .u8 a2_4) ∧ w'.cell? ⟨gb111, 5, none⟩ = some (.int .u8 a2_5) ∧ w'.cell? ⟨gb111, 6, none⟩ = some (.bool a2_6)) (ds := []) #[false, false, false, false, false, false, false, false, false, false, false, false, false, false] (by kernel_rfl) rfl rfl ⟨(blk_cell BK110.out 0).trans rfl, (blk_cell BK110.out 1).trans rfl, (blk_cell BK110.out 2).trans rfl, (blk_cell BK110.out 3).trans rfl, (blk_cell BK110.out 4).trans rfl, (blk_cell BK110.out 5).trans rfl, (blk_cell BK110.out 6).trans rfl, (blk_cell BK111.out 0).trans rfl, (blk_cell BK111.out 1).trans rfl, (blk_cell BK111.out 2).trans rfl, (blk_cell BK111.out 3).trans rfl, (blk_cell BK111.out 4).trans rfl, (blk_cell BK111.out 5).trans rfl, (blk_cell BK111.out 6).trans rfl⟩ (fun hHeld => ?_); refine with_tabW laws_FnEntryChain.tab6 laws_FnEntryChain.bits6 (fun HT_ HW_ => ?_)
                generalize w42.drew = w45 at HO120 HO123 BK110 BK111 HB hHeld ⊢
                refine pure_ (i := 1) (N := some 30) (v := ?_) (a' := ?_) #[false, true, false, false, false, false, false, false, false, false, false, false, false, false] rfl rfl (any_of HT_.out (by kernel_rfl)) (fun _ _ _ h => h) (Or.inl ⟨by rfl, ?_⟩) ?_ ?_
                rotate_left
                · intro w'
                  go_simp
                  first | with_reducible rfl | struct_eq
                rotate_left
                · simp only [Act.put, List.setIfInBounds_toArray, List.set_cons_zero, List.set_cons_succ, i64_w, i32_w]
                  rfl
                refine pure_ (i := 7) (N := some 36) (v := ?_) (a' := ?_) #[false, true, false, false, false, false, false, true, false, false, false, false, false, false] rfl rfl (any_of HT_.out (by kernel_rfl)) (fun _ _ _ h => h) (Or.inl ⟨by rfl, ?_⟩) ?_ ?_
                rotate_left
                · intro w'
                  go_simp
                  first | with_reducible rfl | struct_eq
                rotate_left
                · simp only [Act.put, List.setIfInBounds_toArray, List.set_cons_zero, List.set_cons_succ, i64_w, i32_w]
                  rfl
                refine take_ (i := 0) (N := some 29) (v := ?_) (a' := ?_) #[true, true, false, false, false, false, false, true, false, false, false, false, false, false] rfl rfl (take_ofW HT_.out HW_.out (by kernel_rfl)) (fun _ _ _ h => h) (Or.inl ⟨by rfl, ?_⟩) hHeld ?_ ?_
                rotate_left
                · rintro w' ⟨s0, s1, s2, s3, s4, s5, s6, s7, s8, s9, s10, s11, s12, s13⟩
                  go_simp
                  first | with_reducible rfl | struct_eq
                rotate_left
                · simp only [Act.put, List.setIfInBounds_toArray, List.set_cons_zero, List.set_cons_succ, i64_w, i32_w]
                  rfl
                refine take_ (i := 3) (N := some 32) (v := ?_) (a' := ?_) #[true, true, false, true, false, false, false, true, false, false, false, false, false, false] rfl rfl (take_ofW HT_.out HW_.out (by kernel_rfl)) (fun _ _ _ h => h) (Or.inl ⟨by rfl, ?_⟩) hHeld ?_ ?_
                rotate_left
                · rintro w' ⟨s0, s1, s2, s3, s4, s5, s6, s7, s8, s9, s10, s11, s12, s13⟩
                  go_simp
                  first | with_reducible rfl | struct_eq
                rotate_left
                · simp only [Act.put, List.setIfInBounds_toArray, List.set_cons_zero, List.set_cons_succ, i64_w, i32_w]
                  rfl
                refine take_ (i := 4) (N := some 33) (v := ?_) (a' := ?_) #[true, true, false, true, true, false, false, true, false, false, false, false, false, false] rfl rfl (take_ofW HT_.out HW_.out (by kernel_rfl)) (fun _ _ _ h => h) (Or.inl ⟨by rfl, ?_⟩) hHeld ?_ ?_
                rotate_left
                · rintro w' ⟨s0, s1, s2, s3, s4, s5, s6, s7, s8, s9, s10, s11, s12, s13⟩
                  go_simp
                  first | with_reducible rfl | struct_eq
                rotate_left
                · simp only [Act.put, List.setIfInBounds_toArray, List.set_cons_zero, List.set_cons_succ, i64_w, i32_w]
                  rfl
                refine join_ (σ := Value) 7 #[true, true, true, true, true, true, false, true, false, false, false, false, false, false] (fun s_ => [(31, .agg #[.int .i32 t124, .int .i32 t125, .int .i32 t126, .int .u8 t127, .int .u8 t128, .int .u8 t129, .bool t130]), (34, s_)]) (fun s_ w' => (w'.cell? ⟨gb110, 0, none⟩ = some (.int .i32 a0_0) ∧ w'.cell? ⟨gb110, 1, none⟩ = some (.int .i32 a0_1) ∧ w'.cell? ⟨gb110, 2, none⟩ = some (.int .i32 a0_2) ∧ w'.cell? ⟨gb110, 3, none⟩ = some (.int .u8 a0_3) ∧ w'.cell? ⟨gb110, 4, none⟩ = some (.int .u8 a0_4) ∧ w'.cell? ⟨gb110, 5, none⟩ = some (.int .u8 a0_5) ∧ w'.cell? ⟨gb110, 6, none⟩ = some (.bool a0_6) ∧ w'.cell? ⟨gb111, 0, none⟩ = some (.int .i32 a2_0) ∧ w'.cell? ⟨gb111, 1, none⟩ = some (.int .i32 a2_1) ∧ w'.cell? ⟨gb111, 2, none⟩ = some (.int .i32 a2_2) ∧ w'.cell? ⟨gb111, 3, none⟩ = some (.int .u8 a2_3) ∧ w'.cell? ⟨gb111, 4, none⟩ = some (.int .u8 a2_4) ∧ w'.cell? ⟨gb111, 5, none⟩ = some (.int .u8 a2_5) ∧ w'.cell? ⟨gb111, 6, none⟩ = some (.bool a2_6)) ∧ (Kd.R k23 23 w' w.heap.size (fun k_ => some k_ ≠ (.slice Ao44 y121.length co44 : Value).ownBlock ∧ some k_ ≠ (s_ : Value).ownBlock ∧ k_ ≠ gb110 ∧ k_ ≠ gb111) (.slice Ao43 y118.length co43) y118) ∧ (Kd.R k23 23 w' w.heap.size (fun k_ => some k_ ≠ (.slice Ao43 y118.length co43 : Value).ownBlock ∧ some k_ ≠ (s_ : Value).ownBlock ∧ k_ ≠ gb110 ∧ k_ ≠ gb111) (.slice Ao44 y121.length co44) y121) ∧ (Kd.R k23 23 w' w.heap.size (fun k_ => some k_ ≠ (.slice Ao43 y118.length co43 : Value).ownBlock ∧ some k_ ≠ (.slice Ao44 y121.length co44 : Value).ownBlock ∧ k_ ≠ gb110 ∧ k_ ≠ gb111) s_ y131) ∧ (w'.heap[gb110]? = some (.cells #[.int .i32 a0_0, .int .i32 a0_1, .int .i32 a0_2, .int .u8 a0_3, .int .u8 a0_4, .int .u8 a0_5, .bool a0_6] 23 (0, 0))) ∧ (w'.heap[gb111]? = some (.cells #[.int .i32 a2_0, .int .i32 a2_1, .int .i32 a2_2, .int .u8 a2_3, .int .u8 a2_4, .int .u8 a2_5, .bool a2_6] 23 (0, 0))) ∧ (Below w.heap.size w w')) ?_ ?_
                rotate_left
                · intro hCont
                  refine two_ (i := 2) (j := 5) (Ni := some 31) (Nj := some 34) #[true, true, true, true, true, false, false, true, false, false, false, false, false, false] #[true, true, false, true, true, true, false, true, false, false, false, false, false, false] rfl rfl rfl rfl (two_of HT_.out (by kernel_rfl)) (by decide) (by decide) (fun K hK => ?_) (fun K hK => ?_)
                  · skip
                    refine goes_ Tryd.func18 (by kernel_rfl) rfl #[.agg #[.int .i32 a0_0, .int .i32 a0_1, .int .i32 a0_2, .int .u8 a0_3, .int .u8 a0_4, .int .u8 a0_5, .bool a0_6], .slice Ao44 y121.length co44] (by first | rfl | (refine wanted_on rfl rfl rfl ?_; assumption)) rfl rfl (by (try simp only [List.map_toArray, List.map_cons, List.map_nil]); first | done | rfl | (simp only [List.length_drop, List.length_take]; rfl)) ?_
                    with_reducible refine (impl_EntryInherit.calls a0_0 a0_1 a0_2 a0_3 a0_4 a0_5 a0_6 _ _ y121 t124 t125 t126 t127 t128 t129 t130 _ ?side1 ?side2 A32.out).mono ?_
                    (case side1 => repeat (first | exact (Kd.R_reads' HO123.out).2.2 | (with_reducible refine Kd.C_alloc ?_ _) | (with_reducible refine Kd.C_drewN ?_ _) | (with_reducible refine Kd.C_drew ?_)))
                    (case side2 => exact (Kd.R_reads' HO123.out).2.1)
                    rintro e w46 ⟨rfl, hb⟩
                    refine ⟨_, rfl, ?_⟩
                    have n0_ := Aside0.mk (Kd.R_below (by (with_reducible repeat (first | apply Kd.R_alloc | apply Kd.R_drewN | apply Kd.R_drew)); exact HO120.out) hb)
                    have n1_ := Aside0.mk (Kd.R_below (by (with_reducible repeat (first | apply Kd.R_alloc | apply Kd.R_drewN | apply Kd.R_drew)); exact HO123.out) hb)
                    have n2_ := Aside0.mk (blk_below (g := gb110) (o := .cells #[.int .i32 a0_0, .int .i32 a0_1, .int .i32 a0_2, .int .u8 a0_3, .int .u8 a0_4, .int .u8 a0_5, .bool a0_6] 23 (0, 0)) (by (with_reducible repeat (first | refine blk_drewN ?_ _ | refine blk_drew ?_ | refine blk_alloc ?_ _)); exact BK110.out) hb)
                    have n3_ := Aside0.mk (blk_below (g := gb111) (o := .cells #[.int .i32 a2_0, .int .i32 a2_1, .int .i32 a2_2, .int .u8 a2_3, .int .u8 a2_4, .int .u8 a2_5, .bool a2_6] 23 (0, 0)) (by (with_reducible repeat (first | refine blk_drewN ?_ _ | refine blk_drew ?_ | refine blk_alloc ?_ _)); exact BK111.out) hb)
                    have n4_ := Aside0.mk (below_step (by repeat (first | (with_reducible first | exact HB.out | apply below_alloc | apply pw_below_drewN | apply below_drew1 | refine below_set ?_ GE110.out | refine below_set ?_ GE111.out) | exact HB.out)) hb)
                    clear HO120
                    clear HO123
                    clear BK110
                    clear BK111
                    clear HB
                    have HO120 := n0_
                    have HO123 := n1_
                    have BK110 := n2_
                    have BK111 := n3_
                    have HB := n4_
                    clear n0_ n1_ n2_ n3_ n4_
                    (try clear hb)
                    (try clear hb2)
                    (try clear hk)
                    (try clear hi)
                    refine hK.out _ _ ⟨(blk_cell BK110.out 0).trans rfl, (blk_cell BK110.out 1).trans rfl, (blk_cell BK110.out 2).trans rfl, (blk_cell BK110.out 3).trans rfl, (blk_cell BK110.out 4).trans rfl, (blk_cell BK110.out 5).trans rfl, (blk_cell BK110.out 6).trans rfl, (blk_cell BK111.out 0).trans rfl, (blk_cell BK111.out 1).trans rfl, (blk_cell BK111.out 2).trans rfl, (blk_cell BK111.out 3).trans rfl, (blk_cell BK111.out 4).trans rfl, (blk_cell BK111.out 5).trans rfl, (blk_cell BK111.out 6).trans rfl⟩ (fun hHeld => ?_)
                    clear hK K
                    refine norm_ (a' := ?_) ?_ ?_
                    rotate_left
                    · show Act.put _ (some 31) _ = _
                      simp only [Act.put, List.setIfInBounds_toArray, List.set_cons_zero, List.set_cons_succ, i64_w, i32_w]
                      rfl
                    refine one_ (i := 5) (N := some 34) #[true, true, true, true, true, true, false, true, false, false, false, false, false, false] rfl rfl (one_of HT_.out (by kernel_rfl)) (by decide) (fun K hK => ?_)
                    refine Kd.R_lit_step k23 _ 23 ?hg (N := 34) ?hd (xs := ([(⟨a2_0, a2_1, a2_2, a2_3, a2_4, a2_5, a2_6⟩ : S23)] : List (S23))) (inner := [.int .i32 a2_0, .int .i32 a2_1, .int .i32 a2_2, .int .u8 a2_3, .int .u8 a2_4, .int .u8 a2_5, .bool a2_6]) (ok := fun _ => True) (okp := fun _ => True) ?hr ?hp (fun _ hk => hk) trivial (Below.refl _ _) (Nat.le_refl _) (by simp) ?_; (case hd => rfl); (case hg => first | rfl | (refine wanted_on rfl rfl rfl ?_; assumption)); (case hr => first | (go_simp; done) | (go_simp; rfl)); (case hp => exact (Reps.c7 (show Kd.M k23 _ _ _ (⟨a2_0, a2_1, a2_2, a2_3, a2_4, a2_5, a2_6⟩ : S23) [.int .i32 a2_0, .int .i32 a2_1, .int .i32 a2_2, .int .u8 a2_3, .int .u8 a2_4, .int .u8 a2_5, .bool a2_6] from (k23_mkM _ _ _ (⟨a2_0, a2_1, a2_2, a2_3, a2_4, a2_5, a2_6⟩ : S23) )) (Reps.none _ _)))
                    intro v132 w47 ho48 hb hg_ hnew_
                    clear hg_ hnew_
                    (first | rw [← Ny131.out] at ho48 | (simp only [Int.reduceToNat] at ho48; rw [← Ny131.out] at ho48))
                    have n0_ := Aside0.mk (Kd.R_elder' (by (with_reducible repeat (first | apply Kd.R_alloc | apply Kd.R_drewN | apply Kd.R_drew)); exact HO120.out) (Kd.R_base ho48) hb)
                    have n1_ := Aside0.mk (Kd.R_elder' (by (with_reducible repeat (first | apply Kd.R_alloc | apply Kd.R_drewN | apply Kd.R_drew)); exact HO123.out) (Kd.R_base ho48) hb)
                    have n2_ := Aside0.mk (Kd.R_lower (Kd.R_newB (Kd.R_newB (Kd.R_new' (Kd.R_new' ho48 (Kd.R_lt (by (with_reducible repeat (first | apply Kd.R_alloc | apply Kd.R_drewN | apply Kd.R_drew)); exact HO120.out))) (Kd.R_lt (by (with_reducible repeat (first | apply Kd.R_alloc | apply Kd.R_drewN | apply Kd.R_drew)); exact HO123.out))) (g := gb110) (o := .cells #[.int .i32 a0_0, .int .i32 a0_1, .int .i32 a0_2, .int .u8 a0_3, .int .u8 a0_4, .int .u8 a0_5, .bool a0_6] 23 (0, 0)) (by (with_reducible repeat (first | refine blk_drewN ?_ _ | refine blk_drew ?_ | refine blk_alloc ?_ _)); exact BK110.out)) (g := gb111) (o := .cells #[.int .i32 a2_0, .int .i32 a2_1, .int .i32 a2_2, .int .u8 a2_3, .int .u8 a2_4, .int .u8 a2_5, .bool a2_6] 23 (0, 0)) (by (with_reducible repeat (first | refine blk_drewN ?_ _ | refine blk_drew ?_ | refine blk_alloc ?_ _)); exact BK111.out)) (below_size (by repeat (first | (with_reducible first | exact HB.out | apply below_alloc | apply pw_below_drewN | apply below_drew1 | refine below_set ?_ GE110.out | refine below_set ?_ GE111.out) | exact HB.out))))
                    have n3_ := Aside0.mk (blk_below (g := gb110) (o := .cells #[.int .i32 a0_0, .int .i32 a0_1, .int .i32 a0_2, .int .u8 a0_3, .int .u8 a0_4, .int .u8 a0_5, .bool a0_6] 23 (0, 0)) (by (with_reducible repeat (first | refine blk_drewN ?_ _ | refine blk_drew ?_ | refine blk_alloc ?_ _)); exact BK110.out) hb)
                    have n4_ := Aside0.mk (blk_below (g := gb111) (o := .cells #[.int .i32 a2_0, .int .i32 a2_1, .int .i32 a2_2, .int .u8 a2_3, .int .u8 a2_4, .int .u8 a2_5, .bool a2_6] 23 (0, 0)) (by (with_reducible repeat (first | refine blk_drewN ?_ _ | refine blk_drew ?_ | refine blk_alloc ?_ _)); exact BK111.out) hb)
                    have n5_ := Aside0.mk (below_step (by repeat (first | (with_reducible first | exact HB.out | apply below_alloc | apply pw_below_drewN | apply below_drew1 | refine below_set ?_ GE110.out | refine below_set ?_ GE111.out) | exact HB.out)) hb)
                    clear HO120
                    clear HO123
                    clear BK110
                    clear BK111
                    clear HB
                    have HO120 := n0_
                    have HO123 := n1_
                    have HO133 := n2_
                    have BK110 := n3_
                    have BK111 := n4_
                    have HB := n5_
                    clear n0_ n1_ n2_ n3_ n4_ n5_
                    clear hb ho48
                    refine hK.out _ _ ⟨(blk_cell BK110.out 0).trans rfl, (blk_cell BK110.out 1).trans rfl, (blk_cell BK110.out 2).trans rfl, (blk_cell BK110.out 3).trans rfl, (blk_cell BK110.out 4).trans rfl, (blk_cell BK110.out 5).trans rfl, (blk_cell BK110.out 6).trans rfl, (blk_cell BK111.out 0).trans rfl, (blk_cell BK111.out 1).trans rfl, (blk_cell BK111.out 2).trans rfl, (blk_cell BK111.out 3).trans rfl, (blk_cell BK111.out 4).trans rfl, (blk_cell BK111.out 5).trans rfl, (blk_cell BK111.out 6).trans rfl⟩ (fun hHeld => ?_)
                    clear hK K
                    refine norm_ (a' := ?_) ?_ ?_
                    rotate_left
                    · show Act.put _ (some 34) _ = _
                      simp only [Act.put, List.setIfInBounds_toArray, List.set_cons_zero, List.set_cons_succ, i64_w, i32_w]
                      rfl
                    exact norm_ (by simp only [putAll, Act.put, List.setIfInBounds_toArray, List.set_cons_zero, List.set_cons_succ]) (hCont (v132) _ ⟨hHeld, (by (with_reducible repeat (first | apply Kd.R_alloc | apply Kd.R_drewN | apply Kd.R_drew)); exact Kd.R_mono HO120.out (fun _ hk => by first | exact ⟨hk.1.2, ⟨hk.2, ⟨hk.1.1.1, hk.1.1.2⟩⟩⟩ | exact hk.1)), (by (with_reducible repeat (first | apply Kd.R_alloc | apply Kd.R_drewN | apply Kd.R_drew)); exact Kd.R_mono HO123.out (fun _ hk => by first | exact ⟨hk.1.1, ⟨hk.2, ⟨hk.1.2.1, hk.1.2.2⟩⟩⟩ | exact hk.1)), (by (with_reducible repeat (first | apply Kd.R_alloc | apply Kd.R_drewN | apply Kd.R_drew)); exact Kd.R_mono HO133.out (fun _ hk => by first | exact ⟨hk.1.1.1.2, ⟨hk.1.1.2, ⟨hk.1.2, hk.2⟩⟩⟩ | exact hk.1)), (by (with_reducible repeat (first | refine blk_drewN ?_ _ | refine blk_drew ?_ | refine blk_alloc ?_ _)); exact BK110.out), (by (with_reducible repeat (first | refine blk_drewN ?_ _ | refine blk_drew ?_ | refine blk_alloc ?_ _)); exact BK111.out), (by repeat (first | (with_reducible first | exact HB.out | apply below_alloc | apply pw_below_drewN | apply below_drew1 | refine below_set ?_ GE110.out | refine below_set ?_ GE111.out) | exact HB.out))⟩)
                  · skip
                    refine Kd.R_lit_step k23 _ 23 ?hg (N := 34) ?hd (xs := ([(⟨a2_0, a2_1, a2_2, a2_3, a2_4, a2_5, a2_6⟩ : S23)] : List (S23))) (inner := [.int .i32 a2_0, .int .i32 a2_1, .int .i32 a2_2, .int .u8 a2_3, .int .u8 a2_4, .int .u8 a2_5, .bool a2_6]) (ok := fun _ => True) (okp := fun _ => True) ?hr ?hp (fun _ hk => hk) trivial (Below.refl _ _) (Nat.le_refl _) (by simp) ?_; (case hd => rfl); (case hg => first | rfl | (refine wanted_on rfl rfl rfl ?_; assumption)); (case hr => first | (go_simp; done) | (go_simp; rfl)); (case hp => exact (Reps.c7 (show Kd.M k23 _ _ _ (⟨a2_0, a2_1, a2_2, a2_3, a2_4, a2_5, a2_6⟩ : S23) [.int .i32 a2_0, .int .i32 a2_1, .int .i32 a2_2, .int .u8 a2_3, .int .u8 a2_4, .int .u8 a2_5, .bool a2_6] from (k23_mkM _ _ _ (⟨a2_0, a2_1, a2_2, a2_3, a2_4, a2_5, a2_6⟩ : S23) )) (Reps.none _ _)))
                    intro v132 w46 ho47 hb hg_ hnew_
                    clear hg_ hnew_
                    (first | rw [← Ny131.out] at ho47 | (simp only [Int.reduceToNat] at ho47; rw [← Ny131.out] at ho47))
                    have n0_ := Aside0.mk (Kd.R_elder' (by (with_reducible repeat (first | apply Kd.R_alloc | apply Kd.R_drewN | apply Kd.R_drew)); exact HO120.out) (Kd.R_base ho47) hb)
                    have n1_ := Aside0.mk (Kd.R_elder' (by (with_reducible repeat (first | apply Kd.R_alloc | apply Kd.R_drewN | apply Kd.R_drew)); exact HO123.out) (Kd.R_base ho47) hb)
                    have n2_ := Aside0.mk (Kd.R_lower (Kd.R_newB (Kd.R_newB (Kd.R_new' (Kd.R_new' ho47 (Kd.R_lt (by (with_reducible repeat (first | apply Kd.R_alloc | apply Kd.R_drewN | apply Kd.R_drew)); exact HO120.out))) (Kd.R_lt (by (with_reducible repeat (first | apply Kd.R_alloc | apply Kd.R_drewN | apply Kd.R_drew)); exact HO123.out))) (g := gb110) (o := .cells #[.int .i32 a0_0, .int .i32 a0_1, .int .i32 a0_2, .int .u8 a0_3, .int .u8 a0_4, .int .u8 a0_5, .bool a0_6] 23 (0, 0)) (by (with_reducible repeat (first | refine blk_drewN ?_ _ | refine blk_drew ?_ | refine blk_alloc ?_ _)); exact BK110.out)) (g := gb111) (o := .cells #[.int .i32 a2_0, .int .i32 a2_1, .int .i32 a2_2, .int .u8 a2_3, .int .u8 a2_4, .int .u8 a2_5, .bool a2_6] 23 (0, 0)) (by (with_reducible repeat (first | refine blk_drewN ?_ _ | refine blk_drew ?_ | refine blk_alloc ?_ _)); exact BK111.out)) (below_size (by repeat (first | (with_reducible first | exact HB.out | apply below_alloc | apply pw_below_drewN | apply below_drew1 | refine below_set ?_ GE110.out | refine below_set ?_ GE111.out) | exact HB.out))))
                    have n3_ := Aside0.mk (blk_below (g := gb110) (o := .cells #[.int .i32 a0_0, .int .i32 a0_1, .int .i32 a0_2, .int .u8 a0_3, .int .u8 a0_4, .int .u8 a0_5, .bool a0_6] 23 (0, 0)) (by (with_reducible repeat (first | refine blk_drewN ?_ _ | refine blk_drew ?_ | refine blk_alloc ?_ _)); exact BK110.out) hb)
                    have n4_ := Aside0.mk (blk_below (g := gb111) (o := .cells #[.int .i32 a2_0, .int .i32 a2_1, .int .i32 a2_2, .int .u8 a2_3, .int .u8 a2_4, .int .u8 a2_5, .bool a2_6] 23 (0, 0)) (by (with_reducible repeat (first | refine blk_drewN ?_ _ | refine blk_drew ?_ | refine blk_alloc ?_ _)); exact BK111.out) hb)
                    have n5_ := Aside0.mk (below_step (by repeat (first | (with_reducible first | exact HB.out | apply below_alloc | apply pw_below_drewN | apply below_drew1 | refine below_set ?_ GE110.out | refine below_set ?_ GE111.out) | exact HB.out)) hb)
                    clear HO120
                    clear HO123
                    clear BK110
                    clear BK111
                    clear HB
                    have HO120 := n0_
                    have HO123 := n1_
                    have HO133 := n2_
                    have BK110 := n3_
                    have BK111 := n4_
                    have HB := n5_
                    clear n0_ n1_ n2_ n3_ n4_ n5_
                    clear hb ho47
                    refine hK.out _ _ ⟨(blk_cell BK110.out 0).trans rfl, (blk_cell BK110.out 1).trans rfl, (blk_cell BK110.out 2).trans rfl, (blk_cell BK110.out 3).trans rfl, (blk_cell BK110.out 4).trans rfl, (blk_cell BK110.out 5).trans rfl, (blk_cell BK110.out 6).trans rfl, (blk_cell BK111.out 0).trans rfl, (blk_cell BK111.out 1).trans rfl, (blk_cell BK111.out 2).trans rfl, (blk_cell BK111.out 3).trans rfl, (blk_cell BK111.out 4).trans rfl, (blk_cell BK111.out 5).trans rfl, (blk_cell BK111.out 6).trans rfl⟩ (fun hHeld => ?_)
                    clear hK K
                    refine norm_ (a' := ?_) ?_ ?_
                    rotate_left
                    · show Act.put _ (some 34) _ = _
                      simp only [Act.put, List.setIfInBounds_toArray, List.set_cons_zero, List.set_cons_succ, i64_w, i32_w]
                      rfl
                    refine one_ (i := 2) (N := some 31) #[true, true, true, true, true, true, false, true, false, false, false, false, false, false] rfl rfl (one_of HT_.out (by kernel_rfl)) (by decide) (fun K hK => ?_)
                    refine goes_ Tryd.func18 (by kernel_rfl) rfl #[.agg #[.int .i32 a0_0, .int .i32 a0_1, .int .i32 a0_2, .int .u8 a0_3, .int .u8 a0_4, .int .u8 a0_5, .bool a0_6], .slice Ao44 y121.length co44] (by first | rfl | (refine wanted_on rfl rfl rfl ?_; assumption)) rfl rfl (by (try simp only [List.map_toArray, List.map_cons, List.map_nil]); first | done | rfl | (simp only [List.length_drop, List.length_take]; rfl)) ?_
                    with_reducible refine (impl_EntryInherit.calls a0_0 a0_1 a0_2 a0_3 a0_4 a0_5 a0_6 _ _ y121 t124 t125 t126 t127 t128 t129 t130 _ ?side1 ?side2 A32.out).mono ?_
                    (case side1 => repeat (first | exact (Kd.R_reads' HO123.out).2.2 | (with_reducible refine Kd.C_alloc ?_ _) | (with_reducible refine Kd.C_drewN ?_ _) | (with_reducible refine Kd.C_drew ?_)))
                    (case side2 => exact (Kd.R_reads' HO123.out).2.1)
                    rintro e w48 ⟨rfl, hb⟩
                    refine ⟨_, rfl, ?_⟩
                    have n0_ := Aside0.mk (Kd.R_below (by (with_reducible repeat (first | apply Kd.R_alloc | apply Kd.R_drewN | apply Kd.R_drew)); exact HO120.out) hb)
                    have n1_ := Aside0.mk (Kd.R_below (by (with_reducible repeat (first | apply Kd.R_alloc | apply Kd.R_drewN | apply Kd.R_drew)); exact HO123.out) hb)
                    have n2_ := Aside0.mk (Kd.R_below (by (with_reducible repeat (first | apply Kd.R_alloc | apply Kd.R_drewN | apply Kd.R_drew)); exact HO133.out) hb)
                    have n3_ := Aside0.mk (blk_below (g := gb110) (o := .cells #[.int .i32 a0_0, .int .i32 a0_1, .int .i32 a0_2, .int .u8 a0_3, .int .u8 a0_4, .int .u8 a0_5, .bool a0_6] 23 (0, 0)) (by (with_reducible repeat (first | refine blk_drewN ?_ _ | refine blk_drew ?_ | refine blk_alloc ?_ _)); exact BK110.out) hb)
                    have n4_ := Aside0.mk (blk_below (g := gb111) (o := .cells #[.int .i32 a2_0, .int .i32 a2_1, .int .i32 a2_2, .int .u8 a2_3, .int .u8 a2_4, .int .u8 a2_5, .bool a2_6] 23 (0, 0)) (by (with_reducible repeat (first | refine blk_drewN ?_ _ | refine blk_drew ?_ | refine blk_alloc ?_ _)); exact BK111.out) hb)
                    have n5_ := Aside0.mk (below_step (by repeat (first | (with_reducible first | exact HB.out | apply below_alloc | apply pw_below_drewN | apply below_drew1 | refine below_set ?_ GE110.out | refine below_set ?_ GE111.out) | exact HB.out)) hb)
                    clear HO120
                    clear HO123
                    clear HO133
                    clear BK110
                    clear BK111
                    clear HB
                    have HO120 := n0_
                    have HO123 := n1_
                    have HO133 := n2_
                    have BK110 := n3_
                    have BK111 := n4_
                    have HB := n5_
                    clear n0_ n1_ n2_ n3_ n4_ n5_
                    (try clear hb)
                    (try clear hb2)
                    (try clear hk)
                    (try clear hi)
                    refine hK.out _ _ ⟨(blk_cell BK110.out 0).trans rfl, (blk_cell BK110.out 1).trans rfl, (blk_cell BK110.out 2).trans rfl, (blk_cell BK110.out 3).trans rfl, (blk_cell BK110.out 4).trans rfl, (blk_cell BK110.out 5).trans rfl, (blk_cell BK110.out 6).trans rfl, (blk_cell BK111.out 0).trans rfl, (blk_cell BK111.out 1).trans rfl, (blk_cell BK111.out 2).trans rfl, (blk_cell BK111.out 3).trans rfl, (blk_cell BK111.out 4).trans rfl, (blk_cell BK111.out 5).trans rfl, (blk_cell BK111.out 6).trans rfl⟩ (fun hHeld => ?_)
                    clear hK K
                    refine norm_ (a' := ?_) ?_ ?_
                    rotate_left
                    · show Act.put _ (some 31) _ = _
                      simp only [Act.put, List.setIfInBounds_toArray, List.set_cons_zero, List.set_cons_succ, i64_w, i32_w]
                      rfl
                    exact norm_ (by simp only [putAll, Act.put, List.setIfInBounds_toArray, List.set_cons_zero, List.set_cons_succ]) (hCont (v132) _ ⟨hHeld, (by (with_reducible repeat (first | apply Kd.R_alloc | apply Kd.R_drewN | apply Kd.R_drew)); exact Kd.R_mono HO120.out (fun _ hk => by first | exact ⟨hk.1.2, ⟨hk.2, ⟨hk.1.1.1, hk.1.1.2⟩⟩⟩ | exact hk.1)), (by (with_reducible repeat (first | apply Kd.R_alloc | apply Kd.R_drewN | apply Kd.R_drew)); exact Kd.R_mono HO123.out (fun _ hk => by first | exact ⟨hk.1.1, ⟨hk.2, ⟨hk.1.2.1, hk.1.2.2⟩⟩⟩ | exact hk.1)), (by (with_reducible repeat (first | apply Kd.R_alloc | apply Kd.R_drewN | apply Kd.R_drew)); exact Kd.R_mono HO133.out (fun _ hk => by first | exact ⟨hk.1.1.1.2, ⟨hk.1.1.2, ⟨hk.1.2, hk.2⟩⟩⟩ | exact hk.1)), (by (with_reducible repeat (first | refine blk_drewN ?_ _ | refine blk_drew ?_ | refine blk_alloc ?_ _)); exact BK110.out), (by (with_reducible repeat (first | refine blk_drewN ?_ _ | refine blk_drew ?_ | refine blk_alloc ?_ _)); exact BK111.out), (by repeat (first | (with_reducible first | exact HB.out | apply below_alloc | apply pw_below_drewN | apply below_drew1 | refine below_set ?_ GE110.out | refine below_set ?_ GE111.out) | exact HB.out))⟩)
                rintro v132 w49 ⟨hS_, h0_, h1_, h2_, h3_, h4_, h5_⟩
                have n0_ : Aside0 (Kd.R k23 23 w49 w.heap.size (fun k_ => some k_ ≠ (.slice Ao44 y121.length co44 : Value).ownBlock ∧ some k_ ≠ (v132 : Value).ownBlock ∧ k_ ≠ gb110 ∧ k_ ≠ gb111) (.slice Ao43 y118.length co43) y118) := ⟨h0_⟩
                have n1_ : Aside0 (Kd.R k23 23 w49 w.heap.size (fun k_ => some k_ ≠ (.slice Ao43 y118.length co43 : Value).ownBlock ∧ some k_ ≠ (v132 : Value).ownBlock ∧ k_ ≠ gb110 ∧ k_ ≠ gb111) (.slice Ao44 y121.length co44) y121) := ⟨h1_⟩
                have n2_ : Aside0 (Kd.R k23 23 w49 w.heap.size (fun k_ => some k_ ≠ (.slice Ao43 y118.length co43 : Value).ownBlock ∧ some k_ ≠ (.slice Ao44 y121.length co44 : Value).ownBlock ∧ k_ ≠ gb110 ∧ k_ ≠ gb111) v132 y131) := ⟨h2_⟩
                have n3_ : Aside0 (w49.heap[gb110]? = some (.cells #[.int .i32 a0_0, .int .i32 a0_1, .int .i32 a0_2, .int .u8 a0_3, .int .u8 a0_4, .int .u8 a0_5, .bool a0_6] 23 (0, 0))) := ⟨h3_⟩
                have n4_ : Aside0 (w49.heap[gb111]? = some (.cells #[.int .i32 a2_0, .int .i32 a2_1, .int .i32 a2_2, .int .u8 a2_3, .int .u8 a2_4, .int .u8 a2_5, .bool a2_6] 23 (0, 0))) := ⟨h4_⟩
                have n5_ : Aside0 (Below w.heap.size w w49) := ⟨h5_⟩
                clear HO120
                clear HO123
                clear BK110
                clear BK111
                clear HB
                clear h0_ h1_ h2_ h3_ h4_ h5_
                have HO120 := n0_
                have HO123 := n1_
                have HO133 := n2_
                have BK110 := n3_
                have BK111 := n4_
                have HB := n5_
                clear n0_ n1_ n2_ n3_ n4_ n5_
                have hHeld : w49.cell? ⟨gb110, 0, none⟩ = some (.int .i32 a0_0) ∧ w49.cell? ⟨gb110, 1, none⟩ = some (.int .i32 a0_1) ∧ w49.cell? ⟨gb110, 2, none⟩ = some (.int .i32 a0_2) ∧ w49.cell? ⟨gb110, 3, none⟩ = some (.int .u8 a0_3) ∧ w49.cell? ⟨gb110, 4, none⟩ = some (.int .u8 a0_4) ∧ w49.cell? ⟨gb110, 5, none⟩ = some (.int .u8 a0_5) ∧ w49.cell? ⟨gb110, 6, none⟩ = some (.bool a0_6) ∧ w49.cell? ⟨gb111, 0, none⟩ = some (.int .i32 a2_0) ∧ w49.cell? ⟨gb111, 1, none⟩ = some (.int .i32 a2_1) ∧ w49.cell? ⟨gb111, 2, none⟩ = some (.int .i32 a2_2) ∧ w49.cell? ⟨gb111, 3, none⟩ = some (.int .u8 a2_3) ∧ w49.cell? ⟨gb111, 4, none⟩ = some (.int .u8 a2_4) ∧ w49.cell? ⟨gb111, 5, none⟩ = some (.int .u8 a2_5) ∧ w49.cell? ⟨gb111, 6, none⟩ = some (.bool a2_6) := hS_
                obtain ⟨Ao50, co50, eo50⟩ := Kd.R_slice HO133.out
                (first | subst eo50 | (injection eo50 with f1_ f2_ f3_; have f4_ := f1_.symm; have f5_ := f3_.symm; clear f1_ f2_ f3_; subst f4_; subst f5_))
                refine norm_ (a' := ?_) ?_ ?_
                rotate_left
                · simp only [putAll, Act.put, List.setIfInBounds_toArray, List.set_cons_zero, List.set_cons_succ]
                  rfl
                refine one_ (i := 6) (N := some 35) #[true, true, true, true, true, true, true, true, false, false, false, false, false, false] rfl rfl (one_of HT_.out (by kernel_rfl)) (by decide) (fun K hK => ?_)
                refine goes_ Tryd.func18 (by kernel_rfl) rfl #[.agg #[.int .i32 a0_0, .int .i32 a0_1, .int .i32 a0_2, .int .u8 a0_3, .int .u8 a0_4, .int .u8 a0_5, .bool a0_6], .slice Ao50 y131.length co50] (by first | rfl | (refine wanted_on rfl rfl rfl ?_; assumption)) rfl rfl (by (try simp only [List.map_toArray, List.map_cons, List.map_nil]); first | done | rfl | (simp only [List.length_drop, List.length_take]; rfl)) ?_
                with_reducible refine (impl_EntryInherit.calls a0_0 a0_1 a0_2 a0_3 a0_4 a0_5 a0_6 _ _ y131 t134 t135 t136 t137 t138 t139 t140 _ ?side1 ?side2 A33.out).mono ?_
                (case side1 => repeat (first | exact (Kd.R_reads' HO133.out).2.2 | (with_reducible refine Kd.C_alloc ?_ _) | (with_reducible refine Kd.C_drewN ?_ _) | (with_reducible refine Kd.C_drew ?_)))
                (case side2 => exact (Kd.R_reads' HO133.out).2.1)
                rintro e w51 ⟨rfl, hb⟩
                refine ⟨_, rfl, ?_⟩
                have n0_ := Aside0.mk (Kd.R_below (by (with_reducible repeat (first | apply Kd.R_alloc | apply Kd.R_drewN | apply Kd.R_drew)); exact HO120.out) hb)
                have n1_ := Aside0.mk (Kd.R_below (by (with_reducible repeat (first | apply Kd.R_alloc | apply Kd.R_drewN | apply Kd.R_drew)); exact HO123.out) hb)
                have n2_ := Aside0.mk (Kd.R_below (by (with_reducible repeat (first | apply Kd.R_alloc | apply Kd.R_drewN | apply Kd.R_drew)); exact HO133.out) hb)
                have n3_ := Aside0.mk (blk_below (g := gb110) (o := .cells #[.int .i32 a0_0, .int .i32 a0_1, .int .i32 a0_2, .int .u8 a0_3, .int .u8 a0_4, .int .u8 a0_5, .bool a0_6] 23 (0, 0)) (by (with_reducible repeat (first | refine blk_drewN ?_ _ | refine blk_drew ?_ | refine blk_alloc ?_ _)); exact BK110.out) hb)
                have n4_ := Aside0.mk (blk_below (g := gb111) (o := .cells #[.int .i32 a2_0, .int .i32 a2_1, .int .i32 a2_2, .int .u8 a2_3, .int .u8 a2_4, .int .u8 a2_5, .bool a2_6] 23 (0, 0)) (by (with_reducible repeat (first | refine blk_drewN ?_ _ | refine blk_drew ?_ | refine blk_alloc ?_ _)); exact BK111.out) hb)
                have n5_ := Aside0.mk (below_step (by repeat (first | (with_reducible first | exact HB.out | apply below_alloc | apply pw_below_drewN | apply below_drew1 | refine below_set ?_ GE110.out | refine below_set ?_ GE111.out) | exact HB.out)) hb)
                clear HO120
                clear HO123
                clear HO133
                clear BK110
                clear BK111
                clear HB
                have HO120 := n0_
                have HO123 := n1_
                have HO133 := n2_
                have BK110 := n3_
                have BK111 := n4_
                have HB := n5_
                clear n0_ n1_ n2_ n3_ n4_ n5_
                (try clear hb)
                (try clear hb2)
                (try clear hk)
                (try clear hi)
                refine hK.out _ _ ⟨(blk_cell BK110.out 0).trans rfl, (blk_cell BK110.out 1).trans rfl, (blk_cell BK110.out 2).trans rfl, (blk_cell BK110.out 3).trans rfl, (blk_cell BK110.out 4).trans rfl, (blk_cell BK110.out 5).trans rfl, (blk_cell BK110.out 6).trans rfl, (blk_cell BK111.out 0).trans rfl, (blk_cell BK111.out 1).trans rfl, (blk_cell BK111.out 2).trans rfl, (blk_cell BK111.out 3).trans rfl, (blk_cell BK111.out 4).trans rfl, (blk_cell BK111.out 5).trans rfl, (blk_cell BK111.out 6).trans rfl⟩ (fun hHeld => ?_)
                clear hK K
                refine norm_ (a' := ?_) ?_ ?_
                rotate_left
                · show Act.put _ (some 35) _ = _
                  simp only [Act.put, List.setIfInBounds_toArray, List.set_cons_zero, List.set_cons_succ, i64_w, i32_w]
                  rfl
                refine one_ (i := 8) (N := some 37) #[true, true, true, true, true, true, true, true, true, false, false, false, false, false] rfl rfl (one_of HT_.out (by kernel_rfl)) (by decide) (fun K hK => ?_)
                refine goes_ Tryd.func18 (by kernel_rfl) rfl #[.agg #[.int .i32 t134, .int .i32 t135, .int .i32 t136, .int .u8 t137, .int .u8 t138, .int .u8 t139, .bool t140], .slice A1 l1.length c1] (by first | rfl | (refine wanted_on rfl rfl rfl ?_; assumption)) rfl rfl (by (try simp only [List.map_toArray, List.map_cons, List.map_nil]); first | done | rfl | (simp only [List.length_drop, List.length_take]; rfl)) ?_
                with_reducible refine (impl_EntryInherit.calls t134 t135 t136 t137 t138 t139 t140 _ _ l1 t141 t142 t143 t144 t145 t146 t147 _ ?side1 ?side2 A34.out).mono ?_
                (case side1 => repeat (first | exact (Kd.C_below HR1.out HB.out) | (with_reducible refine Kd.C_alloc ?_ _) | (with_reducible refine Kd.C_drewN ?_ _) | (with_reducible refine Kd.C_drew ?_)))
                (case side2 => exact HC1.out)
                rintro e w52 ⟨rfl, hb⟩
                refine ⟨_, rfl, ?_⟩
                have n0_ := Aside0.mk (Kd.R_below (by (with_reducible repeat (first | apply Kd.R_alloc | apply Kd.R_drewN | apply Kd.R_drew)); exact HO120.out) hb)
                have n1_ := Aside0.mk (Kd.R_below (by (with_reducible repeat (first | apply Kd.R_alloc | apply Kd.R_drewN | apply Kd.R_drew)); exact HO123.out) hb)
                have n2_ := Aside0.mk (Kd.R_below (by (with_reducible repeat (first | apply Kd.R_alloc | apply Kd.R_drewN | apply Kd.R_drew)); exact HO133.out) hb)
                have n3_ := Aside0.mk (blk_below (g := gb110) (o := .cells #[.int .i32 a0_0, .int .i32 a0_1, .int .i32 a0_2, .int .u8 a0_3, .int .u8 a0_4, .int .u8 a0_5, .bool a0_6] 23 (0, 0)) (by (with_reducible repeat (first | refine blk_drewN ?_ _ | refine blk_drew ?_ | refine blk_alloc ?_ _)); exact BK110.out) hb)
                have n4_ := Aside0.mk (blk_below (g := gb111) (o := .cells #[.int .i32 a2_0, .int .i32 a2_1, .int .i32 a2_2, .int .u8 a2_3, .int .u8 a2_4, .int .u8 a2_5, .bool a2_6] 23 (0, 0)) (by (with_reducible repeat (first | refine blk_drewN ?_ _ | refine blk_drew ?_ | refine blk_alloc ?_ _)); exact BK111.out) hb)
                have n5_ := Aside0.mk (below_step (by repeat (first | (with_reducible first | exact HB.out | apply below_alloc | apply pw_below_drewN | apply below_drew1 | refine below_set ?_ GE110.out | refine below_set ?_ GE111.out) | exact HB.out)) hb)
                clear HO120
                clear HO123
                clear HO133
                clear BK110
                clear BK111
                clear HB
                have HO120 := n0_
                have HO123 := n1_
                have HO133 := n2_
                have BK110 := n3_
                have BK111 := n4_
                have HB := n5_
                clear n0_ n1_ n2_ n3_ n4_ n5_
                (try clear hb)
                (try clear hb2)
                (try clear hk)
                (try clear hi)
                refine hK.out _ _ ⟨(blk_cell BK110.out 0).trans rfl, (blk_cell BK110.out 1).trans rfl, (blk_cell BK110.out 2).trans rfl, (blk_cell BK110.out 3).trans rfl, (blk_cell BK110.out 4).trans rfl, (blk_cell BK110.out 5).trans rfl, (blk_cell BK110.out 6).trans rfl, (blk_cell BK111.out 0).trans rfl, (blk_cell BK111.out 1).trans rfl, (blk_cell BK111.out 2).trans rfl, (blk_cell BK111.out 3).trans rfl, (blk_cell BK111.out 4).trans rfl, (blk_cell BK111.out 5).trans rfl, (blk_cell BK111.out 6).trans rfl⟩ (fun hHeld => ?_)
                clear hK K
                refine norm_ (a' := ?_) ?_ ?_
                rotate_left
                · show Act.put _ (some 37) _ = _
                  simp only [Act.put, List.setIfInBounds_toArray, List.set_cons_zero, List.set_cons_succ, i64_w, i32_w]
                  rfl
                refine pure_ (i := 9) (N := some 38) (v := ?_) (a' := ?_) #[true, true, true, true, true, true, true, true, true, true, false, false, false, false] rfl rfl (any_of HT_.out (by kernel_rfl)) (fun _ _ _ h => h) (Or.inl ⟨by rfl, ?_⟩) ?_ ?_
                rotate_left
                · intro w'
                  go_simp
                  first | with_reducible rfl | struct_eq
                rotate_left
                · simp only [Act.put, List.setIfInBounds_toArray, List.set_cons_zero, List.set_cons_succ, i64_w, i32_w]
                  rfl
                refine pure_ (i := 10) (N := some 39) (v := ?_) (a' := ?_) #[true, true, true, true, true, true, true, true, true, true, true, false, false, false] rfl rfl (any_of HT_.out (by kernel_rfl)) (fun _ _ _ h => h) (Or.inl ⟨by rfl, ?_⟩) ?_ ?_
                rotate_left
                · intro w'
                  go_simp
                  first | with_reducible rfl | struct_eq
                rotate_left
                · simp only [Act.put, List.setIfInBounds_toArray, List.set_cons_zero, List.set_cons_succ, i64_w, i32_w]
                  rfl
                refine one_ (i := 11) (N := some 40) #[true, true, true, true, true, true, true, true, true, true, true, true, false, false] rfl rfl (one_of HT_.out (by kernel_rfl)) (by decide) (fun K hK => ?_)
                refine goes_ Tryd.func13 (by kernel_rfl) rfl #[] (by first | rfl | (refine wanted_on rfl rfl rfl ?_; assumption)) rfl rfl (by (try simp only [List.map_toArray, List.map_cons, List.map_nil]); first | done | rfl | (simp only [List.length_drop, List.length_take]; rfl)) ?_
                with_reducible refine (laws_styled.calls  t148 _ ?side1 A36.out).mono ?_
                (case side1 => exact Go.Proofs.YtifhhejohdmiaaaDoorFmt.VarsOK.below HV.out (by repeat (first | (with_reducible first | exact HB.out | apply below_alloc | apply pw_below_drewN | apply below_drew1 | refine below_set ?_ GE110.out | refine below_set ?_ GE111.out) | exact HB.out)))
                rintro e w53 ⟨rfl, hb⟩
                refine ⟨_, rfl, ?_⟩
                have n0_ := Aside0.mk (Kd.R_below (by (with_reducible repeat (first | apply Kd.R_alloc | apply Kd.R_drewN | apply Kd.R_drew)); exact HO120.out) hb)
                have n1_ := Aside0.mk (Kd.R_below (by (with_reducible repeat (first | apply Kd.R_alloc | apply Kd.R_drewN | apply Kd.R_drew)); exact HO123.out) hb)
                have n2_ := Aside0.mk (Kd.R_below (by (with_reducible repeat (first | apply Kd.R_alloc | apply Kd.R_drewN | apply Kd.R_drew)); exact HO133.out) hb)
                have n3_ := Aside0.mk (blk_below (g := gb110) (o := .cells #[.int .i32 a0_0, .int .i32 a0_1, .int .i32 a0_2, .int .u8 a0_3, .int .u8 a0_4, .int .u8 a0_5, .bool a0_6] 23 (0, 0)) (by (with_reducible repeat (first | refine blk_drewN ?_ _ | refine blk_drew ?_ | refine blk_alloc ?_ _)); exact BK110.out) hb)
                have n4_ := Aside0.mk (blk_below (g := gb111) (o := .cells #[.int .i32 a2_0, .int .i32 a2_1, .int .i32 a2_2, .int .u8 a2_3, .int .u8 a2_4, .int .u8 a2_5, .bool a2_6] 23 (0, 0)) (by (with_reducible repeat (first | refine blk_drewN ?_ _ | refine blk_drew ?_ | refine blk_alloc ?_ _)); exact BK111.out) hb)
                have n5_ := Aside0.mk (below_step (by repeat (first | (with_reducible first | exact HB.out | apply below_alloc | apply pw_below_drewN | apply below_drew1 | refine below_set ?_ GE110.out | refine below_set ?_ GE111.out) | exact HB.out)) hb)
                clear HO120
                clear HO123
                clear HO133
                clear BK110
                clear BK111
                clear HB
                have HO120 := n0_
                have HO123 := n1_
                have HO133 := n2_
                have BK110 := n3_
                have BK111 := n4_
                have HB := n5_
                clear n0_ n1_ n2_ n3_ n4_ n5_
                (try clear hb)
                (try clear hb2)
                (try clear hk)
                (try clear hi)
                refine hK.out _ _ ⟨(blk_cell BK110.out 0).trans rfl, (blk_cell BK110.out 1).trans rfl, (blk_cell BK110.out 2).trans rfl, (blk_cell BK110.out 3).trans rfl, (blk_cell BK110.out 4).trans rfl, (blk_cell BK110.out 5).trans rfl, (blk_cell BK110.out 6).trans rfl, (blk_cell BK111.out 0).trans rfl, (blk_cell BK111.out 1).trans rfl, (blk_cell BK111.out 2).trans rfl, (blk_cell BK111.out 3).trans rfl, (blk_cell BK111.out 4).trans rfl, (blk_cell BK111.out 5).trans rfl, (blk_cell BK111.out 6).trans rfl⟩ (fun hHeld => ?_)
                clear hK K
                refine norm_ (a' := ?_) ?_ ?_
                rotate_left
                · show Act.put _ (some 40) _ = _
                  simp only [Act.put, List.setIfInBounds_toArray, List.set_cons_zero, List.set_cons_succ, i64_w, i32_w]
                  rfl
                refine pure_ (i := 12) (N := some 41) (v := ?_) (a' := ?_) #[true, true, true, true, true, true, true, true, true, true, true, true, true, false] rfl rfl (any_of HT_.out (by kernel_rfl)) (fun _ _ _ h => h) (Or.inl ⟨by rfl, ?_⟩) ?_ ?_
                rotate_left
                · intro w'
                  go_simp
                  first | with_reducible rfl | struct_eq
                rotate_left
                · simp only [Act.put, List.setIfInBounds_toArray, List.set_cons_zero, List.set_cons_succ, i64_w, i32_w]
                  rfl
                refine pure_ (i := 13) (N := some 6) (v := ?_) (a' := ?_) #[true, true, true, true, true, true, true, true, true, true, true, true, true, true] rfl rfl (any_of HT_.out (by kernel_rfl)) (fun _ _ _ h => h) (Or.inl ⟨by rfl, ?_⟩) ?_ ?_
                rotate_left
                · intro w'
                  go_simp
                  first | with_reducible rfl | struct_eq
                rotate_left
                · simp only [Act.put, List.setIfInBounds_toArray, List.set_cons_zero, List.set_cons_succ, i64_w, i32_w]
                  rfl
                refine done_ (done_of HT_.out (by kernel_rfl)) ?_
                try go_wp2
                go_ret
                exact ⟨by first | rfl | (simp [errW_none, errW_some] <;> rfl) | (simp [*, errW_none, errW_some] <;> rfl), by repeat (first | (with_reducible first | exact HB.out | apply below_alloc | apply pw_below_drewN | apply below_drew1 | refine below_set ?_ GE110.out | refine below_set ?_ GE111.out) | exact HB.out)⟩
              · rw [if_neg c35] at H
                have c35b0 : (t124 == t141 && (t125 == t142 && (t126 == t143 && (t127 == t144 && (t128 == t145 && (t129 == t146 && (t130 == t147))))))) = false := by simpa using c35
                (try (have c35b1 : decide (t124 = t141 && (t125 == t142 && (t126 == t143 && (t127 == t144 && (t128 == t145 && (t129 == t146 && (t130 == t147))))))) = false := by simpa using c35))
                (try (have c35b2 : (t124 == t141 && (t125 == t142 && (t126 == t143 && (t127 == t144 && (t128 == t145 && (t129 == t146 && (t130 == t147))))))) = false := by simpa using c35))
                (try (have c35b3 : ¬ (t124 = t141 && (t125 == t142 && (t126 == t143 && (t127 == t144 && (t128 == t145 && (t129 == t146 && (t130 == t147))))))) := by simpa using c35))
                clear c35
                exact absurd ((Option.some.inj H).trans hrT.out) (by decide)
            · rw [if_neg c31] at H
              exact absurd H (by simp)
          · rw [if_neg c30] at H
            exact absurd H (by simp)
def wf_S23 (x : S23) : Prop := (IntKind.i32.min ≤ x.f0 ∧ x.f0 ≤ IntKind.i32.max) ∧ (IntKind.i32.min ≤ x.f1 ∧ x.f1 ≤ IntKind.i32.max) ∧ (IntKind.i32.min ≤ x.f2 ∧ x.f2 ≤ IntKind.i32.max) ∧ (IntKind.u8.min ≤ x.f3 ∧ x.f3 ≤ IntKind.u8.max) ∧ (IntKind.u8.min ≤ x.f4 ∧ x.f4 ≤ IntKind.u8.max) ∧ (IntKind.u8.min ≤ x.f5 ∧ x.f5 ≤ IntKind.u8.max) ∧ (True)
def laws_FnEntryChain.Pure : Prop := ∀ (a0_0 : Int) (a0_1 : Int) (a0_2 : Int) (a0_3 : Int) (a0_4 : Int) (a0_5 : Int) (a0_6 : Bool) (l1 : List (S23)) (a2_0 : Int) (a2_1 : Int) (a2_2 : Int) (a2_3 : Int) (a2_4 : Int) (a2_5 : Int) (a2_6 : Bool), wf_S23 (⟨a0_0, a0_1, a0_2, a0_3, a0_4, a0_5, a0_6⟩ : S23) → (l1.length ≤ 9223372036854775807 ∧ ∀ x ∈ l1, wf_S23 x) → wf_S23 (⟨a2_0, a2_1, a2_2, a2_3, a2_4, a2_5, a2_6⟩ : S23) → ∃ k, laws_FnEntryChain.f k a0_0 a0_1 a0_2 a0_3 a0_4 a0_5 a0_6 l1 a2_0 a2_1 a2_2 a2_3 a2_4 a2_5 a2_6 = some true

end Go.Proofs.YtifhhejohdmiaaaDoor.K
