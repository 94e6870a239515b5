-- WRITTEN BY OUR myprint.py, a program of this session's over the kit's printer
import Derived.Test.YtifhhejohdmiaaaDoorMx0
import Derived.Test.YtifhhejohdmiaaaDoorMx1
namespace Go.Proofs.YtifhhejohdmiaaaDoor.M
open Go.RowKit Go.Proofs.YtifhhejohdmiaaaDoorW.PrintWords Go.Proofs.YtifhhejohdmiaaaDoorW.PrintLast Go.Proofs.YtifhhejohdmiaaaDoorW.PrintMore
attribute [local go_sem] max2_int min2_int max_two min_two max_three min_three max_four min_four   -- for this text's walks alone
set_option linter.unusedVariables false
set_option linter.unusedSimpArgs false

attribute [local go_sem high] eqA23
/-! ### impl_entered: function 27 -/
def impl_entered.f (a0_0 : Int) (a0_1 : Int) (a0_2 : Int) (a0_3 : Int) (a0_4 : Int) (a0_5 : Int) (a0_6 : Bool) : Option (Int × Int × Int × Int × Int × Int × Bool) := some (a0_0, a0_1, a0_2, a0_3, a0_4, a0_5, a0_6)
set_option maxHeartbeats 8000000 in
set_option maxRecDepth 100000 in
theorem impl_entered.calls (a0_0 : Int) (a0_1 : Int) (a0_2 : Int) (a0_3 : Int) (a0_4 : Int) (a0_5 : Int) (a0_6 : Bool) (r1 : Int) (r2 : Int) (r3 : Int) (r4 : Int) (r5 : Int) (r6 : Int) (r7 : Bool) (w : World) (h : impl_entered.f a0_0 a0_1 a0_2 a0_3 a0_4 a0_5 a0_6 = some (r1, r2, r3, r4, r5, r6, r7)) :
    Calls Tryd.prog 27 #[.agg #[.int .i32 a0_0, .int .i32 a0_1, .int .i32 a0_2, .int .u8 a0_3, .int .u8 a0_4, .int .u8 a0_5, .bool a0_6]] w fun e w' => e = .returned (.agg #[.int .i32 r1, .int .i32 r2, .int .i32 r3, .int .u8 r4, .int .u8 r5, .int .u8 r6, .bool r7]) ∧ Below w.heap.size w w' := by
  have hu23 := Tryd.underlying23
  have hu57 := Tryd.underlying57
  have HB := Aside0.mk (Below.refl w.heap.size w)
  have H : (some (a0_0, a0_1, a0_2, a0_3, a0_4, a0_5, a0_6)) = some (r1, r2, r3, r4, r5, r6, r7) := h
  clear h
  simp only [Option.some.injEq, Prod.mk.injEq] at H
  obtain ⟨rfl, rfl, rfl, rfl, rfl, rfl, rfl⟩ := H
  go_enter Tryd.func27, Tryd.ntmps27
  go_wp2_with (first | ((with_reducible refine gate_dst (N := 1) rfl ?_); refine box_event ?hg (N := 1) ?hd (cs := #[.int .i32 a0_0, .int .i32 a0_1, .int .i32 a0_2, .int .u8 a0_3, .int .u8 a0_4, .int .u8 a0_5, .bool a0_6]) (t := 23) ?hr ?_; (case hd => rfl); (case hg => rfl); (case hr => first | (go_simp; done) | (go_simp; rfl)); intro gb101 hg w2 hbox hb; have n0_ := Aside0.mk (below_step (by repeat (first | (with_reducible first | exact HB.out | apply below_alloc | apply pw_below_drewN | apply below_drew1) | exact HB.out)) hb); have n1_ := Aside0.mk (hbox); have n2_ := Aside0.mk ((by rw [hg]; exact (below_size (by repeat (first | (with_reducible first | exact HB.out | apply below_alloc | apply pw_below_drewN | apply below_drew1) | exact HB.out))) : w.heap.size ≤ gb101)); have n3_ := Aside0.mk ((by rw [hg]; exact (below_size (by repeat (first | (with_reducible first | exact HB.out | apply below_alloc | apply pw_below_drewN | apply below_drew1) | exact HB.out))) : w.heap.size ≤ gb101)); clear HB; have HB := n0_; have BK101 := n1_; have GW101 := n2_; have GE101 := n3_; clear n0_ n1_ n2_ n3_; clear hb hbox hg) | ((with_reducible refine gate_dst (N := 2) rfl ?_); refine box_event ?hg (N := 2) ?hd (cs := #[.int .i32 0, .int .i32 0, .int .i32 0, .int .u8 0, .int .u8 0, .int .u8 0, .bool false]) (t := 57) ?hr ?_; (case hd => rfl); (case hg => rfl); (case hr => first | (go_simp; done) | (go_simp; rfl)); intro gb102 hg w3 hbox hb; have n0_ := Aside0.mk (blk_below (g := gb101) (o := .cells #[.int .i32 a0_0, .int .i32 a0_1, .int .i32 a0_2, .int .u8 a0_3, .int .u8 a0_4, .int .u8 a0_5, .bool a0_6] 23 (0, 0)) (by (with_reducible repeat (first | refine blk_drewN ?_ _ | refine blk_drew ?_ | refine blk_alloc ?_ _)); exact BK101.out) hb); have n1_ := Aside0.mk (below_step (by repeat (first | (with_reducible first | exact HB.out | apply below_alloc | apply pw_below_drewN | apply below_drew1 | refine below_set ?_ GE101.out) | exact HB.out)) hb); have n2_ := Aside0.mk (hbox); have n3_ := Aside0.mk ((by rw [hg]; exact (below_size (by repeat (first | (with_reducible first | exact HB.out | apply below_alloc | apply pw_below_drewN | apply below_drew1 | refine below_set ?_ GE101.out) | exact HB.out))) : w.heap.size ≤ gb102)); have n4_ := Aside0.mk ((by rw [hg]; exact (below_size (by repeat (first | (with_reducible first | exact HB.out | apply below_alloc | apply pw_below_drewN | apply below_drew1 | refine below_set ?_ GE101.out) | exact HB.out))) : w.heap.size ≤ gb102)); have n5_ := Aside0.mk ((by rw [hg]; exact Nat.ne_of_lt (blk_lt (g := gb101) (o := .cells #[.int .i32 a0_0, .int .i32 a0_1, .int .i32 a0_2, .int .u8 a0_3, .int .u8 a0_4, .int .u8 a0_5, .bool a0_6] 23 (0, 0)) (by (with_reducible repeat (first | refine blk_drewN ?_ _ | refine blk_drew ?_ | refine blk_alloc ?_ _)); exact BK101.out)) : gb101 ≠ gb102)); have n6_ := Aside0.mk ((by rw [hg]; exact Nat.ne_of_gt (blk_lt (g := gb101) (o := .cells #[.int .i32 a0_0, .int .i32 a0_1, .int .i32 a0_2, .int .u8 a0_3, .int .u8 a0_4, .int .u8 a0_5, .bool a0_6] 23 (0, 0)) (by (with_reducible repeat (first | refine blk_drewN ?_ _ | refine blk_drew ?_ | refine blk_alloc ?_ _)); exact BK101.out)) : gb102 ≠ gb101)); clear BK101; clear HB; have BK101 := n0_; have HB := n1_; have BK102 := n2_; have GW102 := n3_; have GE102 := n4_; have NB101_102 := n5_; have NB102_101 := n6_; clear n0_ n1_ n2_ n3_ n4_ n5_ n6_; clear hb hbox hg; have hnb4 := NB101_102.out; have hnc4 := NB102_101.out; have hcz5_0 : w3.cell? ⟨gb101, 0, none⟩ = some (.int .i32 a0_0) := (blk_cell BK101.out 0).trans rfl; have hcz5_1 : w3.cell? ⟨gb101, 1, none⟩ = some (.int .i32 a0_1) := (blk_cell BK101.out 1).trans rfl; have hcz5_2 : w3.cell? ⟨gb101, 2, none⟩ = some (.int .i32 a0_2) := (blk_cell BK101.out 2).trans rfl; have hcz5_3 : w3.cell? ⟨gb101, 3, none⟩ = some (.int .u8 a0_3) := (blk_cell BK101.out 3).trans rfl; have hcz5_4 : w3.cell? ⟨gb101, 4, none⟩ = some (.int .u8 a0_4) := (blk_cell BK101.out 4).trans rfl; have hcz5_5 : w3.cell? ⟨gb101, 5, none⟩ = some (.int .u8 a0_5) := (blk_cell BK101.out 5).trans rfl; have hcz5_6 : w3.cell? ⟨gb101, 6, none⟩ = some (.bool a0_6) := (blk_cell BK101.out 6).trans rfl; have hfz5_0 := blk_frozen BK101.out 0; have hfz5_1 := blk_frozen BK101.out 1; have hfz5_2 := blk_frozen BK101.out 2; have hfz5_3 := blk_frozen BK101.out 3; have hfz5_4 := blk_frozen BK101.out 4; have hfz5_5 := blk_frozen BK101.out 5; have hfz5_6 := blk_frozen BK101.out 6; have hcz6_0 : w3.cell? ⟨gb102, 0, none⟩ = some (.int .i32 0) := (blk_cell BK102.out 0).trans rfl; have hcz6_1 : w3.cell? ⟨gb102, 1, none⟩ = some (.int .i32 0) := (blk_cell BK102.out 1).trans rfl; have hcz6_2 : w3.cell? ⟨gb102, 2, none⟩ = some (.int .i32 0) := (blk_cell BK102.out 2).trans rfl; have hcz6_3 : w3.cell? ⟨gb102, 3, none⟩ = some (.int .u8 0) := (blk_cell BK102.out 3).trans rfl; have hcz6_4 : w3.cell? ⟨gb102, 4, none⟩ = some (.int .u8 0) := (blk_cell BK102.out 4).trans rfl; have hcz6_5 : w3.cell? ⟨gb102, 5, none⟩ = some (.int .u8 0) := (blk_cell BK102.out 5).trans rfl; have hcz6_6 : w3.cell? ⟨gb102, 6, none⟩ = some (.bool false) := (blk_cell BK102.out 6).trans rfl; have hfz6_0 := blk_frozen BK102.out 0; have hfz6_1 := blk_frozen BK102.out 1; have hfz6_2 := blk_frozen BK102.out 2; have hfz6_3 := blk_frozen BK102.out 3; have hfz6_4 := blk_frozen BK102.out 4; have hfz6_5 := blk_frozen BK102.out 5; have hfz6_6 := blk_frozen BK102.out 6))
  refine bodyPost_ret (results_cell_row rfl _ _ gb102 57 #[.int .i32 a0_0, .int .i32 a0_1, .int .i32 a0_2, .int .u8 a0_3, .int .u8 a0_4, .int .u8 a0_5, .bool a0_6] (0, 0) _ rfl (by (with_reducible repeat (first | refine blk_drewN ?_ _ | refine blk_drew ?_ | refine blk_alloc ?_ _)); refine blk_put (cs := #[.int .i32 a0_0, .int .i32 a0_1, .int .i32 a0_2, .int .u8 a0_3, .int .u8 a0_4, .int .u8 a0_5, .bool false]) ?_ 6 _ rfl; (with_reducible repeat (first | refine blk_drewN ?_ _ | refine blk_drew ?_ | refine blk_alloc ?_ _)); refine blk_put (cs := #[.int .i32 a0_0, .int .i32 a0_1, .int .i32 a0_2, .int .u8 a0_3, .int .u8 a0_4, .int .u8 0, .bool false]) ?_ 5 _ rfl; (with_reducible repeat (first | refine blk_drewN ?_ _ | refine blk_drew ?_ | refine blk_alloc ?_ _)); refine blk_put (cs := #[.int .i32 a0_0, .int .i32 a0_1, .int .i32 a0_2, .int .u8 a0_3, .int .u8 0, .int .u8 0, .bool false]) ?_ 4 _ rfl; (with_reducible repeat (first | refine blk_drewN ?_ _ | refine blk_drew ?_ | refine blk_alloc ?_ _)); refine blk_put (cs := #[.int .i32 a0_0, .int .i32 a0_1, .int .i32 a0_2, .int .u8 0, .int .u8 0, .int .u8 0, .bool false]) ?_ 3 _ rfl; (with_reducible repeat (first | refine blk_drewN ?_ _ | refine blk_drew ?_ | refine blk_alloc ?_ _)); refine blk_put (cs := #[.int .i32 a0_0, .int .i32 a0_1, .int .i32 0, .int .u8 0, .int .u8 0, .int .u8 0, .bool false]) ?_ 2 _ rfl; (with_reducible repeat (first | refine blk_drewN ?_ _ | refine blk_drew ?_ | refine blk_alloc ?_ _)); refine blk_put (cs := #[.int .i32 a0_0, .int .i32 0, .int .i32 0, .int .u8 0, .int .u8 0, .int .u8 0, .bool false]) ?_ 1 _ rfl; (with_reducible repeat (first | refine blk_drewN ?_ _ | refine blk_drew ?_ | refine blk_alloc ?_ _)); refine blk_put (cs := #[.int .i32 0, .int .i32 0, .int .i32 0, .int .u8 0, .int .u8 0, .int .u8 0, .bool false]) ?_ 0 _ rfl; (with_reducible repeat (first | refine blk_drewN ?_ _ | refine blk_drew ?_ | refine blk_alloc ?_ _)); exact BK102.out) Tryd.underlying57 rfl (by kernel_rfl)) rfl ?_
  exact ⟨by first | rfl | (simp [errW_none, errW_some] <;> rfl) | (simp [*, errW_none, errW_some] <;> rfl), by repeat (first | (with_reducible first | exact HB.out | apply below_alloc | apply pw_below_drewN | apply below_drew1 | refine below_set ?_ GE101.out | refine below_set ?_ GE102.out) | exact HB.out)⟩

/-! ### chroma_StyleEntry_IsZero: function 28 -/
def chroma_StyleEntry_IsZero.f (a0_0 : Int) (a0_1 : Int) (a0_2 : Int) (a0_3 : Int) (a0_4 : Int) (a0_5 : Int) (a0_6 : Bool) : Option (Bool) := if a0_0 = 0 then (if a0_1 = 0 then (if a0_2 = 0 then (if a0_3 = 0 then (if a0_4 = 0 then (if a0_5 = 0 then (some (!a0_6)) else (some false)) else (some false)) else (some false)) else (some false)) else (some false)) else (some false)
set_option maxHeartbeats 8000000 in
set_option maxRecDepth 100000 in
theorem chroma_StyleEntry_IsZero.calls (a0_0 : Int) (a0_1 : Int) (a0_2 : Int) (a0_3 : Int) (a0_4 : Int) (a0_5 : Int) (a0_6 : Bool) (r : Bool) (w : World) (h : chroma_StyleEntry_IsZero.f a0_0 a0_1 a0_2 a0_3 a0_4 a0_5 a0_6 = some r) :
    Calls Tryd.prog 28 #[.agg #[.int .i32 a0_0, .int .i32 a0_1, .int .i32 a0_2, .int .u8 a0_3, .int .u8 a0_4, .int .u8 a0_5, .bool a0_6]] w fun e w' => e = .returned (.bool r) ∧ Below w.heap.size w w' := by
  have hu57 := Tryd.underlying57
  have HB := Aside0.mk (Below.refl w.heap.size w)
  have H : (if a0_0 = 0 then (if a0_1 = 0 then (if a0_2 = 0 then (if a0_3 = 0 then (if a0_4 = 0 then (if a0_5 = 0 then (some (!a0_6)) else (some false)) else (some false)) else (some false)) else (some false)) else (some false)) else (some false)) = some r := h
  clear h
  by_cases c2 : a0_0 = 0
  · rw [if_pos c2] at H
    have c2b0 : (a0_0 == 0) = true := beq_iff_eq.mpr c2
    have c2b1 : (a0_0 != 0) = false := bne_eq_false_iff_eq.mpr c2
    clear c2
    by_cases c3 : a0_1 = 0
    · rw [if_pos c3] at H
      have c3b0 : (a0_1 == 0) = true := beq_iff_eq.mpr c3
      have c3b1 : (a0_1 != 0) = false := bne_eq_false_iff_eq.mpr c3
      clear c3
      by_cases c4 : a0_2 = 0
      · rw [if_pos c4] at H
        have c4b0 : (a0_2 == 0) = true := beq_iff_eq.mpr c4
        have c4b1 : (a0_2 != 0) = false := bne_eq_false_iff_eq.mpr c4
        clear c4
        by_cases c5 : a0_3 = 0
        · rw [if_pos c5] at H
          have c5b0 : (a0_3 == 0) = true := beq_iff_eq.mpr c5
          have c5b1 : (a0_3 != 0) = false := bne_eq_false_iff_eq.mpr c5
          clear c5
          by_cases c6 : a0_4 = 0
          · rw [if_pos c6] at H
            have c6b0 : (a0_4 == 0) = true := beq_iff_eq.mpr c6
            have c6b1 : (a0_4 != 0) = false := bne_eq_false_iff_eq.mpr c6
            clear c6
            by_cases c7 : a0_5 = 0
            · rw [if_pos c7] at H
              have c7b0 : (a0_5 == 0) = true := beq_iff_eq.mpr c7
              have c7b1 : (a0_5 != 0) = false := bne_eq_false_iff_eq.mpr c7
              clear c7
              obtain rfl := Option.some.inj H
              go_enter Tryd.func28, Tryd.ntmps28
              go_wp2_with (first | ((with_reducible refine gate_dst (N := 1) rfl ?_); refine box_event ?hg (N := 1) ?hd (cs := #[.int .i32 a0_0, .int .i32 a0_1, .int .i32 a0_2, .int .u8 a0_3, .int .u8 a0_4, .int .u8 a0_5, .bool a0_6]) (t := 57) ?hr ?_; (case hd => rfl); (case hg => rfl); (case hr => first | (go_simp; done) | (go_simp; rfl)); intro gb103 hg w8 hbox hb; have n0_ := Aside0.mk (below_step (by repeat (first | (with_reducible first | exact HB.out | apply below_alloc | apply pw_below_drewN | apply below_drew1) | exact HB.out)) hb); have n1_ := Aside0.mk (hbox); have n2_ := Aside0.mk ((by rw [hg]; exact (below_size (by repeat (first | (with_reducible first | exact HB.out | apply below_alloc | apply pw_below_drewN | apply below_drew1) | exact HB.out))) : w.heap.size ≤ gb103)); have n3_ := Aside0.mk ((by rw [hg]; exact (below_size (by repeat (first | (with_reducible first | exact HB.out | apply below_alloc | apply pw_below_drewN | apply below_drew1) | exact HB.out))) : w.heap.size ≤ gb103)); clear HB; have HB := n0_; have BK103 := n1_; have GW103 := n2_; have GE103 := n3_; clear n0_ n1_ n2_ n3_; clear hb hbox hg; have hcz9_0 : w8.cell? ⟨gb103, 0, none⟩ = some (.int .i32 a0_0) := (blk_cell BK103.out 0).trans rfl; have hcz9_1 : w8.cell? ⟨gb103, 1, none⟩ = some (.int .i32 a0_1) := (blk_cell BK103.out 1).trans rfl; have hcz9_2 : w8.cell? ⟨gb103, 2, none⟩ = some (.int .i32 a0_2) := (blk_cell BK103.out 2).trans rfl; have hcz9_3 : w8.cell? ⟨gb103, 3, none⟩ = some (.int .u8 a0_3) := (blk_cell BK103.out 3).trans rfl; have hcz9_4 : w8.cell? ⟨gb103, 4, none⟩ = some (.int .u8 a0_4) := (blk_cell BK103.out 4).trans rfl; have hcz9_5 : w8.cell? ⟨gb103, 5, none⟩ = some (.int .u8 a0_5) := (blk_cell BK103.out 5).trans rfl; have hcz9_6 : w8.cell? ⟨gb103, 6, none⟩ = some (.bool a0_6) := (blk_cell BK103.out 6).trans rfl; have hfz9_0 := blk_frozen BK103.out 0; have hfz9_1 := blk_frozen BK103.out 1; have hfz9_2 := blk_frozen BK103.out 2; have hfz9_3 := blk_frozen BK103.out 3; have hfz9_4 := blk_frozen BK103.out 4; have hfz9_5 := blk_frozen BK103.out 5; have hfz9_6 := blk_frozen BK103.out 6))
              go_ret
              exact ⟨by first | rfl | (simp [errW_none, errW_some] <;> rfl) | (simp [*, errW_none, errW_some] <;> rfl), by repeat (first | (with_reducible first | exact HB.out | apply below_alloc | apply pw_below_drewN | apply below_drew1 | refine below_set ?_ GE103.out) | exact HB.out)⟩
            · rw [if_neg c7] at H
              have c7b0 : (a0_5 == 0) = false := beq_eq_false_iff_ne.mpr c7
              have c7b1 : (a0_5 != 0) = true := bne_iff_ne.mpr c7
              obtain rfl := Option.some.inj H
              go_enter Tryd.func28, Tryd.ntmps28
              go_wp2_with (first | ((with_reducible refine gate_dst (N := 1) rfl ?_); refine box_event ?hg (N := 1) ?hd (cs := #[.int .i32 a0_0, .int .i32 a0_1, .int .i32 a0_2, .int .u8 a0_3, .int .u8 a0_4, .int .u8 a0_5, .bool a0_6]) (t := 57) ?hr ?_; (case hd => rfl); (case hg => rfl); (case hr => first | (go_simp; done) | (go_simp; rfl)); intro gb103 hg w10 hbox hb; have n0_ := Aside0.mk (below_step (by repeat (first | (with_reducible first | exact HB.out | apply below_alloc | apply pw_below_drewN | apply below_drew1) | exact HB.out)) hb); have n1_ := Aside0.mk (hbox); have n2_ := Aside0.mk ((by rw [hg]; exact (below_size (by repeat (first | (with_reducible first | exact HB.out | apply below_alloc | apply pw_below_drewN | apply below_drew1) | exact HB.out))) : w.heap.size ≤ gb103)); have n3_ := Aside0.mk ((by rw [hg]; exact (below_size (by repeat (first | (with_reducible first | exact HB.out | apply below_alloc | apply pw_below_drewN | apply below_drew1) | exact HB.out))) : w.heap.size ≤ gb103)); clear HB; have HB := n0_; have BK103 := n1_; have GW103 := n2_; have GE103 := n3_; clear n0_ n1_ n2_ n3_; clear hb hbox hg; have hcz11_0 : w10.cell? ⟨gb103, 0, none⟩ = some (.int .i32 a0_0) := (blk_cell BK103.out 0).trans rfl; have hcz11_1 : w10.cell? ⟨gb103, 1, none⟩ = some (.int .i32 a0_1) := (blk_cell BK103.out 1).trans rfl; have hcz11_2 : w10.cell? ⟨gb103, 2, none⟩ = some (.int .i32 a0_2) := (blk_cell BK103.out 2).trans rfl; have hcz11_3 : w10.cell? ⟨gb103, 3, none⟩ = some (.int .u8 a0_3) := (blk_cell BK103.out 3).trans rfl; have hcz11_4 : w10.cell? ⟨gb103, 4, none⟩ = some (.int .u8 a0_4) := (blk_cell BK103.out 4).trans rfl; have hcz11_5 : w10.cell? ⟨gb103, 5, none⟩ = some (.int .u8 a0_5) := (blk_cell BK103.out 5).trans rfl; have hcz11_6 : w10.cell? ⟨gb103, 6, none⟩ = some (.bool a0_6) := (blk_cell BK103.out 6).trans rfl; have hfz11_0 := blk_frozen BK103.out 0; have hfz11_1 := blk_frozen BK103.out 1; have hfz11_2 := blk_frozen BK103.out 2; have hfz11_3 := blk_frozen BK103.out 3; have hfz11_4 := blk_frozen BK103.out 4; have hfz11_5 := blk_frozen BK103.out 5; have hfz11_6 := blk_frozen BK103.out 6))
              go_ret
              exact ⟨by first | rfl | (simp [errW_none, errW_some] <;> rfl) | (simp [*, errW_none, errW_some] <;> rfl), by repeat (first | (with_reducible first | exact HB.out | apply below_alloc | apply pw_below_drewN | apply below_drew1 | refine below_set ?_ GE103.out) | exact HB.out)⟩
          · rw [if_neg c6] at H
            have c6b0 : (a0_4 == 0) = false := beq_eq_false_iff_ne.mpr c6
            have c6b1 : (a0_4 != 0) = true := bne_iff_ne.mpr c6
            obtain rfl := Option.some.inj H
            go_enter Tryd.func28, Tryd.ntmps28
            go_wp2_with (first | ((with_reducible refine gate_dst (N := 1) rfl ?_); refine box_event ?hg (N := 1) ?hd (cs := #[.int .i32 a0_0, .int .i32 a0_1, .int .i32 a0_2, .int .u8 a0_3, .int .u8 a0_4, .int .u8 a0_5, .bool a0_6]) (t := 57) ?hr ?_; (case hd => rfl); (case hg => rfl); (case hr => first | (go_simp; done) | (go_simp; rfl)); intro gb103 hg w12 hbox hb; have n0_ := Aside0.mk (below_step (by repeat (first | (with_reducible first | exact HB.out | apply below_alloc | apply pw_below_drewN | apply below_drew1) | exact HB.out)) hb); have n1_ := Aside0.mk (hbox); have n2_ := Aside0.mk ((by rw [hg]; exact (below_size (by repeat (first | (with_reducible first | exact HB.out | apply below_alloc | apply pw_below_drewN | apply below_drew1) | exact HB.out))) : w.heap.size ≤ gb103)); have n3_ := Aside0.mk ((by rw [hg]; exact (below_size (by repeat (first | (with_reducible first | exact HB.out | apply below_alloc | apply pw_below_drewN | apply below_drew1) | exact HB.out))) : w.heap.size ≤ gb103)); clear HB; have HB := n0_; have BK103 := n1_; have GW103 := n2_; have GE103 := n3_; clear n0_ n1_ n2_ n3_; clear hb hbox hg; have hcz13_0 : w12.cell? ⟨gb103, 0, none⟩ = some (.int .i32 a0_0) := (blk_cell BK103.out 0).trans rfl; have hcz13_1 : w12.cell? ⟨gb103, 1, none⟩ = some (.int .i32 a0_1) := (blk_cell BK103.out 1).trans rfl; have hcz13_2 : w12.cell? ⟨gb103, 2, none⟩ = some (.int .i32 a0_2) := (blk_cell BK103.out 2).trans rfl; have hcz13_3 : w12.cell? ⟨gb103, 3, none⟩ = some (.int .u8 a0_3) := (blk_cell BK103.out 3).trans rfl; have hcz13_4 : w12.cell? ⟨gb103, 4, none⟩ = some (.int .u8 a0_4) := (blk_cell BK103.out 4).trans rfl; have hcz13_5 : w12.cell? ⟨gb103, 5, none⟩ = some (.int .u8 a0_5) := (blk_cell BK103.out 5).trans rfl; have hcz13_6 : w12.cell? ⟨gb103, 6, none⟩ = some (.bool a0_6) := (blk_cell BK103.out 6).trans rfl; have hfz13_0 := blk_frozen BK103.out 0; have hfz13_1 := blk_frozen BK103.out 1; have hfz13_2 := blk_frozen BK103.out 2; have hfz13_3 := blk_frozen BK103.out 3; have hfz13_4 := blk_frozen BK103.out 4; have hfz13_5 := blk_frozen BK103.out 5; have hfz13_6 := blk_frozen BK103.out 6))
            go_ret
            exact ⟨by first | rfl | (simp [errW_none, errW_some] <;> rfl) | (simp [*, errW_none, errW_some] <;> rfl), by repeat (first | (with_reducible first | exact HB.out | apply below_alloc | apply pw_below_drewN | apply below_drew1 | refine below_set ?_ GE103.out) | exact HB.out)⟩
        · rw [if_neg c5] at H
          have c5b0 : (a0_3 == 0) = false := beq_eq_false_iff_ne.mpr c5
          have c5b1 : (a0_3 != 0) = true := bne_iff_ne.mpr c5
          obtain rfl := Option.some.inj H
          go_enter Tryd.func28, Tryd.ntmps28
          go_wp2_with (first | ((with_reducible refine gate_dst (N := 1) rfl ?_); refine box_event ?hg (N := 1) ?hd (cs := #[.int .i32 a0_0, .int .i32 a0_1, .int .i32 a0_2, .int .u8 a0_3, .int .u8 a0_4, .int .u8 a0_5, .bool a0_6]) (t := 57) ?hr ?_; (case hd => rfl); (case hg => rfl); (case hr => first | (go_simp; done) | (go_simp; rfl)); intro gb103 hg w14 hbox hb; have n0_ := Aside0.mk (below_step (by repeat (first | (with_reducible first | exact HB.out | apply below_alloc | apply pw_below_drewN | apply below_drew1) | exact HB.out)) hb); have n1_ := Aside0.mk (hbox); have n2_ := Aside0.mk ((by rw [hg]; exact (below_size (by repeat (first | (with_reducible first | exact HB.out | apply below_alloc | apply pw_below_drewN | apply below_drew1) | exact HB.out))) : w.heap.size ≤ gb103)); have n3_ := Aside0.mk ((by rw [hg]; exact (below_size (by repeat (first | (with_reducible first | exact HB.out | apply below_alloc | apply pw_below_drewN | apply below_drew1) | exact HB.out))) : w.heap.size ≤ gb103)); clear HB; have HB := n0_; have BK103 := n1_; have GW103 := n2_; have GE103 := n3_; clear n0_ n1_ n2_ n3_; clear hb hbox hg; have hcz15_0 : w14.cell? ⟨gb103, 0, none⟩ = some (.int .i32 a0_0) := (blk_cell BK103.out 0).trans rfl; have hcz15_1 : w14.cell? ⟨gb103, 1, none⟩ = some (.int .i32 a0_1) := (blk_cell BK103.out 1).trans rfl; have hcz15_2 : w14.cell? ⟨gb103, 2, none⟩ = some (.int .i32 a0_2) := (blk_cell BK103.out 2).trans rfl; have hcz15_3 : w14.cell? ⟨gb103, 3, none⟩ = some (.int .u8 a0_3) := (blk_cell BK103.out 3).trans rfl; have hcz15_4 : w14.cell? ⟨gb103, 4, none⟩ = some (.int .u8 a0_4) := (blk_cell BK103.out 4).trans rfl; have hcz15_5 : w14.cell? ⟨gb103, 5, none⟩ = some (.int .u8 a0_5) := (blk_cell BK103.out 5).trans rfl; have hcz15_6 : w14.cell? ⟨gb103, 6, none⟩ = some (.bool a0_6) := (blk_cell BK103.out 6).trans rfl; have hfz15_0 := blk_frozen BK103.out 0; have hfz15_1 := blk_frozen BK103.out 1; have hfz15_2 := blk_frozen BK103.out 2; have hfz15_3 := blk_frozen BK103.out 3; have hfz15_4 := blk_frozen BK103.out 4; have hfz15_5 := blk_frozen BK103.out 5; have hfz15_6 := blk_frozen BK103.out 6))
          go_ret
          exact ⟨by first | rfl | (simp [errW_none, errW_some] <;> rfl) | (simp [*, errW_none, errW_some] <;> rfl), by repeat (first | (with_reducible first | exact HB.out | apply below_alloc | apply pw_below_drewN | apply below_drew1 | refine below_set ?_ GE103.out) | exact HB.out)⟩
      · rw [if_neg c4] at H
        have c4b0 : (a0_2 == 0) = false := beq_eq_false_iff_ne.mpr c4
        have c4b1 : (a0_2 != 0) = true := bne_iff_ne.mpr c4
        obtain rfl := Option.some.inj H
        go_enter Tryd.func28, Tryd.ntmps28
        go_wp2_with (first | ((with_reducible refine gate_dst (N := 1) rfl ?_); refine box_event ?hg (N := 1) ?hd (cs := #[.int .i32 a0_0, .int .i32 a0_1, .int .i32 a0_2, .int .u8 a0_3, .int .u8 a0_4, .int .u8 a0_5, .bool a0_6]) (t := 57) ?hr ?_; (case hd => rfl); (case hg => rfl); (case hr => first | (go_simp; done) | (go_simp; rfl)); intro gb103 hg w16 hbox hb; have n0_ := Aside0.mk (below_step (by repeat (first | (with_reducible first | exact HB.out | apply below_alloc | apply pw_below_drewN | apply below_drew1) | exact HB.out)) hb); have n1_ := Aside0.mk (hbox); have n2_ := Aside0.mk ((by rw [hg]; exact (below_size (by repeat (first | (with_reducible first | exact HB.out | apply below_alloc | apply pw_below_drewN | apply below_drew1) | exact HB.out))) : w.heap.size ≤ gb103)); have n3_ := Aside0.mk ((by rw [hg]; exact (below_size (by repeat (first | (with_reducible first | exact HB.out | apply below_alloc | apply pw_below_drewN | apply below_drew1) | exact HB.out))) : w.heap.size ≤ gb103)); clear HB; have HB := n0_; have BK103 := n1_; have GW103 := n2_; have GE103 := n3_; clear n0_ n1_ n2_ n3_; clear hb hbox hg; have hcz17_0 : w16.cell? ⟨gb103, 0, none⟩ = some (.int .i32 a0_0) := (blk_cell BK103.out 0).trans rfl; have hcz17_1 : w16.cell? ⟨gb103, 1, none⟩ = some (.int .i32 a0_1) := (blk_cell BK103.out 1).trans rfl; have hcz17_2 : w16.cell? ⟨gb103, 2, none⟩ = some (.int .i32 a0_2) := (blk_cell BK103.out 2).trans rfl; have hcz17_3 : w16.cell? ⟨gb103, 3, none⟩ = some (.int .u8 a0_3) := (blk_cell BK103.out 3).trans rfl; have hcz17_4 : w16.cell? ⟨gb103, 4, none⟩ = some (.int .u8 a0_4) := (blk_cell BK103.out 4).trans rfl; have hcz17_5 : w16.cell? ⟨gb103, 5, none⟩ = some (.int .u8 a0_5) := (blk_cell BK103.out 5).trans rfl; have hcz17_6 : w16.cell? ⟨gb103, 6, none⟩ = some (.bool a0_6) := (blk_cell BK103.out 6).trans rfl; have hfz17_0 := blk_frozen BK103.out 0; have hfz17_1 := blk_frozen BK103.out 1; have hfz17_2 := blk_frozen BK103.out 2; have hfz17_3 := blk_frozen BK103.out 3; have hfz17_4 := blk_frozen BK103.out 4; have hfz17_5 := blk_frozen BK103.out 5; have hfz17_6 := blk_frozen BK103.out 6))
        go_ret
        exact ⟨by first | rfl | (simp [errW_none, errW_some] <;> rfl) | (simp [*, errW_none, errW_some] <;> rfl), by repeat (first | (with_reducible first | exact HB.out | apply below_alloc | apply pw_below_drewN | apply below_drew1 | refine below_set ?_ GE103.out) | exact HB.out)⟩
    · rw [if_neg c3] at H
      have c3b0 : (a0_1 == 0) = false := beq_eq_false_iff_ne.mpr c3
      have c3b1 : (a0_1 != 0) = true := bne_iff_ne.mpr c3
      obtain rfl := Option.some.inj H
      go_enter Tryd.func28, Tryd.ntmps28
      go_wp2_with (first | ((with_reducible refine gate_dst (N := 1) rfl ?_); refine box_event ?hg (N := 1) ?hd (cs := #[.int .i32 a0_0, .int .i32 a0_1, .int .i32 a0_2, .int .u8 a0_3, .int .u8 a0_4, .int .u8 a0_5, .bool a0_6]) (t := 57) ?hr ?_; (case hd => rfl); (case hg => rfl); (case hr => first | (go_simp; done) | (go_simp; rfl)); intro gb103 hg w18 hbox hb; have n0_ := Aside0.mk (below_step (by repeat (first | (with_reducible first | exact HB.out | apply below_alloc | apply pw_below_drewN | apply below_drew1) | exact HB.out)) hb); have n1_ := Aside0.mk (hbox); have n2_ := Aside0.mk ((by rw [hg]; exact (below_size (by repeat (first | (with_reducible first | exact HB.out | apply below_alloc | apply pw_below_drewN | apply below_drew1) | exact HB.out))) : w.heap.size ≤ gb103)); have n3_ := Aside0.mk ((by rw [hg]; exact (below_size (by repeat (first | (with_reducible first | exact HB.out | apply below_alloc | apply pw_below_drewN | apply below_drew1) | exact HB.out))) : w.heap.size ≤ gb103)); clear HB; have HB := n0_; have BK103 := n1_; have GW103 := n2_; have GE103 := n3_; clear n0_ n1_ n2_ n3_; clear hb hbox hg; have hcz19_0 : w18.cell? ⟨gb103, 0, none⟩ = some (.int .i32 a0_0) := (blk_cell BK103.out 0).trans rfl; have hcz19_1 : w18.cell? ⟨gb103, 1, none⟩ = some (.int .i32 a0_1) := (blk_cell BK103.out 1).trans rfl; have hcz19_2 : w18.cell? ⟨gb103, 2, none⟩ = some (.int .i32 a0_2) := (blk_cell BK103.out 2).trans rfl; have hcz19_3 : w18.cell? ⟨gb103, 3, none⟩ = some (.int .u8 a0_3) := (blk_cell BK103.out 3).trans rfl; have hcz19_4 : w18.cell? ⟨gb103, 4, none⟩ = some (.int .u8 a0_4) := (blk_cell BK103.out 4).trans rfl; have hcz19_5 : w18.cell? ⟨gb103, 5, none⟩ = some (.int .u8 a0_5) := (blk_cell BK103.out 5).trans rfl; have hcz19_6 : w18.cell? ⟨gb103, 6, none⟩ = some (.bool a0_6) := (blk_cell BK103.out 6).trans rfl; have hfz19_0 := blk_frozen BK103.out 0; have hfz19_1 := blk_frozen BK103.out 1; have hfz19_2 := blk_frozen BK103.out 2; have hfz19_3 := blk_frozen BK103.out 3; have hfz19_4 := blk_frozen BK103.out 4; have hfz19_5 := blk_frozen BK103.out 5; have hfz19_6 := blk_frozen BK103.out 6))
      go_ret
      exact ⟨by first | rfl | (simp [errW_none, errW_some] <;> rfl) | (simp [*, errW_none, errW_some] <;> rfl), by repeat (first | (with_reducible first | exact HB.out | apply below_alloc | apply pw_below_drewN | apply below_drew1 | refine below_set ?_ GE103.out) | exact HB.out)⟩
  · rw [if_neg c2] at H
    have c2b0 : (a0_0 == 0) = false := beq_eq_false_iff_ne.mpr c2
    have c2b1 : (a0_0 != 0) = true := bne_iff_ne.mpr c2
    obtain rfl := Option.some.inj H
    go_enter Tryd.func28, Tryd.ntmps28
    go_wp2_with (first | ((with_reducible refine gate_dst (N := 1) rfl ?_); refine box_event ?hg (N := 1) ?hd (cs := #[.int .i32 a0_0, .int .i32 a0_1, .int .i32 a0_2, .int .u8 a0_3, .int .u8 a0_4, .int .u8 a0_5, .bool a0_6]) (t := 57) ?hr ?_; (case hd => rfl); (case hg => rfl); (case hr => first | (go_simp; done) | (go_simp; rfl)); intro gb103 hg w20 hbox hb; have n0_ := Aside0.mk (below_step (by repeat (first | (with_reducible first | exact HB.out | apply below_alloc | apply pw_below_drewN | apply below_drew1) | exact HB.out)) hb); have n1_ := Aside0.mk (hbox); have n2_ := Aside0.mk ((by rw [hg]; exact (below_size (by repeat (first | (with_reducible first | exact HB.out | apply below_alloc | apply pw_below_drewN | apply below_drew1) | exact HB.out))) : w.heap.size ≤ gb103)); have n3_ := Aside0.mk ((by rw [hg]; exact (below_size (by repeat (first | (with_reducible first | exact HB.out | apply below_alloc | apply pw_below_drewN | apply below_drew1) | exact HB.out))) : w.heap.size ≤ gb103)); clear HB; have HB := n0_; have BK103 := n1_; have GW103 := n2_; have GE103 := n3_; clear n0_ n1_ n2_ n3_; clear hb hbox hg; have hcz21_0 : w20.cell? ⟨gb103, 0, none⟩ = some (.int .i32 a0_0) := (blk_cell BK103.out 0).trans rfl; have hcz21_1 : w20.cell? ⟨gb103, 1, none⟩ = some (.int .i32 a0_1) := (blk_cell BK103.out 1).trans rfl; have hcz21_2 : w20.cell? ⟨gb103, 2, none⟩ = some (.int .i32 a0_2) := (blk_cell BK103.out 2).trans rfl; have hcz21_3 : w20.cell? ⟨gb103, 3, none⟩ = some (.int .u8 a0_3) := (blk_cell BK103.out 3).trans rfl; have hcz21_4 : w20.cell? ⟨gb103, 4, none⟩ = some (.int .u8 a0_4) := (blk_cell BK103.out 4).trans rfl; have hcz21_5 : w20.cell? ⟨gb103, 5, none⟩ = some (.int .u8 a0_5) := (blk_cell BK103.out 5).trans rfl; have hcz21_6 : w20.cell? ⟨gb103, 6, none⟩ = some (.bool a0_6) := (blk_cell BK103.out 6).trans rfl; have hfz21_0 := blk_frozen BK103.out 0; have hfz21_1 := blk_frozen BK103.out 1; have hfz21_2 := blk_frozen BK103.out 2; have hfz21_3 := blk_frozen BK103.out 3; have hfz21_4 := blk_frozen BK103.out 4; have hfz21_5 := blk_frozen BK103.out 5; have hfz21_6 := blk_frozen BK103.out 6))
    go_ret
    exact ⟨by first | rfl | (simp [errW_none, errW_some] <;> rfl) | (simp [*, errW_none, errW_some] <;> rfl), by repeat (first | (with_reducible first | exact HB.out | apply below_alloc | apply pw_below_drewN | apply below_drew1 | refine below_set ?_ GE103.out) | exact HB.out)⟩

/-! ### impl_EntryIsZero: function 12 -/
def impl_EntryIsZero.f (a0_0 : Int) (a0_1 : Int) (a0_2 : Int) (a0_3 : Int) (a0_4 : Int) (a0_5 : Int) (a0_6 : Bool) : Option (Bool) := (impl_entered.f a0_0 a0_1 a0_2 a0_3 a0_4 a0_5 a0_6).bind fun bt105 => ((chroma_StyleEntry_IsZero.f bt105.1 bt105.2.1 bt105.2.2.1 bt105.2.2.2.1 bt105.2.2.2.2.1 bt105.2.2.2.2.2.1 bt105.2.2.2.2.2.2).bind fun t112 => (some t112))
set_option maxHeartbeats 8000000 in
set_option maxRecDepth 100000 in
theorem impl_EntryIsZero.calls (a0_0 : Int) (a0_1 : Int) (a0_2 : Int) (a0_3 : Int) (a0_4 : Int) (a0_5 : Int) (a0_6 : Bool) (r : Bool) (w : World) (h : impl_EntryIsZero.f a0_0 a0_1 a0_2 a0_3 a0_4 a0_5 a0_6 = some r) :
    Calls Tryd.prog 12 #[.agg #[.int .i32 a0_0, .int .i32 a0_1, .int .i32 a0_2, .int .u8 a0_3, .int .u8 a0_4, .int .u8 a0_5, .bool a0_6]] w fun e w' => e = .returned (.bool r) ∧ Below w.heap.size w w' := by
  have hu23 := Tryd.underlying23
  have HB := Aside0.mk (Below.refl w.heap.size w)
  have H : ((impl_entered.f a0_0 a0_1 a0_2 a0_3 a0_4 a0_5 a0_6).bind fun bt105 => ((chroma_StyleEntry_IsZero.f bt105.1 bt105.2.1 bt105.2.2.1 bt105.2.2.2.1 bt105.2.2.2.2.1 bt105.2.2.2.2.2.1 bt105.2.2.2.2.2.2).bind fun t112 => (some t112))) = some r := h
  clear h
  replace H := Option.bind_eq_some_iff.mp H
  obtain ⟨⟨t105, t106, t107, t108, t109, t110, t111⟩, A20, H⟩ := H
  replace H : ((chroma_StyleEntry_IsZero.f t105 t106 t107 t108 t109 t110 t111).bind fun t112 => (some t112)) = some r := H
  have A2 := Aside0.mk A20
  clear A20
  replace H := Option.bind_eq_some_iff.mp H
  obtain ⟨t112, A30, H⟩ := H
  replace H : (some t112) = some r := H
  have A3 := Aside0.mk A30
  clear A30
  obtain rfl := Option.some.inj H
  go_enter Tryd.func12, Tryd.ntmps12
  go_wp2_with (first | ((with_reducible refine gate_dst (N := 1) rfl ?_); refine box_event ?hg (N := 1) ?hd (cs := #[.int .i32 a0_0, .int .i32 a0_1, .int .i32 a0_2, .int .u8 a0_3, .int .u8 a0_4, .int .u8 a0_5, .bool a0_6]) (t := 23) ?hr ?_; (case hd => rfl); (case hg => rfl); (case hr => first | (go_simp; done) | (go_simp; rfl)); intro gb104 hg w4 hbox hb; have n0_ := Aside0.mk (below_step (by repeat (first | (with_reducible first | exact HB.out | apply below_alloc | apply pw_below_drewN | apply below_drew1) | exact HB.out)) hb); have n1_ := Aside0.mk (hbox); have n2_ := Aside0.mk ((by rw [hg]; exact (below_size (by repeat (first | (with_reducible first | exact HB.out | apply below_alloc | apply pw_below_drewN | apply below_drew1) | exact HB.out))) : w.heap.size ≤ gb104)); have n3_ := Aside0.mk ((by rw [hg]; exact (below_size (by repeat (first | (with_reducible first | exact HB.out | apply below_alloc | apply pw_below_drewN | apply below_drew1) | exact HB.out))) : w.heap.size ≤ gb104)); clear HB; have HB := n0_; have BK104 := n1_; have GW104 := n2_; have GE104 := n3_; clear n0_ n1_ n2_ n3_; clear hb hbox hg; have hcz5_0 : w4.cell? ⟨gb104, 0, none⟩ = some (.int .i32 a0_0) := (blk_cell BK104.out 0).trans rfl; have hcz5_1 : w4.cell? ⟨gb104, 1, none⟩ = some (.int .i32 a0_1) := (blk_cell BK104.out 1).trans rfl; have hcz5_2 : w4.cell? ⟨gb104, 2, none⟩ = some (.int .i32 a0_2) := (blk_cell BK104.out 2).trans rfl; have hcz5_3 : w4.cell? ⟨gb104, 3, none⟩ = some (.int .u8 a0_3) := (blk_cell BK104.out 3).trans rfl; have hcz5_4 : w4.cell? ⟨gb104, 4, none⟩ = some (.int .u8 a0_4) := (blk_cell BK104.out 4).trans rfl; have hcz5_5 : w4.cell? ⟨gb104, 5, none⟩ = some (.int .u8 a0_5) := (blk_cell BK104.out 5).trans rfl; have hcz5_6 : w4.cell? ⟨gb104, 6, none⟩ = some (.bool a0_6) := (blk_cell BK104.out 6).trans rfl; have hfz5_0 := blk_frozen BK104.out 0; have hfz5_1 := blk_frozen BK104.out 1; have hfz5_2 := blk_frozen BK104.out 2; have hfz5_3 := blk_frozen BK104.out 3; have hfz5_4 := blk_frozen BK104.out 4; have hfz5_5 := blk_frozen BK104.out 5; have hfz5_6 := blk_frozen BK104.out 6) | ((with_reducible refine gate_callee (f := 27) rfl ?_); refine goesL_ (some 4) rfl rfl Tryd.func27 (by kernel_rfl) rfl #[.agg #[.int .i32 a0_0, .int .i32 a0_1, .int .i32 a0_2, .int .u8 a0_3, .int .u8 a0_4, .int .u8 a0_5, .bool a0_6]] rfl (by (try simp only [List.map_toArray, List.map_cons, List.map_nil]); first | done | rfl | (simp only [List.length_drop, List.length_take]; rfl)) ?_; (with_reducible refine (impl_entered.calls a0_0 a0_1 a0_2 a0_3 a0_4 a0_5 a0_6 t105 t106 t107 t108 t109 t110 t111 _ A2.out).mono ?_); rintro e w6 ⟨rfl, hb⟩; refine ⟨_, rfl, ?_⟩; have n0_ := Aside0.mk (blk_below (g := gb104) (o := .cells #[.int .i32 a0_0, .int .i32 a0_1, .int .i32 a0_2, .int .u8 a0_3, .int .u8 a0_4, .int .u8 a0_5, .bool a0_6] 23 (0, 0)) (by (with_reducible repeat (first | refine blk_drewN ?_ _ | refine blk_drew ?_ | refine blk_alloc ?_ _)); exact BK104.out) hb); have n1_ := Aside0.mk (below_step (by repeat (first | (with_reducible first | exact HB.out | apply below_alloc | apply pw_below_drewN | apply below_drew1 | refine below_set ?_ GE104.out) | exact HB.out)) hb); clear BK104; clear HB; have BK104 := n0_; have HB := n1_; clear n0_ n1_; (try clear hb); (try clear hb2); (try clear hk); (try clear hi)) | ((with_reducible refine gate_callee (f := 28) rfl ?_); refine goesL_ (some 5) rfl rfl Tryd.func28 (by kernel_rfl) rfl #[.agg #[.int .i32 t105, .int .i32 t106, .int .i32 t107, .int .u8 t108, .int .u8 t109, .int .u8 t110, .bool t111]] rfl (by (try simp only [List.map_toArray, List.map_cons, List.map_nil]); first | done | rfl | (simp only [List.length_drop, List.length_take]; rfl)) ?_; (with_reducible refine (chroma_StyleEntry_IsZero.calls t105 t106 t107 t108 t109 t110 t111 t112 _ A3.out).mono ?_); rintro e w7 ⟨rfl, hb⟩; refine ⟨_, rfl, ?_⟩; have n0_ := Aside0.mk (blk_below (g := gb104) (o := .cells #[.int .i32 a0_0, .int .i32 a0_1, .int .i32 a0_2, .int .u8 a0_3, .int .u8 a0_4, .int .u8 a0_5, .bool a0_6] 23 (0, 0)) (by (with_reducible repeat (first | refine blk_drewN ?_ _ | refine blk_drew ?_ | refine blk_alloc ?_ _)); exact BK104.out) hb); have n1_ := Aside0.mk (below_step (by repeat (first | (with_reducible first | exact HB.out | apply below_alloc | apply pw_below_drewN | apply below_drew1 | refine below_set ?_ GE104.out) | exact HB.out)) hb); clear BK104; clear HB; have BK104 := n0_; have HB := n1_; clear n0_ n1_; (try clear hb); (try clear hb2); (try clear hk); (try clear hi)))
  go_ret
  exact ⟨by first | rfl | (simp [errW_none, errW_some] <;> rfl) | (simp [*, errW_none, errW_some] <;> rfl), by repeat (first | (with_reducible first | exact HB.out | apply below_alloc | apply pw_below_drewN | apply below_drew1 | refine below_set ?_ GE104.out) | exact HB.out)⟩

/-! ### laws_styled: function 13 -/
def laws_styled.f : Option Bool := some true
theorem laws_styled.calls (r : Bool) (w : World) (hV : Go.Proofs.YtifhhejohdmiaaaDoorFmt.VarsOK w) (h : laws_styled.f = some r) :
    Calls Tryd.prog 13 #[] w fun e w' => e = .returned (.bool r) ∧ Below w.heap.size w w' := by
  obtain rfl := Option.some.inj h
  exact Go.Proofs.YtifhhejohdmiaaaDoorEnt.sane w hV
/-! ### laws_FnEntryZero: function 3 -/
def laws_FnEntryZero.f (a0_0 : Int) (a0_1 : Int) (a0_2 : Int) (a0_3 : Int) (a0_4 : Int) (a0_5 : Int) (a0_6 : Bool) : Option (Bool) := (impl_EntryIsZero.f a0_0 a0_1 a0_2 a0_3 a0_4 a0_5 a0_6).bind fun t114 => (if (t114 == (a0_0 == 0 && (a0_1 == 0 && (a0_2 == 0 && (a0_3 == 0 && (a0_4 == 0 && (a0_5 == 0 && (!a0_6)))))))) = true then ((laws_styled.f).bind fun t115 => (some t115)) else (some false))
def laws_FnEntryZero.T1 : Bool × List (List Nat × List Nat) := (true, [([], []), ([0], [0]), ([], []), ([], []), ([2, 3], [2, 3]), ([1, 4], [1, 4]), ([5, 1], [5]), ([6, 6], [6]), ([6, 7], [6, 7]), ([8, 7, 0, 1, 2, 3, 4, 5, 6, 7, 8], [8])])
def laws_FnEntryZero.B1 : List Nat := [0, 1, 0, 0, 12, 31, 63, 127, 255, 511]
theorem laws_FnEntryZero.tab1 : rtab .any (opsOf Tryd.f3 1) = laws_FnEntryZero.T1 := by kernel_rfl
theorem laws_FnEntryZero.bits1 : waitsOk laws_FnEntryZero.T1.2 laws_FnEntryZero.B1 = true := by kernel_rfl
set_option maxHeartbeats 8000000 in
set_option maxRecDepth 100000 in
theorem laws_FnEntryZero.calls (a0_0 : Int) (a0_1 : Int) (a0_2 : Int) (a0_3 : Int) (a0_4 : Int) (a0_5 : Int) (a0_6 : Bool) (r : Bool) (w : World) (hV : Go.Proofs.YtifhhejohdmiaaaDoorFmt.VarsOK w) (h : laws_FnEntryZero.f a0_0 a0_1 a0_2 a0_3 a0_4 a0_5 a0_6 = some r) :
    Calls Tryd.prog 3 #[.agg #[.int .i32 a0_0, .int .i32 a0_1, .int .i32 a0_2, .int .u8 a0_3, .int .u8 a0_4, .int .u8 a0_5, .bool a0_6]] w fun e w' => e = .returned (.bool r) ∧ Below w.heap.size w w' := by
  have hu23 := Tryd.underlying23
  have HB := Aside0.mk (Below.refl w.heap.size w)
  have HV := Aside0.mk hV
  clear hV
  have H : ((impl_EntryIsZero.f a0_0 a0_1 a0_2 a0_3 a0_4 a0_5 a0_6).bind fun t114 => (if (t114 == (a0_0 == 0 && (a0_1 == 0 && (a0_2 == 0 && (a0_3 == 0 && (a0_4 == 0 && (a0_5 == 0 && (!a0_6)))))))) = true then ((laws_styled.f).bind fun t115 => (some t115)) else (some false))) = some r := h
  clear h
  replace H := Option.bind_eq_some_iff.mp H
  obtain ⟨t114, A20, H⟩ := H
  replace H : (if (t114 == (a0_0 == 0 && (a0_1 == 0 && (a0_2 == 0 && (a0_3 == 0 && (a0_4 == 0 && (a0_5 == 0 && (!a0_6)))))))) = true then ((laws_styled.f).bind fun t115 => (some t115)) else (some false)) = some r := H
  have A2 := Aside0.mk A20
  clear A20
  by_cases c3 : (t114 == (a0_0 == 0 && (a0_1 == 0 && (a0_2 == 0 && (a0_3 == 0 && (a0_4 == 0 && (a0_5 == 0 && (!a0_6)))))))) = true
  · rw [if_pos c3] at H
    have c3b0 : (t114 == (a0_0 == 0 && (a0_1 == 0 && (a0_2 == 0 && (a0_3 == 0 && (a0_4 == 0 && (a0_5 == 0 && (!a0_6)))))))) = true := c3
    (try (have c3b1 : decide (t114 = (a0_0 == 0 && (a0_1 == 0 && (a0_2 == 0 && (a0_3 == 0 && (a0_4 == 0 && (a0_5 == 0 && (!a0_6)))))))) = true := by simpa using c3))
    (try (have c3b2 : (t114 == (a0_0 == 0 && (a0_1 == 0 && (a0_2 == 0 && (a0_3 == 0 && (a0_4 == 0 && (a0_5 == 0 && (!a0_6)))))))) = true := by simpa using c3))
    clear c3
    replace H := Option.bind_eq_some_iff.mp H
    obtain ⟨t115, A40, H⟩ := H
    replace H : (some t115) = some r := H
    have A4 := Aside0.mk A40
    clear A40
    obtain rfl := Option.some.inj H
    go_enter Tryd.func3, Tryd.ntmps3
    try go_wp2_with (first | ((with_reducible refine gate_dst (N := 1) rfl ?_); refine box_event ?hg (N := 1) ?hd (cs := #[.int .i32 a0_0, .int .i32 a0_1, .int .i32 a0_2, .int .u8 a0_3, .int .u8 a0_4, .int .u8 a0_5, .bool a0_6]) (t := 23) ?hr ?_; (case hd => rfl); (case hg => rfl); (case hr => first | (go_simp; done) | (go_simp; rfl)); intro gb113 hg w5 hbox hb; have n0_ := Aside0.mk (below_step (by repeat (first | (with_reducible first | exact HB.out | apply below_alloc | apply pw_below_drewN | apply below_drew1) | exact HB.out)) hb); have n1_ := Aside0.mk (hbox); have n2_ := Aside0.mk ((by rw [hg]; exact (below_size (by repeat (first | (with_reducible first | exact HB.out | apply below_alloc | apply pw_below_drewN | apply below_drew1) | exact HB.out))) : w.heap.size ≤ gb113)); have n3_ := Aside0.mk ((by rw [hg]; exact (below_size (by repeat (first | (with_reducible first | exact HB.out | apply below_alloc | apply pw_below_drewN | apply below_drew1) | exact HB.out))) : w.heap.size ≤ gb113)); clear HB; have HB := n0_; have BK113 := n1_; have GW113 := n2_; have GE113 := n3_; clear n0_ n1_ n2_ n3_; clear hb hbox hg))
    have n0_ := Aside0.mk (blk_drew BK113.out)
    have n1_ := Aside0.mk (below_drew1 HB.out)
    clear BK113
    clear HB
    have BK113 := n0_
    have HB := n1_
    clear n0_ n1_
    refine start_ (n := 10) (S := fun w' => w'.cell? ⟨gb113, 0, none⟩ = some (.int .i32 a0_0) ∧ w'.cell? ⟨gb113, 1, none⟩ = some (.int .i32 a0_1) ∧ w'.cell? ⟨gb113, 2, none⟩ = some (.int .i32 a0_2) ∧ w'.cell? ⟨gb113, 3, none⟩ = some (.int .u8 a0_3) ∧ w'.cell? ⟨gb113, 4, none⟩ = some (.int .u8 a0_4) ∧ w'.cell? ⟨gb113, 5, none⟩ = some (.int .u8 a0_5) ∧ w'.cell? ⟨gb113, 6, none⟩ = some (.bool a0_6)) (ds := []) #[false, false, false, false, false, false, false, false, false, false] (by kernel_rfl) rfl rfl ⟨(blk_cell BK113.out 0).trans rfl, (blk_cell BK113.out 1).trans rfl, (blk_cell BK113.out 2).trans rfl, (blk_cell BK113.out 3).trans rfl, (blk_cell BK113.out 4).trans rfl, (blk_cell BK113.out 5).trans rfl, (blk_cell BK113.out 6).trans rfl⟩ (fun hHeld => ?_); refine with_tabW laws_FnEntryZero.tab1 laws_FnEntryZero.bits1 (fun HT_ HW_ => ?_)
    generalize w5.drew = w6 at BK113 HB hHeld ⊢
    refine pure_ (i := 3) (N := some 6) (v := ?_) (a' := ?_) #[false, false, false, true, false, false, false, false, false, false] rfl rfl (any_of HT_.out (by kernel_rfl)) (fun _ _ _ h => h) (Or.inl ⟨by rfl, ?_⟩) ?_ ?_
    rotate_left
    · intro w'
      go_simp
      with_reducible rfl
    rotate_left
    · simp only [Act.put, List.setIfInBounds_toArray, List.set_cons_zero, List.set_cons_succ, i64_w, i32_w]
      rfl
    refine take_ (i := 0) (N := some 3) (v := ?_) (a' := ?_) #[true, false, false, true, false, false, false, false, false, false] rfl rfl (take_ofW HT_.out HW_.out (by kernel_rfl)) (fun _ _ _ h => h) (Or.inl ⟨by rfl, ?_⟩) hHeld ?_ ?_
    rotate_left
    · rintro w' ⟨s0, s1, s2, s3, s4, s5, s6⟩
      go_simp
      with_reducible rfl
    rotate_left
    · simp only [Act.put, List.setIfInBounds_toArray, List.set_cons_zero, List.set_cons_succ, i64_w, i32_w]
      rfl
    refine take_ (i := 2) (N := some 5) (v := ?_) (a' := ?_) #[true, false, true, true, false, false, false, false, false, false] rfl rfl (take_ofW HT_.out HW_.out (by kernel_rfl)) (fun _ _ _ h => h) (Or.inl ⟨by rfl, ?_⟩) hHeld ?_ ?_
    rotate_left
    · rintro w' ⟨s0, s1, s2, s3, s4, s5, s6⟩
      go_simp
      with_reducible rfl
    rotate_left
    · simp only [Act.put, List.setIfInBounds_toArray, List.set_cons_zero, List.set_cons_succ, i64_w, i32_w]
      rfl
    refine pure_ (i := 4) (N := some 7) (v := ?_) (a' := ?_) #[true, false, true, true, true, false, false, false, false, false] rfl rfl (any_of HT_.out (by kernel_rfl)) (fun _ _ _ h => h) (Or.inl ⟨by rfl, ?_⟩) ?_ ?_
    rotate_left
    · intro w'
      go_simp
      with_reducible rfl
    rotate_left
    · simp only [Act.put, List.setIfInBounds_toArray, List.set_cons_zero, List.set_cons_succ, i64_w, i32_w]
      rfl
    refine one_ (i := 1) (N := some 4) #[true, true, true, true, true, false, false, false, false, false] rfl rfl (one_of HT_.out (by kernel_rfl)) (by decide) (fun K hK => ?_)
    refine goes_ Tryd.func12 (by kernel_rfl) rfl #[.agg #[.int .i32 a0_0, .int .i32 a0_1, .int .i32 a0_2, .int .u8 a0_3, .int .u8 a0_4, .int .u8 a0_5, .bool a0_6]] (by rfl) rfl rfl (by (try simp only [List.map_toArray, List.map_cons, List.map_nil]); first | done | rfl | (simp only [List.length_drop, List.length_take]; rfl)) ?_
    with_reducible refine (impl_EntryIsZero.calls a0_0 a0_1 a0_2 a0_3 a0_4 a0_5 a0_6 t114 _ A2.out).mono ?_
    rintro e w7 ⟨rfl, hb⟩
    refine ⟨_, rfl, ?_⟩
    have n0_ := Aside0.mk (blk_below (g := gb113) (o := .cells #[.int .i32 a0_0, .int .i32 a0_1, .int .i32 a0_2, .int .u8 a0_3, .int .u8 a0_4, .int .u8 a0_5, .bool a0_6] 23 (0, 0)) (by (with_reducible repeat (first | refine blk_drewN ?_ _ | refine blk_drew ?_ | refine blk_alloc ?_ _)); exact BK113.out) hb)
    have n1_ := Aside0.mk (below_step (by repeat (first | (with_reducible first | exact HB.out | apply below_alloc | apply pw_below_drewN | apply below_drew1 | refine below_set ?_ GE113.out) | exact HB.out)) hb)
    clear BK113
    clear HB
    have BK113 := n0_
    have HB := n1_
    clear n0_ n1_
    (try clear hb)
    (try clear hb2)
    (try clear hk)
    (try clear hi)
    refine hK.out _ _ ⟨(blk_cell BK113.out 0).trans rfl, (blk_cell BK113.out 1).trans rfl, (blk_cell BK113.out 2).trans rfl, (blk_cell BK113.out 3).trans rfl, (blk_cell BK113.out 4).trans rfl, (blk_cell BK113.out 5).trans rfl, (blk_cell BK113.out 6).trans rfl⟩ (fun hHeld => ?_)
    clear hK K
    refine norm_ (a' := ?_) ?_ ?_
    rotate_left
    · show Act.put _ (some 4) _ = _
      simp only [Act.put, List.setIfInBounds_toArray, List.set_cons_zero, List.set_cons_succ, i64_w, i32_w]
      rfl
    refine pure_ (i := 5) (N := some 8) (v := ?_) (a' := ?_) #[true, true, true, true, true, true, false, false, false, false] rfl rfl (any_of HT_.out (by kernel_rfl)) (fun _ _ _ h => h) (Or.inl ⟨by rfl, ?_⟩) ?_ ?_
    rotate_left
    · intro w'
      go_simp
      with_reducible rfl
    rotate_left
    · simp only [Act.put, List.setIfInBounds_toArray, List.set_cons_zero, List.set_cons_succ, i64_w, i32_w]
      rfl
    refine pure_ (i := 6) (N := some 9) (v := ?_) (a' := ?_) #[true, true, true, true, true, true, true, false, false, false] rfl rfl (any_of HT_.out (by kernel_rfl)) (fun _ _ _ h => h) (Or.inl ⟨by rfl, ?_⟩) ?_ ?_
    rotate_left
    · intro w'
      go_simp
      with_reducible rfl
    rotate_left
    · simp only [Act.put, List.setIfInBounds_toArray, List.set_cons_zero, List.set_cons_succ, i64_w, i32_w]
      rfl
    refine one_ (i := 7) (N := some 10) #[true, true, true, true, true, true, true, true, false, false] rfl rfl (one_of HT_.out (by kernel_rfl)) (by decide) (fun K hK => ?_)
    refine goes_ Tryd.func13 (by kernel_rfl) rfl #[] (by rfl) rfl rfl (by (try simp only [List.map_toArray, List.map_cons, List.map_nil]); first | done | rfl | (simp only [List.length_drop, List.length_take]; rfl)) ?_
    with_reducible refine (laws_styled.calls  t115 _ ?side1 A4.out).mono ?_
    (case side1 => exact Go.Proofs.YtifhhejohdmiaaaDoorFmt.VarsOK.below HV.out (by repeat (first | (with_reducible first | exact HB.out | apply below_alloc | apply pw_below_drewN | apply below_drew1 | refine below_set ?_ GE113.out) | exact HB.out)))
    rintro e w8 ⟨rfl, hb⟩
    refine ⟨_, rfl, ?_⟩
    have n0_ := Aside0.mk (blk_below (g := gb113) (o := .cells #[.int .i32 a0_0, .int .i32 a0_1, .int .i32 a0_2, .int .u8 a0_3, .int .u8 a0_4, .int .u8 a0_5, .bool a0_6] 23 (0, 0)) (by (with_reducible repeat (first | refine blk_drewN ?_ _ | refine blk_drew ?_ | refine blk_alloc ?_ _)); exact BK113.out) hb)
    have n1_ := Aside0.mk (below_step (by repeat (first | (with_reducible first | exact HB.out | apply below_alloc | apply pw_below_drewN | apply below_drew1 | refine below_set ?_ GE113.out) | exact HB.out)) hb)
    clear BK113
    clear HB
    have BK113 := n0_
    have HB := n1_
    clear n0_ n1_
    (try clear hb)
    (try clear hb2)
    (try clear hk)
    (try clear hi)
    refine hK.out _ _ ⟨(blk_cell BK113.out 0).trans rfl, (blk_cell BK113.out 1).trans rfl, (blk_cell BK113.out 2).trans rfl, (blk_cell BK113.out 3).trans rfl, (blk_cell BK113.out 4).trans rfl, (blk_cell BK113.out 5).trans rfl, (blk_cell BK113.out 6).trans rfl⟩ (fun hHeld => ?_)
    clear hK K
    refine norm_ (a' := ?_) ?_ ?_
    rotate_left
    · show Act.put _ (some 10) _ = _
      simp only [Act.put, List.setIfInBounds_toArray, List.set_cons_zero, List.set_cons_succ, i64_w, i32_w]
      rfl
    refine pure_ (i := 8) (N := some 11) (v := ?_) (a' := ?_) #[true, true, true, true, true, true, true, true, true, false] rfl rfl (any_of HT_.out (by kernel_rfl)) (fun _ _ _ h => h) (Or.inl ⟨by rfl, ?_⟩) ?_ ?_
    rotate_left
    · intro w'
      go_simp
      with_reducible rfl
    rotate_left
    · simp only [Act.put, List.setIfInBounds_toArray, List.set_cons_zero, List.set_cons_succ, i64_w, i32_w]
      rfl
    refine pure_ (i := 9) (N := some 2) (v := ?_) (a' := ?_) #[true, true, true, true, true, true, true, true, true, true] rfl rfl (any_of HT_.out (by kernel_rfl)) (fun _ _ _ h => h) (Or.inl ⟨by rfl, ?_⟩) ?_ ?_
    rotate_left
    · intro w'
      go_simp
      with_reducible rfl
    rotate_left
    · simp only [Act.put, List.setIfInBounds_toArray, List.set_cons_zero, List.set_cons_succ, i64_w, i32_w]
      rfl
    refine done_ (done_of HT_.out (by kernel_rfl)) ?_
    try go_wp2
    go_ret
    exact ⟨by first | rfl | (simp [errW_none, errW_some] <;> rfl) | (simp [*, errW_none, errW_some] <;> rfl), by repeat (first | (with_reducible first | exact HB.out | apply below_alloc | apply pw_below_drewN | apply below_drew1 | refine below_set ?_ GE113.out) | exact HB.out)⟩
  · rw [if_neg c3] at H
    have c3b0 : (t114 == (a0_0 == 0 && (a0_1 == 0 && (a0_2 == 0 && (a0_3 == 0 && (a0_4 == 0 && (a0_5 == 0 && (!a0_6)))))))) = false := by simpa using c3
    (try (have c3b1 : decide (t114 = (a0_0 == 0 && (a0_1 == 0 && (a0_2 == 0 && (a0_3 == 0 && (a0_4 == 0 && (a0_5 == 0 && (!a0_6)))))))) = false := by simpa using c3))
    (try (have c3b2 : (t114 == (a0_0 == 0 && (a0_1 == 0 && (a0_2 == 0 && (a0_3 == 0 && (a0_4 == 0 && (a0_5 == 0 && (!a0_6)))))))) = false := by simpa using c3))
    (try (have c3b3 : ¬ (t114 = (a0_0 == 0 && (a0_1 == 0 && (a0_2 == 0 && (a0_3 == 0 && (a0_4 == 0 && (a0_5 == 0 && (!a0_6)))))))) := by simpa using c3))
    clear c3
    obtain rfl := Option.some.inj H
    go_enter Tryd.func3, Tryd.ntmps3
    try go_wp2_with (first | ((with_reducible refine gate_dst (N := 1) rfl ?_); refine box_event ?hg (N := 1) ?hd (cs := #[.int .i32 a0_0, .int .i32 a0_1, .int .i32 a0_2, .int .u8 a0_3, .int .u8 a0_4, .int .u8 a0_5, .bool a0_6]) (t := 23) ?hr ?_; (case hd => rfl); (case hg => rfl); (case hr => first | (go_simp; done) | (go_simp; rfl)); intro gb113 hg w9 hbox hb; have n0_ := Aside0.mk (below_step (by repeat (first | (with_reducible first | exact HB.out | apply below_alloc | apply pw_below_drewN | apply below_drew1) | exact HB.out)) hb); have n1_ := Aside0.mk (hbox); have n2_ := Aside0.mk ((by rw [hg]; exact (below_size (by repeat (first | (with_reducible first | exact HB.out | apply below_alloc | apply pw_below_drewN | apply below_drew1) | exact HB.out))) : w.heap.size ≤ gb113)); have n3_ := Aside0.mk ((by rw [hg]; exact (below_size (by repeat (first | (with_reducible first | exact HB.out | apply below_alloc | apply pw_below_drewN | apply below_drew1) | exact HB.out))) : w.heap.size ≤ gb113)); clear HB; have HB := n0_; have BK113 := n1_; have GW113 := n2_; have GE113 := n3_; clear n0_ n1_ n2_ n3_; clear hb hbox hg))
    have n0_ := Aside0.mk (blk_drew BK113.out)
    have n1_ := Aside0.mk (below_drew1 HB.out)
    clear BK113
    clear HB
    have BK113 := n0_
    have HB := n1_
    clear n0_ n1_
    refine start_ (n := 10) (S := fun w' => w'.cell? ⟨gb113, 0, none⟩ = some (.int .i32 a0_0) ∧ w'.cell? ⟨gb113, 1, none⟩ = some (.int .i32 a0_1) ∧ w'.cell? ⟨gb113, 2, none⟩ = some (.int .i32 a0_2) ∧ w'.cell? ⟨gb113, 3, none⟩ = some (.int .u8 a0_3) ∧ w'.cell? ⟨gb113, 4, none⟩ = some (.int .u8 a0_4) ∧ w'.cell? ⟨gb113, 5, none⟩ = some (.int .u8 a0_5) ∧ w'.cell? ⟨gb113, 6, none⟩ = some (.bool a0_6)) (ds := []) #[false, false, false, false, false, false, false, false, false, false] (by kernel_rfl) rfl rfl ⟨(blk_cell BK113.out 0).trans rfl, (blk_cell BK113.out 1).trans rfl, (blk_cell BK113.out 2).trans rfl, (blk_cell BK113.out 3).trans rfl, (blk_cell BK113.out 4).trans rfl, (blk_cell BK113.out 5).trans rfl, (blk_cell BK113.out 6).trans rfl⟩ (fun hHeld => ?_); refine with_tabW laws_FnEntryZero.tab1 laws_FnEntryZero.bits1 (fun HT_ HW_ => ?_)
    generalize w9.drew = w10 at BK113 HB hHeld ⊢
    refine pure_ (i := 3) (N := some 6) (v := ?_) (a' := ?_) #[false, false, false, true, false, false, false, false, false, false] rfl rfl (any_of HT_.out (by kernel_rfl)) (fun _ _ _ h => h) (Or.inl ⟨by rfl, ?_⟩) ?_ ?_
    rotate_left
    · intro w'
      go_simp
      with_reducible rfl
    rotate_left
    · simp only [Act.put, List.setIfInBounds_toArray, List.set_cons_zero, List.set_cons_succ, i64_w, i32_w]
      rfl
    refine take_ (i := 0) (N := some 3) (v := ?_) (a' := ?_) #[true, false, false, true, false, false, false, false, false, false] rfl rfl (take_ofW HT_.out HW_.out (by kernel_rfl)) (fun _ _ _ h => h) (Or.inl ⟨by rfl, ?_⟩) hHeld ?_ ?_
    rotate_left
    · rintro w' ⟨s0, s1, s2, s3, s4, s5, s6⟩
      go_simp
      with_reducible rfl
    rotate_left
    · simp only [Act.put, List.setIfInBounds_toArray, List.set_cons_zero, List.set_cons_succ, i64_w, i32_w]
      rfl
    refine take_ (i := 2) (N := some 5) (v := ?_) (a' := ?_) #[true, false, true, true, false, false, false, false, false, false] rfl rfl (take_ofW HT_.out HW_.out (by kernel_rfl)) (fun _ _ _ h => h) (Or.inl ⟨by rfl, ?_⟩) hHeld ?_ ?_
    rotate_left
    · rintro w' ⟨s0, s1, s2, s3, s4, s5, s6⟩
      go_simp
      with_reducible rfl
    rotate_left
    · simp only [Act.put, List.setIfInBounds_toArray, List.set_cons_zero, List.set_cons_succ, i64_w, i32_w]
      rfl
    refine pure_ (i := 4) (N := some 7) (v := ?_) (a' := ?_) #[true, false, true, true, true, false, false, false, false, false] rfl rfl (any_of HT_.out (by kernel_rfl)) (fun _ _ _ h => h) (Or.inl ⟨by rfl, ?_⟩) ?_ ?_
    rotate_left
    · intro w'
      go_simp
      with_reducible rfl
    rotate_left
    · simp only [Act.put, List.setIfInBounds_toArray, List.set_cons_zero, List.set_cons_succ, i64_w, i32_w]
      rfl
    refine one_ (i := 1) (N := some 4) #[true, true, true, true, true, false, false, false, false, false] rfl rfl (one_of HT_.out (by kernel_rfl)) (by decide) (fun K hK => ?_)
    refine goes_ Tryd.func12 (by kernel_rfl) rfl #[.agg #[.int .i32 a0_0, .int .i32 a0_1, .int .i32 a0_2, .int .u8 a0_3, .int .u8 a0_4, .int .u8 a0_5, .bool a0_6]] (by rfl) rfl rfl (by (try simp only [List.map_toArray, List.map_cons, List.map_nil]); first | done | rfl | (simp only [List.length_drop, List.length_take]; rfl)) ?_
    with_reducible refine (impl_EntryIsZero.calls a0_0 a0_1 a0_2 a0_3 a0_4 a0_5 a0_6 t114 _ A2.out).mono ?_
    rintro e w11 ⟨rfl, hb⟩
    refine ⟨_, rfl, ?_⟩
    have n0_ := Aside0.mk (blk_below (g := gb113) (o := .cells #[.int .i32 a0_0, .int .i32 a0_1, .int .i32 a0_2, .int .u8 a0_3, .int .u8 a0_4, .int .u8 a0_5, .bool a0_6] 23 (0, 0)) (by (with_reducible repeat (first | refine blk_drewN ?_ _ | refine blk_drew ?_ | refine blk_alloc ?_ _)); exact BK113.out) hb)
    have n1_ := Aside0.mk (below_step (by repeat (first | (with_reducible first | exact HB.out | apply below_alloc | apply pw_below_drewN | apply below_drew1 | refine below_set ?_ GE113.out) | exact HB.out)) hb)
    clear BK113
    clear HB
    have BK113 := n0_
    have HB := n1_
    clear n0_ n1_
    (try clear hb)
    (try clear hb2)
    (try clear hk)
    (try clear hi)
    refine hK.out _ _ ⟨(blk_cell BK113.out 0).trans rfl, (blk_cell BK113.out 1).trans rfl, (blk_cell BK113.out 2).trans rfl, (blk_cell BK113.out 3).trans rfl, (blk_cell BK113.out 4).trans rfl, (blk_cell BK113.out 5).trans rfl, (blk_cell BK113.out 6).trans rfl⟩ (fun hHeld => ?_)
    clear hK K
    refine norm_ (a' := ?_) ?_ ?_
    rotate_left
    · show Act.put _ (some 4) _ = _
      simp only [Act.put, List.setIfInBounds_toArray, List.set_cons_zero, List.set_cons_succ, i64_w, i32_w]
      rfl
    refine pure_ (i := 5) (N := some 8) (v := ?_) (a' := ?_) #[true, true, true, true, true, true, false, false, false, false] rfl rfl (any_of HT_.out (by kernel_rfl)) (fun _ _ _ h => h) (Or.inl ⟨by rfl, ?_⟩) ?_ ?_
    rotate_left
    · intro w'
      go_simp
      with_reducible rfl
    rotate_left
    · simp only [Act.put, List.setIfInBounds_toArray, List.set_cons_zero, List.set_cons_succ, i64_w, i32_w]
      rfl
    refine pure_ (i := 6) (N := some 9) (v := ?_) (a' := ?_) #[true, true, true, true, true, true, true, false, false, false] rfl rfl (any_of HT_.out (by kernel_rfl)) (fun _ _ _ h => h) (Or.inl ⟨by rfl, ?_⟩) ?_ ?_
    rotate_left
    · intro w'
      go_simp
      with_reducible rfl
    rotate_left
    · simp only [Act.put, List.setIfInBounds_toArray, List.set_cons_zero, List.set_cons_succ, i64_w, i32_w]
      rfl
    refine pure_ (i := 7) (N := some 10) (v := undef) (a' := ?_) #[true, true, true, true, true, true, true, true, false, false] rfl rfl (any_of HT_.out (by kernel_rfl)) (fun _ _ _ h => h) (Or.inr ⟨by rfl, rfl⟩) ?_ ?_
    rotate_left
    · simp only [Act.put, List.setIfInBounds_toArray, List.set_cons_zero, List.set_cons_succ, i64_w, i32_w]
      rfl
    refine pure_ (i := 8) (N := some 11) (v := ?_) (a' := ?_) #[true, true, true, true, true, true, true, true, true, false] rfl rfl (any_of HT_.out (by kernel_rfl)) (fun _ _ _ h => h) (Or.inl ⟨by rfl, ?_⟩) ?_ ?_
    rotate_left
    · intro w'
      go_simp
      with_reducible rfl
    rotate_left
    · simp only [Act.put, List.setIfInBounds_toArray, List.set_cons_zero, List.set_cons_succ, i64_w, i32_w]
      rfl
    refine pure_ (i := 9) (N := some 2) (v := ?_) (a' := ?_) #[true, true, true, true, true, true, true, true, true, true] rfl rfl (any_of HT_.out (by kernel_rfl)) (fun _ _ _ h => h) (Or.inl ⟨by rfl, ?_⟩) ?_ ?_
    rotate_left
    · intro w'
      go_simp
      with_reducible rfl
    rotate_left
    · simp only [Act.put, List.setIfInBounds_toArray, List.set_cons_zero, List.set_cons_succ, i64_w, i32_w]
      rfl
    refine done_ (done_of HT_.out (by kernel_rfl)) ?_
    try go_wp2
    go_ret
    exact ⟨by first | rfl | (simp [errW_none, errW_some] <;> rfl) | (simp [*, errW_none, errW_some] <;> rfl), by repeat (first | (with_reducible first | exact HB.out | apply below_alloc | apply pw_below_drewN | apply below_drew1 | refine below_set ?_ GE113.out) | exact HB.out)⟩
def wf_S23 (x : S23) : Prop := (IntKind.i32.min ≤ x.f0 ∧ x.f0 ≤ IntKind.i32.max) ∧ (IntKind.i32.min ≤ x.f1 ∧ x.f1 ≤ IntKind.i32.max) ∧ (IntKind.i32.min ≤ x.f2 ∧ x.f2 ≤ IntKind.i32.max) ∧ (IntKind.u8.min ≤ x.f3 ∧ x.f3 ≤ IntKind.u8.max) ∧ (IntKind.u8.min ≤ x.f4 ∧ x.f4 ≤ IntKind.u8.max) ∧ (IntKind.u8.min ≤ x.f5 ∧ x.f5 ≤ IntKind.u8.max) ∧ (True)
def laws_FnEntryZero.Pure : Prop := ∀ (a0_0 : Int) (a0_1 : Int) (a0_2 : Int) (a0_3 : Int) (a0_4 : Int) (a0_5 : Int) (a0_6 : Bool), wf_S23 (⟨a0_0, a0_1, a0_2, a0_3, a0_4, a0_5, a0_6⟩ : S23) → laws_FnEntryZero.f a0_0 a0_1 a0_2 a0_3 a0_4 a0_5 a0_6 = some true

end Go.Proofs.YtifhhejohdmiaaaDoor.M
