-- WRITTEN BY OUR myprint.py, a program of this session's over the kit's printer
import Derived.Test.YtifhhejohdmiaaaDoorUx0
namespace Go.Proofs.YtifhhejohdmiaaaDoor.U
open Go.RowKit Go.Proofs.YtifhhejohdmiaaaDoorW.PrintWords Go.Proofs.YtifhhejohdmiaaaDoorW.PrintLast Go.Proofs.YtifhhejohdmiaaaDoorW.PrintMore
attribute [local go_sem] max2_int min2_int max_two min_two max_three min_three max_four min_four   -- for this text's walks alone
set_option linter.unusedVariables false
set_option linter.unusedSimpArgs false

/-! ### impl_entered: function 27 -/
def impl_entered.f (a0_0 : Int) (a0_1 : Int) (a0_2 : Int) (a0_3 : Int) (a0_4 : Int) (a0_5 : Int) (a0_6 : Bool) : Option (Int × Int × Int × Int × Int × Int × Bool) := some (a0_0, a0_1, a0_2, a0_3, a0_4, a0_5, a0_6)
set_option maxHeartbeats 8000000 in
set_option maxRecDepth 100000 in
theorem impl_entered.calls (a0_0 : Int) (a0_1 : Int) (a0_2 : Int) (a0_3 : Int) (a0_4 : Int) (a0_5 : Int) (a0_6 : Bool) (r1 : Int) (r2 : Int) (r3 : Int) (r4 : Int) (r5 : Int) (r6 : Int) (r7 : Bool) (w : World) (h : impl_entered.f a0_0 a0_1 a0_2 a0_3 a0_4 a0_5 a0_6 = some (r1, r2, r3, r4, r5, r6, r7)) :
    Calls Tryd.prog 27 #[.agg #[.int .i32 a0_0, .int .i32 a0_1, .int .i32 a0_2, .int .u8 a0_3, .int .u8 a0_4, .int .u8 a0_5, .bool a0_6]] w fun e w' => e = .returned (.agg #[.int .i32 r1, .int .i32 r2, .int .i32 r3, .int .u8 r4, .int .u8 r5, .int .u8 r6, .bool r7]) ∧ Below w.heap.size w w' := by
  have hu23 := Tryd.underlying23
  have hu57 := Tryd.underlying57
  have HB := Aside0.mk (Below.refl w.heap.size w)
  have H : (some (a0_0, a0_1, a0_2, a0_3, a0_4, a0_5, a0_6)) = some (r1, r2, r3, r4, r5, r6, r7) := h
  clear h
  simp only [Option.some.injEq, Prod.mk.injEq] at H
  obtain ⟨rfl, rfl, rfl, rfl, rfl, rfl, rfl⟩ := H
  go_enter Tryd.func27, Tryd.ntmps27
  go_wp2_with (first | ((with_reducible refine gate_dst (N := 1) rfl ?_); refine box_event ?hg (N := 1) ?hd (cs := #[.int .i32 a0_0, .int .i32 a0_1, .int .i32 a0_2, .int .u8 a0_3, .int .u8 a0_4, .int .u8 a0_5, .bool a0_6]) (t := 23) ?hr ?_; (case hd => rfl); (case hg => rfl); (case hr => first | (go_simp; done) | (go_simp; rfl)); intro gb101 hg w2 hbox hb; have n0_ := Aside0.mk (below_step (by repeat (first | (with_reducible first | exact HB.out | apply below_alloc | apply pw_below_drewN | apply below_drew1) | exact HB.out)) hb); have n1_ := Aside0.mk (hbox); have n2_ := Aside0.mk ((by rw [hg]; exact (below_size (by repeat (first | (with_reducible first | exact HB.out | apply below_alloc | apply pw_below_drewN | apply below_drew1) | exact HB.out))) : w.heap.size ≤ gb101)); have n3_ := Aside0.mk ((by rw [hg]; exact (below_size (by repeat (first | (with_reducible first | exact HB.out | apply below_alloc | apply pw_below_drewN | apply below_drew1) | exact HB.out))) : w.heap.size ≤ gb101)); clear HB; have HB := n0_; have BK101 := n1_; have GW101 := n2_; have GE101 := n3_; clear n0_ n1_ n2_ n3_; clear hb hbox hg) | ((with_reducible refine gate_dst (N := 2) rfl ?_); refine box_event ?hg (N := 2) ?hd (cs := #[.int .i32 0, .int .i32 0, .int .i32 0, .int .u8 0, .int .u8 0, .int .u8 0, .bool false]) (t := 57) ?hr ?_; (case hd => rfl); (case hg => rfl); (case hr => first | (go_simp; done) | (go_simp; rfl)); intro gb102 hg w3 hbox hb; have n0_ := Aside0.mk (blk_below (g := gb101) (o := .cells #[.int .i32 a0_0, .int .i32 a0_1, .int .i32 a0_2, .int .u8 a0_3, .int .u8 a0_4, .int .u8 a0_5, .bool a0_6] 23 (0, 0)) (by (with_reducible repeat (first | refine blk_drewN ?_ _ | refine blk_drew ?_ | refine blk_alloc ?_ _)); exact BK101.out) hb); have n1_ := Aside0.mk (below_step (by repeat (first | (with_reducible first | exact HB.out | apply below_alloc | apply pw_below_drewN | apply below_drew1 | refine below_set ?_ GE101.out) | exact HB.out)) hb); have n2_ := Aside0.mk (hbox); have n3_ := Aside0.mk ((by rw [hg]; exact (below_size (by repeat (first | (with_reducible first | exact HB.out | apply below_alloc | apply pw_below_drewN | apply below_drew1 | refine below_set ?_ GE101.out) | exact HB.out))) : w.heap.size ≤ gb102)); have n4_ := Aside0.mk ((by rw [hg]; exact (below_size (by repeat (first | (with_reducible first | exact HB.out | apply below_alloc | apply pw_below_drewN | apply below_drew1 | refine below_set ?_ GE101.out) | exact HB.out))) : w.heap.size ≤ gb102)); have n5_ := Aside0.mk ((by rw [hg]; exact Nat.ne_of_lt (blk_lt (g := gb101) (o := .cells #[.int .i32 a0_0, .int .i32 a0_1, .int .i32 a0_2, .int .u8 a0_3, .int .u8 a0_4, .int .u8 a0_5, .bool a0_6] 23 (0, 0)) (by (with_reducible repeat (first | refine blk_drewN ?_ _ | refine blk_drew ?_ | refine blk_alloc ?_ _)); exact BK101.out)) : gb101 ≠ gb102)); have n6_ := Aside0.mk ((by rw [hg]; exact Nat.ne_of_gt (blk_lt (g := gb101) (o := .cells #[.int .i32 a0_0, .int .i32 a0_1, .int .i32 a0_2, .int .u8 a0_3, .int .u8 a0_4, .int .u8 a0_5, .bool a0_6] 23 (0, 0)) (by (with_reducible repeat (first | refine blk_drewN ?_ _ | refine blk_drew ?_ | refine blk_alloc ?_ _)); exact BK101.out)) : gb102 ≠ gb101)); clear BK101; clear HB; have BK101 := n0_; have HB := n1_; have BK102 := n2_; have GW102 := n3_; have GE102 := n4_; have NB101_102 := n5_; have NB102_101 := n6_; clear n0_ n1_ n2_ n3_ n4_ n5_ n6_; clear hb hbox hg; have hnb4 := NB101_102.out; have hnc4 := NB102_101.out; have hcz5_0 : w3.cell? ⟨gb101, 0, none⟩ = some (.int .i32 a0_0) := (blk_cell BK101.out 0).trans rfl; have hcz5_1 : w3.cell? ⟨gb101, 1, none⟩ = some (.int .i32 a0_1) := (blk_cell BK101.out 1).trans rfl; have hcz5_2 : w3.cell? ⟨gb101, 2, none⟩ = some (.int .i32 a0_2) := (blk_cell BK101.out 2).trans rfl; have hcz5_3 : w3.cell? ⟨gb101, 3, none⟩ = some (.int .u8 a0_3) := (blk_cell BK101.out 3).trans rfl; have hcz5_4 : w3.cell? ⟨gb101, 4, none⟩ = some (.int .u8 a0_4) := (blk_cell BK101.out 4).trans rfl; have hcz5_5 : w3.cell? ⟨gb101, 5, none⟩ = some (.int .u8 a0_5) := (blk_cell BK101.out 5).trans rfl; have hcz5_6 : w3.cell? ⟨gb101, 6, none⟩ = some (.bool a0_6) := (blk_cell BK101.out 6).trans rfl; have hfz5_0 := blk_frozen BK101.out 0; have hfz5_1 := blk_frozen BK101.out 1; have hfz5_2 := blk_frozen BK101.out 2; have hfz5_3 := blk_frozen BK101.out 3; have hfz5_4 := blk_frozen BK101.out 4; have hfz5_5 := blk_frozen BK101.out 5; have hfz5_6 := blk_frozen BK101.out 6; have hcz6_0 : w3.cell? ⟨gb102, 0, none⟩ = some (.int .i32 0) := (blk_cell BK102.out 0).trans rfl; have hcz6_1 : w3.cell? ⟨gb102, 1, none⟩ = some (.int .i32 0) := (blk_cell BK102.out 1).trans rfl; have hcz6_2 : w3.cell? ⟨gb102, 2, none⟩ = some (.int .i32 0) := (blk_cell BK102.out 2).trans rfl; have hcz6_3 : w3.cell? ⟨gb102, 3, none⟩ = some (.int .u8 0) := (blk_cell BK102.out 3).trans rfl; have hcz6_4 : w3.cell? ⟨gb102, 4, none⟩ = some (.int .u8 0) := (blk_cell BK102.out 4).trans rfl; have hcz6_5 : w3.cell? ⟨gb102, 5, none⟩ = some (.int .u8 0) := (blk_cell BK102.out 5).trans rfl; have hcz6_6 : w3.cell? ⟨gb102, 6, none⟩ = some (.bool false) := (blk_cell BK102.out 6).trans rfl; have hfz6_0 := blk_frozen BK102.out 0; have hfz6_1 := blk_frozen BK102.out 1; have hfz6_2 := blk_frozen BK102.out 2; have hfz6_3 := blk_frozen BK102.out 3; have hfz6_4 := blk_frozen BK102.out 4; have hfz6_5 := blk_frozen BK102.out 5; have hfz6_6 := blk_frozen BK102.out 6))
  refine bodyPost_ret (results_cell_row rfl _ _ gb102 57 #[.int .i32 a0_0, .int .i32 a0_1, .int .i32 a0_2, .int .u8 a0_3, .int .u8 a0_4, .int .u8 a0_5, .bool a0_6] (0, 0) _ rfl (by (with_reducible repeat (first | refine blk_drewN ?_ _ | refine blk_drew ?_ | refine blk_alloc ?_ _)); refine blk_put (cs := #[.int .i32 a0_0, .int .i32 a0_1, .int .i32 a0_2, .int .u8 a0_3, .int .u8 a0_4, .int .u8 a0_5, .bool false]) ?_ 6 _ rfl; (with_reducible repeat (first | refine blk_drewN ?_ _ | refine blk_drew ?_ | refine blk_alloc ?_ _)); refine blk_put (cs := #[.int .i32 a0_0, .int .i32 a0_1, .int .i32 a0_2, .int .u8 a0_3, .int .u8 a0_4, .int .u8 0, .bool false]) ?_ 5 _ rfl; (with_reducible repeat (first | refine blk_drewN ?_ _ | refine blk_drew ?_ | refine blk_alloc ?_ _)); refine blk_put (cs := #[.int .i32 a0_0, .int .i32 a0_1, .int .i32 a0_2, .int .u8 a0_3, .int .u8 0, .int .u8 0, .bool false]) ?_ 4 _ rfl; (with_reducible repeat (first | refine blk_drewN ?_ _ | refine blk_drew ?_ | refine blk_alloc ?_ _)); refine blk_put (cs := #[.int .i32 a0_0, .int .i32 a0_1, .int .i32 a0_2, .int .u8 0, .int .u8 0, .int .u8 0, .bool false]) ?_ 3 _ rfl; (with_reducible repeat (first | refine blk_drewN ?_ _ | refine blk_drew ?_ | refine blk_alloc ?_ _)); refine blk_put (cs := #[.int .i32 a0_0, .int .i32 a0_1, .int .i32 0, .int .u8 0, .int .u8 0, .int .u8 0, .bool false]) ?_ 2 _ rfl; (with_reducible repeat (first | refine blk_drewN ?_ _ | refine blk_drew ?_ | refine blk_alloc ?_ _)); refine blk_put (cs := #[.int .i32 a0_0, .int .i32 0, .int .i32 0, .int .u8 0, .int .u8 0, .int .u8 0, .bool false]) ?_ 1 _ rfl; (with_reducible repeat (first | refine blk_drewN ?_ _ | refine blk_drew ?_ | refine blk_alloc ?_ _)); refine blk_put (cs := #[.int .i32 0, .int .i32 0, .int .i32 0, .int .u8 0, .int .u8 0, .int .u8 0, .bool false]) ?_ 0 _ rfl; (with_reducible repeat (first | refine blk_drewN ?_ _ | refine blk_drew ?_ | refine blk_alloc ?_ _)); exact BK102.out) Tryd.underlying57 rfl (by kernel_rfl)) rfl ?_
  exact ⟨by first | rfl | (simp [errW_none, errW_some] <;> rfl) | (simp [*, errW_none, errW_some] <;> rfl), by repeat (first | (with_reducible first | exact HB.out | apply below_alloc | apply pw_below_drewN | apply below_drew1 | refine below_set ?_ GE101.out | refine below_set ?_ GE102.out) | exact HB.out)⟩

/-! ### chroma_StyleEntry_IsZero: function 28 -/
def chroma_StyleEntry_IsZero.f (a0_0 : Int) (a0_1 : Int) (a0_2 : Int) (a0_3 : Int) (a0_4 : Int) (a0_5 : Int) (a0_6 : Bool) : Option (Bool) := if a0_0 = 0 then (if a0_1 = 0 then (if a0_2 = 0 then (if a0_3 = 0 then (if a0_4 = 0 then (if a0_5 = 0 then (some (!a0_6)) else (some false)) else (some false)) else (some false)) else (some false)) else (some false)) else (some false)
set_option maxHeartbeats 8000000 in
set_option maxRecDepth 100000 in
theorem chroma_StyleEntry_IsZero.calls (a0_0 : Int) (a0_1 : Int) (a0_2 : Int) (a0_3 : Int) (a0_4 : Int) (a0_5 : Int) (a0_6 : Bool) (r : Bool) (w : World) (h : chroma_StyleEntry_IsZero.f a0_0 a0_1 a0_2 a0_3 a0_4 a0_5 a0_6 = some r) :
    Calls Tryd.prog 28 #[.agg #[.int .i32 a0_0, .int .i32 a0_1, .int .i32 a0_2, .int .u8 a0_3, .int .u8 a0_4, .int .u8 a0_5, .bool a0_6]] w fun e w' => e = .returned (.bool r) ∧ Below w.heap.size w w' := by
  have hu57 := Tryd.underlying57
  have HB := Aside0.mk (Below.refl w.heap.size w)
  have H : (if a0_0 = 0 then (if a0_1 = 0 then (if a0_2 = 0 then (if a0_3 = 0 then (if a0_4 = 0 then (if a0_5 = 0 then (some (!a0_6)) else (some false)) else (some false)) else (some false)) else (some false)) else (some false)) else (some false)) = some r := h
  clear h
  by_cases c2 : a0_0 = 0
  · rw [if_pos c2] at H
    have c2b0 : (a0_0 == 0) = true := beq_iff_eq.mpr c2
    have c2b1 : (a0_0 != 0) = false := bne_eq_false_iff_eq.mpr c2
    clear c2
    by_cases c3 : a0_1 = 0
    · rw [if_pos c3] at H
      have c3b0 : (a0_1 == 0) = true := beq_iff_eq.mpr c3
      have c3b1 : (a0_1 != 0) = false := bne_eq_false_iff_eq.mpr c3
      clear c3
      by_cases c4 : a0_2 = 0
      · rw [if_pos c4] at H
        have c4b0 : (a0_2 == 0) = true := beq_iff_eq.mpr c4
        have c4b1 : (a0_2 != 0) = false := bne_eq_false_iff_eq.mpr c4
        clear c4
        by_cases c5 : a0_3 = 0
        · rw [if_pos c5] at H
          have c5b0 : (a0_3 == 0) = true := beq_iff_eq.mpr c5
          have c5b1 : (a0_3 != 0) = false := bne_eq_false_iff_eq.mpr c5
          clear c5
          by_cases c6 : a0_4 = 0
          · rw [if_pos c6] at H
            have c6b0 : (a0_4 == 0) = true := beq_iff_eq.mpr c6
            have c6b1 : (a0_4 != 0) = false := bne_eq_false_iff_eq.mpr c6
            clear c6
            by_cases c7 : a0_5 = 0
            · rw [if_pos c7] at H
              have c7b0 : (a0_5 == 0) = true := beq_iff_eq.mpr c7
              have c7b1 : (a0_5 != 0) = false := bne_eq_false_iff_eq.mpr c7
              clear c7
              obtain rfl := Option.some.inj H
              go_enter Tryd.func28, Tryd.ntmps28
              go_wp2_with (first | ((with_reducible refine gate_dst (N := 1) rfl ?_); refine box_event ?hg (N := 1) ?hd (cs := #[.int .i32 a0_0, .int .i32 a0_1, .int .i32 a0_2, .int .u8 a0_3, .int .u8 a0_4, .int .u8 a0_5, .bool a0_6]) (t := 57) ?hr ?_; (case hd => rfl); (case hg => rfl); (case hr => first | (go_simp; done) | (go_simp; rfl)); intro gb103 hg w8 hbox hb; have n0_ := Aside0.mk (below_step (by repeat (first | (with_reducible first | exact HB.out | apply below_alloc | apply pw_below_drewN | apply below_drew1) | exact HB.out)) hb); have n1_ := Aside0.mk (hbox); have n2_ := Aside0.mk ((by rw [hg]; exact (below_size (by repeat (first | (with_reducible first | exact HB.out | apply below_alloc | apply pw_below_drewN | apply below_drew1) | exact HB.out))) : w.heap.size ≤ gb103)); have n3_ := Aside0.mk ((by rw [hg]; exact (below_size (by repeat (first | (with_reducible first | exact HB.out | apply below_alloc | apply pw_below_drewN | apply below_drew1) | exact HB.out))) : w.heap.size ≤ gb103)); clear HB; have HB := n0_; have BK103 := n1_; have GW103 := n2_; have GE103 := n3_; clear n0_ n1_ n2_ n3_; clear hb hbox hg; have hcz9_0 : w8.cell? ⟨gb103, 0, none⟩ = some (.int .i32 a0_0) := (blk_cell BK103.out 0).trans rfl; have hcz9_1 : w8.cell? ⟨gb103, 1, none⟩ = some (.int .i32 a0_1) := (blk_cell BK103.out 1).trans rfl; have hcz9_2 : w8.cell? ⟨gb103, 2, none⟩ = some (.int .i32 a0_2) := (blk_cell BK103.out 2).trans rfl; have hcz9_3 : w8.cell? ⟨gb103, 3, none⟩ = some (.int .u8 a0_3) := (blk_cell BK103.out 3).trans rfl; have hcz9_4 : w8.cell? ⟨gb103, 4, none⟩ = some (.int .u8 a0_4) := (blk_cell BK103.out 4).trans rfl; have hcz9_5 : w8.cell? ⟨gb103, 5, none⟩ = some (.int .u8 a0_5) := (blk_cell BK103.out 5).trans rfl; have hcz9_6 : w8.cell? ⟨gb103, 6, none⟩ = some (.bool a0_6) := (blk_cell BK103.out 6).trans rfl; have hfz9_0 := blk_frozen BK103.out 0; have hfz9_1 := blk_frozen BK103.out 1; have hfz9_2 := blk_frozen BK103.out 2; have hfz9_3 := blk_frozen BK103.out 3; have hfz9_4 := blk_frozen BK103.out 4; have hfz9_5 := blk_frozen BK103.out 5; have hfz9_6 := blk_frozen BK103.out 6))
              go_ret
              exact ⟨by first | rfl | (simp [errW_none, errW_some] <;> rfl) | (simp [*, errW_none, errW_some] <;> rfl), by repeat (first | (with_reducible first | exact HB.out | apply below_alloc | apply pw_below_drewN | apply below_drew1 | refine below_set ?_ GE103.out) | exact HB.out)⟩
            · rw [if_neg c7] at H
              have c7b0 : (a0_5 == 0) = false := beq_eq_false_iff_ne.mpr c7
              have c7b1 : (a0_5 != 0) = true := bne_iff_ne.mpr c7
              obtain rfl := Option.some.inj H
              go_enter Tryd.func28, Tryd.ntmps28
              go_wp2_with (first | ((with_reducible refine gate_dst (N := 1) rfl ?_); refine box_event ?hg (N := 1) ?hd (cs := #[.int .i32 a0_0, .int .i32 a0_1, .int .i32 a0_2, .int .u8 a0_3, .int .u8 a0_4, .int .u8 a0_5, .bool a0_6]) (t := 57) ?hr ?_; (case hd => rfl); (case hg => rfl); (case hr => first | (go_simp; done) | (go_simp; rfl)); intro gb103 hg w10 hbox hb; have n0_ := Aside0.mk (below_step (by repeat (first | (with_reducible first | exact HB.out | apply below_alloc | apply pw_below_drewN | apply below_drew1) | exact HB.out)) hb); have n1_ := Aside0.mk (hbox); have n2_ := Aside0.mk ((by rw [hg]; exact (below_size (by repeat (first | (with_reducible first | exact HB.out | apply below_alloc | apply pw_below_drewN | apply below_drew1) | exact HB.out))) : w.heap.size ≤ gb103)); have n3_ := Aside0.mk ((by rw [hg]; exact (below_size (by repeat (first | (with_reducible first | exact HB.out | apply below_alloc | apply pw_below_drewN | apply below_drew1) | exact HB.out))) : w.heap.size ≤ gb103)); clear HB; have HB := n0_; have BK103 := n1_; have GW103 := n2_; have GE103 := n3_; clear n0_ n1_ n2_ n3_; clear hb hbox hg; have hcz11_0 : w10.cell? ⟨gb103, 0, none⟩ = some (.int .i32 a0_0) := (blk_cell BK103.out 0).trans rfl; have hcz11_1 : w10.cell? ⟨gb103, 1, none⟩ = some (.int .i32 a0_1) := (blk_cell BK103.out 1).trans rfl; have hcz11_2 : w10.cell? ⟨gb103, 2, none⟩ = some (.int .i32 a0_2) := (blk_cell BK103.out 2).trans rfl; have hcz11_3 : w10.cell? ⟨gb103, 3, none⟩ = some (.int .u8 a0_3) := (blk_cell BK103.out 3).trans rfl; have hcz11_4 : w10.cell? ⟨gb103, 4, none⟩ = some (.int .u8 a0_4) := (blk_cell BK103.out 4).trans rfl; have hcz11_5 : w10.cell? ⟨gb103, 5, none⟩ = some (.int .u8 a0_5) := (blk_cell BK103.out 5).trans rfl; have hcz11_6 : w10.cell? ⟨gb103, 6, none⟩ = some (.bool a0_6) := (blk_cell BK103.out 6).trans rfl; have hfz11_0 := blk_frozen BK103.out 0; have hfz11_1 := blk_frozen BK103.out 1; have hfz11_2 := blk_frozen BK103.out 2; have hfz11_3 := blk_frozen BK103.out 3; have hfz11_4 := blk_frozen BK103.out 4; have hfz11_5 := blk_frozen BK103.out 5; have hfz11_6 := blk_frozen BK103.out 6))
              go_ret
              exact ⟨by first | rfl | (simp [errW_none, errW_some] <;> rfl) | (simp [*, errW_none, errW_some] <;> rfl), by repeat (first | (with_reducible first | exact HB.out | apply below_alloc | apply pw_below_drewN | apply below_drew1 | refine below_set ?_ GE103.out) | exact HB.out)⟩
          · rw [if_neg c6] at H
            have c6b0 : (a0_4 == 0) = false := beq_eq_false_iff_ne.mpr c6
            have c6b1 : (a0_4 != 0) = true := bne_iff_ne.mpr c6
            obtain rfl := Option.some.inj H
            go_enter Tryd.func28, Tryd.ntmps28
            go_wp2_with (first | ((with_reducible refine gate_dst (N := 1) rfl ?_); refine box_event ?hg (N := 1) ?hd (cs := #[.int .i32 a0_0, .int .i32 a0_1, .int .i32 a0_2, .int .u8 a0_3, .int .u8 a0_4, .int .u8 a0_5, .bool a0_6]) (t := 57) ?hr ?_; (case hd => rfl); (case hg => rfl); (case hr => first | (go_simp; done) | (go_simp; rfl)); intro gb103 hg w12 hbox hb; have n0_ := Aside0.mk (below_step (by repeat (first | (with_reducible first | exact HB.out | apply below_alloc | apply pw_below_drewN | apply below_drew1) | exact HB.out)) hb); have n1_ := Aside0.mk (hbox); have n2_ := Aside0.mk ((by rw [hg]; exact (below_size (by repeat (first | (with_reducible first | exact HB.out | apply below_alloc | apply pw_below_drewN | apply below_drew1) | exact HB.out))) : w.heap.size ≤ gb103)); have n3_ := Aside0.mk ((by rw [hg]; exact (below_size (by repeat (first | (with_reducible first | exact HB.out | apply below_alloc | apply pw_below_drewN | apply below_drew1) | exact HB.out))) : w.heap.size ≤ gb103)); clear HB; have HB := n0_; have BK103 := n1_; have GW103 := n2_; have GE103 := n3_; clear n0_ n1_ n2_ n3_; clear hb hbox hg; have hcz13_0 : w12.cell? ⟨gb103, 0, none⟩ = some (.int .i32 a0_0) := (blk_cell BK103.out 0).trans rfl; have hcz13_1 : w12.cell? ⟨gb103, 1, none⟩ = some (.int .i32 a0_1) := (blk_cell BK103.out 1).trans rfl; have hcz13_2 : w12.cell? ⟨gb103, 2, none⟩ = some (.int .i32 a0_2) := (blk_cell BK103.out 2).trans rfl; have hcz13_3 : w12.cell? ⟨gb103, 3, none⟩ = some (.int .u8 a0_3) := (blk_cell BK103.out 3).trans rfl; have hcz13_4 : w12.cell? ⟨gb103, 4, none⟩ = some (.int .u8 a0_4) := (blk_cell BK103.out 4).trans rfl; have hcz13_5 : w12.cell? ⟨gb103, 5, none⟩ = some (.int .u8 a0_5) := (blk_cell BK103.out 5).trans rfl; have hcz13_6 : w12.cell? ⟨gb103, 6, none⟩ = some (.bool a0_6) := (blk_cell BK103.out 6).trans rfl; have hfz13_0 := blk_frozen BK103.out 0; have hfz13_1 := blk_frozen BK103.out 1; have hfz13_2 := blk_frozen BK103.out 2; have hfz13_3 := blk_frozen BK103.out 3; have hfz13_4 := blk_frozen BK103.out 4; have hfz13_5 := blk_frozen BK103.out 5; have hfz13_6 := blk_frozen BK103.out 6))
            go_ret
            exact ⟨by first | rfl | (simp [errW_none, errW_some] <;> rfl) | (simp [*, errW_none, errW_some] <;> rfl), by repeat (first | (with_reducible first | exact HB.out | apply below_alloc | apply pw_below_drewN | apply below_drew1 | refine below_set ?_ GE103.out) | exact HB.out)⟩
        · rw [if_neg c5] at H
          have c5b0 : (a0_3 == 0) = false := beq_eq_false_iff_ne.mpr c5
          have c5b1 : (a0_3 != 0) = true := bne_iff_ne.mpr c5
          obtain rfl := Option.some.inj H
          go_enter Tryd.func28, Tryd.ntmps28
          go_wp2_with (first | ((with_reducible refine gate_dst (N := 1) rfl ?_); refine box_event ?hg (N := 1) ?hd (cs := #[.int .i32 a0_0, .int .i32 a0_1, .int .i32 a0_2, .int .u8 a0_3, .int .u8 a0_4, .int .u8 a0_5, .bool a0_6]) (t := 57) ?hr ?_; (case hd => rfl); (case hg => rfl); (case hr => first | (go_simp; done) | (go_simp; rfl)); intro gb103 hg w14 hbox hb; have n0_ := Aside0.mk (below_step (by repeat (first | (with_reducible first | exact HB.out | apply below_alloc | apply pw_below_drewN | apply below_drew1) | exact HB.out)) hb); have n1_ := Aside0.mk (hbox); have n2_ := Aside0.mk ((by rw [hg]; exact (below_size (by repeat (first | (with_reducible first | exact HB.out | apply below_alloc | apply pw_below_drewN | apply below_drew1) | exact HB.out))) : w.heap.size ≤ gb103)); have n3_ := Aside0.mk ((by rw [hg]; exact (below_size (by repeat (first | (with_reducible first | exact HB.out | apply below_alloc | apply pw_below_drewN | apply below_drew1) | exact HB.out))) : w.heap.size ≤ gb103)); clear HB; have HB := n0_; have BK103 := n1_; have GW103 := n2_; have GE103 := n3_; clear n0_ n1_ n2_ n3_; clear hb hbox hg; have hcz15_0 : w14.cell? ⟨gb103, 0, none⟩ = some (.int .i32 a0_0) := (blk_cell BK103.out 0).trans rfl; have hcz15_1 : w14.cell? ⟨gb103, 1, none⟩ = some (.int .i32 a0_1) := (blk_cell BK103.out 1).trans rfl; have hcz15_2 : w14.cell? ⟨gb103, 2, none⟩ = some (.int .i32 a0_2) := (blk_cell BK103.out 2).trans rfl; have hcz15_3 : w14.cell? ⟨gb103, 3, none⟩ = some (.int .u8 a0_3) := (blk_cell BK103.out 3).trans rfl; have hcz15_4 : w14.cell? ⟨gb103, 4, none⟩ = some (.int .u8 a0_4) := (blk_cell BK103.out 4).trans rfl; have hcz15_5 : w14.cell? ⟨gb103, 5, none⟩ = some (.int .u8 a0_5) := (blk_cell BK103.out 5).trans rfl; have hcz15_6 : w14.cell? ⟨gb103, 6, none⟩ = some (.bool a0_6) := (blk_cell BK103.out 6).trans rfl; have hfz15_0 := blk_frozen BK103.out 0; have hfz15_1 := blk_frozen BK103.out 1; have hfz15_2 := blk_frozen BK103.out 2; have hfz15_3 := blk_frozen BK103.out 3; have hfz15_4 := blk_frozen BK103.out 4; have hfz15_5 := blk_frozen BK103.out 5; have hfz15_6 := blk_frozen BK103.out 6))
          go_ret
          exact ⟨by first | rfl | (simp [errW_none, errW_some] <;> rfl) | (simp [*, errW_none, errW_some] <;> rfl), by repeat (first | (with_reducible first | exact HB.out | apply below_alloc | apply pw_below_drewN | apply below_drew1 | refine below_set ?_ GE103.out) | exact HB.out)⟩
      · rw [if_neg c4] at H
        have c4b0 : (a0_2 == 0) = false := beq_eq_false_iff_ne.mpr c4
        have c4b1 : (a0_2 != 0) = true := bne_iff_ne.mpr c4
        obtain rfl := Option.some.inj H
        go_enter Tryd.func28, Tryd.ntmps28
        go_wp2_with (first | ((with_reducible refine gate_dst (N := 1) rfl ?_); refine box_event ?hg (N := 1) ?hd (cs := #[.int .i32 a0_0, .int .i32 a0_1, .int .i32 a0_2, .int .u8 a0_3, .int .u8 a0_4, .int .u8 a0_5, .bool a0_6]) (t := 57) ?hr ?_; (case hd => rfl); (case hg => rfl); (case hr => first | (go_simp; done) | (go_simp; rfl)); intro gb103 hg w16 hbox hb; have n0_ := Aside0.mk (below_step (by repeat (first | (with_reducible first | exact HB.out | apply below_alloc | apply pw_below_drewN | apply below_drew1) | exact HB.out)) hb); have n1_ := Aside0.mk (hbox); have n2_ := Aside0.mk ((by rw [hg]; exact (below_size (by repeat (first | (with_reducible first | exact HB.out | apply below_alloc | apply pw_below_drewN | apply below_drew1) | exact HB.out))) : w.heap.size ≤ gb103)); have n3_ := Aside0.mk ((by rw [hg]; exact (below_size (by repeat (first | (with_reducible first | exact HB.out | apply below_alloc | apply pw_below_drewN | apply below_drew1) | exact HB.out))) : w.heap.size ≤ gb103)); clear HB; have HB := n0_; have BK103 := n1_; have GW103 := n2_; have GE103 := n3_; clear n0_ n1_ n2_ n3_; clear hb hbox hg; have hcz17_0 : w16.cell? ⟨gb103, 0, none⟩ = some (.int .i32 a0_0) := (blk_cell BK103.out 0).trans rfl; have hcz17_1 : w16.cell? ⟨gb103, 1, none⟩ = some (.int .i32 a0_1) := (blk_cell BK103.out 1).trans rfl; have hcz17_2 : w16.cell? ⟨gb103, 2, none⟩ = some (.int .i32 a0_2) := (blk_cell BK103.out 2).trans rfl; have hcz17_3 : w16.cell? ⟨gb103, 3, none⟩ = some (.int .u8 a0_3) := (blk_cell BK103.out 3).trans rfl; have hcz17_4 : w16.cell? ⟨gb103, 4, none⟩ = some (.int .u8 a0_4) := (blk_cell BK103.out 4).trans rfl; have hcz17_5 : w16.cell? ⟨gb103, 5, none⟩ = some (.int .u8 a0_5) := (blk_cell BK103.out 5).trans rfl; have hcz17_6 : w16.cell? ⟨gb103, 6, none⟩ = some (.bool a0_6) := (blk_cell BK103.out 6).trans rfl; have hfz17_0 := blk_frozen BK103.out 0; have hfz17_1 := blk_frozen BK103.out 1; have hfz17_2 := blk_frozen BK103.out 2; have hfz17_3 := blk_frozen BK103.out 3; have hfz17_4 := blk_frozen BK103.out 4; have hfz17_5 := blk_frozen BK103.out 5; have hfz17_6 := blk_frozen BK103.out 6))
        go_ret
        exact ⟨by first | rfl | (simp [errW_none, errW_some] <;> rfl) | (simp [*, errW_none, errW_some] <;> rfl), by repeat (first | (with_reducible first | exact HB.out | apply below_alloc | apply pw_below_drewN | apply below_drew1 | refine below_set ?_ GE103.out) | exact HB.out)⟩
    · rw [if_neg c3] at H
      have c3b0 : (a0_1 == 0) = false := beq_eq_false_iff_ne.mpr c3
      have c3b1 : (a0_1 != 0) = true := bne_iff_ne.mpr c3
      obtain rfl := Option.some.inj H
      go_enter Tryd.func28, Tryd.ntmps28
      go_wp2_with (first | ((with_reducible refine gate_dst (N := 1) rfl ?_); refine box_event ?hg (N := 1) ?hd (cs := #[.int .i32 a0_0, .int .i32 a0_1, .int .i32 a0_2, .int .u8 a0_3, .int .u8 a0_4, .int .u8 a0_5, .bool a0_6]) (t := 57) ?hr ?_; (case hd => rfl); (case hg => rfl); (case hr => first | (go_simp; done) | (go_simp; rfl)); intro gb103 hg w18 hbox hb; have n0_ := Aside0.mk (below_step (by repeat (first | (with_reducible first | exact HB.out | apply below_alloc | apply pw_below_drewN | apply below_drew1) | exact HB.out)) hb); have n1_ := Aside0.mk (hbox); have n2_ := Aside0.mk ((by rw [hg]; exact (below_size (by repeat (first | (with_reducible first | exact HB.out | apply below_alloc | apply pw_below_drewN | apply below_drew1) | exact HB.out))) : w.heap.size ≤ gb103)); have n3_ := Aside0.mk ((by rw [hg]; exact (below_size (by repeat (first | (with_reducible first | exact HB.out | apply below_alloc | apply pw_below_drewN | apply below_drew1) | exact HB.out))) : w.heap.size ≤ gb103)); clear HB; have HB := n0_; have BK103 := n1_; have GW103 := n2_; have GE103 := n3_; clear n0_ n1_ n2_ n3_; clear hb hbox hg; have hcz19_0 : w18.cell? ⟨gb103, 0, none⟩ = some (.int .i32 a0_0) := (blk_cell BK103.out 0).trans rfl; have hcz19_1 : w18.cell? ⟨gb103, 1, none⟩ = some (.int .i32 a0_1) := (blk_cell BK103.out 1).trans rfl; have hcz19_2 : w18.cell? ⟨gb103, 2, none⟩ = some (.int .i32 a0_2) := (blk_cell BK103.out 2).trans rfl; have hcz19_3 : w18.cell? ⟨gb103, 3, none⟩ = some (.int .u8 a0_3) := (blk_cell BK103.out 3).trans rfl; have hcz19_4 : w18.cell? ⟨gb103, 4, none⟩ = some (.int .u8 a0_4) := (blk_cell BK103.out 4).trans rfl; have hcz19_5 : w18.cell? ⟨gb103, 5, none⟩ = some (.int .u8 a0_5) := (blk_cell BK103.out 5).trans rfl; have hcz19_6 : w18.cell? ⟨gb103, 6, none⟩ = some (.bool a0_6) := (blk_cell BK103.out 6).trans rfl; have hfz19_0 := blk_frozen BK103.out 0; have hfz19_1 := blk_frozen BK103.out 1; have hfz19_2 := blk_frozen BK103.out 2; have hfz19_3 := blk_frozen BK103.out 3; have hfz19_4 := blk_frozen BK103.out 4; have hfz19_5 := blk_frozen BK103.out 5; have hfz19_6 := blk_frozen BK103.out 6))
      go_ret
      exact ⟨by first | rfl | (simp [errW_none, errW_some] <;> rfl) | (simp [*, errW_none, errW_some] <;> rfl), by repeat (first | (with_reducible first | exact HB.out | apply below_alloc | apply pw_below_drewN | apply below_drew1 | refine below_set ?_ GE103.out) | exact HB.out)⟩
  · rw [if_neg c2] at H
    have c2b0 : (a0_0 == 0) = false := beq_eq_false_iff_ne.mpr c2
    have c2b1 : (a0_0 != 0) = true := bne_iff_ne.mpr c2
    obtain rfl := Option.some.inj H
    go_enter Tryd.func28, Tryd.ntmps28
    go_wp2_with (first | ((with_reducible refine gate_dst (N := 1) rfl ?_); refine box_event ?hg (N := 1) ?hd (cs := #[.int .i32 a0_0, .int .i32 a0_1, .int .i32 a0_2, .int .u8 a0_3, .int .u8 a0_4, .int .u8 a0_5, .bool a0_6]) (t := 57) ?hr ?_; (case hd => rfl); (case hg => rfl); (case hr => first | (go_simp; done) | (go_simp; rfl)); intro gb103 hg w20 hbox hb; have n0_ := Aside0.mk (below_step (by repeat (first | (with_reducible first | exact HB.out | apply below_alloc | apply pw_below_drewN | apply below_drew1) | exact HB.out)) hb); have n1_ := Aside0.mk (hbox); have n2_ := Aside0.mk ((by rw [hg]; exact (below_size (by repeat (first | (with_reducible first | exact HB.out | apply below_alloc | apply pw_below_drewN | apply below_drew1) | exact HB.out))) : w.heap.size ≤ gb103)); have n3_ := Aside0.mk ((by rw [hg]; exact (below_size (by repeat (first | (with_reducible first | exact HB.out | apply below_alloc | apply pw_below_drewN | apply below_drew1) | exact HB.out))) : w.heap.size ≤ gb103)); clear HB; have HB := n0_; have BK103 := n1_; have GW103 := n2_; have GE103 := n3_; clear n0_ n1_ n2_ n3_; clear hb hbox hg; have hcz21_0 : w20.cell? ⟨gb103, 0, none⟩ = some (.int .i32 a0_0) := (blk_cell BK103.out 0).trans rfl; have hcz21_1 : w20.cell? ⟨gb103, 1, none⟩ = some (.int .i32 a0_1) := (blk_cell BK103.out 1).trans rfl; have hcz21_2 : w20.cell? ⟨gb103, 2, none⟩ = some (.int .i32 a0_2) := (blk_cell BK103.out 2).trans rfl; have hcz21_3 : w20.cell? ⟨gb103, 3, none⟩ = some (.int .u8 a0_3) := (blk_cell BK103.out 3).trans rfl; have hcz21_4 : w20.cell? ⟨gb103, 4, none⟩ = some (.int .u8 a0_4) := (blk_cell BK103.out 4).trans rfl; have hcz21_5 : w20.cell? ⟨gb103, 5, none⟩ = some (.int .u8 a0_5) := (blk_cell BK103.out 5).trans rfl; have hcz21_6 : w20.cell? ⟨gb103, 6, none⟩ = some (.bool a0_6) := (blk_cell BK103.out 6).trans rfl; have hfz21_0 := blk_frozen BK103.out 0; have hfz21_1 := blk_frozen BK103.out 1; have hfz21_2 := blk_frozen BK103.out 2; have hfz21_3 := blk_frozen BK103.out 3; have hfz21_4 := blk_frozen BK103.out 4; have hfz21_5 := blk_frozen BK103.out 5; have hfz21_6 := blk_frozen BK103.out 6))
    go_ret
    exact ⟨by first | rfl | (simp [errW_none, errW_some] <;> rfl) | (simp [*, errW_none, errW_some] <;> rfl), by repeat (first | (with_reducible first | exact HB.out | apply below_alloc | apply pw_below_drewN | apply below_drew1 | refine below_set ?_ GE103.out) | exact HB.out)⟩

/-! ### impl_EntryIsZero: function 12 -/
def impl_EntryIsZero.f (a0_0 : Int) (a0_1 : Int) (a0_2 : Int) (a0_3 : Int) (a0_4 : Int) (a0_5 : Int) (a0_6 : Bool) : Option (Bool) := (impl_entered.f a0_0 a0_1 a0_2 a0_3 a0_4 a0_5 a0_6).bind fun bt105 => ((chroma_StyleEntry_IsZero.f bt105.1 bt105.2.1 bt105.2.2.1 bt105.2.2.2.1 bt105.2.2.2.2.1 bt105.2.2.2.2.2.1 bt105.2.2.2.2.2.2).bind fun t112 => (some t112))
set_option maxHeartbeats 8000000 in
set_option maxRecDepth 100000 in
theorem impl_EntryIsZero.calls (a0_0 : Int) (a0_1 : Int) (a0_2 : Int) (a0_3 : Int) (a0_4 : Int) (a0_5 : Int) (a0_6 : Bool) (r : Bool) (w : World) (h : impl_EntryIsZero.f a0_0 a0_1 a0_2 a0_3 a0_4 a0_5 a0_6 = some r) :
    Calls Tryd.prog 12 #[.agg #[.int .i32 a0_0, .int .i32 a0_1, .int .i32 a0_2, .int .u8 a0_3, .int .u8 a0_4, .int .u8 a0_5, .bool a0_6]] w fun e w' => e = .returned (.bool r) ∧ Below w.heap.size w w' := by
  have hu23 := Tryd.underlying23
  have HB := Aside0.mk (Below.refl w.heap.size w)
  have H : ((impl_entered.f a0_0 a0_1 a0_2 a0_3 a0_4 a0_5 a0_6).bind fun bt105 => ((chroma_StyleEntry_IsZero.f bt105.1 bt105.2.1 bt105.2.2.1 bt105.2.2.2.1 bt105.2.2.2.2.1 bt105.2.2.2.2.2.1 bt105.2.2.2.2.2.2).bind fun t112 => (some t112))) = some r := h
  clear h
  replace H := Option.bind_eq_some_iff.mp H
  obtain ⟨⟨t105, t106, t107, t108, t109, t110, t111⟩, A20, H⟩ := H
  replace H : ((chroma_StyleEntry_IsZero.f t105 t106 t107 t108 t109 t110 t111).bind fun t112 => (some t112)) = some r := H
  have A2 := Aside0.mk A20
  clear A20
  replace H := Option.bind_eq_some_iff.mp H
  obtain ⟨t112, A30, H⟩ := H
  replace H : (some t112) = some r := H
  have A3 := Aside0.mk A30
  clear A30
  obtain rfl := Option.some.inj H
  go_enter Tryd.func12, Tryd.ntmps12
  go_wp2_with (first | ((with_reducible refine gate_dst (N := 1) rfl ?_); refine box_event ?hg (N := 1) ?hd (cs := #[.int .i32 a0_0, .int .i32 a0_1, .int .i32 a0_2, .int .u8 a0_3, .int .u8 a0_4, .int .u8 a0_5, .bool a0_6]) (t := 23) ?hr ?_; (case hd => rfl); (case hg => rfl); (case hr => first | (go_simp; done) | (go_simp; rfl)); intro gb104 hg w4 hbox hb; have n0_ := Aside0.mk (below_step (by repeat (first | (with_reducible first | exact HB.out | apply below_alloc | apply pw_below_drewN | apply below_drew1) | exact HB.out)) hb); have n1_ := Aside0.mk (hbox); have n2_ := Aside0.mk ((by rw [hg]; exact (below_size (by repeat (first | (with_reducible first | exact HB.out | apply below_alloc | apply pw_below_drewN | apply below_drew1) | exact HB.out))) : w.heap.size ≤ gb104)); have n3_ := Aside0.mk ((by rw [hg]; exact (below_size (by repeat (first | (with_reducible first | exact HB.out | apply below_alloc | apply pw_below_drewN | apply below_drew1) | exact HB.out))) : w.heap.size ≤ gb104)); clear HB; have HB := n0_; have BK104 := n1_; have GW104 := n2_; have GE104 := n3_; clear n0_ n1_ n2_ n3_; clear hb hbox hg; have hcz5_0 : w4.cell? ⟨gb104, 0, none⟩ = some (.int .i32 a0_0) := (blk_cell BK104.out 0).trans rfl; have hcz5_1 : w4.cell? ⟨gb104, 1, none⟩ = some (.int .i32 a0_1) := (blk_cell BK104.out 1).trans rfl; have hcz5_2 : w4.cell? ⟨gb104, 2, none⟩ = some (.int .i32 a0_2) := (blk_cell BK104.out 2).trans rfl; have hcz5_3 : w4.cell? ⟨gb104, 3, none⟩ = some (.int .u8 a0_3) := (blk_cell BK104.out 3).trans rfl; have hcz5_4 : w4.cell? ⟨gb104, 4, none⟩ = some (.int .u8 a0_4) := (blk_cell BK104.out 4).trans rfl; have hcz5_5 : w4.cell? ⟨gb104, 5, none⟩ = some (.int .u8 a0_5) := (blk_cell BK104.out 5).trans rfl; have hcz5_6 : w4.cell? ⟨gb104, 6, none⟩ = some (.bool a0_6) := (blk_cell BK104.out 6).trans rfl; have hfz5_0 := blk_frozen BK104.out 0; have hfz5_1 := blk_frozen BK104.out 1; have hfz5_2 := blk_frozen BK104.out 2; have hfz5_3 := blk_frozen BK104.out 3; have hfz5_4 := blk_frozen BK104.out 4; have hfz5_5 := blk_frozen BK104.out 5; have hfz5_6 := blk_frozen BK104.out 6) | ((with_reducible refine gate_callee (f := 27) rfl ?_); refine goesL_ (some 4) rfl rfl Tryd.func27 (by kernel_rfl) rfl #[.agg #[.int .i32 a0_0, .int .i32 a0_1, .int .i32 a0_2, .int .u8 a0_3, .int .u8 a0_4, .int .u8 a0_5, .bool a0_6]] rfl (by (try simp only [List.map_toArray, List.map_cons, List.map_nil]); first | done | rfl | (simp only [List.length_drop, List.length_take]; rfl)) ?_; (with_reducible refine (impl_entered.calls a0_0 a0_1 a0_2 a0_3 a0_4 a0_5 a0_6 t105 t106 t107 t108 t109 t110 t111 _ A2.out).mono ?_); rintro e w6 ⟨rfl, hb⟩; refine ⟨_, rfl, ?_⟩; have n0_ := Aside0.mk (blk_below (g := gb104) (o := .cells #[.int .i32 a0_0, .int .i32 a0_1, .int .i32 a0_2, .int .u8 a0_3, .int .u8 a0_4, .int .u8 a0_5, .bool a0_6] 23 (0, 0)) (by (with_reducible repeat (first | refine blk_drewN ?_ _ | refine blk_drew ?_ | refine blk_alloc ?_ _)); exact BK104.out) hb); have n1_ := Aside0.mk (below_step (by repeat (first | (with_reducible first | exact HB.out | apply below_alloc | apply pw_below_drewN | apply below_drew1 | refine below_set ?_ GE104.out) | exact HB.out)) hb); clear BK104; clear HB; have BK104 := n0_; have HB := n1_; clear n0_ n1_; (try clear hb); (try clear hb2); (try clear hk); (try clear hi)) | ((with_reducible refine gate_callee (f := 28) rfl ?_); refine goesL_ (some 5) rfl rfl Tryd.func28 (by kernel_rfl) rfl #[.agg #[.int .i32 t105, .int .i32 t106, .int .i32 t107, .int .u8 t108, .int .u8 t109, .int .u8 t110, .bool t111]] rfl (by (try simp only [List.map_toArray, List.map_cons, List.map_nil]); first | done | rfl | (simp only [List.length_drop, List.length_take]; rfl)) ?_; (with_reducible refine (chroma_StyleEntry_IsZero.calls t105 t106 t107 t108 t109 t110 t111 t112 _ A3.out).mono ?_); rintro e w7 ⟨rfl, hb⟩; refine ⟨_, rfl, ?_⟩; have n0_ := Aside0.mk (blk_below (g := gb104) (o := .cells #[.int .i32 a0_0, .int .i32 a0_1, .int .i32 a0_2, .int .u8 a0_3, .int .u8 a0_4, .int .u8 a0_5, .bool a0_6] 23 (0, 0)) (by (with_reducible repeat (first | refine blk_drewN ?_ _ | refine blk_drew ?_ | refine blk_alloc ?_ _)); exact BK104.out) hb); have n1_ := Aside0.mk (below_step (by repeat (first | (with_reducible first | exact HB.out | apply below_alloc | apply pw_below_drewN | apply below_drew1 | refine below_set ?_ GE104.out) | exact HB.out)) hb); clear BK104; clear HB; have BK104 := n0_; have HB := n1_; clear n0_ n1_; (try clear hb); (try clear hb2); (try clear hk); (try clear hi)))
  go_ret
  exact ⟨by first | rfl | (simp [errW_none, errW_some] <;> rfl) | (simp [*, errW_none, errW_some] <;> rfl), by repeat (first | (with_reducible first | exact HB.out | apply below_alloc | apply pw_below_drewN | apply below_drew1 | refine below_set ?_ GE104.out) | exact HB.out)⟩

/-! ### laws_styled: function 13 -/
def laws_styled.f : Option Bool := some true
theorem laws_styled.calls (r : Bool) (w : World) (hV : Go.Proofs.YtifhhejohdmiaaaDoorFmt.VarsOK w) (h : laws_styled.f = some r) :
    Calls Tryd.prog 13 #[] w fun e w' => e = .returned (.bool r) ∧ Below w.heap.size w w' := by
  obtain rfl := Option.some.inj h
  exact Go.Proofs.YtifhhejohdmiaaaDoorEnt.sane w hV
/-! ### laws_plain: function 35 -/
def laws_plain.f (a0 : Int) : Option (Bool) := if a0 ≥ 1 then (some (decide (a0 ≤ 16777216))) else (some false)
set_option maxHeartbeats 8000000 in
set_option maxRecDepth 100000 in
theorem laws_plain.calls (a0 : Int) (r : Bool) (w : World) (h : laws_plain.f a0 = some r) :
    Calls Tryd.prog 35 #[.int .i32 a0] w fun e w' => e = .returned (.bool r) ∧ Drawn0 w w' := by
  have H : (if a0 ≥ 1 then (some (decide (a0 ≤ 16777216))) else (some false)) = some r := h
  clear h
  by_cases c2 : a0 ≥ 1
  · rw [if_pos c2] at H
    have c2b0 : decide (1 ≤ a0) = true := decide_eq_true c2
    clear c2
    obtain rfl := Option.some.inj H
    go_enter Tryd.func35, Tryd.ntmps35
    go_wp2
    go_ret
    exact ⟨by first | rfl | (simp; done) | (simp [*]; done), by repeat (first | exact Drawn0.refl _ | apply Drawn0.step)⟩
  · rw [if_neg c2] at H
    have c2b0 : decide (1 ≤ a0) = false := decide_eq_false c2
    clear c2
    obtain rfl := Option.some.inj H
    go_enter Tryd.func35, Tryd.ntmps35
    go_wp2
    go_ret
    exact ⟨by first | rfl | (simp; done) | (simp [*]; done), by repeat (first | exact Drawn0.refl _ | apply Drawn0.step)⟩

/-! ### laws_usual: function 16 -/
def laws_usual.l0 : Nat → List Int → Int → Int → Int → Int → Int → Int → Int → Int → Bool → Option (Bool)
  | 0, _, _, _, _, _, _, _, _, _, _ => none
  | k + 1, x11, x12, x13, x114000, x114001, x114002, x114003, x114004, x114005, x114006 => if x13 < x12 then (if 0 ≤ x13 then (if x13 < (x11.length : Int) then (if (rd x11 x13) = 0 then (laws_usual.l0 k x11 x12 (wrap64 (x13 + 1)) x114000 x114001 x114002 x114003 x114004 x114005 x114006) else ((laws_plain.f (rd x11 x13)).bind fun t118 => (if t118 = true then (laws_usual.l0 k x11 x12 (wrap64 (x13 + 1)) x114000 x114001 x114002 x114003 x114004 x114005 x114006) else (some false)))) else (none)) else (none)) else (if x114003 ≤ 2 then (if x114004 ≤ 2 then (some (decide (x114005 ≤ 2))) else (some false)) else (some false))
def laws_usual.f (k : Nat) (a0_0 : Int) (a0_1 : Int) (a0_2 : Int) (a0_3 : Int) (a0_4 : Int) (a0_5 : Int) (a0_6 : Bool) : Option (Bool) := (some (([a0_0, a0_1, a0_2] : List Int) : List Int)).bind fun y114 => (laws_usual.l0 k y114 (y114.length : Int) 0 a0_0 a0_1 a0_2 a0_3 a0_4 a0_5 a0_6)
theorem laws_usual.mono_l : ∀ k, (∀ y0 y1 y2 y3 y4 y5 y6 y7 y8 y9, LeO (laws_usual.l0 k y0 y1 y2 y3 y4 y5 y6 y7 y8 y9) (laws_usual.l0 (k + 1) y0 y1 y2 y3 y4 y5 y6 y7 y8 y9))
  | 0 => fun _ _ _ _ _ _ _ _ _ _ r h => by simp [laws_usual.l0] at h
  | k + 1 => by
    have ih0 := laws_usual.mono_l k
    · intro y0 y1 y2 y3 y4 y5 y6 y7 y8 y9
      unfold laws_usual.l0
      repeat' first
      | (with_reducible exact ih0 _ _ _ _ _ _ _ _ _ _)
      | (with_reducible exact LeO.refl _)
      | (with_reducible exact LeO.none _)
      | (with_reducible refine LeO.ite ?_ ?_)
      | (with_reducible refine LeO.bind ?_ (fun _ => ?_))
      | exact ih0 _ _ _ _ _ _ _ _ _ _
      | exact LeO.none _
      | refine LeO.ite ?_ ?_
      | refine LeO.bind ?_ (fun _ => ?_)
theorem laws_usual.mono : ∀ a0 a1 a2 a3 a4 a5 a6 k, LeO (laws_usual.f k a0 a1 a2 a3 a4 a5 a6) (laws_usual.f (k + 1) a0 a1 a2 a3 a4 a5 a6) := by
  intro a0 a1 a2 a3 a4 a5 a6 k
  have ih0 := laws_usual.mono_l k
  unfold laws_usual.f
  repeat' first
      | (with_reducible exact ih0 _ _ _ _ _ _ _ _ _ _)
      | (with_reducible exact LeO.refl _)
      | (with_reducible exact LeO.none _)
      | (with_reducible refine LeO.ite ?_ ?_)
      | (with_reducible refine LeO.bind ?_ (fun _ => ?_))
      | exact ih0 _ _ _ _ _ _ _ _ _ _
      | exact LeO.none _
      | refine LeO.ite ?_ ?_
      | refine LeO.bind ?_ (fun _ => ?_)
set_option maxHeartbeats 8000000 in
set_option maxRecDepth 100000 in
theorem laws_usual.calls (k : Nat) (a0_0 : Int) (a0_1 : Int) (a0_2 : Int) (a0_3 : Int) (a0_4 : Int) (a0_5 : Int) (a0_6 : Bool) (r : Bool) (w : World) (h : laws_usual.f k a0_0 a0_1 a0_2 a0_3 a0_4 a0_5 a0_6 = some r) :
    Calls Tryd.prog 16 #[.agg #[.int .i32 a0_0, .int .i32 a0_1, .int .i32 a0_2, .int .u8 a0_3, .int .u8 a0_4, .int .u8 a0_5, .bool a0_6]] w fun e w' => e = .returned (.bool r) ∧ Below w.heap.size w w' := by
  have hu23 := Tryd.underlying23
  have HB := Aside0.mk (Below.refl w.heap.size w)
  have H : ((some (([a0_0, a0_1, a0_2] : List Int) : List Int)).bind fun y114 => (laws_usual.l0 k y114 (y114.length : Int) 0 a0_0 a0_1 a0_2 a0_3 a0_4 a0_5 a0_6)) = some r := h
  clear h
  obtain ⟨y114, hy114⟩ : ∃ y_ : List Int, y_ = (([a0_0, a0_1, a0_2] : List Int)) := ⟨_, rfl⟩
  replace H : (laws_usual.l0 k y114 (y114.length : Int) 0 a0_0 a0_1 a0_2 a0_3 a0_4 a0_5 a0_6) = some r := by first | (rw [hy114]; with_reducible exact H) | (have H2_ := (Option.bind_some _ _).symm.trans H; rw [hy114]; with_reducible exact H2_) | (have H2_ := (Option.bind_some _ _).symm.trans H; with_reducible exact H2_) | with_reducible exact H | (rw [hy114]; exact H) | exact H
  have Ny114 := Aside0.mk hy114
  clear hy114
  have H' := Aside0.mk H
  clear H
  go_enter Tryd.func16, Tryd.ntmps16
  go_wp2_with (first | ((with_reducible refine gate_dst (N := 1) rfl ?_); refine box_event ?hg (N := 1) ?hd (cs := #[.int .i32 a0_0, .int .i32 a0_1, .int .i32 a0_2, .int .u8 a0_3, .int .u8 a0_4, .int .u8 a0_5, .bool a0_6]) (t := 23) ?hr ?_; (case hd => rfl); (case hg => rfl); (case hr => first | (go_simp; done) | (go_simp; rfl)); intro gb113 hg w2 hbox hb; have n0_ := Aside0.mk (below_step (by repeat (first | (with_reducible first | exact HB.out | apply below_alloc | apply pw_below_drewN | apply below_drew1) | exact HB.out)) hb); have n1_ := Aside0.mk (hbox); have n2_ := Aside0.mk ((by rw [hg]; exact (below_size (by repeat (first | (with_reducible first | exact HB.out | apply below_alloc | apply pw_below_drewN | apply below_drew1) | exact HB.out))) : w.heap.size ≤ gb113)); have n3_ := Aside0.mk ((by rw [hg]; exact (below_size (by repeat (first | (with_reducible first | exact HB.out | apply below_alloc | apply pw_below_drewN | apply below_drew1) | exact HB.out))) : w.heap.size ≤ gb113)); clear HB; have HB := n0_; have BK113 := n1_; have GW113 := n2_; have GE113 := n3_; clear n0_ n1_ n2_ n3_; clear hb hbox hg; have hcz3_0 : w2.cell? ⟨gb113, 0, none⟩ = some (.int .i32 a0_0) := (blk_cell BK113.out 0).trans rfl; have hcz3_1 : w2.cell? ⟨gb113, 1, none⟩ = some (.int .i32 a0_1) := (blk_cell BK113.out 1).trans rfl; have hcz3_2 : w2.cell? ⟨gb113, 2, none⟩ = some (.int .i32 a0_2) := (blk_cell BK113.out 2).trans rfl; have hcz3_3 : w2.cell? ⟨gb113, 3, none⟩ = some (.int .u8 a0_3) := (blk_cell BK113.out 3).trans rfl; have hcz3_4 : w2.cell? ⟨gb113, 4, none⟩ = some (.int .u8 a0_4) := (blk_cell BK113.out 4).trans rfl; have hcz3_5 : w2.cell? ⟨gb113, 5, none⟩ = some (.int .u8 a0_5) := (blk_cell BK113.out 5).trans rfl; have hcz3_6 : w2.cell? ⟨gb113, 6, none⟩ = some (.bool a0_6) := (blk_cell BK113.out 6).trans rfl; have hfz3_0 := blk_frozen BK113.out 0; have hfz3_1 := blk_frozen BK113.out 1; have hfz3_2 := blk_frozen BK113.out 2; have hfz3_3 := blk_frozen BK113.out 3; have hfz3_4 := blk_frozen BK113.out 4; have hfz3_5 := blk_frozen BK113.out 5; have hfz3_6 := blk_frozen BK113.out 6) | ((with_reducible refine gate_dst (N := 11) rfl ?_); refine Kd.R_lit (Kd.int .i32) _ 21 ?hg (N := 11) ?hd (xs := ([a0_0, a0_1, a0_2] : List Int)) (inner := [.int .i32 a0_0, .int .i32 a0_1, .int .i32 a0_2]) (ok := fun _ => True) (okp := fun _ => True) ?hr ?hp (fun _ hk => hk) trivial (Below.refl _ _) (Nat.le_refl _) (by simp) ?_; (case hd => rfl); (case hg => rfl); (case hr => first | (go_simp; done) | (go_simp; rfl)); (case hp => exact (Reps.one (show Kd.M (Kd.int .i32) _ _ _ a0_0 [.int .i32 a0_0] from rfl) (Reps.one (show Kd.M (Kd.int .i32) _ _ _ a0_1 [.int .i32 a0_1] from rfl) (Reps.one (show Kd.M (Kd.int .i32) _ _ _ a0_2 [.int .i32 a0_2] from rfl) (Reps.none _ _))))); intro v115 w4 ho5 hb hg_ hnew_; clear hg_ hnew_; (first | rw [← Ny114.out] at ho5 | (simp only [Int.reduceToNat] at ho5; rw [← Ny114.out] at ho5)); have n0_ := Aside0.mk (Kd.R_lower ho5 (below_size (by repeat (first | (with_reducible first | exact HB.out | apply below_alloc | apply pw_below_drewN | apply below_drew1 | refine below_set ?_ GE113.out) | exact HB.out)))); have n1_ := Aside0.mk (blk_below (g := gb113) (o := .cells #[.int .i32 a0_0, .int .i32 a0_1, .int .i32 a0_2, .int .u8 a0_3, .int .u8 a0_4, .int .u8 a0_5, .bool a0_6] 23 (0, 0)) (by (with_reducible repeat (first | refine blk_drewN ?_ _ | refine blk_drew ?_ | refine blk_alloc ?_ _)); exact BK113.out) hb); have n2_ := Aside0.mk (below_step (by repeat (first | (with_reducible first | exact HB.out | apply below_alloc | apply pw_below_drewN | apply below_drew1 | refine below_set ?_ GE113.out) | exact HB.out)) hb); clear BK113; clear HB; have HO116 := n0_; have BK113 := n1_; have HB := n2_; clear n0_ n1_ n2_; clear hb ho5; obtain ⟨Ao6, co6, eo6⟩ := Kd.R_slice HO116.out; subst eo6))
  go_loopg [13] k (fun kq v13 w' => ∃ (x13_1 : Int), v13 = .int .i64 x13_1 ∧ Aside0 (laws_usual.l0 kq y114 (y114.length : Int) x13_1 a0_0 a0_1 a0_2 a0_3 a0_4 a0_5 a0_6 = some r) ∧ Aside0 (kq ≤ k) ∧ Aside0 (Kd.R (Kd.int .i32) 21 w' w.heap.size (fun _ => True) (.slice Ao6 y114.length co6) y114) ∧ Aside0 (w'.heap[gb113]? = some (.cells #[.int .i32 a0_0, .int .i32 a0_1, .int .i32 a0_2, .int .u8 a0_3, .int .u8 a0_4, .int .u8 a0_5, .bool a0_6] 23 (0, 0))) ∧ Aside0 (Below w.heap.size w w'))
  case atStart => exact ⟨(0), (by first | rfl | (simp; done) | (simp [*]; done)), H', ⟨Nat.le_refl _⟩, ⟨by (with_reducible repeat (first | apply Kd.R_alloc | apply Kd.R_drewN | apply Kd.R_drew)); exact HO116.out⟩, ⟨by (with_reducible repeat (first | refine blk_drewN ?_ _ | refine blk_drew ?_ | refine blk_alloc ?_ _)); exact BK113.out⟩, ⟨by repeat (first | (with_reducible first | exact HB.out | apply below_alloc | apply pw_below_drewN | apply below_drew1 | refine below_set ?_ GE113.out) | exact HB.out)⟩⟩
  case round =>
    clear H'
    try clear c1
    try clear p2
    try clear hcz3_0
    try clear hcz3_1
    try clear hcz3_2
    try clear hcz3_3
    try clear hcz3_4
    try clear hcz3_5
    try clear hcz3_6
    try clear hfz3_0
    try clear hfz3_1
    try clear hfz3_2
    try clear hfz3_3
    try clear hfz3_4
    try clear hfz3_5
    try clear hfz3_6
    obtain ⟨x13_1, rfl, HA, HK1, HO_11, BK113, HB⟩ := hrel
    cases gk with
    | zero => exact absurd HA.out (by simp [laws_usual.l0])
    | succ k1 =>
      have H := HA.out
      clear HA
      simp only [laws_usual.l0] at H
      by_cases c7 : x13_1 < (y114.length : Int)
      · rw [if_pos c7] at H
        have c7b0 : decide (x13_1 < (y114.length : Int)) = true := decide_eq_true c7
        clear c7
        by_cases c8 : 0 ≤ x13_1
        · rw [if_pos c8] at H
          have c8b0 : decide (0 ≤ x13_1) = true := decide_eq_true c8
          clear c8
          by_cases c9 : x13_1 < (y114.length : Int)
          · rw [if_pos c9] at H
            have c9b0 : decide (x13_1 < (y114.length : Int)) = true := decide_eq_true c9
            clear c9
            by_cases c10 : (rd y114 x13_1) = 0
            · rw [if_pos c10] at H
              have c10b0 : ((rd y114 x13_1) == 0) = true := beq_iff_eq.mpr c10
              have c10b1 : ((rd y114 x13_1) != 0) = false := bne_eq_false_iff_eq.mpr c10
              clear c10
              have H' := Aside0.mk H
              clear H
              have p117 : 0 ≤ (x13_1 : Int) := of_decide_eq_true (by first | (with_reducible assumption) | assumption)
              have q117 : x13_1 < (y114.length : Int) := of_decide_eq_true (by first | (with_reducible assumption) | assumption)
              obtain ⟨ad117, e117, hx117_0⟩ := Kd.at_int (Kd.R_reads' HO_11.out).2.2 x13_1 p117 q117
              cases e117
              replace p117 := eq_true p117
              replace q117 := eq_true q117
              go_wp2
              go_roundg k1
              case measure => have := HK1.out; omega
              case rel => exact ⟨(wrap64 (x13_1 + 1)), (by first | rfl | (simp; done) | (simp [*]; done)), H', ⟨by have := HK1.out; omega⟩, ⟨by (with_reducible repeat (first | apply Kd.R_alloc | apply Kd.R_drewN | apply Kd.R_drew)); exact HO_11.out⟩, ⟨by (with_reducible repeat (first | refine blk_drewN ?_ _ | refine blk_drew ?_ | refine blk_alloc ?_ _)); exact BK113.out⟩, ⟨by repeat (first | (with_reducible first | exact HB.out | apply below_alloc | apply pw_below_drewN | apply below_drew1 | refine below_set ?_ GE113.out) | exact HB.out)⟩⟩
            · rw [if_neg c10] at H
              have c10b0 : ((rd y114 x13_1) == 0) = false := beq_eq_false_iff_ne.mpr c10
              have c10b1 : ((rd y114 x13_1) != 0) = true := bne_iff_ne.mpr c10
              replace H := Option.bind_eq_some_iff.mp H
              obtain ⟨t118, A110, H⟩ := H
              replace H : (if t118 = true then (laws_usual.l0 k1 y114 (y114.length : Int) (wrap64 (x13_1 + 1)) a0_0 a0_1 a0_2 a0_3 a0_4 a0_5 a0_6) else (some false)) = some r := H
              have A11 := Aside0.mk A110
              clear A110
              by_cases c12 : t118 = true
              · subst c12
                have H1 : (laws_usual.l0 k1 y114 (y114.length : Int) (wrap64 (x13_1 + 1)) a0_0 a0_1 a0_2 a0_3 a0_4 a0_5 a0_6) = some r := by rw [if_pos rfl] at H; exact H
                clear H
                have H := H1
                clear H1
                have H' := Aside0.mk H
                clear H
                have p117 : 0 ≤ (x13_1 : Int) := of_decide_eq_true (by first | (with_reducible assumption) | assumption)
                have q117 : x13_1 < (y114.length : Int) := of_decide_eq_true (by first | (with_reducible assumption) | assumption)
                obtain ⟨ad117, e117, hx117_0⟩ := Kd.at_int (Kd.R_reads' HO_11.out).2.2 x13_1 p117 q117
                cases e117
                replace p117 := eq_true p117
                replace q117 := eq_true q117
                go_wp2_with (first | (go_at_call 35; (with_reducible refine (laws_plain.calls (rd y114 x13_1) true _ A11.out).mono ?_); rintro e w' ⟨rfl, ⟨nd, rfl⟩⟩))
                go_roundg k1
                case measure => have := HK1.out; omega
                case rel => exact ⟨(wrap64 (x13_1 + 1)), (by first | rfl | (simp; done) | (simp [*]; done)), H', ⟨by have := HK1.out; omega⟩, ⟨by (with_reducible repeat (first | apply Kd.R_alloc | apply Kd.R_drewN | apply Kd.R_drew)); exact HO_11.out⟩, ⟨by (with_reducible repeat (first | refine blk_drewN ?_ _ | refine blk_drew ?_ | refine blk_alloc ?_ _)); exact BK113.out⟩, ⟨by repeat (first | (with_reducible first | exact HB.out | apply below_alloc | apply pw_below_drewN | apply below_drew1 | refine below_set ?_ GE113.out) | exact HB.out)⟩⟩
              · replace c12 := Bool.eq_false_iff.mpr c12
                subst c12
                have H1 : (some false) = some r := by rw [if_neg (show ¬ (false = true) by decide)] at H; exact H
                clear H
                have H := H1
                clear H1
                obtain rfl := Option.some.inj H
                have p117 : 0 ≤ (x13_1 : Int) := of_decide_eq_true (by first | (with_reducible assumption) | assumption)
                have q117 : x13_1 < (y114.length : Int) := of_decide_eq_true (by first | (with_reducible assumption) | assumption)
                obtain ⟨ad117, e117, hx117_0⟩ := Kd.at_int (Kd.R_reads' HO_11.out).2.2 x13_1 p117 q117
                cases e117
                replace p117 := eq_true p117
                replace q117 := eq_true q117
                go_wp2_with (first | (go_at_call 35; (with_reducible refine (laws_plain.calls (rd y114 x13_1) false _ A11.out).mono ?_); rintro e w' ⟨rfl, ⟨nd, rfl⟩⟩))
                go_ret
                exact ⟨by first | rfl | (simp [errW_none, errW_some] <;> rfl) | (simp [*, errW_none, errW_some] <;> rfl), by repeat (first | (with_reducible first | exact HB.out | apply below_alloc | apply pw_below_drewN | apply below_drew1 | refine below_set ?_ GE113.out) | exact HB.out)⟩
          · rw [if_neg c9] at H
            exact absurd H (by simp)
        · rw [if_neg c8] at H
          exact absurd H (by simp)
      · rw [if_neg c7] at H
        have c7b0 : decide (x13_1 < (y114.length : Int)) = false := decide_eq_false c7
        clear c7
        by_cases c13 : a0_3 ≤ 2
        · rw [if_pos c13] at H
          have c13b0 : decide (a0_3 ≤ 2) = true := decide_eq_true c13
          clear c13
          by_cases c14 : a0_4 ≤ 2
          · rw [if_pos c14] at H
            have c14b0 : decide (a0_4 ≤ 2) = true := decide_eq_true c14
            clear c14
            obtain rfl := Option.some.inj H
            have hcz15_0 : wr.cell? ⟨gb113, 0, none⟩ = some (.int .i32 a0_0) := (blk_cell BK113.out 0).trans rfl
            have hcz15_1 : wr.cell? ⟨gb113, 1, none⟩ = some (.int .i32 a0_1) := (blk_cell BK113.out 1).trans rfl
            have hcz15_2 : wr.cell? ⟨gb113, 2, none⟩ = some (.int .i32 a0_2) := (blk_cell BK113.out 2).trans rfl
            have hcz15_3 : wr.cell? ⟨gb113, 3, none⟩ = some (.int .u8 a0_3) := (blk_cell BK113.out 3).trans rfl
            have hcz15_4 : wr.cell? ⟨gb113, 4, none⟩ = some (.int .u8 a0_4) := (blk_cell BK113.out 4).trans rfl
            have hcz15_5 : wr.cell? ⟨gb113, 5, none⟩ = some (.int .u8 a0_5) := (blk_cell BK113.out 5).trans rfl
            have hcz15_6 : wr.cell? ⟨gb113, 6, none⟩ = some (.bool a0_6) := (blk_cell BK113.out 6).trans rfl
            have hfz15_0 := blk_frozen BK113.out 0
            have hfz15_1 := blk_frozen BK113.out 1
            have hfz15_2 := blk_frozen BK113.out 2
            have hfz15_3 := blk_frozen BK113.out 3
            have hfz15_4 := blk_frozen BK113.out 4
            have hfz15_5 := blk_frozen BK113.out 5
            have hfz15_6 := blk_frozen BK113.out 6
            go_wp2
            go_ret
            exact ⟨by first | rfl | (simp [errW_none, errW_some] <;> rfl) | (simp [*, errW_none, errW_some] <;> rfl), by repeat (first | (with_reducible first | exact HB.out | apply below_alloc | apply pw_below_drewN | apply below_drew1 | refine below_set ?_ GE113.out) | exact HB.out)⟩
          · rw [if_neg c14] at H
            have c14b0 : decide (a0_4 ≤ 2) = false := decide_eq_false c14
            clear c14
            obtain rfl := Option.some.inj H
            have hcz16_0 : wr.cell? ⟨gb113, 0, none⟩ = some (.int .i32 a0_0) := (blk_cell BK113.out 0).trans rfl
            have hcz16_1 : wr.cell? ⟨gb113, 1, none⟩ = some (.int .i32 a0_1) := (blk_cell BK113.out 1).trans rfl
            have hcz16_2 : wr.cell? ⟨gb113, 2, none⟩ = some (.int .i32 a0_2) := (blk_cell BK113.out 2).trans rfl
            have hcz16_3 : wr.cell? ⟨gb113, 3, none⟩ = some (.int .u8 a0_3) := (blk_cell BK113.out 3).trans rfl
            have hcz16_4 : wr.cell? ⟨gb113, 4, none⟩ = some (.int .u8 a0_4) := (blk_cell BK113.out 4).trans rfl
            have hcz16_5 : wr.cell? ⟨gb113, 5, none⟩ = some (.int .u8 a0_5) := (blk_cell BK113.out 5).trans rfl
            have hcz16_6 : wr.cell? ⟨gb113, 6, none⟩ = some (.bool a0_6) := (blk_cell BK113.out 6).trans rfl
            have hfz16_0 := blk_frozen BK113.out 0
            have hfz16_1 := blk_frozen BK113.out 1
            have hfz16_2 := blk_frozen BK113.out 2
            have hfz16_3 := blk_frozen BK113.out 3
            have hfz16_4 := blk_frozen BK113.out 4
            have hfz16_5 := blk_frozen BK113.out 5
            have hfz16_6 := blk_frozen BK113.out 6
            go_wp2
            go_ret
            exact ⟨by first | rfl | (simp [errW_none, errW_some] <;> rfl) | (simp [*, errW_none, errW_some] <;> rfl), by repeat (first | (with_reducible first | exact HB.out | apply below_alloc | apply pw_below_drewN | apply below_drew1 | refine below_set ?_ GE113.out) | exact HB.out)⟩
        · rw [if_neg c13] at H
          have c13b0 : decide (a0_3 ≤ 2) = false := decide_eq_false c13
          clear c13
          obtain rfl := Option.some.inj H
          have hcz17_0 : wr.cell? ⟨gb113, 0, none⟩ = some (.int .i32 a0_0) := (blk_cell BK113.out 0).trans rfl
          have hcz17_1 : wr.cell? ⟨gb113, 1, none⟩ = some (.int .i32 a0_1) := (blk_cell BK113.out 1).trans rfl
          have hcz17_2 : wr.cell? ⟨gb113, 2, none⟩ = some (.int .i32 a0_2) := (blk_cell BK113.out 2).trans rfl
          have hcz17_3 : wr.cell? ⟨gb113, 3, none⟩ = some (.int .u8 a0_3) := (blk_cell BK113.out 3).trans rfl
          have hcz17_4 : wr.cell? ⟨gb113, 4, none⟩ = some (.int .u8 a0_4) := (blk_cell BK113.out 4).trans rfl
          have hcz17_5 : wr.cell? ⟨gb113, 5, none⟩ = some (.int .u8 a0_5) := (blk_cell BK113.out 5).trans rfl
          have hcz17_6 : wr.cell? ⟨gb113, 6, none⟩ = some (.bool a0_6) := (blk_cell BK113.out 6).trans rfl
          have hfz17_0 := blk_frozen BK113.out 0
          have hfz17_1 := blk_frozen BK113.out 1
          have hfz17_2 := blk_frozen BK113.out 2
          have hfz17_3 := blk_frozen BK113.out 3
          have hfz17_4 := blk_frozen BK113.out 4
          have hfz17_5 := blk_frozen BK113.out 5
          have hfz17_6 := blk_frozen BK113.out 6
          go_wp2
          go_ret
          exact ⟨by first | rfl | (simp [errW_none, errW_some] <;> rfl) | (simp [*, errW_none, errW_some] <;> rfl), by repeat (first | (with_reducible first | exact HB.out | apply below_alloc | apply pw_below_drewN | apply below_drew1 | refine below_set ?_ GE113.out) | exact HB.out)⟩

/-! ### impl_EntryInherit: function 18 -/
def impl_EntryInherit.toE (x : S23) : Go.Proofs.YtifhhejohdmiaaaDoorEnt.Ent := ⟨x.f0, x.f1, x.f2, x.f3, x.f4, x.f5, x.f6⟩
theorem impl_EntryInherit.ents {w : World} {A : Option Addr} {l : List (S23)} (h : Kd.C k23 w A l.length l) : l.map impl_EntryInherit.toE ≠ [] → ∃ g o, A = some ⟨g, o, none⟩ ∧ g < w.heap.size ∧ Go.Proofs.YtifhhejohdmiaaaDoorEnt.Ents w g o (l.map impl_EntryInherit.toE) := by
  intro hne
  have hpos : 0 < l.length := List.length_pos_iff.2 (fun e => hne (by rw [e]; rfl))
  have key : ∀ (i : Nat) (hi : i < l.length), ∃ ad : Addr, A = some ad ∧ ∀ j u, ([.int .i32 (l[i]).f0, .int .i32 (l[i]).f1, .int .i32 (l[i]).f2, .int .u8 (l[i]).f3, .int .u8 (l[i]).f4, .int .u8 (l[i]).f5, .bool (l[i]).f6] : List Value)[j]? = some u → w.cell? (ad.add (i * 7 + j)) = some u := by
    intro i hi
    obtain ⟨ad, c, e, _, hK, hc⟩ := Kd.C_get h z23 (i : Int) (by omega) (by omega)
    have hg : l.getD (i : Int).toNat z23 = l[i] := by
      rw [Int.toNat_natCast, List.getD_eq_getElem?_getD, List.getElem?_eq_getElem hi]; rfl
    rw [hg] at hK
    obtain rfl := k23_open hK
    exact ⟨ad, e, fun j u hu => hc j u hu⟩
  obtain ⟨ad, rfl, hc⟩ := key 0 hpos
  have h0 := hc 0 _ rfl
  have hsp : (ad.add 0).spot = none := World.cell?_spot h0
  obtain ⟨b, o, sp⟩ := ad
  have hsp' : sp = none := by simpa [Addr.add] using hsp
  subst hsp'
  have hadd : ∀ j, (⟨b, o, none⟩ : Addr).add j = ⟨b, o + j, none⟩ := fun j => by unfold Addr.add; split <;> simp_all
  have hlt := World.block_lt_of_cell? w _ h0
  rw [hadd] at hlt
  refine ⟨b, o, rfl, hlt, fun i hi => ?_⟩
  have hi' : i < l.length := by simpa using hi
  obtain ⟨ad, e, hc⟩ := key i hi'
  injection e with e
  subst e
  have c : ∀ j u, ([.int .i32 (l[i]).f0, .int .i32 (l[i]).f1, .int .i32 (l[i]).f2, .int .u8 (l[i]).f3, .int .u8 (l[i]).f4, .int .u8 (l[i]).f5, .bool (l[i]).f6] : List Value)[j]? = some u → w.cell? ⟨b, o + i * 7 + j, none⟩ = some u := fun j u hu => by
    have := hc j u hu
    rw [hadd, ← Nat.add_assoc] at this
    exact this
  rw [List.getElem_map]
  exact ⟨c 0 _ rfl, c 1 _ rfl, c 2 _ rfl, c 3 _ rfl, c 4 _ rfl, c 5 _ rfl, c 6 _ rfl⟩
def impl_EntryInherit.out (e : Go.Proofs.YtifhhejohdmiaaaDoorEnt.Ent) : Int × Int × Int × Int × Int × Int × Bool := (e.c, e.b, e.o, e.bo, e.it, e.un, e.ni)
def impl_EntryInherit.f (a0_0 : Int) (a0_1 : Int) (a0_2 : Int) (a0_3 : Int) (a0_4 : Int) (a0_5 : Int) (a0_6 : Bool) (l1 : List (S23)) : Option (Int × Int × Int × Int × Int × Int × Bool) :=
  if l1.length ≤ 1000000 then some (impl_EntryInherit.out (Go.Proofs.YtifhhejohdmiaaaDoorEnt.inhL ⟨a0_0, a0_1, a0_2, a0_3, a0_4, a0_5, a0_6⟩ (l1.map impl_EntryInherit.toE))) else none
theorem impl_EntryInherit.calls (a0_0 : Int) (a0_1 : Int) (a0_2 : Int) (a0_3 : Int) (a0_4 : Int) (a0_5 : Int) (a0_6 : Bool) (A1 : Option Addr) (c1 : Nat) (l1 : List (S23)) (r1 : Int) (r2 : Int) (r3 : Int) (r4 : Int) (r5 : Int) (r6 : Int) (r7 : Bool) (w : World) (hr1 : Kd.C k23 w A1 l1.length l1) (hc1 : l1.length ≤ c1) (h : impl_EntryInherit.f a0_0 a0_1 a0_2 a0_3 a0_4 a0_5 a0_6 l1 = some (r1, r2, r3, r4, r5, r6, r7)) :
    Calls Tryd.prog 18 #[.agg #[.int .i32 a0_0, .int .i32 a0_1, .int .i32 a0_2, .int .u8 a0_3, .int .u8 a0_4, .int .u8 a0_5, .bool a0_6], .slice A1 l1.length c1] w fun e w' => e = .returned (.agg #[.int .i32 r1, .int .i32 r2, .int .i32 r3, .int .u8 r4, .int .u8 r5, .int .u8 r6, .bool r7]) ∧ Below w.heap.size w w' := by
  unfold impl_EntryInherit.f at h
  by_cases h0 : l1.length ≤ 1000000
  · rw [if_pos h0] at h
    simp only [Option.some.injEq, impl_EntryInherit.out, Prod.mk.injEq] at h
    obtain ⟨rfl, rfl, rfl, rfl, rfl, rfl, rfl⟩ := h
    have := Go.Proofs.YtifhhejohdmiaaaDoorEnt.eInh_c ⟨a0_0, a0_1, a0_2, a0_3, a0_4, a0_5, a0_6⟩ A1 c1 (l1.map impl_EntryInherit.toE) (by rw [List.length_map]; exact h0) (by rw [List.length_map]; exact hc1) w (impl_EntryInherit.ents hr1)
    rw [List.length_map] at this
    exact this
  · rw [if_neg h0] at h; cases h
/-! ### impl_plain: function 34 -/
def impl_plain.f (a0_0 : Int) (a0_1 : Int) (a0_2 : Int) (a0_3 : Int) (a0_4 : Int) (a0_5 : Int) (a0_6 : Bool) : Option (Int × Int × Int × Int × Int × Int × Bool) := some (a0_0, a0_1, a0_2, a0_3, a0_4, a0_5, a0_6)
set_option maxHeartbeats 8000000 in
set_option maxRecDepth 100000 in
theorem impl_plain.calls (a0_0 : Int) (a0_1 : Int) (a0_2 : Int) (a0_3 : Int) (a0_4 : Int) (a0_5 : Int) (a0_6 : Bool) (r1 : Int) (r2 : Int) (r3 : Int) (r4 : Int) (r5 : Int) (r6 : Int) (r7 : Bool) (w : World) (h : impl_plain.f a0_0 a0_1 a0_2 a0_3 a0_4 a0_5 a0_6 = some (r1, r2, r3, r4, r5, r6, r7)) :
    Calls Tryd.prog 34 #[.agg #[.int .i32 a0_0, .int .i32 a0_1, .int .i32 a0_2, .int .u8 a0_3, .int .u8 a0_4, .int .u8 a0_5, .bool a0_6]] w fun e w' => e = .returned (.agg #[.int .i32 r1, .int .i32 r2, .int .i32 r3, .int .u8 r4, .int .u8 r5, .int .u8 r6, .bool r7]) ∧ Below w.heap.size w w' := by
  have hu57 := Tryd.underlying57
  have hu23 := Tryd.underlying23
  have HB := Aside0.mk (Below.refl w.heap.size w)
  have H : (some (a0_0, a0_1, a0_2, a0_3, a0_4, a0_5, a0_6)) = some (r1, r2, r3, r4, r5, r6, r7) := h
  clear h
  simp only [Option.some.injEq, Prod.mk.injEq] at H
  obtain ⟨rfl, rfl, rfl, rfl, rfl, rfl, rfl⟩ := H
  go_enter Tryd.func34, Tryd.ntmps34
  go_wp2_with (first | ((with_reducible refine gate_dst (N := 1) rfl ?_); refine box_event ?hg (N := 1) ?hd (cs := #[.int .i32 a0_0, .int .i32 a0_1, .int .i32 a0_2, .int .u8 a0_3, .int .u8 a0_4, .int .u8 a0_5, .bool a0_6]) (t := 57) ?hr ?_; (case hd => rfl); (case hg => rfl); (case hr => first | (go_simp; done) | (go_simp; rfl)); intro gb119 hg w2 hbox hb; have n0_ := Aside0.mk (below_step (by repeat (first | (with_reducible first | exact HB.out | apply below_alloc | apply pw_below_drewN | apply below_drew1) | exact HB.out)) hb); have n1_ := Aside0.mk (hbox); have n2_ := Aside0.mk ((by rw [hg]; exact (below_size (by repeat (first | (with_reducible first | exact HB.out | apply below_alloc | apply pw_below_drewN | apply below_drew1) | exact HB.out))) : w.heap.size ≤ gb119)); have n3_ := Aside0.mk ((by rw [hg]; exact (below_size (by repeat (first | (with_reducible first | exact HB.out | apply below_alloc | apply pw_below_drewN | apply below_drew1) | exact HB.out))) : w.heap.size ≤ gb119)); clear HB; have HB := n0_; have BK119 := n1_; have GW119 := n2_; have GE119 := n3_; clear n0_ n1_ n2_ n3_; clear hb hbox hg) | ((with_reducible refine gate_dst (N := 2) rfl ?_); refine box_event ?hg (N := 2) ?hd (cs := #[.int .i32 0, .int .i32 0, .int .i32 0, .int .u8 0, .int .u8 0, .int .u8 0, .bool false]) (t := 23) ?hr ?_; (case hd => rfl); (case hg => rfl); (case hr => first | (go_simp; done) | (go_simp; rfl)); intro gb120 hg w3 hbox hb; have n0_ := Aside0.mk (blk_below (g := gb119) (o := .cells #[.int .i32 a0_0, .int .i32 a0_1, .int .i32 a0_2, .int .u8 a0_3, .int .u8 a0_4, .int .u8 a0_5, .bool a0_6] 57 (0, 0)) (by (with_reducible repeat (first | refine blk_drewN ?_ _ | refine blk_drew ?_ | refine blk_alloc ?_ _)); exact BK119.out) hb); have n1_ := Aside0.mk (below_step (by repeat (first | (with_reducible first | exact HB.out | apply below_alloc | apply pw_below_drewN | apply below_drew1 | refine below_set ?_ GE119.out) | exact HB.out)) hb); have n2_ := Aside0.mk (hbox); have n3_ := Aside0.mk ((by rw [hg]; exact (below_size (by repeat (first | (with_reducible first | exact HB.out | apply below_alloc | apply pw_below_drewN | apply below_drew1 | refine below_set ?_ GE119.out) | exact HB.out))) : w.heap.size ≤ gb120)); have n4_ := Aside0.mk ((by rw [hg]; exact (below_size (by repeat (first | (with_reducible first | exact HB.out | apply below_alloc | apply pw_below_drewN | apply below_drew1 | refine below_set ?_ GE119.out) | exact HB.out))) : w.heap.size ≤ gb120)); have n5_ := Aside0.mk ((by rw [hg]; exact Nat.ne_of_lt (blk_lt (g := gb119) (o := .cells #[.int .i32 a0_0, .int .i32 a0_1, .int .i32 a0_2, .int .u8 a0_3, .int .u8 a0_4, .int .u8 a0_5, .bool a0_6] 57 (0, 0)) (by (with_reducible repeat (first | refine blk_drewN ?_ _ | refine blk_drew ?_ | refine blk_alloc ?_ _)); exact BK119.out)) : gb119 ≠ gb120)); have n6_ := Aside0.mk ((by rw [hg]; exact Nat.ne_of_gt (blk_lt (g := gb119) (o := .cells #[.int .i32 a0_0, .int .i32 a0_1, .int .i32 a0_2, .int .u8 a0_3, .int .u8 a0_4, .int .u8 a0_5, .bool a0_6] 57 (0, 0)) (by (with_reducible repeat (first | refine blk_drewN ?_ _ | refine blk_drew ?_ | refine blk_alloc ?_ _)); exact BK119.out)) : gb120 ≠ gb119)); clear BK119; clear HB; have BK119 := n0_; have HB := n1_; have BK120 := n2_; have GW120 := n3_; have GE120 := n4_; have NB119_120 := n5_; have NB120_119 := n6_; clear n0_ n1_ n2_ n3_ n4_ n5_ n6_; clear hb hbox hg; have hnb4 := NB119_120.out; have hnc4 := NB120_119.out; have hcz5_0 : w3.cell? ⟨gb119, 0, none⟩ = some (.int .i32 a0_0) := (blk_cell BK119.out 0).trans rfl; have hcz5_1 : w3.cell? ⟨gb119, 1, none⟩ = some (.int .i32 a0_1) := (blk_cell BK119.out 1).trans rfl; have hcz5_2 : w3.cell? ⟨gb119, 2, none⟩ = some (.int .i32 a0_2) := (blk_cell BK119.out 2).trans rfl; have hcz5_3 : w3.cell? ⟨gb119, 3, none⟩ = some (.int .u8 a0_3) := (blk_cell BK119.out 3).trans rfl; have hcz5_4 : w3.cell? ⟨gb119, 4, none⟩ = some (.int .u8 a0_4) := (blk_cell BK119.out 4).trans rfl; have hcz5_5 : w3.cell? ⟨gb119, 5, none⟩ = some (.int .u8 a0_5) := (blk_cell BK119.out 5).trans rfl; have hcz5_6 : w3.cell? ⟨gb119, 6, none⟩ = some (.bool a0_6) := (blk_cell BK119.out 6).trans rfl; have hfz5_0 := blk_frozen BK119.out 0; have hfz5_1 := blk_frozen BK119.out 1; have hfz5_2 := blk_frozen BK119.out 2; have hfz5_3 := blk_frozen BK119.out 3; have hfz5_4 := blk_frozen BK119.out 4; have hfz5_5 := blk_frozen BK119.out 5; have hfz5_6 := blk_frozen BK119.out 6; have hcz6_0 : w3.cell? ⟨gb120, 0, none⟩ = some (.int .i32 0) := (blk_cell BK120.out 0).trans rfl; have hcz6_1 : w3.cell? ⟨gb120, 1, none⟩ = some (.int .i32 0) := (blk_cell BK120.out 1).trans rfl; have hcz6_2 : w3.cell? ⟨gb120, 2, none⟩ = some (.int .i32 0) := (blk_cell BK120.out 2).trans rfl; have hcz6_3 : w3.cell? ⟨gb120, 3, none⟩ = some (.int .u8 0) := (blk_cell BK120.out 3).trans rfl; have hcz6_4 : w3.cell? ⟨gb120, 4, none⟩ = some (.int .u8 0) := (blk_cell BK120.out 4).trans rfl; have hcz6_5 : w3.cell? ⟨gb120, 5, none⟩ = some (.int .u8 0) := (blk_cell BK120.out 5).trans rfl; have hcz6_6 : w3.cell? ⟨gb120, 6, none⟩ = some (.bool false) := (blk_cell BK120.out 6).trans rfl; have hfz6_0 := blk_frozen BK120.out 0; have hfz6_1 := blk_frozen BK120.out 1; have hfz6_2 := blk_frozen BK120.out 2; have hfz6_3 := blk_frozen BK120.out 3; have hfz6_4 := blk_frozen BK120.out 4; have hfz6_5 := blk_frozen BK120.out 5; have hfz6_6 := blk_frozen BK120.out 6))
  refine bodyPost_ret (results_cell_row rfl _ _ gb120 23 #[.int .i32 a0_0, .int .i32 a0_1, .int .i32 a0_2, .int .u8 a0_3, .int .u8 a0_4, .int .u8 a0_5, .bool a0_6] (0, 0) _ rfl (by (with_reducible repeat (first | refine blk_drewN ?_ _ | refine blk_drew ?_ | refine blk_alloc ?_ _)); refine blk_put (cs := #[.int .i32 a0_0, .int .i32 a0_1, .int .i32 a0_2, .int .u8 a0_3, .int .u8 a0_4, .int .u8 a0_5, .bool false]) ?_ 6 _ rfl; (with_reducible repeat (first | refine blk_drewN ?_ _ | refine blk_drew ?_ | refine blk_alloc ?_ _)); refine blk_put (cs := #[.int .i32 a0_0, .int .i32 a0_1, .int .i32 a0_2, .int .u8 a0_3, .int .u8 a0_4, .int .u8 0, .bool false]) ?_ 5 _ rfl; (with_reducible repeat (first | refine blk_drewN ?_ _ | refine blk_drew ?_ | refine blk_alloc ?_ _)); refine blk_put (cs := #[.int .i32 a0_0, .int .i32 a0_1, .int .i32 a0_2, .int .u8 a0_3, .int .u8 0, .int .u8 0, .bool false]) ?_ 4 _ rfl; (with_reducible repeat (first | refine blk_drewN ?_ _ | refine blk_drew ?_ | refine blk_alloc ?_ _)); refine blk_put (cs := #[.int .i32 a0_0, .int .i32 a0_1, .int .i32 a0_2, .int .u8 0, .int .u8 0, .int .u8 0, .bool false]) ?_ 3 _ rfl; (with_reducible repeat (first | refine blk_drewN ?_ _ | refine blk_drew ?_ | refine blk_alloc ?_ _)); refine blk_put (cs := #[.int .i32 a0_0, .int .i32 a0_1, .int .i32 0, .int .u8 0, .int .u8 0, .int .u8 0, .bool false]) ?_ 2 _ rfl; (with_reducible repeat (first | refine blk_drewN ?_ _ | refine blk_drew ?_ | refine blk_alloc ?_ _)); refine blk_put (cs := #[.int .i32 a0_0, .int .i32 0, .int .i32 0, .int .u8 0, .int .u8 0, .int .u8 0, .bool false]) ?_ 1 _ rfl; (with_reducible repeat (first | refine blk_drewN ?_ _ | refine blk_drew ?_ | refine blk_alloc ?_ _)); refine blk_put (cs := #[.int .i32 0, .int .i32 0, .int .i32 0, .int .u8 0, .int .u8 0, .int .u8 0, .bool false]) ?_ 0 _ rfl; (with_reducible repeat (first | refine blk_drewN ?_ _ | refine blk_drew ?_ | refine blk_alloc ?_ _)); exact BK120.out) Tryd.underlying23 rfl (by kernel_rfl)) rfl ?_
  exact ⟨by first | rfl | (simp [errW_none, errW_some] <;> rfl) | (simp [*, errW_none, errW_some] <;> rfl), by repeat (first | (with_reducible first | exact HB.out | apply below_alloc | apply pw_below_drewN | apply below_drew1 | refine below_set ?_ GE119.out | refine below_set ?_ GE120.out) | exact HB.out)⟩

/-! ### chroma_StyleEntry_Sub: function 37 -/
def chroma_StyleEntry_Sub.f (a0_0 : Int) (a0_1 : Int) (a0_2 : Int) (a0_3 : Int) (a0_4 : Int) (a0_5 : Int) (a0_6 : Bool) (a1_0 : Int) (a1_1 : Int) (a1_2 : Int) (a1_3 : Int) (a1_4 : Int) (a1_5 : Int) (a1_6 : Bool) : Option (Int × Int × Int × Int × Int × Int × Bool) := some ((if a1_0 = a0_0 then 0 else a0_0), (if a1_1 = a0_1 then 0 else a0_1), (if a1_2 = a0_2 then 0 else a0_2), (if a1_3 = a0_3 then 0 else a0_3), (if a1_4 = a0_4 then 0 else a0_4), (if a1_5 = a0_5 then 0 else a0_5), false)
theorem chroma_StyleEntry_Sub.calls (a0_0 : Int) (a0_1 : Int) (a0_2 : Int) (a0_3 : Int) (a0_4 : Int) (a0_5 : Int) (a0_6 : Bool) (a1_0 : Int) (a1_1 : Int) (a1_2 : Int) (a1_3 : Int) (a1_4 : Int) (a1_5 : Int) (a1_6 : Bool) (r1 : Int) (r2 : Int) (r3 : Int) (r4 : Int) (r5 : Int) (r6 : Int) (r7 : Bool) (w : World) (h : chroma_StyleEntry_Sub.f a0_0 a0_1 a0_2 a0_3 a0_4 a0_5 a0_6 a1_0 a1_1 a1_2 a1_3 a1_4 a1_5 a1_6 = some (r1, r2, r3, r4, r5, r6, r7)) :
    Calls Tryd.prog 37 #[.agg #[.int .i32 a0_0, .int .i32 a0_1, .int .i32 a0_2, .int .u8 a0_3, .int .u8 a0_4, .int .u8 a0_5, .bool a0_6], .agg #[.int .i32 a1_0, .int .i32 a1_1, .int .i32 a1_2, .int .u8 a1_3, .int .u8 a1_4, .int .u8 a1_5, .bool a1_6]] w fun e w' => e = .returned (.agg #[.int .i32 r1, .int .i32 r2, .int .i32 r3, .int .u8 r4, .int .u8 r5, .int .u8 r6, .bool r7]) ∧ Below w.heap.size w w' := by
  unfold chroma_StyleEntry_Sub.f at h
  simp only [Option.some.injEq, Prod.mk.injEq] at h
  obtain ⟨rfl, rfl, rfl, rfl, rfl, rfl, rfl⟩ := h
  exact Go.Proofs.YtifhhejohdmiaaaDoorEnt.csub_c ⟨a0_0, a0_1, a0_2, a0_3, a0_4, a0_5, a0_6⟩ ⟨a1_0, a1_1, a1_2, a1_3, a1_4, a1_5, a1_6⟩ w
/-! ### impl_EntrySub: function 21 -/
def impl_EntrySub.f (a0_0 : Int) (a0_1 : Int) (a0_2 : Int) (a0_3 : Int) (a0_4 : Int) (a0_5 : Int) (a0_6 : Bool) (a1_0 : Int) (a1_1 : Int) (a1_2 : Int) (a1_3 : Int) (a1_4 : Int) (a1_5 : Int) (a1_6 : Bool) : Option (Int × Int × Int × Int × Int × Int × Bool) := (impl_entered.f a0_0 a0_1 a0_2 a0_3 a0_4 a0_5 a0_6).bind fun bt124 => ((impl_entered.f a1_0 a1_1 a1_2 a1_3 a1_4 a1_5 a1_6).bind fun bt131 => ((chroma_StyleEntry_Sub.f bt124.1 bt124.2.1 bt124.2.2.1 bt124.2.2.2.1 bt124.2.2.2.2.1 bt124.2.2.2.2.2.1 bt124.2.2.2.2.2.2 bt131.1 bt131.2.1 bt131.2.2.1 bt131.2.2.2.1 bt131.2.2.2.2.1 bt131.2.2.2.2.2.1 bt131.2.2.2.2.2.2).bind fun bt138 => ((impl_plain.f bt138.1 bt138.2.1 bt138.2.2.1 bt138.2.2.2.1 bt138.2.2.2.2.1 bt138.2.2.2.2.2.1 bt138.2.2.2.2.2.2).bind fun bt145 => (some (bt145.1, bt145.2.1, bt145.2.2.1, bt145.2.2.2.1, bt145.2.2.2.2.1, bt145.2.2.2.2.2.1, bt145.2.2.2.2.2.2)))))
set_option maxHeartbeats 8000000 in
set_option maxRecDepth 100000 in
theorem impl_EntrySub.calls (a0_0 : Int) (a0_1 : Int) (a0_2 : Int) (a0_3 : Int) (a0_4 : Int) (a0_5 : Int) (a0_6 : Bool) (a1_0 : Int) (a1_1 : Int) (a1_2 : Int) (a1_3 : Int) (a1_4 : Int) (a1_5 : Int) (a1_6 : Bool) (r1 : Int) (r2 : Int) (r3 : Int) (r4 : Int) (r5 : Int) (r6 : Int) (r7 : Bool) (w : World) (h : impl_EntrySub.f a0_0 a0_1 a0_2 a0_3 a0_4 a0_5 a0_6 a1_0 a1_1 a1_2 a1_3 a1_4 a1_5 a1_6 = some (r1, r2, r3, r4, r5, r6, r7)) :
    Calls Tryd.prog 21 #[.agg #[.int .i32 a0_0, .int .i32 a0_1, .int .i32 a0_2, .int .u8 a0_3, .int .u8 a0_4, .int .u8 a0_5, .bool a0_6], .agg #[.int .i32 a1_0, .int .i32 a1_1, .int .i32 a1_2, .int .u8 a1_3, .int .u8 a1_4, .int .u8 a1_5, .bool a1_6]] w fun e w' => e = .returned (.agg #[.int .i32 r1, .int .i32 r2, .int .i32 r3, .int .u8 r4, .int .u8 r5, .int .u8 r6, .bool r7]) ∧ Below w.heap.size w w' := by
  have hu23 := Tryd.underlying23
  have HB := Aside0.mk (Below.refl w.heap.size w)
  have H : ((impl_entered.f a0_0 a0_1 a0_2 a0_3 a0_4 a0_5 a0_6).bind fun bt124 => ((impl_entered.f a1_0 a1_1 a1_2 a1_3 a1_4 a1_5 a1_6).bind fun bt131 => ((chroma_StyleEntry_Sub.f bt124.1 bt124.2.1 bt124.2.2.1 bt124.2.2.2.1 bt124.2.2.2.2.1 bt124.2.2.2.2.2.1 bt124.2.2.2.2.2.2 bt131.1 bt131.2.1 bt131.2.2.1 bt131.2.2.2.1 bt131.2.2.2.2.1 bt131.2.2.2.2.2.1 bt131.2.2.2.2.2.2).bind fun bt138 => ((impl_plain.f bt138.1 bt138.2.1 bt138.2.2.1 bt138.2.2.2.1 bt138.2.2.2.2.1 bt138.2.2.2.2.2.1 bt138.2.2.2.2.2.2).bind fun bt145 => (some (bt145.1, bt145.2.1, bt145.2.2.1, bt145.2.2.2.1, bt145.2.2.2.2.1, bt145.2.2.2.2.2.1, bt145.2.2.2.2.2.2)))))) = some (r1, r2, r3, r4, r5, r6, r7) := h
  clear h
  replace H := Option.bind_eq_some_iff.mp H
  obtain ⟨⟨t124, t125, t126, t127, t128, t129, t130⟩, A30, H⟩ := H
  replace H : ((impl_entered.f a1_0 a1_1 a1_2 a1_3 a1_4 a1_5 a1_6).bind fun bt131 => ((chroma_StyleEntry_Sub.f t124 t125 t126 t127 t128 t129 t130 bt131.1 bt131.2.1 bt131.2.2.1 bt131.2.2.2.1 bt131.2.2.2.2.1 bt131.2.2.2.2.2.1 bt131.2.2.2.2.2.2).bind fun bt138 => ((impl_plain.f bt138.1 bt138.2.1 bt138.2.2.1 bt138.2.2.2.1 bt138.2.2.2.2.1 bt138.2.2.2.2.2.1 bt138.2.2.2.2.2.2).bind fun bt145 => (some (bt145.1, bt145.2.1, bt145.2.2.1, bt145.2.2.2.1, bt145.2.2.2.2.1, bt145.2.2.2.2.2.1, bt145.2.2.2.2.2.2))))) = some (r1, r2, r3, r4, r5, r6, r7) := H
  have A3 := Aside0.mk A30
  clear A30
  replace H := Option.bind_eq_some_iff.mp H
  obtain ⟨⟨t131, t132, t133, t134, t135, t136, t137⟩, A40, H⟩ := H
  replace H : ((chroma_StyleEntry_Sub.f t124 t125 t126 t127 t128 t129 t130 t131 t132 t133 t134 t135 t136 t137).bind fun bt138 => ((impl_plain.f bt138.1 bt138.2.1 bt138.2.2.1 bt138.2.2.2.1 bt138.2.2.2.2.1 bt138.2.2.2.2.2.1 bt138.2.2.2.2.2.2).bind fun bt145 => (some (bt145.1, bt145.2.1, bt145.2.2.1, bt145.2.2.2.1, bt145.2.2.2.2.1, bt145.2.2.2.2.2.1, bt145.2.2.2.2.2.2)))) = some (r1, r2, r3, r4, r5, r6, r7) := H
  have A4 := Aside0.mk A40
  clear A40
  replace H := Option.bind_eq_some_iff.mp H
  obtain ⟨⟨t138, t139, t140, t141, t142, t143, t144⟩, A50, H⟩ := H
  replace H : ((impl_plain.f t138 t139 t140 t141 t142 t143 t144).bind fun bt145 => (some (bt145.1, bt145.2.1, bt145.2.2.1, bt145.2.2.2.1, bt145.2.2.2.2.1, bt145.2.2.2.2.2.1, bt145.2.2.2.2.2.2))) = some (r1, r2, r3, r4, r5, r6, r7) := H
  have A5 := Aside0.mk A50
  clear A50
  replace H := Option.bind_eq_some_iff.mp H
  obtain ⟨⟨t145, t146, t147, t148, t149, t150, t151⟩, A60, H⟩ := H
  replace H : (some (t145, t146, t147, t148, t149, t150, t151)) = some (r1, r2, r3, r4, r5, r6, r7) := H
  have A6 := Aside0.mk A60
  clear A60
  simp only [Option.some.injEq, Prod.mk.injEq] at H
  obtain ⟨rfl, rfl, rfl, rfl, rfl, rfl, rfl⟩ := H
  go_enter Tryd.func21, Tryd.ntmps21
  try go_wp2_with (first | ((with_reducible refine gate_dst (N := 2) rfl ?_); refine box_event ?hg (N := 2) ?hd (cs := #[.int .i32 a0_0, .int .i32 a0_1, .int .i32 a0_2, .int .u8 a0_3, .int .u8 a0_4, .int .u8 a0_5, .bool a0_6]) (t := 23) ?hr ?_; (case hd => rfl); (case hg => rfl); (case hr => first | (go_simp; done) | (go_simp; rfl)); intro gb121 hg w7 hbox hb; have n0_ := Aside0.mk (below_step (by repeat (first | (with_reducible first | exact HB.out | apply below_alloc | apply pw_below_drewN | apply below_drew1) | exact HB.out)) hb); have n1_ := Aside0.mk (hbox); have n2_ := Aside0.mk ((by rw [hg]; exact (below_size (by repeat (first | (with_reducible first | exact HB.out | apply below_alloc | apply pw_below_drewN | apply below_drew1) | exact HB.out))) : w.heap.size ≤ gb121)); have n3_ := Aside0.mk ((by rw [hg]; exact (below_size (by repeat (first | (with_reducible first | exact HB.out | apply below_alloc | apply pw_below_drewN | apply below_drew1) | exact HB.out))) : w.heap.size ≤ gb121)); clear HB; have HB := n0_; have BK121 := n1_; have GW121 := n2_; have GE121 := n3_; clear n0_ n1_ n2_ n3_; clear hb hbox hg) | ((with_reducible refine gate_dst (N := 3) rfl ?_); refine box_event ?hg (N := 3) ?hd (cs := #[.int .i32 a1_0, .int .i32 a1_1, .int .i32 a1_2, .int .u8 a1_3, .int .u8 a1_4, .int .u8 a1_5, .bool a1_6]) (t := 23) ?hr ?_; (case hd => rfl); (case hg => rfl); (case hr => first | (go_simp; done) | (go_simp; rfl)); intro gb122 hg w8 hbox hb; have n0_ := Aside0.mk (blk_below (g := gb121) (o := .cells #[.int .i32 a0_0, .int .i32 a0_1, .int .i32 a0_2, .int .u8 a0_3, .int .u8 a0_4, .int .u8 a0_5, .bool a0_6] 23 (0, 0)) (by (with_reducible repeat (first | refine blk_drewN ?_ _ | refine blk_drew ?_ | refine blk_alloc ?_ _)); exact BK121.out) hb); have n1_ := Aside0.mk (below_step (by repeat (first | (with_reducible first | exact HB.out | apply below_alloc | apply pw_below_drewN | apply below_drew1 | refine below_set ?_ GE121.out) | exact HB.out)) hb); have n2_ := Aside0.mk (hbox); have n3_ := Aside0.mk ((by rw [hg]; exact (below_size (by repeat (first | (with_reducible first | exact HB.out | apply below_alloc | apply pw_below_drewN | apply below_drew1 | refine below_set ?_ GE121.out) | exact HB.out))) : w.heap.size ≤ gb122)); have n4_ := Aside0.mk ((by rw [hg]; exact (below_size (by repeat (first | (with_reducible first | exact HB.out | apply below_alloc | apply pw_below_drewN | apply below_drew1 | refine below_set ?_ GE121.out) | exact HB.out))) : w.heap.size ≤ gb122)); have n5_ := Aside0.mk ((by rw [hg]; exact Nat.ne_of_lt (blk_lt (g := gb121) (o := .cells #[.int .i32 a0_0, .int .i32 a0_1, .int .i32 a0_2, .int .u8 a0_3, .int .u8 a0_4, .int .u8 a0_5, .bool a0_6] 23 (0, 0)) (by (with_reducible repeat (first | refine blk_drewN ?_ _ | refine blk_drew ?_ | refine blk_alloc ?_ _)); exact BK121.out)) : gb121 ≠ gb122)); have n6_ := Aside0.mk ((by rw [hg]; exact Nat.ne_of_gt (blk_lt (g := gb121) (o := .cells #[.int .i32 a0_0, .int .i32 a0_1, .int .i32 a0_2, .int .u8 a0_3, .int .u8 a0_4, .int .u8 a0_5, .bool a0_6] 23 (0, 0)) (by (with_reducible repeat (first | refine blk_drewN ?_ _ | refine blk_drew ?_ | refine blk_alloc ?_ _)); exact BK121.out)) : gb122 ≠ gb121)); clear BK121; clear HB; have BK121 := n0_; have HB := n1_; have BK122 := n2_; have GW122 := n3_; have GE122 := n4_; have NB121_122 := n5_; have NB122_121 := n6_; clear n0_ n1_ n2_ n3_ n4_ n5_ n6_; clear hb hbox hg) | ((with_reducible refine gate_dst (N := 4) rfl ?_); refine box_event ?hg (N := 4) ?hd (cs := #[.int .i32 0, .int .i32 0, .int .i32 0, .int .u8 0, .int .u8 0, .int .u8 0, .bool false]) (t := 23) ?hr ?_; (case hd => rfl); (case hg => rfl); (case hr => first | (go_simp; done) | (go_simp; rfl)); intro gb123 hg w9 hbox hb; have n0_ := Aside0.mk (blk_below (g := gb121) (o := .cells #[.int .i32 a0_0, .int .i32 a0_1, .int .i32 a0_2, .int .u8 a0_3, .int .u8 a0_4, .int .u8 a0_5, .bool a0_6] 23 (0, 0)) (by (with_reducible repeat (first | refine blk_drewN ?_ _ | refine blk_drew ?_ | refine blk_alloc ?_ _)); exact BK121.out) hb); have n1_ := Aside0.mk (blk_below (g := gb122) (o := .cells #[.int .i32 a1_0, .int .i32 a1_1, .int .i32 a1_2, .int .u8 a1_3, .int .u8 a1_4, .int .u8 a1_5, .bool a1_6] 23 (0, 0)) (by (with_reducible repeat (first | refine blk_drewN ?_ _ | refine blk_drew ?_ | refine blk_alloc ?_ _)); exact BK122.out) hb); have n2_ := Aside0.mk (below_step (by repeat (first | (with_reducible first | exact HB.out | apply below_alloc | apply pw_below_drewN | apply below_drew1 | refine below_set ?_ GE121.out | refine below_set ?_ GE122.out) | exact HB.out)) hb); have n3_ := Aside0.mk (hbox); have n4_ := Aside0.mk ((by rw [hg]; exact (below_size (by repeat (first | (with_reducible first | exact HB.out | apply below_alloc | apply pw_below_drewN | apply below_drew1 | refine below_set ?_ GE121.out | refine below_set ?_ GE122.out) | exact HB.out))) : w.heap.size ≤ gb123)); have n5_ := Aside0.mk ((by rw [hg]; exact (below_size (by repeat (first | (with_reducible first | exact HB.out | apply below_alloc | apply pw_below_drewN | apply below_drew1 | refine below_set ?_ GE121.out | refine below_set ?_ GE122.out) | exact HB.out))) : w.heap.size ≤ gb123)); have n6_ := Aside0.mk ((by rw [hg]; exact Nat.ne_of_lt (blk_lt (g := gb121) (o := .cells #[.int .i32 a0_0, .int .i32 a0_1, .int .i32 a0_2, .int .u8 a0_3, .int .u8 a0_4, .int .u8 a0_5, .bool a0_6] 23 (0, 0)) (by (with_reducible repeat (first | refine blk_drewN ?_ _ | refine blk_drew ?_ | refine blk_alloc ?_ _)); exact BK121.out)) : gb121 ≠ gb123)); have n7_ := Aside0.mk ((by rw [hg]; exact Nat.ne_of_gt (blk_lt (g := gb121) (o := .cells #[.int .i32 a0_0, .int .i32 a0_1, .int .i32 a0_2, .int .u8 a0_3, .int .u8 a0_4, .int .u8 a0_5, .bool a0_6] 23 (0, 0)) (by (with_reducible repeat (first | refine blk_drewN ?_ _ | refine blk_drew ?_ | refine blk_alloc ?_ _)); exact BK121.out)) : gb123 ≠ gb121)); have n8_ := Aside0.mk ((by rw [hg]; exact Nat.ne_of_lt (blk_lt (g := gb122) (o := .cells #[.int .i32 a1_0, .int .i32 a1_1, .int .i32 a1_2, .int .u8 a1_3, .int .u8 a1_4, .int .u8 a1_5, .bool a1_6] 23 (0, 0)) (by (with_reducible repeat (first | refine blk_drewN ?_ _ | refine blk_drew ?_ | refine blk_alloc ?_ _)); exact BK122.out)) : gb122 ≠ gb123)); have n9_ := Aside0.mk ((by rw [hg]; exact Nat.ne_of_gt (blk_lt (g := gb122) (o := .cells #[.int .i32 a1_0, .int .i32 a1_1, .int .i32 a1_2, .int .u8 a1_3, .int .u8 a1_4, .int .u8 a1_5, .bool a1_6] 23 (0, 0)) (by (with_reducible repeat (first | refine blk_drewN ?_ _ | refine blk_drew ?_ | refine blk_alloc ?_ _)); exact BK122.out)) : gb123 ≠ gb122)); clear BK121; clear BK122; clear HB; have BK121 := n0_; have BK122 := n1_; have HB := n2_; have BK123 := n3_; have GW123 := n4_; have GE123 := n5_; have NB121_123 := n6_; have NB123_121 := n7_; have NB122_123 := n8_; have NB123_122 := n9_; clear n0_ n1_ n2_ n3_ n4_ n5_ n6_ n7_ n8_ n9_; clear hb hbox hg))
  have n0_ := Aside0.mk (blk_drew BK121.out)
  have n1_ := Aside0.mk (blk_drew BK122.out)
  have n2_ := Aside0.mk (blk_drew BK123.out)
  have n3_ := Aside0.mk (below_drew1 HB.out)
  clear BK121
  clear BK122
  clear BK123
  clear HB
  have BK121 := n0_
  have BK122 := n1_
  have BK123 := n2_
  have HB := n3_
  clear n0_ n1_ n2_ n3_
  refine start_ (n := 7) (S := fun w' => w'.cell? ⟨gb121, 0, none⟩ = some (.int .i32 a0_0) ∧ w'.cell? ⟨gb121, 1, none⟩ = some (.int .i32 a0_1) ∧ w'.cell? ⟨gb121, 2, none⟩ = some (.int .i32 a0_2) ∧ w'.cell? ⟨gb121, 3, none⟩ = some (.int .u8 a0_3) ∧ w'.cell? ⟨gb121, 4, none⟩ = some (.int .u8 a0_4) ∧ w'.cell? ⟨gb121, 5, none⟩ = some (.int .u8 a0_5) ∧ w'.cell? ⟨gb121, 6, none⟩ = some (.bool a0_6) ∧ w'.cell? ⟨gb122, 0, none⟩ = some (.int .i32 a1_0) ∧ w'.cell? ⟨gb122, 1, none⟩ = some (.int .i32 a1_1) ∧ w'.cell? ⟨gb122, 2, none⟩ = some (.int .i32 a1_2) ∧ w'.cell? ⟨gb122, 3, none⟩ = some (.int .u8 a1_3) ∧ w'.cell? ⟨gb122, 4, none⟩ = some (.int .u8 a1_4) ∧ w'.cell? ⟨gb122, 5, none⟩ = some (.int .u8 a1_5) ∧ w'.cell? ⟨gb122, 6, none⟩ = some (.bool a1_6)) (ds := []) #[false, false, false, false, false, false, false] (by kernel_rfl) rfl rfl ⟨(blk_cell BK121.out 0).trans rfl, (blk_cell BK121.out 1).trans rfl, (blk_cell BK121.out 2).trans rfl, (blk_cell BK121.out 3).trans rfl, (blk_cell BK121.out 4).trans rfl, (blk_cell BK121.out 5).trans rfl, (blk_cell BK121.out 6).trans rfl, (blk_cell BK122.out 0).trans rfl, (blk_cell BK122.out 1).trans rfl, (blk_cell BK122.out 2).trans rfl, (blk_cell BK122.out 3).trans rfl, (blk_cell BK122.out 4).trans rfl, (blk_cell BK122.out 5).trans rfl, (blk_cell BK122.out 6).trans rfl⟩ (fun hHeld => ?_)
  generalize w9.drew = w10 at BK121 BK122 BK123 HB hHeld ⊢
  refine take_ (i := 0) (N := some 5) (v := ?_) (a' := ?_) #[true, false, false, false, false, false, false] rfl rfl (by kernel_rfl) (fun _ _ _ h => h) (Or.inl ⟨by rfl, ?_⟩) hHeld ?_ ?_
  rotate_left
  · rintro w' ⟨s0, s1, s2, s3, s4, s5, s6, s7, s8, s9, s10, s11, s12, s13⟩
    go_simp
    first | with_reducible rfl | struct_eq
  rotate_left
  · simp only [Act.put, List.setIfInBounds_toArray, List.set_cons_zero, List.set_cons_succ, i64_w, i32_w]
    rfl
  refine take_ (i := 2) (N := some 7) (v := ?_) (a' := ?_) #[true, false, true, false, false, false, false] rfl rfl (by kernel_rfl) (fun _ _ _ h => h) (Or.inl ⟨by rfl, ?_⟩) hHeld ?_ ?_
  rotate_left
  · rintro w' ⟨s0, s1, s2, s3, s4, s5, s6, s7, s8, s9, s10, s11, s12, s13⟩
    go_simp
    first | with_reducible rfl | struct_eq
  rotate_left
  · simp only [Act.put, List.setIfInBounds_toArray, List.set_cons_zero, List.set_cons_succ, i64_w, i32_w]
    rfl
  refine one_ (i := 1) (N := some 6) #[true, true, true, false, false, false, false] rfl rfl (by kernel_rfl) (by decide) (fun K hK => ?_)
  refine goes_ Tryd.func27 (by kernel_rfl) rfl #[.agg #[.int .i32 a0_0, .int .i32 a0_1, .int .i32 a0_2, .int .u8 a0_3, .int .u8 a0_4, .int .u8 a0_5, .bool a0_6]] (by rfl) rfl rfl (by (try simp only [List.map_toArray, List.map_cons, List.map_nil]); first | done | rfl | (simp only [List.length_drop, List.length_take]; rfl)) ?_
  with_reducible refine (impl_entered.calls a0_0 a0_1 a0_2 a0_3 a0_4 a0_5 a0_6 t124 t125 t126 t127 t128 t129 t130 _ A3.out).mono ?_
  rintro e w11 ⟨rfl, hb⟩
  refine ⟨_, rfl, ?_⟩
  have n0_ := Aside0.mk (blk_below (g := gb121) (o := .cells #[.int .i32 a0_0, .int .i32 a0_1, .int .i32 a0_2, .int .u8 a0_3, .int .u8 a0_4, .int .u8 a0_5, .bool a0_6] 23 (0, 0)) (by (with_reducible repeat (first | refine blk_drewN ?_ _ | refine blk_drew ?_ | refine blk_alloc ?_ _)); exact BK121.out) hb)
  have n1_ := Aside0.mk (blk_below (g := gb122) (o := .cells #[.int .i32 a1_0, .int .i32 a1_1, .int .i32 a1_2, .int .u8 a1_3, .int .u8 a1_4, .int .u8 a1_5, .bool a1_6] 23 (0, 0)) (by (with_reducible repeat (first | refine blk_drewN ?_ _ | refine blk_drew ?_ | refine blk_alloc ?_ _)); exact BK122.out) hb)
  have n2_ := Aside0.mk (blk_below (g := gb123) (o := .cells #[.int .i32 0, .int .i32 0, .int .i32 0, .int .u8 0, .int .u8 0, .int .u8 0, .bool false] 23 (0, 0)) (by (with_reducible repeat (first | refine blk_drewN ?_ _ | refine blk_drew ?_ | refine blk_alloc ?_ _)); exact BK123.out) hb)
  have n3_ := Aside0.mk (below_step (by repeat (first | (with_reducible first | exact HB.out | apply below_alloc | apply pw_below_drewN | apply below_drew1 | refine below_set ?_ GE121.out | refine below_set ?_ GE122.out | refine below_set ?_ GE123.out) | exact HB.out)) hb)
  clear BK121
  clear BK122
  clear BK123
  clear HB
  have BK121 := n0_
  have BK122 := n1_
  have BK123 := n2_
  have HB := n3_
  clear n0_ n1_ n2_ n3_
  (try clear hb)
  (try clear hb2)
  (try clear hk)
  (try clear hi)
  refine hK.out _ _ ⟨(blk_cell BK121.out 0).trans rfl, (blk_cell BK121.out 1).trans rfl, (blk_cell BK121.out 2).trans rfl, (blk_cell BK121.out 3).trans rfl, (blk_cell BK121.out 4).trans rfl, (blk_cell BK121.out 5).trans rfl, (blk_cell BK121.out 6).trans rfl, (blk_cell BK122.out 0).trans rfl, (blk_cell BK122.out 1).trans rfl, (blk_cell BK122.out 2).trans rfl, (blk_cell BK122.out 3).trans rfl, (blk_cell BK122.out 4).trans rfl, (blk_cell BK122.out 5).trans rfl, (blk_cell BK122.out 6).trans rfl⟩ (fun hHeld => ?_)
  clear hK K
  refine norm_ (a' := ?_) ?_ ?_
  rotate_left
  · show Act.put _ (some 6) _ = _
    simp only [Act.put, List.setIfInBounds_toArray, List.set_cons_zero, List.set_cons_succ, i64_w, i32_w]
    rfl
  refine one_ (i := 3) (N := some 8) #[true, true, true, true, false, false, false] rfl rfl (by kernel_rfl) (by decide) (fun K hK => ?_)
  refine goes_ Tryd.func27 (by kernel_rfl) rfl #[.agg #[.int .i32 a1_0, .int .i32 a1_1, .int .i32 a1_2, .int .u8 a1_3, .int .u8 a1_4, .int .u8 a1_5, .bool a1_6]] (by rfl) rfl rfl (by (try simp only [List.map_toArray, List.map_cons, List.map_nil]); first | done | rfl | (simp only [List.length_drop, List.length_take]; rfl)) ?_
  with_reducible refine (impl_entered.calls a1_0 a1_1 a1_2 a1_3 a1_4 a1_5 a1_6 t131 t132 t133 t134 t135 t136 t137 _ A4.out).mono ?_
  rintro e w12 ⟨rfl, hb⟩
  refine ⟨_, rfl, ?_⟩
  have n0_ := Aside0.mk (blk_below (g := gb121) (o := .cells #[.int .i32 a0_0, .int .i32 a0_1, .int .i32 a0_2, .int .u8 a0_3, .int .u8 a0_4, .int .u8 a0_5, .bool a0_6] 23 (0, 0)) (by (with_reducible repeat (first | refine blk_drewN ?_ _ | refine blk_drew ?_ | refine blk_alloc ?_ _)); exact BK121.out) hb)
  have n1_ := Aside0.mk (blk_below (g := gb122) (o := .cells #[.int .i32 a1_0, .int .i32 a1_1, .int .i32 a1_2, .int .u8 a1_3, .int .u8 a1_4, .int .u8 a1_5, .bool a1_6] 23 (0, 0)) (by (with_reducible repeat (first | refine blk_drewN ?_ _ | refine blk_drew ?_ | refine blk_alloc ?_ _)); exact BK122.out) hb)
  have n2_ := Aside0.mk (blk_below (g := gb123) (o := .cells #[.int .i32 0, .int .i32 0, .int .i32 0, .int .u8 0, .int .u8 0, .int .u8 0, .bool false] 23 (0, 0)) (by (with_reducible repeat (first | refine blk_drewN ?_ _ | refine blk_drew ?_ | refine blk_alloc ?_ _)); exact BK123.out) hb)
  have n3_ := Aside0.mk (below_step (by repeat (first | (with_reducible first | exact HB.out | apply below_alloc | apply pw_below_drewN | apply below_drew1 | refine below_set ?_ GE121.out | refine below_set ?_ GE122.out | refine below_set ?_ GE123.out) | exact HB.out)) hb)
  clear BK121
  clear BK122
  clear BK123
  clear HB
  have BK121 := n0_
  have BK122 := n1_
  have BK123 := n2_
  have HB := n3_
  clear n0_ n1_ n2_ n3_
  (try clear hb)
  (try clear hb2)
  (try clear hk)
  (try clear hi)
  refine hK.out _ _ ⟨(blk_cell BK121.out 0).trans rfl, (blk_cell BK121.out 1).trans rfl, (blk_cell BK121.out 2).trans rfl, (blk_cell BK121.out 3).trans rfl, (blk_cell BK121.out 4).trans rfl, (blk_cell BK121.out 5).trans rfl, (blk_cell BK121.out 6).trans rfl, (blk_cell BK122.out 0).trans rfl, (blk_cell BK122.out 1).trans rfl, (blk_cell BK122.out 2).trans rfl, (blk_cell BK122.out 3).trans rfl, (blk_cell BK122.out 4).trans rfl, (blk_cell BK122.out 5).trans rfl, (blk_cell BK122.out 6).trans rfl⟩ (fun hHeld => ?_)
  clear hK K
  refine norm_ (a' := ?_) ?_ ?_
  rotate_left
  · show Act.put _ (some 8) _ = _
    simp only [Act.put, List.setIfInBounds_toArray, List.set_cons_zero, List.set_cons_succ, i64_w, i32_w]
    rfl
  refine one_ (i := 4) (N := some 9) #[true, true, true, true, true, false, false] rfl rfl (by kernel_rfl) (by decide) (fun K hK => ?_)
  refine goes_ Tryd.func37 (by kernel_rfl) rfl #[.agg #[.int .i32 t124, .int .i32 t125, .int .i32 t126, .int .u8 t127, .int .u8 t128, .int .u8 t129, .bool t130], .agg #[.int .i32 t131, .int .i32 t132, .int .i32 t133, .int .u8 t134, .int .u8 t135, .int .u8 t136, .bool t137]] (by rfl) rfl rfl (by (try simp only [List.map_toArray, List.map_cons, List.map_nil]); first | done | rfl | (simp only [List.length_drop, List.length_take]; rfl)) ?_
  with_reducible refine (chroma_StyleEntry_Sub.calls t124 t125 t126 t127 t128 t129 t130 t131 t132 t133 t134 t135 t136 t137 t138 t139 t140 t141 t142 t143 t144 _ A5.out).mono ?_
  rintro e w13 ⟨rfl, hb⟩
  refine ⟨_, rfl, ?_⟩
  have n0_ := Aside0.mk (blk_below (g := gb121) (o := .cells #[.int .i32 a0_0, .int .i32 a0_1, .int .i32 a0_2, .int .u8 a0_3, .int .u8 a0_4, .int .u8 a0_5, .bool a0_6] 23 (0, 0)) (by (with_reducible repeat (first | refine blk_drewN ?_ _ | refine blk_drew ?_ | refine blk_alloc ?_ _)); exact BK121.out) hb)
  have n1_ := Aside0.mk (blk_below (g := gb122) (o := .cells #[.int .i32 a1_0, .int .i32 a1_1, .int .i32 a1_2, .int .u8 a1_3, .int .u8 a1_4, .int .u8 a1_5, .bool a1_6] 23 (0, 0)) (by (with_reducible repeat (first | refine blk_drewN ?_ _ | refine blk_drew ?_ | refine blk_alloc ?_ _)); exact BK122.out) hb)
  have n2_ := Aside0.mk (blk_below (g := gb123) (o := .cells #[.int .i32 0, .int .i32 0, .int .i32 0, .int .u8 0, .int .u8 0, .int .u8 0, .bool false] 23 (0, 0)) (by (with_reducible repeat (first | refine blk_drewN ?_ _ | refine blk_drew ?_ | refine blk_alloc ?_ _)); exact BK123.out) hb)
  have n3_ := Aside0.mk (below_step (by repeat (first | (with_reducible first | exact HB.out | apply below_alloc | apply pw_below_drewN | apply below_drew1 | refine below_set ?_ GE121.out | refine below_set ?_ GE122.out | refine below_set ?_ GE123.out) | exact HB.out)) hb)
  clear BK121
  clear BK122
  clear BK123
  clear HB
  have BK121 := n0_
  have BK122 := n1_
  have BK123 := n2_
  have HB := n3_
  clear n0_ n1_ n2_ n3_
  (try clear hb)
  (try clear hb2)
  (try clear hk)
  (try clear hi)
  refine hK.out _ _ ⟨(blk_cell BK121.out 0).trans rfl, (blk_cell BK121.out 1).trans rfl, (blk_cell BK121.out 2).trans rfl, (blk_cell BK121.out 3).trans rfl, (blk_cell BK121.out 4).trans rfl, (blk_cell BK121.out 5).trans rfl, (blk_cell BK121.out 6).trans rfl, (blk_cell BK122.out 0).trans rfl, (blk_cell BK122.out 1).trans rfl, (blk_cell BK122.out 2).trans rfl, (blk_cell BK122.out 3).trans rfl, (blk_cell BK122.out 4).trans rfl, (blk_cell BK122.out 5).trans rfl, (blk_cell BK122.out 6).trans rfl⟩ (fun hHeld => ?_)
  clear hK K
  refine norm_ (a' := ?_) ?_ ?_
  rotate_left
  · show Act.put _ (some 9) _ = _
    simp only [Act.put, List.setIfInBounds_toArray, List.set_cons_zero, List.set_cons_succ, i64_w, i32_w]
    rfl
  refine one_ (i := 5) (N := some 10) #[true, true, true, true, true, true, false] rfl rfl (by kernel_rfl) (by decide) (fun K hK => ?_)
  refine goes_ Tryd.func34 (by kernel_rfl) rfl #[.agg #[.int .i32 t138, .int .i32 t139, .int .i32 t140, .int .u8 t141, .int .u8 t142, .int .u8 t143, .bool t144]] (by rfl) rfl rfl (by (try simp only [List.map_toArray, List.map_cons, List.map_nil]); first | done | rfl | (simp only [List.length_drop, List.length_take]; rfl)) ?_
  with_reducible refine (impl_plain.calls t138 t139 t140 t141 t142 t143 t144 t145 t146 t147 t148 t149 t150 t151 _ A6.out).mono ?_
  rintro e w14 ⟨rfl, hb⟩
  refine ⟨_, rfl, ?_⟩
  have n0_ := Aside0.mk (blk_below (g := gb121) (o := .cells #[.int .i32 a0_0, .int .i32 a0_1, .int .i32 a0_2, .int .u8 a0_3, .int .u8 a0_4, .int .u8 a0_5, .bool a0_6] 23 (0, 0)) (by (with_reducible repeat (first | refine blk_drewN ?_ _ | refine blk_drew ?_ | refine blk_alloc ?_ _)); exact BK121.out) hb)
  have n1_ := Aside0.mk (blk_below (g := gb122) (o := .cells #[.int .i32 a1_0, .int .i32 a1_1, .int .i32 a1_2, .int .u8 a1_3, .int .u8 a1_4, .int .u8 a1_5, .bool a1_6] 23 (0, 0)) (by (with_reducible repeat (first | refine blk_drewN ?_ _ | refine blk_drew ?_ | refine blk_alloc ?_ _)); exact BK122.out) hb)
  have n2_ := Aside0.mk (blk_below (g := gb123) (o := .cells #[.int .i32 0, .int .i32 0, .int .i32 0, .int .u8 0, .int .u8 0, .int .u8 0, .bool false] 23 (0, 0)) (by (with_reducible repeat (first | refine blk_drewN ?_ _ | refine blk_drew ?_ | refine blk_alloc ?_ _)); exact BK123.out) hb)
  have n3_ := Aside0.mk (below_step (by repeat (first | (with_reducible first | exact HB.out | apply below_alloc | apply pw_below_drewN | apply below_drew1 | refine below_set ?_ GE121.out | refine below_set ?_ GE122.out | refine below_set ?_ GE123.out) | exact HB.out)) hb)
  clear BK121
  clear BK122
  clear BK123
  clear HB
  have BK121 := n0_
  have BK122 := n1_
  have BK123 := n2_
  have HB := n3_
  clear n0_ n1_ n2_ n3_
  (try clear hb)
  (try clear hb2)
  (try clear hk)
  (try clear hi)
  refine hK.out _ _ ⟨(blk_cell BK121.out 0).trans rfl, (blk_cell BK121.out 1).trans rfl, (blk_cell BK121.out 2).trans rfl, (blk_cell BK121.out 3).trans rfl, (blk_cell BK121.out 4).trans rfl, (blk_cell BK121.out 5).trans rfl, (blk_cell BK121.out 6).trans rfl, (blk_cell BK122.out 0).trans rfl, (blk_cell BK122.out 1).trans rfl, (blk_cell BK122.out 2).trans rfl, (blk_cell BK122.out 3).trans rfl, (blk_cell BK122.out 4).trans rfl, (blk_cell BK122.out 5).trans rfl, (blk_cell BK122.out 6).trans rfl⟩ (fun hHeld => ?_)
  clear hK K
  refine norm_ (a' := ?_) ?_ ?_
  rotate_left
  · show Act.put _ (some 10) _ = _
    simp only [Act.put, List.setIfInBounds_toArray, List.set_cons_zero, List.set_cons_succ, i64_w, i32_w]
    rfl
  refine one_ (i := 6) (N := none) #[true, true, true, true, true, true, true] rfl rfl (by kernel_rfl) (by decide) (fun K hK => ?_)
  have hs15 : w14.cell? ⟨gb123, 0, none⟩ = some (.int .i32 0) := (blk_cell BK123.out 0).trans rfl
  have hfs15 := blk_frozen BK123.out 0
  have hns15_0 := NB121_123.out
  have hns15_1 := NB122_123.out
  have hms15_0 := NB123_121.out
  have hms15_1 := NB123_122.out
  have hs16 : w14.cell? ⟨gb123, 1, none⟩ = some (.int .i32 0) := (blk_cell BK123.out 1).trans rfl
  have hfs16 := blk_frozen BK123.out 1
  have hns16_0 := NB121_123.out
  have hns16_1 := NB122_123.out
  have hms16_0 := NB123_121.out
  have hms16_1 := NB123_122.out
  have hs17 : w14.cell? ⟨gb123, 2, none⟩ = some (.int .i32 0) := (blk_cell BK123.out 2).trans rfl
  have hfs17 := blk_frozen BK123.out 2
  have hns17_0 := NB121_123.out
  have hns17_1 := NB122_123.out
  have hms17_0 := NB123_121.out
  have hms17_1 := NB123_122.out
  have hs18 : w14.cell? ⟨gb123, 3, none⟩ = some (.int .u8 0) := (blk_cell BK123.out 3).trans rfl
  have hfs18 := blk_frozen BK123.out 3
  have hns18_0 := NB121_123.out
  have hns18_1 := NB122_123.out
  have hms18_0 := NB123_121.out
  have hms18_1 := NB123_122.out
  have hs19 : w14.cell? ⟨gb123, 4, none⟩ = some (.int .u8 0) := (blk_cell BK123.out 4).trans rfl
  have hfs19 := blk_frozen BK123.out 4
  have hns19_0 := NB121_123.out
  have hns19_1 := NB122_123.out
  have hms19_0 := NB123_121.out
  have hms19_1 := NB123_122.out
  have hs20 : w14.cell? ⟨gb123, 5, none⟩ = some (.int .u8 0) := (blk_cell BK123.out 5).trans rfl
  have hfs20 := blk_frozen BK123.out 5
  have hns20_0 := NB121_123.out
  have hns20_1 := NB122_123.out
  have hms20_0 := NB123_121.out
  have hms20_1 := NB123_122.out
  have hs21 : w14.cell? ⟨gb123, 6, none⟩ = some (.bool false) := (blk_cell BK123.out 6).trans rfl
  have hfs21 := blk_frozen BK123.out 6
  have hns21_0 := NB121_123.out
  have hns21_1 := NB122_123.out
  have hms21_0 := NB123_121.out
  have hms21_1 := NB123_122.out
  refine skip_ (w1 := ?_) (by rfl) rfl ?_ ?_
  rotate_left
  · go_simp
    rfl
  refine hK.out _ _ ⟨((cell_far (p := ⟨gb123, _, none⟩) NB121_123.out _).trans (((cell_far (p := ⟨gb123, _, none⟩) NB121_123.out _).trans (((cell_far (p := ⟨gb123, _, none⟩) NB121_123.out _).trans (((cell_far (p := ⟨gb123, _, none⟩) NB121_123.out _).trans (((cell_far (p := ⟨gb123, _, none⟩) NB121_123.out _).trans (((cell_far (p := ⟨gb123, _, none⟩) NB121_123.out _).trans (((cell_far (p := ⟨gb123, _, none⟩) NB121_123.out _).trans (hHeld.1)))))))))))))), ((cell_far (p := ⟨gb123, _, none⟩) NB121_123.out _).trans (((cell_far (p := ⟨gb123, _, none⟩) NB121_123.out _).trans (((cell_far (p := ⟨gb123, _, none⟩) NB121_123.out _).trans (((cell_far (p := ⟨gb123, _, none⟩) NB121_123.out _).trans (((cell_far (p := ⟨gb123, _, none⟩) NB121_123.out _).trans (((cell_far (p := ⟨gb123, _, none⟩) NB121_123.out _).trans (((cell_far (p := ⟨gb123, _, none⟩) NB121_123.out _).trans (hHeld.2.1)))))))))))))), ((cell_far (p := ⟨gb123, _, none⟩) NB121_123.out _).trans (((cell_far (p := ⟨gb123, _, none⟩) NB121_123.out _).trans (((cell_far (p := ⟨gb123, _, none⟩) NB121_123.out _).trans (((cell_far (p := ⟨gb123, _, none⟩) NB121_123.out _).trans (((cell_far (p := ⟨gb123, _, none⟩) NB121_123.out _).trans (((cell_far (p := ⟨gb123, _, none⟩) NB121_123.out _).trans (((cell_far (p := ⟨gb123, _, none⟩) NB121_123.out _).trans (hHeld.2.2.1)))))))))))))), ((cell_far (p := ⟨gb123, _, none⟩) NB121_123.out _).trans (((cell_far (p := ⟨gb123, _, none⟩) NB121_123.out _).trans (((cell_far (p := ⟨gb123, _, none⟩) NB121_123.out _).trans (((cell_far (p := ⟨gb123, _, none⟩) NB121_123.out _).trans (((cell_far (p := ⟨gb123, _, none⟩) NB121_123.out _).trans (((cell_far (p := ⟨gb123, _, none⟩) NB121_123.out _).trans (((cell_far (p := ⟨gb123, _, none⟩) NB121_123.out _).trans (hHeld.2.2.2.1)))))))))))))), ((cell_far (p := ⟨gb123, _, none⟩) NB121_123.out _).trans (((cell_far (p := ⟨gb123, _, none⟩) NB121_123.out _).trans (((cell_far (p := ⟨gb123, _, none⟩) NB121_123.out _).trans (((cell_far (p := ⟨gb123, _, none⟩) NB121_123.out _).trans (((cell_far (p := ⟨gb123, _, none⟩) NB121_123.out _).trans (((cell_far (p := ⟨gb123, _, none⟩) NB121_123.out _).trans (((cell_far (p := ⟨gb123, _, none⟩) NB121_123.out _).trans (hHeld.2.2.2.2.1)))))))))))))), ((cell_far (p := ⟨gb123, _, none⟩) NB121_123.out _).trans (((cell_far (p := ⟨gb123, _, none⟩) NB121_123.out _).trans (((cell_far (p := ⟨gb123, _, none⟩) NB121_123.out _).trans (((cell_far (p := ⟨gb123, _, none⟩) NB121_123.out _).trans (((cell_far (p := ⟨gb123, _, none⟩) NB121_123.out _).trans (((cell_far (p := ⟨gb123, _, none⟩) NB121_123.out _).trans (((cell_far (p := ⟨gb123, _, none⟩) NB121_123.out _).trans (hHeld.2.2.2.2.2.1)))))))))))))), ((cell_far (p := ⟨gb123, _, none⟩) NB121_123.out _).trans (((cell_far (p := ⟨gb123, _, none⟩) NB121_123.out _).trans (((cell_far (p := ⟨gb123, _, none⟩) NB121_123.out _).trans (((cell_far (p := ⟨gb123, _, none⟩) NB121_123.out _).trans (((cell_far (p := ⟨gb123, _, none⟩) NB121_123.out _).trans (((cell_far (p := ⟨gb123, _, none⟩) NB121_123.out _).trans (((cell_far (p := ⟨gb123, _, none⟩) NB121_123.out _).trans (hHeld.2.2.2.2.2.2.1)))))))))))))), ((cell_far (p := ⟨gb123, _, none⟩) NB122_123.out _).trans (((cell_far (p := ⟨gb123, _, none⟩) NB122_123.out _).trans (((cell_far (p := ⟨gb123, _, none⟩) NB122_123.out _).trans (((cell_far (p := ⟨gb123, _, none⟩) NB122_123.out _).trans (((cell_far (p := ⟨gb123, _, none⟩) NB122_123.out _).trans (((cell_far (p := ⟨gb123, _, none⟩) NB122_123.out _).trans (((cell_far (p := ⟨gb123, _, none⟩) NB122_123.out _).trans (hHeld.2.2.2.2.2.2.2.1)))))))))))))), ((cell_far (p := ⟨gb123, _, none⟩) NB122_123.out _).trans (((cell_far (p := ⟨gb123, _, none⟩) NB122_123.out _).trans (((cell_far (p := ⟨gb123, _, none⟩) NB122_123.out _).trans (((cell_far (p := ⟨gb123, _, none⟩) NB122_123.out _).trans (((cell_far (p := ⟨gb123, _, none⟩) NB122_123.out _).trans (((cell_far (p := ⟨gb123, _, none⟩) NB122_123.out _).trans (((cell_far (p := ⟨gb123, _, none⟩) NB122_123.out _).trans (hHeld.2.2.2.2.2.2.2.2.1)))))))))))))), ((cell_far (p := ⟨gb123, _, none⟩) NB122_123.out _).trans (((cell_far (p := ⟨gb123, _, none⟩) NB122_123.out _).trans (((cell_far (p := ⟨gb123, _, none⟩) NB122_123.out _).trans (((cell_far (p := ⟨gb123, _, none⟩) NB122_123.out _).trans (((cell_far (p := ⟨gb123, _, none⟩) NB122_123.out _).trans (((cell_far (p := ⟨gb123, _, none⟩) NB122_123.out _).trans (((cell_far (p := ⟨gb123, _, none⟩) NB122_123.out _).trans (hHeld.2.2.2.2.2.2.2.2.2.1)))))))))))))), ((cell_far (p := ⟨gb123, _, none⟩) NB122_123.out _).trans (((cell_far (p := ⟨gb123, _, none⟩) NB122_123.out _).trans (((cell_far (p := ⟨gb123, _, none⟩) NB122_123.out _).trans (((cell_far (p := ⟨gb123, _, none⟩) NB122_123.out _).trans (((cell_far (p := ⟨gb123, _, none⟩) NB122_123.out _).trans (((cell_far (p := ⟨gb123, _, none⟩) NB122_123.out _).trans (((cell_far (p := ⟨gb123, _, none⟩) NB122_123.out _).trans (hHeld.2.2.2.2.2.2.2.2.2.2.1)))))))))))))), ((cell_far (p := ⟨gb123, _, none⟩) NB122_123.out _).trans (((cell_far (p := ⟨gb123, _, none⟩) NB122_123.out _).trans (((cell_far (p := ⟨gb123, _, none⟩) NB122_123.out _).trans (((cell_far (p := ⟨gb123, _, none⟩) NB122_123.out _).trans (((cell_far (p := ⟨gb123, _, none⟩) NB122_123.out _).trans (((cell_far (p := ⟨gb123, _, none⟩) NB122_123.out _).trans (((cell_far (p := ⟨gb123, _, none⟩) NB122_123.out _).trans (hHeld.2.2.2.2.2.2.2.2.2.2.2.1)))))))))))))), ((cell_far (p := ⟨gb123, _, none⟩) NB122_123.out _).trans (((cell_far (p := ⟨gb123, _, none⟩) NB122_123.out _).trans (((cell_far (p := ⟨gb123, _, none⟩) NB122_123.out _).trans (((cell_far (p := ⟨gb123, _, none⟩) NB122_123.out _).trans (((cell_far (p := ⟨gb123, _, none⟩) NB122_123.out _).trans (((cell_far (p := ⟨gb123, _, none⟩) NB122_123.out _).trans (((cell_far (p := ⟨gb123, _, none⟩) NB122_123.out _).trans (hHeld.2.2.2.2.2.2.2.2.2.2.2.2.1)))))))))))))), ((cell_far (p := ⟨gb123, _, none⟩) NB122_123.out _).trans (((cell_far (p := ⟨gb123, _, none⟩) NB122_123.out _).trans (((cell_far (p := ⟨gb123, _, none⟩) NB122_123.out _).trans (((cell_far (p := ⟨gb123, _, none⟩) NB122_123.out _).trans (((cell_far (p := ⟨gb123, _, none⟩) NB122_123.out _).trans (((cell_far (p := ⟨gb123, _, none⟩) NB122_123.out _).trans (((cell_far (p := ⟨gb123, _, none⟩) NB122_123.out _).trans (hHeld.2.2.2.2.2.2.2.2.2.2.2.2.2))))))))))))))⟩ (fun hHeld => ?_)
  clear hK K
  refine done_ (by kernel_rfl) ?_
  try go_wp2
  refine bodyPost_ret (results_cell_row rfl _ _ gb123 23 #[.int .i32 t145, .int .i32 t146, .int .i32 t147, .int .u8 t148, .int .u8 t149, .int .u8 t150, .bool t151] (0, 0) _ rfl (by (with_reducible repeat (first | refine blk_drewN ?_ _ | refine blk_drew ?_ | refine blk_alloc ?_ _)); refine blk_put (cs := #[.int .i32 t145, .int .i32 t146, .int .i32 t147, .int .u8 t148, .int .u8 t149, .int .u8 t150, .bool false]) ?_ 6 _ rfl; (with_reducible repeat (first | refine blk_drewN ?_ _ | refine blk_drew ?_ | refine blk_alloc ?_ _)); refine blk_put (cs := #[.int .i32 t145, .int .i32 t146, .int .i32 t147, .int .u8 t148, .int .u8 t149, .int .u8 0, .bool false]) ?_ 5 _ rfl; (with_reducible repeat (first | refine blk_drewN ?_ _ | refine blk_drew ?_ | refine blk_alloc ?_ _)); refine blk_put (cs := #[.int .i32 t145, .int .i32 t146, .int .i32 t147, .int .u8 t148, .int .u8 0, .int .u8 0, .bool false]) ?_ 4 _ rfl; (with_reducible repeat (first | refine blk_drewN ?_ _ | refine blk_drew ?_ | refine blk_alloc ?_ _)); refine blk_put (cs := #[.int .i32 t145, .int .i32 t146, .int .i32 t147, .int .u8 0, .int .u8 0, .int .u8 0, .bool false]) ?_ 3 _ rfl; (with_reducible repeat (first | refine blk_drewN ?_ _ | refine blk_drew ?_ | refine blk_alloc ?_ _)); refine blk_put (cs := #[.int .i32 t145, .int .i32 t146, .int .i32 0, .int .u8 0, .int .u8 0, .int .u8 0, .bool false]) ?_ 2 _ rfl; (with_reducible repeat (first | refine blk_drewN ?_ _ | refine blk_drew ?_ | refine blk_alloc ?_ _)); refine blk_put (cs := #[.int .i32 t145, .int .i32 0, .int .i32 0, .int .u8 0, .int .u8 0, .int .u8 0, .bool false]) ?_ 1 _ rfl; (with_reducible repeat (first | refine blk_drewN ?_ _ | refine blk_drew ?_ | refine blk_alloc ?_ _)); refine blk_put (cs := #[.int .i32 0, .int .i32 0, .int .i32 0, .int .u8 0, .int .u8 0, .int .u8 0, .bool false]) ?_ 0 _ rfl; (with_reducible repeat (first | refine blk_drewN ?_ _ | refine blk_drew ?_ | refine blk_alloc ?_ _)); exact BK123.out) Tryd.underlying23 rfl (by kernel_rfl)) rfl ?_
  exact ⟨by first | rfl | (simp [errW_none, errW_some] <;> rfl) | (simp [*, errW_none, errW_some] <;> rfl), by repeat (first | (with_reducible first | exact HB.out | apply below_alloc | apply pw_below_drewN | apply below_drew1 | refine below_set ?_ GE121.out | refine below_set ?_ GE122.out | refine below_set ?_ GE123.out) | exact HB.out)⟩

/-! ### spec_EntrySub: function 22 -/
def spec_EntrySub.f (a0_0 : Int) (a0_1 : Int) (a0_2 : Int) (a0_3 : Int) (a0_4 : Int) (a0_5 : Int) (a0_6 : Bool) (a1_0 : Int) (a1_1 : Int) (a1_2 : Int) (a1_3 : Int) (a1_4 : Int) (a1_5 : Int) (a1_6 : Bool) : Option (Int × Int × Int × Int × Int × Int × Bool) := some ((if a0_0 = a1_0 then 0 else a0_0), (if a0_1 = a1_1 then 0 else a0_1), (if a0_2 = a1_2 then 0 else a0_2), (if a0_3 = a1_3 then 0 else a0_3), (if a0_4 = a1_4 then 0 else a0_4), (if a0_5 = a1_5 then 0 else a0_5), false)
theorem spec_EntrySub.calls (a0_0 : Int) (a0_1 : Int) (a0_2 : Int) (a0_3 : Int) (a0_4 : Int) (a0_5 : Int) (a0_6 : Bool) (a1_0 : Int) (a1_1 : Int) (a1_2 : Int) (a1_3 : Int) (a1_4 : Int) (a1_5 : Int) (a1_6 : Bool) (r1 : Int) (r2 : Int) (r3 : Int) (r4 : Int) (r5 : Int) (r6 : Int) (r7 : Bool) (w : World) (h : spec_EntrySub.f a0_0 a0_1 a0_2 a0_3 a0_4 a0_5 a0_6 a1_0 a1_1 a1_2 a1_3 a1_4 a1_5 a1_6 = some (r1, r2, r3, r4, r5, r6, r7)) :
    Calls Tryd.prog 22 #[.agg #[.int .i32 a0_0, .int .i32 a0_1, .int .i32 a0_2, .int .u8 a0_3, .int .u8 a0_4, .int .u8 a0_5, .bool a0_6], .agg #[.int .i32 a1_0, .int .i32 a1_1, .int .i32 a1_2, .int .u8 a1_3, .int .u8 a1_4, .int .u8 a1_5, .bool a1_6]] w fun e w' => e = .returned (.agg #[.int .i32 r1, .int .i32 r2, .int .i32 r3, .int .u8 r4, .int .u8 r5, .int .u8 r6, .bool r7]) ∧ Below w.heap.size w w' := by
  unfold spec_EntrySub.f at h
  simp only [Option.some.injEq, Prod.mk.injEq] at h
  obtain ⟨rfl, rfl, rfl, rfl, rfl, rfl, rfl⟩ := h
  exact Go.Proofs.YtifhhejohdmiaaaDoorEnt.ssub_c ⟨a0_0, a0_1, a0_2, a0_3, a0_4, a0_5, a0_6⟩ ⟨a1_0, a1_1, a1_2, a1_3, a1_4, a1_5, a1_6⟩ w

end Go.Proofs.YtifhhejohdmiaaaDoor.U
