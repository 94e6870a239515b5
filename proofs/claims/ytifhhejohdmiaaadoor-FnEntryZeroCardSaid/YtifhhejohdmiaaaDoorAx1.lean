-- WRITTEN BY OUR myprint.py, a program of this session's over the kit's printer
import Derived.Test.YtifhhejohdmiaaaDoorAx0
namespace Go.Proofs.YtifhhejohdmiaaaDoor.A
open Go.RowKit Go.Proofs.YtifhhejohdmiaaaDoorW.PrintWords Go.Proofs.YtifhhejohdmiaaaDoorW.PrintLast Go.Proofs.YtifhhejohdmiaaaDoorW.PrintMore
attribute [local go_sem] max2_int min2_int max_two min_two max_three min_three max_four min_four   -- for this text's walks alone
set_option linter.unusedVariables false
set_option linter.unusedSimpArgs false

/-! ### impl_entered: function 27 -/
def impl_entered.f (a0_0 : Int) (a0_1 : Int) (a0_2 : Int) (a0_3 : Int) (a0_4 : Int) (a0_5 : Int) (a0_6 : Bool) : Option (Int × Int × Int × Int × Int × Int × Bool) := some (a0_0, a0_1, a0_2, a0_3, a0_4, a0_5, a0_6)
set_option maxHeartbeats 8000000 in
set_option maxRecDepth 100000 in
theorem impl_entered.calls (a0_0 : Int) (a0_1 : Int) (a0_2 : Int) (a0_3 : Int) (a0_4 : Int) (a0_5 : Int) (a0_6 : Bool) (r1 : Int) (r2 : Int) (r3 : Int) (r4 : Int) (r5 : Int) (r6 : Int) (r7 : Bool) (w : World) (h : impl_entered.f a0_0 a0_1 a0_2 a0_3 a0_4 a0_5 a0_6 = some (r1, r2, r3, r4, r5, r6, r7)) :
    Calls Tryd.prog 27 #[.agg #[.int .i32 a0_0, .int .i32 a0_1, .int .i32 a0_2, .int .u8 a0_3, .int .u8 a0_4, .int .u8 a0_5, .bool a0_6]] w fun e w' => e = .returned (.agg #[.int .i32 r1, .int .i32 r2, .int .i32 r3, .int .u8 r4, .int .u8 r5, .int .u8 r6, .bool r7]) ∧ Below w.heap.size w w' := by
  have hu23 := Tryd.underlying23
  have hu57 := Tryd.underlying57
  have HB := Aside0.mk (Below.refl w.heap.size w)
  have H : (some (a0_0, a0_1, a0_2, a0_3, a0_4, a0_5, a0_6)) = some (r1, r2, r3, r4, r5, r6, r7) := h
  clear h
  simp only [Option.some.injEq, Prod.mk.injEq] at H
  obtain ⟨rfl, rfl, rfl, rfl, rfl, rfl, rfl⟩ := H
  go_enter Tryd.func27, Tryd.ntmps27
  go_wp2_with (first | ((with_reducible refine gate_dst (N := 1) rfl ?_); refine box_event ?hg (N := 1) ?hd (cs := #[.int .i32 a0_0, .int .i32 a0_1, .int .i32 a0_2, .int .u8 a0_3, .int .u8 a0_4, .int .u8 a0_5, .bool a0_6]) (t := 23) ?hr ?_; (case hd => rfl); (case hg => rfl); (case hr => first | (go_simp; done) | (go_simp; rfl)); intro gb101 hg w2 hbox hb; have n0_ := Aside0.mk (below_step (by repeat (first | (with_reducible first | exact HB.out | apply below_alloc | apply pw_below_drewN | apply below_drew1) | exact HB.out)) hb); have n1_ := Aside0.mk (hbox); have n2_ := Aside0.mk ((by rw [hg]; exact (below_size (by repeat (first | (with_reducible first | exact HB.out | apply below_alloc | apply pw_below_drewN | apply below_drew1) | exact HB.out))) : w.heap.size ≤ gb101)); have n3_ := Aside0.mk ((by rw [hg]; exact (below_size (by repeat (first | (with_reducible first | exact HB.out | apply below_alloc | apply pw_below_drewN | apply below_drew1) | exact HB.out))) : w.heap.size ≤ gb101)); clear HB; have HB := n0_; have BK101 := n1_; have GW101 := n2_; have GE101 := n3_; clear n0_ n1_ n2_ n3_; clear hb hbox hg) | ((with_reducible refine gate_dst (N := 2) rfl ?_); refine box_event ?hg (N := 2) ?hd (cs := #[.int .i32 0, .int .i32 0, .int .i32 0, .int .u8 0, .int .u8 0, .int .u8 0, .bool false]) (t := 57) ?hr ?_; (case hd => rfl); (case hg => rfl); (case hr => first | (go_simp; done) | (go_simp; rfl)); intro gb102 hg w3 hbox hb; have n0_ := Aside0.mk (blk_below (g := gb101) (o := .cells #[.int .i32 a0_0, .int .i32 a0_1, .int .i32 a0_2, .int .u8 a0_3, .int .u8 a0_4, .int .u8 a0_5, .bool a0_6] 23 (0, 0)) (by (with_reducible repeat (first | refine blk_drewN ?_ _ | refine blk_drew ?_ | refine blk_alloc ?_ _)); exact BK101.out) hb); have n1_ := Aside0.mk (below_step (by repeat (first | (with_reducible first | exact HB.out | apply below_alloc | apply pw_below_drewN | apply below_drew1 | refine below_set ?_ GE101.out) | exact HB.out)) hb); have n2_ := Aside0.mk (hbox); have n3_ := Aside0.mk ((by rw [hg]; exact (below_size (by repeat (first | (with_reducible first | exact HB.out | apply below_alloc | apply pw_below_drewN | apply below_drew1 | refine below_set ?_ GE101.out) | exact HB.out))) : w.heap.size ≤ gb102)); have n4_ := Aside0.mk ((by rw [hg]; exact (below_size (by repeat (first | (with_reducible first | exact HB.out | apply below_alloc | apply pw_below_drewN | apply below_drew1 | refine below_set ?_ GE101.out) | exact HB.out))) : w.heap.size ≤ gb102)); have n5_ := Aside0.mk ((by rw [hg]; exact Nat.ne_of_lt (blk_lt (g := gb101) (o := .cells #[.int .i32 a0_0, .int .i32 a0_1, .int .i32 a0_2, .int .u8 a0_3, .int .u8 a0_4, .int .u8 a0_5, .bool a0_6] 23 (0, 0)) (by (with_reducible repeat (first | refine blk_drewN ?_ _ | refine blk_drew ?_ | refine blk_alloc ?_ _)); exact BK101.out)) : gb101 ≠ gb102)); have n6_ := Aside0.mk ((by rw [hg]; exact Nat.ne_of_gt (blk_lt (g := gb101) (o := .cells #[.int .i32 a0_0, .int .i32 a0_1, .int .i32 a0_2, .int .u8 a0_3, .int .u8 a0_4, .int .u8 a0_5, .bool a0_6] 23 (0, 0)) (by (with_reducible repeat (first | refine blk_drewN ?_ _ | refine blk_drew ?_ | refine blk_alloc ?_ _)); exact BK101.out)) : gb102 ≠ gb101)); clear BK101; clear HB; have BK101 := n0_; have HB := n1_; have BK102 := n2_; have GW102 := n3_; have GE102 := n4_; have NB101_102 := n5_; have NB102_101 := n6_; clear n0_ n1_ n2_ n3_ n4_ n5_ n6_; clear hb hbox hg; have hnb4 := NB101_102.out; have hnc4 := NB102_101.out; have hcz5_0 : w3.cell? ⟨gb101, 0, none⟩ = some (.int .i32 a0_0) := (blk_cell BK101.out 0).trans rfl; have hcz5_1 : w3.cell? ⟨gb101, 1, none⟩ = some (.int .i32 a0_1) := (blk_cell BK101.out 1).trans rfl; have hcz5_2 : w3.cell? ⟨gb101, 2, none⟩ = some (.int .i32 a0_2) := (blk_cell BK101.out 2).trans rfl; have hcz5_3 : w3.cell? ⟨gb101, 3, none⟩ = some (.int .u8 a0_3) := (blk_cell BK101.out 3).trans rfl; have hcz5_4 : w3.cell? ⟨gb101, 4, none⟩ = some (.int .u8 a0_4) := (blk_cell BK101.out 4).trans rfl; have hcz5_5 : w3.cell? ⟨gb101, 5, none⟩ = some (.int .u8 a0_5) := (blk_cell BK101.out 5).trans rfl; have hcz5_6 : w3.cell? ⟨gb101, 6, none⟩ = some (.bool a0_6) := (blk_cell BK101.out 6).trans rfl; have hfz5_0 := blk_frozen BK101.out 0; have hfz5_1 := blk_frozen BK101.out 1; have hfz5_2 := blk_frozen BK101.out 2; have hfz5_3 := blk_frozen BK101.out 3; have hfz5_4 := blk_frozen BK101.out 4; have hfz5_5 := blk_frozen BK101.out 5; have hfz5_6 := blk_frozen BK101.out 6; have hcz6_0 : w3.cell? ⟨gb102, 0, none⟩ = some (.int .i32 0) := (blk_cell BK102.out 0).trans rfl; have hcz6_1 : w3.cell? ⟨gb102, 1, none⟩ = some (.int .i32 0) := (blk_cell BK102.out 1).trans rfl; have hcz6_2 : w3.cell? ⟨gb102, 2, none⟩ = some (.int .i32 0) := (blk_cell BK102.out 2).trans rfl; have hcz6_3 : w3.cell? ⟨gb102, 3, none⟩ = some (.int .u8 0) := (blk_cell BK102.out 3).trans rfl; have hcz6_4 : w3.cell? ⟨gb102, 4, none⟩ = some (.int .u8 0) := (blk_cell BK102.out 4).trans rfl; have hcz6_5 : w3.cell? ⟨gb102, 5, none⟩ = some (.int .u8 0) := (blk_cell BK102.out 5).trans rfl; have hcz6_6 : w3.cell? ⟨gb102, 6, none⟩ = some (.bool false) := (blk_cell BK102.out 6).trans rfl; have hfz6_0 := blk_frozen BK102.out 0; have hfz6_1 := blk_frozen BK102.out 1; have hfz6_2 := blk_frozen BK102.out 2; have hfz6_3 := blk_frozen BK102.out 3; have hfz6_4 := blk_frozen BK102.out 4; have hfz6_5 := blk_frozen BK102.out 5; have hfz6_6 := blk_frozen BK102.out 6))
  refine bodyPost_ret (results_cell_row rfl _ _ gb102 57 #[.int .i32 a0_0, .int .i32 a0_1, .int .i32 a0_2, .int .u8 a0_3, .int .u8 a0_4, .int .u8 a0_5, .bool a0_6] (0, 0) _ rfl (by (with_reducible repeat (first | refine blk_drewN ?_ _ | refine blk_drew ?_ | refine blk_alloc ?_ _)); refine blk_put (cs := #[.int .i32 a0_0, .int .i32 a0_1, .int .i32 a0_2, .int .u8 a0_3, .int .u8 a0_4, .int .u8 a0_5, .bool false]) ?_ 6 _ rfl; (with_reducible repeat (first | refine blk_drewN ?_ _ | refine blk_drew ?_ | refine blk_alloc ?_ _)); refine blk_put (cs := #[.int .i32 a0_0, .int .i32 a0_1, .int .i32 a0_2, .int .u8 a0_3, .int .u8 a0_4, .int .u8 0, .bool false]) ?_ 5 _ rfl; (with_reducible repeat (first | refine blk_drewN ?_ _ | refine blk_drew ?_ | refine blk_alloc ?_ _)); refine blk_put (cs := #[.int .i32 a0_0, .int .i32 a0_1, .int .i32 a0_2, .int .u8 a0_3, .int .u8 0, .int .u8 0, .bool false]) ?_ 4 _ rfl; (with_reducible repeat (first | refine blk_drewN ?_ _ | refine blk_drew ?_ | refine blk_alloc ?_ _)); refine blk_put (cs := #[.int .i32 a0_0, .int .i32 a0_1, .int .i32 a0_2, .int .u8 0, .int .u8 0, .int .u8 0, .bool false]) ?_ 3 _ rfl; (with_reducible repeat (first | refine blk_drewN ?_ _ | refine blk_drew ?_ | refine blk_alloc ?_ _)); refine blk_put (cs := #[.int .i32 a0_0, .int .i32 a0_1, .int .i32 0, .int .u8 0, .int .u8 0, .int .u8 0, .bool false]) ?_ 2 _ rfl; (with_reducible repeat (first | refine blk_drewN ?_ _ | refine blk_drew ?_ | refine blk_alloc ?_ _)); refine blk_put (cs := #[.int .i32 a0_0, .int .i32 0, .int .i32 0, .int .u8 0, .int .u8 0, .int .u8 0, .bool false]) ?_ 1 _ rfl; (with_reducible repeat (first | refine blk_drewN ?_ _ | refine blk_drew ?_ | refine blk_alloc ?_ _)); refine blk_put (cs := #[.int .i32 0, .int .i32 0, .int .i32 0, .int .u8 0, .int .u8 0, .int .u8 0, .bool false]) ?_ 0 _ rfl; (with_reducible repeat (first | refine blk_drewN ?_ _ | refine blk_drew ?_ | refine blk_alloc ?_ _)); exact BK102.out) Tryd.underlying57 rfl (by kernel_rfl)) rfl ?_
  exact ⟨by first | rfl | (simp [errW_none, errW_some] <;> rfl) | (simp [*, errW_none, errW_some] <;> rfl), by repeat (first | (with_reducible first | exact HB.out | apply below_alloc | apply pw_below_drewN | apply below_drew1 | refine below_set ?_ GE101.out | refine below_set ?_ GE102.out) | exact HB.out)⟩

/-! ### chroma_StyleEntry_IsZero: function 28 -/
def chroma_StyleEntry_IsZero.f (a0_0 : Int) (a0_1 : Int) (a0_2 : Int) (a0_3 : Int) (a0_4 : Int) (a0_5 : Int) (a0_6 : Bool) : Option (Bool) := if a0_0 = 0 then (if a0_1 = 0 then (if a0_2 = 0 then (if a0_3 = 0 then (if a0_4 = 0 then (if a0_5 = 0 then (some (!a0_6)) else (some false)) else (some false)) else (some false)) else (some false)) else (some false)) else (some false)
set_option maxHeartbeats 8000000 in
set_option maxRecDepth 100000 in
theorem chroma_StyleEntry_IsZero.calls (a0_0 : Int) (a0_1 : Int) (a0_2 : Int) (a0_3 : Int) (a0_4 : Int) (a0_5 : Int) (a0_6 : Bool) (r : Bool) (w : World) (h : chroma_StyleEntry_IsZero.f a0_0 a0_1 a0_2 a0_3 a0_4 a0_5 a0_6 = some r) :
    Calls Tryd.prog 28 #[.agg #[.int .i32 a0_0, .int .i32 a0_1, .int .i32 a0_2, .int .u8 a0_3, .int .u8 a0_4, .int .u8 a0_5, .bool a0_6]] w fun e w' => e = .returned (.bool r) ∧ Below w.heap.size w w' := by
  have hu57 := Tryd.underlying57
  have HB := Aside0.mk (Below.refl w.heap.size w)
  have H : (if a0_0 = 0 then (if a0_1 = 0 then (if a0_2 = 0 then (if a0_3 = 0 then (if a0_4 = 0 then (if a0_5 = 0 then (some (!a0_6)) else (some false)) else (some false)) else (some false)) else (some false)) else (some false)) else (some false)) = some r := h
  clear h
  by_cases c2 : a0_0 = 0
  · rw [if_pos c2] at H
    have c2b0 : (a0_0 == 0) = true := beq_iff_eq.mpr c2
    have c2b1 : (a0_0 != 0) = false := bne_eq_false_iff_eq.mpr c2
    clear c2
    by_cases c3 : a0_1 = 0
    · rw [if_pos c3] at H
      have c3b0 : (a0_1 == 0) = true := beq_iff_eq.mpr c3
      have c3b1 : (a0_1 != 0) = false := bne_eq_false_iff_eq.mpr c3
      clear c3
      by_cases c4 : a0_2 = 0
      · rw [if_pos c4] at H
        have c4b0 : (a0_2 == 0) = true := beq_iff_eq.mpr c4
        have c4b1 : (a0_2 != 0) = false := bne_eq_false_iff_eq.mpr c4
        clear c4
        by_cases c5 : a0_3 = 0
        · rw [if_pos c5] at H
          have c5b0 : (a0_3 == 0) = true := beq_iff_eq.mpr c5
          have c5b1 : (a0_3 != 0) = false := bne_eq_false_iff_eq.mpr c5
          clear c5
          by_cases c6 : a0_4 = 0
          · rw [if_pos c6] at H
            have c6b0 : (a0_4 == 0) = true := beq_iff_eq.mpr c6
            have c6b1 : (a0_4 != 0) = false := bne_eq_false_iff_eq.mpr c6
            clear c6
            by_cases c7 : a0_5 = 0
            · rw [if_pos c7] at H
              have c7b0 : (a0_5 == 0) = true := beq_iff_eq.mpr c7
              have c7b1 : (a0_5 != 0) = false := bne_eq_false_iff_eq.mpr c7
              clear c7
              obtain rfl := Option.some.inj H
              go_enter Tryd.func28, Tryd.ntmps28
              go_wp2_with (first | ((with_reducible refine gate_dst (N := 1) rfl ?_); refine box_event ?hg (N := 1) ?hd (cs := #[.int .i32 a0_0, .int .i32 a0_1, .int .i32 a0_2, .int .u8 a0_3, .int .u8 a0_4, .int .u8 a0_5, .bool a0_6]) (t := 57) ?hr ?_; (case hd => rfl); (case hg => rfl); (case hr => first | (go_simp; done) | (go_simp; rfl)); intro gb103 hg w8 hbox hb; have n0_ := Aside0.mk (below_step (by repeat (first | (with_reducible first | exact HB.out | apply below_alloc | apply pw_below_drewN | apply below_drew1) | exact HB.out)) hb); have n1_ := Aside0.mk (hbox); have n2_ := Aside0.mk ((by rw [hg]; exact (below_size (by repeat (first | (with_reducible first | exact HB.out | apply below_alloc | apply pw_below_drewN | apply below_drew1) | exact HB.out))) : w.heap.size ≤ gb103)); have n3_ := Aside0.mk ((by rw [hg]; exact (below_size (by repeat (first | (with_reducible first | exact HB.out | apply below_alloc | apply pw_below_drewN | apply below_drew1) | exact HB.out))) : w.heap.size ≤ gb103)); clear HB; have HB := n0_; have BK103 := n1_; have GW103 := n2_; have GE103 := n3_; clear n0_ n1_ n2_ n3_; clear hb hbox hg; have hcz9_0 : w8.cell? ⟨gb103, 0, none⟩ = some (.int .i32 a0_0) := (blk_cell BK103.out 0).trans rfl; have hcz9_1 : w8.cell? ⟨gb103, 1, none⟩ = some (.int .i32 a0_1) := (blk_cell BK103.out 1).trans rfl; have hcz9_2 : w8.cell? ⟨gb103, 2, none⟩ = some (.int .i32 a0_2) := (blk_cell BK103.out 2).trans rfl; have hcz9_3 : w8.cell? ⟨gb103, 3, none⟩ = some (.int .u8 a0_3) := (blk_cell BK103.out 3).trans rfl; have hcz9_4 : w8.cell? ⟨gb103, 4, none⟩ = some (.int .u8 a0_4) := (blk_cell BK103.out 4).trans rfl; have hcz9_5 : w8.cell? ⟨gb103, 5, none⟩ = some (.int .u8 a0_5) := (blk_cell BK103.out 5).trans rfl; have hcz9_6 : w8.cell? ⟨gb103, 6, none⟩ = some (.bool a0_6) := (blk_cell BK103.out 6).trans rfl; have hfz9_0 := blk_frozen BK103.out 0; have hfz9_1 := blk_frozen BK103.out 1; have hfz9_2 := blk_frozen BK103.out 2; have hfz9_3 := blk_frozen BK103.out 3; have hfz9_4 := blk_frozen BK103.out 4; have hfz9_5 := blk_frozen BK103.out 5; have hfz9_6 := blk_frozen BK103.out 6))
              go_ret
              exact ⟨by first | rfl | (simp [errW_none, errW_some] <;> rfl) | (simp [*, errW_none, errW_some] <;> rfl), by repeat (first | (with_reducible first | exact HB.out | apply below_alloc | apply pw_below_drewN | apply below_drew1 | refine below_set ?_ GE103.out) | exact HB.out)⟩
            · rw [if_neg c7] at H
              have c7b0 : (a0_5 == 0) = false := beq_eq_false_iff_ne.mpr c7
              have c7b1 : (a0_5 != 0) = true := bne_iff_ne.mpr c7
              obtain rfl := Option.some.inj H
              go_enter Tryd.func28, Tryd.ntmps28
              go_wp2_with (first | ((with_reducible refine gate_dst (N := 1) rfl ?_); refine box_event ?hg (N := 1) ?hd (cs := #[.int .i32 a0_0, .int .i32 a0_1, .int .i32 a0_2, .int .u8 a0_3, .int .u8 a0_4, .int .u8 a0_5, .bool a0_6]) (t := 57) ?hr ?_; (case hd => rfl); (case hg => rfl); (case hr => first | (go_simp; done) | (go_simp; rfl)); intro gb103 hg w10 hbox hb; have n0_ := Aside0.mk (below_step (by repeat (first | (with_reducible first | exact HB.out | apply below_alloc | apply pw_below_drewN | apply below_drew1) | exact HB.out)) hb); have n1_ := Aside0.mk (hbox); have n2_ := Aside0.mk ((by rw [hg]; exact (below_size (by repeat (first | (with_reducible first | exact HB.out | apply below_alloc | apply pw_below_drewN | apply below_drew1) | exact HB.out))) : w.heap.size ≤ gb103)); have n3_ := Aside0.mk ((by rw [hg]; exact (below_size (by repeat (first | (with_reducible first | exact HB.out | apply below_alloc | apply pw_below_drewN | apply below_drew1) | exact HB.out))) : w.heap.size ≤ gb103)); clear HB; have HB := n0_; have BK103 := n1_; have GW103 := n2_; have GE103 := n3_; clear n0_ n1_ n2_ n3_; clear hb hbox hg; have hcz11_0 : w10.cell? ⟨gb103, 0, none⟩ = some (.int .i32 a0_0) := (blk_cell BK103.out 0).trans rfl; have hcz11_1 : w10.cell? ⟨gb103, 1, none⟩ = some (.int .i32 a0_1) := (blk_cell BK103.out 1).trans rfl; have hcz11_2 : w10.cell? ⟨gb103, 2, none⟩ = some (.int .i32 a0_2) := (blk_cell BK103.out 2).trans rfl; have hcz11_3 : w10.cell? ⟨gb103, 3, none⟩ = some (.int .u8 a0_3) := (blk_cell BK103.out 3).trans rfl; have hcz11_4 : w10.cell? ⟨gb103, 4, none⟩ = some (.int .u8 a0_4) := (blk_cell BK103.out 4).trans rfl; have hcz11_5 : w10.cell? ⟨gb103, 5, none⟩ = some (.int .u8 a0_5) := (blk_cell BK103.out 5).trans rfl; have hcz11_6 : w10.cell? ⟨gb103, 6, none⟩ = some (.bool a0_6) := (blk_cell BK103.out 6).trans rfl; have hfz11_0 := blk_frozen BK103.out 0; have hfz11_1 := blk_frozen BK103.out 1; have hfz11_2 := blk_frozen BK103.out 2; have hfz11_3 := blk_frozen BK103.out 3; have hfz11_4 := blk_frozen BK103.out 4; have hfz11_5 := blk_frozen BK103.out 5; have hfz11_6 := blk_frozen BK103.out 6))
              go_ret
              exact ⟨by first | rfl | (simp [errW_none, errW_some] <;> rfl) | (simp [*, errW_none, errW_some] <;> rfl), by repeat (first | (with_reducible first | exact HB.out | apply below_alloc | apply pw_below_drewN | apply below_drew1 | refine below_set ?_ GE103.out) | exact HB.out)⟩
          · rw [if_neg c6] at H
            have c6b0 : (a0_4 == 0) = false := beq_eq_false_iff_ne.mpr c6
            have c6b1 : (a0_4 != 0) = true := bne_iff_ne.mpr c6
            obtain rfl := Option.some.inj H
            go_enter Tryd.func28, Tryd.ntmps28
            go_wp2_with (first | ((with_reducible refine gate_dst (N := 1) rfl ?_); refine box_event ?hg (N := 1) ?hd (cs := #[.int .i32 a0_0, .int .i32 a0_1, .int .i32 a0_2, .int .u8 a0_3, .int .u8 a0_4, .int .u8 a0_5, .bool a0_6]) (t := 57) ?hr ?_; (case hd => rfl); (case hg => rfl); (case hr => first | (go_simp; done) | (go_simp; rfl)); intro gb103 hg w12 hbox hb; have n0_ := Aside0.mk (below_step (by repeat (first | (with_reducible first | exact HB.out | apply below_alloc | apply pw_below_drewN | apply below_drew1) | exact HB.out)) hb); have n1_ := Aside0.mk (hbox); have n2_ := Aside0.mk ((by rw [hg]; exact (below_size (by repeat (first | (with_reducible first | exact HB.out | apply below_alloc | apply pw_below_drewN | apply below_drew1) | exact HB.out))) : w.heap.size ≤ gb103)); have n3_ := Aside0.mk ((by rw [hg]; exact (below_size (by repeat (first | (with_reducible first | exact HB.out | apply below_alloc | apply pw_below_drewN | apply below_drew1) | exact HB.out))) : w.heap.size ≤ gb103)); clear HB; have HB := n0_; have BK103 := n1_; have GW103 := n2_; have GE103 := n3_; clear n0_ n1_ n2_ n3_; clear hb hbox hg; have hcz13_0 : w12.cell? ⟨gb103, 0, none⟩ = some (.int .i32 a0_0) := (blk_cell BK103.out 0).trans rfl; have hcz13_1 : w12.cell? ⟨gb103, 1, none⟩ = some (.int .i32 a0_1) := (blk_cell BK103.out 1).trans rfl; have hcz13_2 : w12.cell? ⟨gb103, 2, none⟩ = some (.int .i32 a0_2) := (blk_cell BK103.out 2).trans rfl; have hcz13_3 : w12.cell? ⟨gb103, 3, none⟩ = some (.int .u8 a0_3) := (blk_cell BK103.out 3).trans rfl; have hcz13_4 : w12.cell? ⟨gb103, 4, none⟩ = some (.int .u8 a0_4) := (blk_cell BK103.out 4).trans rfl; have hcz13_5 : w12.cell? ⟨gb103, 5, none⟩ = some (.int .u8 a0_5) := (blk_cell BK103.out 5).trans rfl; have hcz13_6 : w12.cell? ⟨gb103, 6, none⟩ = some (.bool a0_6) := (blk_cell BK103.out 6).trans rfl; have hfz13_0 := blk_frozen BK103.out 0; have hfz13_1 := blk_frozen BK103.out 1; have hfz13_2 := blk_frozen BK103.out 2; have hfz13_3 := blk_frozen BK103.out 3; have hfz13_4 := blk_frozen BK103.out 4; have hfz13_5 := blk_frozen BK103.out 5; have hfz13_6 := blk_frozen BK103.out 6))
            go_ret
            exact ⟨by first | rfl | (simp [errW_none, errW_some] <;> rfl) | (simp [*, errW_none, errW_some] <;> rfl), by repeat (first | (with_reducible first | exact HB.out | apply below_alloc | apply pw_below_drewN | apply below_drew1 | refine below_set ?_ GE103.out) | exact HB.out)⟩
        · rw [if_neg c5] at H
          have c5b0 : (a0_3 == 0) = false := beq_eq_false_iff_ne.mpr c5
          have c5b1 : (a0_3 != 0) = true := bne_iff_ne.mpr c5
          obtain rfl := Option.some.inj H
          go_enter Tryd.func28, Tryd.ntmps28
          go_wp2_with (first | ((with_reducible refine gate_dst (N := 1) rfl ?_); refine box_event ?hg (N := 1) ?hd (cs := #[.int .i32 a0_0, .int .i32 a0_1, .int .i32 a0_2, .int .u8 a0_3, .int .u8 a0_4, .int .u8 a0_5, .bool a0_6]) (t := 57) ?hr ?_; (case hd => rfl); (case hg => rfl); (case hr => first | (go_simp; done) | (go_simp; rfl)); intro gb103 hg w14 hbox hb; have n0_ := Aside0.mk (below_step (by repeat (first | (with_reducible first | exact HB.out | apply below_alloc | apply pw_below_drewN | apply below_drew1) | exact HB.out)) hb); have n1_ := Aside0.mk (hbox); have n2_ := Aside0.mk ((by rw [hg]; exact (below_size (by repeat (first | (with_reducible first | exact HB.out | apply below_alloc | apply pw_below_drewN | apply below_drew1) | exact HB.out))) : w.heap.size ≤ gb103)); have n3_ := Aside0.mk ((by rw [hg]; exact (below_size (by repeat (first | (with_reducible first | exact HB.out | apply below_alloc | apply pw_below_drewN | apply below_drew1) | exact HB.out))) : w.heap.size ≤ gb103)); clear HB; have HB := n0_; have BK103 := n1_; have GW103 := n2_; have GE103 := n3_; clear n0_ n1_ n2_ n3_; clear hb hbox hg; have hcz15_0 : w14.cell? ⟨gb103, 0, none⟩ = some (.int .i32 a0_0) := (blk_cell BK103.out 0).trans rfl; have hcz15_1 : w14.cell? ⟨gb103, 1, none⟩ = some (.int .i32 a0_1) := (blk_cell BK103.out 1).trans rfl; have hcz15_2 : w14.cell? ⟨gb103, 2, none⟩ = some (.int .i32 a0_2) := (blk_cell BK103.out 2).trans rfl; have hcz15_3 : w14.cell? ⟨gb103, 3, none⟩ = some (.int .u8 a0_3) := (blk_cell BK103.out 3).trans rfl; have hcz15_4 : w14.cell? ⟨gb103, 4, none⟩ = some (.int .u8 a0_4) := (blk_cell BK103.out 4).trans rfl; have hcz15_5 : w14.cell? ⟨gb103, 5, none⟩ = some (.int .u8 a0_5) := (blk_cell BK103.out 5).trans rfl; have hcz15_6 : w14.cell? ⟨gb103, 6, none⟩ = some (.bool a0_6) := (blk_cell BK103.out 6).trans rfl; have hfz15_0 := blk_frozen BK103.out 0; have hfz15_1 := blk_frozen BK103.out 1; have hfz15_2 := blk_frozen BK103.out 2; have hfz15_3 := blk_frozen BK103.out 3; have hfz15_4 := blk_frozen BK103.out 4; have hfz15_5 := blk_frozen BK103.out 5; have hfz15_6 := blk_frozen BK103.out 6))
          go_ret
          exact ⟨by first | rfl | (simp [errW_none, errW_some] <;> rfl) | (simp [*, errW_none, errW_some] <;> rfl), by repeat (first | (with_reducible first | exact HB.out | apply below_alloc | apply pw_below_drewN | apply below_drew1 | refine below_set ?_ GE103.out) | exact HB.out)⟩
      · rw [if_neg c4] at H
        have c4b0 : (a0_2 == 0) = false := beq_eq_false_iff_ne.mpr c4
        have c4b1 : (a0_2 != 0) = true := bne_iff_ne.mpr c4
        obtain rfl := Option.some.inj H
        go_enter Tryd.func28, Tryd.ntmps28
        go_wp2_with (first | ((with_reducible refine gate_dst (N := 1) rfl ?_); refine box_event ?hg (N := 1) ?hd (cs := #[.int .i32 a0_0, .int .i32 a0_1, .int .i32 a0_2, .int .u8 a0_3, .int .u8 a0_4, .int .u8 a0_5, .bool a0_6]) (t := 57) ?hr ?_; (case hd => rfl); (case hg => rfl); (case hr => first | (go_simp; done) | (go_simp; rfl)); intro gb103 hg w16 hbox hb; have n0_ := Aside0.mk (below_step (by repeat (first | (with_reducible first | exact HB.out | apply below_alloc | apply pw_below_drewN | apply below_drew1) | exact HB.out)) hb); have n1_ := Aside0.mk (hbox); have n2_ := Aside0.mk ((by rw [hg]; exact (below_size (by repeat (first | (with_reducible first | exact HB.out | apply below_alloc | apply pw_below_drewN | apply below_drew1) | exact HB.out))) : w.heap.size ≤ gb103)); have n3_ := Aside0.mk ((by rw [hg]; exact (below_size (by repeat (first | (with_reducible first | exact HB.out | apply below_alloc | apply pw_below_drewN | apply below_drew1) | exact HB.out))) : w.heap.size ≤ gb103)); clear HB; have HB := n0_; have BK103 := n1_; have GW103 := n2_; have GE103 := n3_; clear n0_ n1_ n2_ n3_; clear hb hbox hg; have hcz17_0 : w16.cell? ⟨gb103, 0, none⟩ = some (.int .i32 a0_0) := (blk_cell BK103.out 0).trans rfl; have hcz17_1 : w16.cell? ⟨gb103, 1, none⟩ = some (.int .i32 a0_1) := (blk_cell BK103.out 1).trans rfl; have hcz17_2 : w16.cell? ⟨gb103, 2, none⟩ = some (.int .i32 a0_2) := (blk_cell BK103.out 2).trans rfl; have hcz17_3 : w16.cell? ⟨gb103, 3, none⟩ = some (.int .u8 a0_3) := (blk_cell BK103.out 3).trans rfl; have hcz17_4 : w16.cell? ⟨gb103, 4, none⟩ = some (.int .u8 a0_4) := (blk_cell BK103.out 4).trans rfl; have hcz17_5 : w16.cell? ⟨gb103, 5, none⟩ = some (.int .u8 a0_5) := (blk_cell BK103.out 5).trans rfl; have hcz17_6 : w16.cell? ⟨gb103, 6, none⟩ = some (.bool a0_6) := (blk_cell BK103.out 6).trans rfl; have hfz17_0 := blk_frozen BK103.out 0; have hfz17_1 := blk_frozen BK103.out 1; have hfz17_2 := blk_frozen BK103.out 2; have hfz17_3 := blk_frozen BK103.out 3; have hfz17_4 := blk_frozen BK103.out 4; have hfz17_5 := blk_frozen BK103.out 5; have hfz17_6 := blk_frozen BK103.out 6))
        go_ret
        exact ⟨by first | rfl | (simp [errW_none, errW_some] <;> rfl) | (simp [*, errW_none, errW_some] <;> rfl), by repeat (first | (with_reducible first | exact HB.out | apply below_alloc | apply pw_below_drewN | apply below_drew1 | refine below_set ?_ GE103.out) | exact HB.out)⟩
    · rw [if_neg c3] at H
      have c3b0 : (a0_1 == 0) = false := beq_eq_false_iff_ne.mpr c3
      have c3b1 : (a0_1 != 0) = true := bne_iff_ne.mpr c3
      obtain rfl := Option.some.inj H
      go_enter Tryd.func28, Tryd.ntmps28
      go_wp2_with (first | ((with_reducible refine gate_dst (N := 1) rfl ?_); refine box_event ?hg (N := 1) ?hd (cs := #[.int .i32 a0_0, .int .i32 a0_1, .int .i32 a0_2, .int .u8 a0_3, .int .u8 a0_4, .int .u8 a0_5, .bool a0_6]) (t := 57) ?hr ?_; (case hd => rfl); (case hg => rfl); (case hr => first | (go_simp; done) | (go_simp; rfl)); intro gb103 hg w18 hbox hb; have n0_ := Aside0.mk (below_step (by repeat (first | (with_reducible first | exact HB.out | apply below_alloc | apply pw_below_drewN | apply below_drew1) | exact HB.out)) hb); have n1_ := Aside0.mk (hbox); have n2_ := Aside0.mk ((by rw [hg]; exact (below_size (by repeat (first | (with_reducible first | exact HB.out | apply below_alloc | apply pw_below_drewN | apply below_drew1) | exact HB.out))) : w.heap.size ≤ gb103)); have n3_ := Aside0.mk ((by rw [hg]; exact (below_size (by repeat (first | (with_reducible first | exact HB.out | apply below_alloc | apply pw_below_drewN | apply below_drew1) | exact HB.out))) : w.heap.size ≤ gb103)); clear HB; have HB := n0_; have BK103 := n1_; have GW103 := n2_; have GE103 := n3_; clear n0_ n1_ n2_ n3_; clear hb hbox hg; have hcz19_0 : w18.cell? ⟨gb103, 0, none⟩ = some (.int .i32 a0_0) := (blk_cell BK103.out 0).trans rfl; have hcz19_1 : w18.cell? ⟨gb103, 1, none⟩ = some (.int .i32 a0_1) := (blk_cell BK103.out 1).trans rfl; have hcz19_2 : w18.cell? ⟨gb103, 2, none⟩ = some (.int .i32 a0_2) := (blk_cell BK103.out 2).trans rfl; have hcz19_3 : w18.cell? ⟨gb103, 3, none⟩ = some (.int .u8 a0_3) := (blk_cell BK103.out 3).trans rfl; have hcz19_4 : w18.cell? ⟨gb103, 4, none⟩ = some (.int .u8 a0_4) := (blk_cell BK103.out 4).trans rfl; have hcz19_5 : w18.cell? ⟨gb103, 5, none⟩ = some (.int .u8 a0_5) := (blk_cell BK103.out 5).trans rfl; have hcz19_6 : w18.cell? ⟨gb103, 6, none⟩ = some (.bool a0_6) := (blk_cell BK103.out 6).trans rfl; have hfz19_0 := blk_frozen BK103.out 0; have hfz19_1 := blk_frozen BK103.out 1; have hfz19_2 := blk_frozen BK103.out 2; have hfz19_3 := blk_frozen BK103.out 3; have hfz19_4 := blk_frozen BK103.out 4; have hfz19_5 := blk_frozen BK103.out 5; have hfz19_6 := blk_frozen BK103.out 6))
      go_ret
      exact ⟨by first | rfl | (simp [errW_none, errW_some] <;> rfl) | (simp [*, errW_none, errW_some] <;> rfl), by repeat (first | (with_reducible first | exact HB.out | apply below_alloc | apply pw_below_drewN | apply below_drew1 | refine below_set ?_ GE103.out) | exact HB.out)⟩
  · rw [if_neg c2] at H
    have c2b0 : (a0_0 == 0) = false := beq_eq_false_iff_ne.mpr c2
    have c2b1 : (a0_0 != 0) = true := bne_iff_ne.mpr c2
    obtain rfl := Option.some.inj H
    go_enter Tryd.func28, Tryd.ntmps28
    go_wp2_with (first | ((with_reducible refine gate_dst (N := 1) rfl ?_); refine box_event ?hg (N := 1) ?hd (cs := #[.int .i32 a0_0, .int .i32 a0_1, .int .i32 a0_2, .int .u8 a0_3, .int .u8 a0_4, .int .u8 a0_5, .bool a0_6]) (t := 57) ?hr ?_; (case hd => rfl); (case hg => rfl); (case hr => first | (go_simp; done) | (go_simp; rfl)); intro gb103 hg w20 hbox hb; have n0_ := Aside0.mk (below_step (by repeat (first | (with_reducible first | exact HB.out | apply below_alloc | apply pw_below_drewN | apply below_drew1) | exact HB.out)) hb); have n1_ := Aside0.mk (hbox); have n2_ := Aside0.mk ((by rw [hg]; exact (below_size (by repeat (first | (with_reducible first | exact HB.out | apply below_alloc | apply pw_below_drewN | apply below_drew1) | exact HB.out))) : w.heap.size ≤ gb103)); have n3_ := Aside0.mk ((by rw [hg]; exact (below_size (by repeat (first | (with_reducible first | exact HB.out | apply below_alloc | apply pw_below_drewN | apply below_drew1) | exact HB.out))) : w.heap.size ≤ gb103)); clear HB; have HB := n0_; have BK103 := n1_; have GW103 := n2_; have GE103 := n3_; clear n0_ n1_ n2_ n3_; clear hb hbox hg; have hcz21_0 : w20.cell? ⟨gb103, 0, none⟩ = some (.int .i32 a0_0) := (blk_cell BK103.out 0).trans rfl; have hcz21_1 : w20.cell? ⟨gb103, 1, none⟩ = some (.int .i32 a0_1) := (blk_cell BK103.out 1).trans rfl; have hcz21_2 : w20.cell? ⟨gb103, 2, none⟩ = some (.int .i32 a0_2) := (blk_cell BK103.out 2).trans rfl; have hcz21_3 : w20.cell? ⟨gb103, 3, none⟩ = some (.int .u8 a0_3) := (blk_cell BK103.out 3).trans rfl; have hcz21_4 : w20.cell? ⟨gb103, 4, none⟩ = some (.int .u8 a0_4) := (blk_cell BK103.out 4).trans rfl; have hcz21_5 : w20.cell? ⟨gb103, 5, none⟩ = some (.int .u8 a0_5) := (blk_cell BK103.out 5).trans rfl; have hcz21_6 : w20.cell? ⟨gb103, 6, none⟩ = some (.bool a0_6) := (blk_cell BK103.out 6).trans rfl; have hfz21_0 := blk_frozen BK103.out 0; have hfz21_1 := blk_frozen BK103.out 1; have hfz21_2 := blk_frozen BK103.out 2; have hfz21_3 := blk_frozen BK103.out 3; have hfz21_4 := blk_frozen BK103.out 4; have hfz21_5 := blk_frozen BK103.out 5; have hfz21_6 := blk_frozen BK103.out 6))
    go_ret
    exact ⟨by first | rfl | (simp [errW_none, errW_some] <;> rfl) | (simp [*, errW_none, errW_some] <;> rfl), by repeat (first | (with_reducible first | exact HB.out | apply below_alloc | apply pw_below_drewN | apply below_drew1 | refine below_set ?_ GE103.out) | exact HB.out)⟩

/-! ### impl_EntryIsZero: function 12 -/
def impl_EntryIsZero.f (a0_0 : Int) (a0_1 : Int) (a0_2 : Int) (a0_3 : Int) (a0_4 : Int) (a0_5 : Int) (a0_6 : Bool) : Option (Bool) := (impl_entered.f a0_0 a0_1 a0_2 a0_3 a0_4 a0_5 a0_6).bind fun bt105 => ((chroma_StyleEntry_IsZero.f bt105.1 bt105.2.1 bt105.2.2.1 bt105.2.2.2.1 bt105.2.2.2.2.1 bt105.2.2.2.2.2.1 bt105.2.2.2.2.2.2).bind fun t112 => (some t112))
set_option maxHeartbeats 8000000 in
set_option maxRecDepth 100000 in
theorem impl_EntryIsZero.calls (a0_0 : Int) (a0_1 : Int) (a0_2 : Int) (a0_3 : Int) (a0_4 : Int) (a0_5 : Int) (a0_6 : Bool) (r : Bool) (w : World) (h : impl_EntryIsZero.f a0_0 a0_1 a0_2 a0_3 a0_4 a0_5 a0_6 = some r) :
    Calls Tryd.prog 12 #[.agg #[.int .i32 a0_0, .int .i32 a0_1, .int .i32 a0_2, .int .u8 a0_3, .int .u8 a0_4, .int .u8 a0_5, .bool a0_6]] w fun e w' => e = .returned (.bool r) ∧ Below w.heap.size w w' := by
  have hu23 := Tryd.underlying23
  have HB := Aside0.mk (Below.refl w.heap.size w)
  have H : ((impl_entered.f a0_0 a0_1 a0_2 a0_3 a0_4 a0_5 a0_6).bind fun bt105 => ((chroma_StyleEntry_IsZero.f bt105.1 bt105.2.1 bt105.2.2.1 bt105.2.2.2.1 bt105.2.2.2.2.1 bt105.2.2.2.2.2.1 bt105.2.2.2.2.2.2).bind fun t112 => (some t112))) = some r := h
  clear h
  replace H := Option.bind_eq_some_iff.mp H
  obtain ⟨⟨t105, t106, t107, t108, t109, t110, t111⟩, A20, H⟩ := H
  replace H : ((chroma_StyleEntry_IsZero.f t105 t106 t107 t108 t109 t110 t111).bind fun t112 => (some t112)) = some r := H
  have A2 := Aside0.mk A20
  clear A20
  replace H := Option.bind_eq_some_iff.mp H
  obtain ⟨t112, A30, H⟩ := H
  replace H : (some t112) = some r := H
  have A3 := Aside0.mk A30
  clear A30
  obtain rfl := Option.some.inj H
  go_enter Tryd.func12, Tryd.ntmps12
  go_wp2_with (first | ((with_reducible refine gate_dst (N := 1) rfl ?_); refine box_event ?hg (N := 1) ?hd (cs := #[.int .i32 a0_0, .int .i32 a0_1, .int .i32 a0_2, .int .u8 a0_3, .int .u8 a0_4, .int .u8 a0_5, .bool a0_6]) (t := 23) ?hr ?_; (case hd => rfl); (case hg => rfl); (case hr => first | (go_simp; done) | (go_simp; rfl)); intro gb104 hg w4 hbox hb; have n0_ := Aside0.mk (below_step (by repeat (first | (with_reducible first | exact HB.out | apply below_alloc | apply pw_below_drewN | apply below_drew1) | exact HB.out)) hb); have n1_ := Aside0.mk (hbox); have n2_ := Aside0.mk ((by rw [hg]; exact (below_size (by repeat (first | (with_reducible first | exact HB.out | apply below_alloc | apply pw_below_drewN | apply below_drew1) | exact HB.out))) : w.heap.size ≤ gb104)); have n3_ := Aside0.mk ((by rw [hg]; exact (below_size (by repeat (first | (with_reducible first | exact HB.out | apply below_alloc | apply pw_below_drewN | apply below_drew1) | exact HB.out))) : w.heap.size ≤ gb104)); clear HB; have HB := n0_; have BK104 := n1_; have GW104 := n2_; have GE104 := n3_; clear n0_ n1_ n2_ n3_; clear hb hbox hg; have hcz5_0 : w4.cell? ⟨gb104, 0, none⟩ = some (.int .i32 a0_0) := (blk_cell BK104.out 0).trans rfl; have hcz5_1 : w4.cell? ⟨gb104, 1, none⟩ = some (.int .i32 a0_1) := (blk_cell BK104.out 1).trans rfl; have hcz5_2 : w4.cell? ⟨gb104, 2, none⟩ = some (.int .i32 a0_2) := (blk_cell BK104.out 2).trans rfl; have hcz5_3 : w4.cell? ⟨gb104, 3, none⟩ = some (.int .u8 a0_3) := (blk_cell BK104.out 3).trans rfl; have hcz5_4 : w4.cell? ⟨gb104, 4, none⟩ = some (.int .u8 a0_4) := (blk_cell BK104.out 4).trans rfl; have hcz5_5 : w4.cell? ⟨gb104, 5, none⟩ = some (.int .u8 a0_5) := (blk_cell BK104.out 5).trans rfl; have hcz5_6 : w4.cell? ⟨gb104, 6, none⟩ = some (.bool a0_6) := (blk_cell BK104.out 6).trans rfl; have hfz5_0 := blk_frozen BK104.out 0; have hfz5_1 := blk_frozen BK104.out 1; have hfz5_2 := blk_frozen BK104.out 2; have hfz5_3 := blk_frozen BK104.out 3; have hfz5_4 := blk_frozen BK104.out 4; have hfz5_5 := blk_frozen BK104.out 5; have hfz5_6 := blk_frozen BK104.out 6) | ((with_reducible refine gate_callee (f := 27) rfl ?_); refine goesL_ (some 4) rfl rfl Tryd.func27 (by kernel_rfl) rfl #[.agg #[.int .i32 a0_0, .int .i32 a0_1, .int .i32 a0_2, .int .u8 a0_3, .int .u8 a0_4, .int .u8 a0_5, .bool a0_6]] rfl (by (try simp only [List.map_toArray, List.map_cons, List.map_nil]); first | done | rfl | (simp only [List.length_drop, List.length_take]; rfl)) ?_; (with_reducible refine (impl_entered.calls a0_0 a0_1 a0_2 a0_3 a0_4 a0_5 a0_6 t105 t106 t107 t108 t109 t110 t111 _ A2.out).mono ?_); rintro e w6 ⟨rfl, hb⟩; refine ⟨_, rfl, ?_⟩; have n0_ := Aside0.mk (blk_below (g := gb104) (o := .cells #[.int .i32 a0_0, .int .i32 a0_1, .int .i32 a0_2, .int .u8 a0_3, .int .u8 a0_4, .int .u8 a0_5, .bool a0_6] 23 (0, 0)) (by (with_reducible repeat (first | refine blk_drewN ?_ _ | refine blk_drew ?_ | refine blk_alloc ?_ _)); exact BK104.out) hb); have n1_ := Aside0.mk (below_step (by repeat (first | (with_reducible first | exact HB.out | apply below_alloc | apply pw_below_drewN | apply below_drew1 | refine below_set ?_ GE104.out) | exact HB.out)) hb); clear BK104; clear HB; have BK104 := n0_; have HB := n1_; clear n0_ n1_; (try clear hb); (try clear hb2); (try clear hk); (try clear hi)) | ((with_reducible refine gate_callee (f := 28) rfl ?_); refine goesL_ (some 5) rfl rfl Tryd.func28 (by kernel_rfl) rfl #[.agg #[.int .i32 t105, .int .i32 t106, .int .i32 t107, .int .u8 t108, .int .u8 t109, .int .u8 t110, .bool t111]] rfl (by (try simp only [List.map_toArray, List.map_cons, List.map_nil]); first | done | rfl | (simp only [List.length_drop, List.length_take]; rfl)) ?_; (with_reducible refine (chroma_StyleEntry_IsZero.calls t105 t106 t107 t108 t109 t110 t111 t112 _ A3.out).mono ?_); rintro e w7 ⟨rfl, hb⟩; refine ⟨_, rfl, ?_⟩; have n0_ := Aside0.mk (blk_below (g := gb104) (o := .cells #[.int .i32 a0_0, .int .i32 a0_1, .int .i32 a0_2, .int .u8 a0_3, .int .u8 a0_4, .int .u8 a0_5, .bool a0_6] 23 (0, 0)) (by (with_reducible repeat (first | refine blk_drewN ?_ _ | refine blk_drew ?_ | refine blk_alloc ?_ _)); exact BK104.out) hb); have n1_ := Aside0.mk (below_step (by repeat (first | (with_reducible first | exact HB.out | apply below_alloc | apply pw_below_drewN | apply below_drew1 | refine below_set ?_ GE104.out) | exact HB.out)) hb); clear BK104; clear HB; have BK104 := n0_; have HB := n1_; clear n0_ n1_; (try clear hb); (try clear hb2); (try clear hk); (try clear hi)))
  go_ret
  exact ⟨by first | rfl | (simp [errW_none, errW_some] <;> rfl) | (simp [*, errW_none, errW_some] <;> rfl), by repeat (first | (with_reducible first | exact HB.out | apply below_alloc | apply pw_below_drewN | apply below_drew1 | refine below_set ?_ GE104.out) | exact HB.out)⟩

-- NOT PRINTED: function 66 (chroma_NewStyleBuilder)

-- NOT PRINTED: function 80 (chroma_TokenType_string)

-- NOT PRINTED: function 67 (chroma_StyleBuilder_AddAll)

-- NOT PRINTED: function 45 (strings_FieldsSeq)

/-! ### stringslite_HasPrefix: function 59 -/
def stringslite_HasPrefix.f (a0 : ByteArray) (a1 : ByteArray) : Option (Bool) := if (a0.size : Int) ≥ (a1.size : Int) then (if 0 ≤ (a1.size : Int) then (if (a1.size : Int) ≤ (a0.size : Int) then (some ((a0.extract 0 ((a1.size : Int) : Int).toNat).toList == a1.toList)) else (none)) else (none)) else (some false)
set_option maxHeartbeats 8000000 in
set_option maxRecDepth 100000 in
theorem stringslite_HasPrefix.calls (a0 : ByteArray) (a1 : ByteArray) (r : Bool) (w : World) (h : stringslite_HasPrefix.f a0 a1 = some r) :
    Calls Tryd.prog 59 #[.string a0, .string a1] w fun e w' => e = .returned (.bool r) ∧ Drawn0 w w' := by
  have H : (if (a0.size : Int) ≥ (a1.size : Int) then (if 0 ≤ (a1.size : Int) then (if (a1.size : Int) ≤ (a0.size : Int) then (some ((a0.extract 0 ((a1.size : Int) : Int).toNat).toList == a1.toList)) else (none)) else (none)) else (some false)) = some r := h
  clear h
  by_cases c3 : (a0.size : Int) ≥ (a1.size : Int)
  · rw [if_pos c3] at H
    have c3b0 : decide ((a1.size : Int) ≤ (a0.size : Int)) = true := decide_eq_true c3
    have c3b1 : decide (a1.size ≤ a0.size) = true := decide_eq_true (Int.ofNat_le.mp c3)
    clear c3
    by_cases c4 : 0 ≤ (a1.size : Int)
    · rw [if_pos c4] at H
      have c4b0 := eq_true c4
      have c4b1 : decide (0 ≤ (a1.size : Int)) = true := decide_eq_true c4
      clear c4
      by_cases c5 : (a1.size : Int) ≤ (a0.size : Int)
      · rw [if_pos c5] at H
        have c5b0 := eq_true c5
        have c5b1 : decide ((a1.size : Int) ≤ (a0.size : Int)) = true := decide_eq_true c5
        clear c5
        obtain rfl := Option.some.inj H
        go_enter Tryd.func59, Tryd.ntmps59
        go_wp2
        go_ret
        exact ⟨by first | rfl | (simp; done) | (simp [*]; done), by repeat (first | exact Drawn0.refl _ | apply Drawn0.step)⟩
      · rw [if_neg c5] at H
        exact absurd H (by simp)
    · rw [if_neg c4] at H
      exact absurd H (by simp)
  · rw [if_neg c3] at H
    have c3b0 : decide ((a1.size : Int) ≤ (a0.size : Int)) = false := decide_eq_false c3
    have c3b1 : decide (a1.size ≤ a0.size) = false := decide_eq_false (fun h => c3 (Int.ofNat_le.mpr h))
    clear c3
    obtain rfl := Option.some.inj H
    go_enter Tryd.func59, Tryd.ntmps59
    go_wp2
    go_ret
    exact ⟨by first | rfl | (simp; done) | (simp [*]; done), by repeat (first | exact Drawn0.refl _ | apply Drawn0.step)⟩

/-! ### strings_HasPrefix: function 46 -/
def strings_HasPrefix.f (a0 : ByteArray) (a1 : ByteArray) : Option (Bool) := (stringslite_HasPrefix.f a0 a1).bind fun t113 => (some t113)
set_option maxHeartbeats 8000000 in
set_option maxRecDepth 100000 in
theorem strings_HasPrefix.calls (a0 : ByteArray) (a1 : ByteArray) (r : Bool) (w : World) (h : strings_HasPrefix.f a0 a1 = some r) :
    Calls Tryd.prog 46 #[.string a0, .string a1] w fun e w' => e = .returned (.bool r) ∧ Drawn0 w w' := by
  have H : ((stringslite_HasPrefix.f a0 a1).bind fun t113 => (some t113)) = some r := h
  clear h
  replace H := Option.bind_eq_some_iff.mp H
  obtain ⟨t113, A30, H⟩ := H
  replace H : (some t113) = some r := H
  have A3 := Aside0.mk A30
  clear A30
  obtain rfl := Option.some.inj H
  go_enter Tryd.func46, Tryd.ntmps46
  go_wp2_with (first | ((with_reducible refine gate_callee (f := 59) rfl ?_); refine goesL_ (some 7) rfl rfl Tryd.func59 (by kernel_rfl) rfl #[.string a0, .string a1] rfl (by (try simp only [List.map_toArray, List.map_cons, List.map_nil]); first | done | rfl | (simp only [List.length_drop, List.length_take]; rfl)) ?_; (with_reducible refine (stringslite_HasPrefix.calls a0 a1 t113 _ A3.out).mono ?_); rintro e w' ⟨rfl, ⟨nd, rfl⟩⟩; refine ⟨_, rfl, ?_⟩))
  go_ret
  exact ⟨by first | rfl | (simp; done) | (simp [*]; done), by repeat (first | exact Drawn0.refl _ | apply Drawn0.step)⟩

/-! ### chroma_ParseColour: function 47 -/
def chroma_ParseColour.f (a0 : ByteArray) : Option Int := if a0.size ≤ 140737488351232 then some (Go.Proofs.YtifhhejohdmiaaaDoorFmt.pcol a0) else none
theorem chroma_ParseColour.calls (a0 : ByteArray) (r : Int) (w : World) (hV : Go.Proofs.YtifhhejohdmiaaaDoorFmt.VarsOK w) (h : chroma_ParseColour.f a0 = some r) :
    Calls Tryd.prog 47 #[.string a0] w fun e w' => e = .returned (.int .i32 r) ∧ Below w.heap.size w w' := by
  unfold chroma_ParseColour.f at h
  by_cases h0 : a0.size ≤ 140737488351232
  · rw [if_pos h0] at h
    obtain rfl := Option.some.inj h
    exact Go.Proofs.YtifhhejohdmiaaaDoorFmt.parseColour a0 h0 w hV
  · rw [if_neg h0] at h; cases h

/-! ### chroma_Colour_IsSet: function 48 -/
def chroma_Colour_IsSet.f (a0 : Int) : Option (Bool) := some (a0 != 0)
set_option maxHeartbeats 8000000 in
set_option maxRecDepth 100000 in
theorem chroma_Colour_IsSet.calls (a0 : Int) (r : Bool) (w : World) (h : chroma_Colour_IsSet.f a0 = some r) :
    Calls Tryd.prog 48 #[.int .i32 a0] w fun e w' => e = .returned (.bool r) ∧ Drawn0 w w' := by
  have H : (some (a0 != 0)) = some r := h
  clear h
  obtain rfl := Option.some.inj H
  go_enter Tryd.func48, Tryd.ntmps48
  go_wp2
  go_ret
  exact ⟨by first | rfl | (simp; done) | (simp [*]; done), by repeat (first | exact Drawn0.refl _ | apply Drawn0.step)⟩

-- NOT PRINTED: function 49 (errors_New)

-- NOT PRINTED: function 33 (chroma_ParseStyleEntry)

-- NOT PRINTED: function 68 (chroma_StyleBuilder_Build)

-- NOT PRINTED: function 53 (chroma_NewStyle)

-- NOT PRINTED: function 40 (impl_styled)

/-! ### impl_plain: function 34 -/
def impl_plain.f (a0_0 : Int) (a0_1 : Int) (a0_2 : Int) (a0_3 : Int) (a0_4 : Int) (a0_5 : Int) (a0_6 : Bool) : Option (Int × Int × Int × Int × Int × Int × Bool) := some (a0_0, a0_1, a0_2, a0_3, a0_4, a0_5, a0_6)
set_option maxHeartbeats 8000000 in
set_option maxRecDepth 100000 in
theorem impl_plain.calls (a0_0 : Int) (a0_1 : Int) (a0_2 : Int) (a0_3 : Int) (a0_4 : Int) (a0_5 : Int) (a0_6 : Bool) (r1 : Int) (r2 : Int) (r3 : Int) (r4 : Int) (r5 : Int) (r6 : Int) (r7 : Bool) (w : World) (h : impl_plain.f a0_0 a0_1 a0_2 a0_3 a0_4 a0_5 a0_6 = some (r1, r2, r3, r4, r5, r6, r7)) :
    Calls Tryd.prog 34 #[.agg #[.int .i32 a0_0, .int .i32 a0_1, .int .i32 a0_2, .int .u8 a0_3, .int .u8 a0_4, .int .u8 a0_5, .bool a0_6]] w fun e w' => e = .returned (.agg #[.int .i32 r1, .int .i32 r2, .int .i32 r3, .int .u8 r4, .int .u8 r5, .int .u8 r6, .bool r7]) ∧ Below w.heap.size w w' := by
  have hu57 := Tryd.underlying57
  have hu23 := Tryd.underlying23
  have HB := Aside0.mk (Below.refl w.heap.size w)
  have H : (some (a0_0, a0_1, a0_2, a0_3, a0_4, a0_5, a0_6)) = some (r1, r2, r3, r4, r5, r6, r7) := h
  clear h
  simp only [Option.some.injEq, Prod.mk.injEq] at H
  obtain ⟨rfl, rfl, rfl, rfl, rfl, rfl, rfl⟩ := H
  go_enter Tryd.func34, Tryd.ntmps34
  go_wp2_with (first | ((with_reducible refine gate_dst (N := 1) rfl ?_); refine box_event ?hg (N := 1) ?hd (cs := #[.int .i32 a0_0, .int .i32 a0_1, .int .i32 a0_2, .int .u8 a0_3, .int .u8 a0_4, .int .u8 a0_5, .bool a0_6]) (t := 57) ?hr ?_; (case hd => rfl); (case hg => rfl); (case hr => first | (go_simp; done) | (go_simp; rfl)); intro gb116 hg w2 hbox hb; have n0_ := Aside0.mk (below_step (by repeat (first | (with_reducible first | exact HB.out | apply below_alloc | apply pw_below_drewN | apply below_drew1) | exact HB.out)) hb); have n1_ := Aside0.mk (hbox); have n2_ := Aside0.mk ((by rw [hg]; exact (below_size (by repeat (first | (with_reducible first | exact HB.out | apply below_alloc | apply pw_below_drewN | apply below_drew1) | exact HB.out))) : w.heap.size ≤ gb116)); have n3_ := Aside0.mk ((by rw [hg]; exact (below_size (by repeat (first | (with_reducible first | exact HB.out | apply below_alloc | apply pw_below_drewN | apply below_drew1) | exact HB.out))) : w.heap.size ≤ gb116)); clear HB; have HB := n0_; have BK116 := n1_; have GW116 := n2_; have GE116 := n3_; clear n0_ n1_ n2_ n3_; clear hb hbox hg) | ((with_reducible refine gate_dst (N := 2) rfl ?_); refine box_event ?hg (N := 2) ?hd (cs := #[.int .i32 0, .int .i32 0, .int .i32 0, .int .u8 0, .int .u8 0, .int .u8 0, .bool false]) (t := 23) ?hr ?_; (case hd => rfl); (case hg => rfl); (case hr => first | (go_simp; done) | (go_simp; rfl)); intro gb117 hg w3 hbox hb; have n0_ := Aside0.mk (blk_below (g := gb116) (o := .cells #[.int .i32 a0_0, .int .i32 a0_1, .int .i32 a0_2, .int .u8 a0_3, .int .u8 a0_4, .int .u8 a0_5, .bool a0_6] 57 (0, 0)) (by (with_reducible repeat (first | refine blk_drewN ?_ _ | refine blk_drew ?_ | refine blk_alloc ?_ _)); exact BK116.out) hb); have n1_ := Aside0.mk (below_step (by repeat (first | (with_reducible first | exact HB.out | apply below_alloc | apply pw_below_drewN | apply below_drew1 | refine below_set ?_ GE116.out) | exact HB.out)) hb); have n2_ := Aside0.mk (hbox); have n3_ := Aside0.mk ((by rw [hg]; exact (below_size (by repeat (first | (with_reducible first | exact HB.out | apply below_alloc | apply pw_below_drewN | apply below_drew1 | refine below_set ?_ GE116.out) | exact HB.out))) : w.heap.size ≤ gb117)); have n4_ := Aside0.mk ((by rw [hg]; exact (below_size (by repeat (first | (with_reducible first | exact HB.out | apply below_alloc | apply pw_below_drewN | apply below_drew1 | refine below_set ?_ GE116.out) | exact HB.out))) : w.heap.size ≤ gb117)); have n5_ := Aside0.mk ((by rw [hg]; exact Nat.ne_of_lt (blk_lt (g := gb116) (o := .cells #[.int .i32 a0_0, .int .i32 a0_1, .int .i32 a0_2, .int .u8 a0_3, .int .u8 a0_4, .int .u8 a0_5, .bool a0_6] 57 (0, 0)) (by (with_reducible repeat (first | refine blk_drewN ?_ _ | refine blk_drew ?_ | refine blk_alloc ?_ _)); exact BK116.out)) : gb116 ≠ gb117)); have n6_ := Aside0.mk ((by rw [hg]; exact Nat.ne_of_gt (blk_lt (g := gb116) (o := .cells #[.int .i32 a0_0, .int .i32 a0_1, .int .i32 a0_2, .int .u8 a0_3, .int .u8 a0_4, .int .u8 a0_5, .bool a0_6] 57 (0, 0)) (by (with_reducible repeat (first | refine blk_drewN ?_ _ | refine blk_drew ?_ | refine blk_alloc ?_ _)); exact BK116.out)) : gb117 ≠ gb116)); clear BK116; clear HB; have BK116 := n0_; have HB := n1_; have BK117 := n2_; have GW117 := n3_; have GE117 := n4_; have NB116_117 := n5_; have NB117_116 := n6_; clear n0_ n1_ n2_ n3_ n4_ n5_ n6_; clear hb hbox hg; have hnb4 := NB116_117.out; have hnc4 := NB117_116.out; have hcz5_0 : w3.cell? ⟨gb116, 0, none⟩ = some (.int .i32 a0_0) := (blk_cell BK116.out 0).trans rfl; have hcz5_1 : w3.cell? ⟨gb116, 1, none⟩ = some (.int .i32 a0_1) := (blk_cell BK116.out 1).trans rfl; have hcz5_2 : w3.cell? ⟨gb116, 2, none⟩ = some (.int .i32 a0_2) := (blk_cell BK116.out 2).trans rfl; have hcz5_3 : w3.cell? ⟨gb116, 3, none⟩ = some (.int .u8 a0_3) := (blk_cell BK116.out 3).trans rfl; have hcz5_4 : w3.cell? ⟨gb116, 4, none⟩ = some (.int .u8 a0_4) := (blk_cell BK116.out 4).trans rfl; have hcz5_5 : w3.cell? ⟨gb116, 5, none⟩ = some (.int .u8 a0_5) := (blk_cell BK116.out 5).trans rfl; have hcz5_6 : w3.cell? ⟨gb116, 6, none⟩ = some (.bool a0_6) := (blk_cell BK116.out 6).trans rfl; have hfz5_0 := blk_frozen BK116.out 0; have hfz5_1 := blk_frozen BK116.out 1; have hfz5_2 := blk_frozen BK116.out 2; have hfz5_3 := blk_frozen BK116.out 3; have hfz5_4 := blk_frozen BK116.out 4; have hfz5_5 := blk_frozen BK116.out 5; have hfz5_6 := blk_frozen BK116.out 6; have hcz6_0 : w3.cell? ⟨gb117, 0, none⟩ = some (.int .i32 0) := (blk_cell BK117.out 0).trans rfl; have hcz6_1 : w3.cell? ⟨gb117, 1, none⟩ = some (.int .i32 0) := (blk_cell BK117.out 1).trans rfl; have hcz6_2 : w3.cell? ⟨gb117, 2, none⟩ = some (.int .i32 0) := (blk_cell BK117.out 2).trans rfl; have hcz6_3 : w3.cell? ⟨gb117, 3, none⟩ = some (.int .u8 0) := (blk_cell BK117.out 3).trans rfl; have hcz6_4 : w3.cell? ⟨gb117, 4, none⟩ = some (.int .u8 0) := (blk_cell BK117.out 4).trans rfl; have hcz6_5 : w3.cell? ⟨gb117, 5, none⟩ = some (.int .u8 0) := (blk_cell BK117.out 5).trans rfl; have hcz6_6 : w3.cell? ⟨gb117, 6, none⟩ = some (.bool false) := (blk_cell BK117.out 6).trans rfl; have hfz6_0 := blk_frozen BK117.out 0; have hfz6_1 := blk_frozen BK117.out 1; have hfz6_2 := blk_frozen BK117.out 2; have hfz6_3 := blk_frozen BK117.out 3; have hfz6_4 := blk_frozen BK117.out 4; have hfz6_5 := blk_frozen BK117.out 5; have hfz6_6 := blk_frozen BK117.out 6))
  refine bodyPost_ret (results_cell_row rfl _ _ gb117 23 #[.int .i32 a0_0, .int .i32 a0_1, .int .i32 a0_2, .int .u8 a0_3, .int .u8 a0_4, .int .u8 a0_5, .bool a0_6] (0, 0) _ rfl (by (with_reducible repeat (first | refine blk_drewN ?_ _ | refine blk_drew ?_ | refine blk_alloc ?_ _)); refine blk_put (cs := #[.int .i32 a0_0, .int .i32 a0_1, .int .i32 a0_2, .int .u8 a0_3, .int .u8 a0_4, .int .u8 a0_5, .bool false]) ?_ 6 _ rfl; (with_reducible repeat (first | refine blk_drewN ?_ _ | refine blk_drew ?_ | refine blk_alloc ?_ _)); refine blk_put (cs := #[.int .i32 a0_0, .int .i32 a0_1, .int .i32 a0_2, .int .u8 a0_3, .int .u8 a0_4, .int .u8 0, .bool false]) ?_ 5 _ rfl; (with_reducible repeat (first | refine blk_drewN ?_ _ | refine blk_drew ?_ | refine blk_alloc ?_ _)); refine blk_put (cs := #[.int .i32 a0_0, .int .i32 a0_1, .int .i32 a0_2, .int .u8 a0_3, .int .u8 0, .int .u8 0, .bool false]) ?_ 4 _ rfl; (with_reducible repeat (first | refine blk_drewN ?_ _ | refine blk_drew ?_ | refine blk_alloc ?_ _)); refine blk_put (cs := #[.int .i32 a0_0, .int .i32 a0_1, .int .i32 a0_2, .int .u8 0, .int .u8 0, .int .u8 0, .bool false]) ?_ 3 _ rfl; (with_reducible repeat (first | refine blk_drewN ?_ _ | refine blk_drew ?_ | refine blk_alloc ?_ _)); refine blk_put (cs := #[.int .i32 a0_0, .int .i32 a0_1, .int .i32 0, .int .u8 0, .int .u8 0, .int .u8 0, .bool false]) ?_ 2 _ rfl; (with_reducible repeat (first | refine blk_drewN ?_ _ | refine blk_drew ?_ | refine blk_alloc ?_ _)); refine blk_put (cs := #[.int .i32 a0_0, .int .i32 0, .int .i32 0, .int .u8 0, .int .u8 0, .int .u8 0, .bool false]) ?_ 1 _ rfl; (with_reducible repeat (first | refine blk_drewN ?_ _ | refine blk_drew ?_ | refine blk_alloc ?_ _)); refine blk_put (cs := #[.int .i32 0, .int .i32 0, .int .i32 0, .int .u8 0, .int .u8 0, .int .u8 0, .bool false]) ?_ 0 _ rfl; (with_reducible repeat (first | refine blk_drewN ?_ _ | refine blk_drew ?_ | refine blk_alloc ?_ _)); exact BK117.out) Tryd.underlying23 rfl (by kernel_rfl)) rfl ?_
  exact ⟨by first | rfl | (simp [errW_none, errW_some] <;> rfl) | (simp [*, errW_none, errW_some] <;> rfl), by repeat (first | (with_reducible first | exact HB.out | apply below_alloc | apply pw_below_drewN | apply below_drew1 | refine below_set ?_ GE116.out | refine below_set ?_ GE117.out) | exact HB.out)⟩

-- NOT PRINTED: function 50 (chroma_StyleEntry)

-- NOT PRINTED: function 36 (chroma_StyleEntry_Inherit)

-- NOT PRINTED: function 81 (chroma_Style_synthesisable)

/-! ### chroma_Colour_Red: function 109 -/
def chroma_Colour_Red.f (a0 : Int) : Option (Int) := some ((Go.bits .and .i32 ((wrap32 (a0 - 1)) / 65536) 255) % 256)
set_option maxHeartbeats 8000000 in
set_option maxRecDepth 100000 in
theorem chroma_Colour_Red.calls (a0 : Int) (r : Int) (w : World) (h : chroma_Colour_Red.f a0 = some r) :
    Calls Tryd.prog 109 #[.int .i32 a0] w fun e w' => e = .returned (.int .u8 r) ∧ Drawn0 w w' := by
  have H : (some ((Go.bits .and .i32 ((wrap32 (a0 - 1)) / 65536) 255) % 256)) = some r := h
  clear h
  obtain rfl := Option.some.inj H
  go_enter Tryd.func109, Tryd.ntmps109
  go_wp2
  go_ret
  exact ⟨by first | rfl | (simp; done) | (simp [*]; done), by repeat (first | exact Drawn0.refl _ | apply Drawn0.step)⟩

/-! ### chroma_Colour_Green: function 110 -/
def chroma_Colour_Green.f (a0 : Int) : Option (Int) := some ((Go.bits .and .i32 ((wrap32 (a0 - 1)) / 256) 255) % 256)
set_option maxHeartbeats 8000000 in
set_option maxRecDepth 100000 in
theorem chroma_Colour_Green.calls (a0 : Int) (r : Int) (w : World) (h : chroma_Colour_Green.f a0 = some r) :
    Calls Tryd.prog 110 #[.int .i32 a0] w fun e w' => e = .returned (.int .u8 r) ∧ Drawn0 w w' := by
  have H : (some ((Go.bits .and .i32 ((wrap32 (a0 - 1)) / 256) 255) % 256)) = some r := h
  clear h
  obtain rfl := Option.some.inj H
  go_enter Tryd.func110, Tryd.ntmps110
  go_wp2
  go_ret
  exact ⟨by first | rfl | (simp; done) | (simp [*]; done), by repeat (first | exact Drawn0.refl _ | apply Drawn0.step)⟩

/-! ### chroma_Colour_Blue: function 111 -/
def chroma_Colour_Blue.f (a0 : Int) : Option (Int) := some ((Go.bits .and .i32 (wrap32 (a0 - 1)) 255) % 256)
set_option maxHeartbeats 8000000 in
set_option maxRecDepth 100000 in
theorem chroma_Colour_Blue.calls (a0 : Int) (r : Int) (w : World) (h : chroma_Colour_Blue.f a0 = some r) :
    Calls Tryd.prog 111 #[.int .i32 a0] w fun e w' => e = .returned (.int .u8 r) ∧ Drawn0 w w' := by
  have H : (some ((Go.bits .and .i32 (wrap32 (a0 - 1)) 255) % 256)) = some r := h
  clear h
  obtain rfl := Option.some.inj H
  go_enter Tryd.func111, Tryd.ntmps111
  go_wp2
  go_ret
  exact ⟨by first | rfl | (simp; done) | (simp [*]; done), by repeat (first | exact Drawn0.refl _ | apply Drawn0.step)⟩

-- NOT PRINTED: function 101 (chroma_Colour_Brightness)

/-! ### chroma_NewColour: function 112 -/
def chroma_NewColour.f (a0 : Int) (a1 : Int) (a2 : Int) : Option (Int) := some (wrap32 ((Go.bits .or .i32 (Go.bits .or .i32 (wrap32 ((wrap32 (a0)) * 65536)) (wrap32 ((wrap32 (a1)) * 256))) (wrap32 (a2))) + 1))
set_option maxHeartbeats 8000000 in
set_option maxRecDepth 100000 in
theorem chroma_NewColour.calls (a0 : Int) (a1 : Int) (a2 : Int) (r : Int) (w : World) (h : chroma_NewColour.f a0 a1 a2 = some r) :
    Calls Tryd.prog 112 #[.int .u8 a0, .int .u8 a1, .int .u8 a2] w fun e w' => e = .returned (.int .i32 r) ∧ Drawn0 w w' := by
  have H : (some (wrap32 ((Go.bits .or .i32 (Go.bits .or .i32 (wrap32 ((wrap32 (a0)) * 65536)) (wrap32 ((wrap32 (a1)) * 256))) (wrap32 (a2))) + 1))) = some r := h
  clear h
  obtain rfl := Option.some.inj H
  go_enter Tryd.func112, Tryd.ntmps112
  go_wp2
  go_ret
  exact ⟨by first | rfl | (simp; done) | (simp [*]; done), by repeat (first | exact Drawn0.refl _ | apply Drawn0.step)⟩

-- NOT PRINTED: function 102 (chroma_Colour_Brighten)

-- NOT PRINTED: function 94 (chroma_Colour_BrightenOrDarken)

-- NOT PRINTED: function 82 (chroma_Style_synthesise)

-- NOT PRINTED: function 69 (chroma_Style_get)

/-! ### chroma_TokenType_Category: function 70 -/
def chroma_TokenType_Category.f (a0 : Int) : Option (Int) := some (wrap64 ((wrap64 (Int.tdiv a0 1000)) * 1000))
set_option maxHeartbeats 8000000 in
set_option maxRecDepth 100000 in
theorem chroma_TokenType_Category.calls (a0 : Int) (r : Int) (w : World) (h : chroma_TokenType_Category.f a0 = some r) :
    Calls Tryd.prog 70 #[.int .i64 a0] w fun e w' => e = .returned (.int .i64 r) ∧ Drawn0 w w' := by
  have H : (some (wrap64 ((wrap64 (Int.tdiv a0 1000)) * 1000))) = some r := h
  clear h
  obtain rfl := Option.some.inj H
  go_enter Tryd.func70, Tryd.ntmps70
  go_wp2
  go_ret
  exact ⟨by first | rfl | (simp; done) | (simp [*]; done), by repeat (first | exact Drawn0.refl _ | apply Drawn0.step)⟩

/-! ### chroma_TokenType_SubCategory: function 71 -/
def chroma_TokenType_SubCategory.f (a0 : Int) : Option (Int) := some (wrap64 ((wrap64 (Int.tdiv a0 100)) * 100))
set_option maxHeartbeats 8000000 in
set_option maxRecDepth 100000 in
theorem chroma_TokenType_SubCategory.calls (a0 : Int) (r : Int) (w : World) (h : chroma_TokenType_SubCategory.f a0 = some r) :
    Calls Tryd.prog 71 #[.int .i64 a0] w fun e w' => e = .returned (.int .i64 r) ∧ Drawn0 w w' := by
  have H : (some (wrap64 ((wrap64 (Int.tdiv a0 100)) * 100))) = some r := h
  clear h
  obtain rfl := Option.some.inj H
  go_enter Tryd.func71, Tryd.ntmps71
  go_wp2
  go_ret
  exact ⟨by first | rfl | (simp; done) | (simp [*]; done), by repeat (first | exact Drawn0.refl _ | apply Drawn0.step)⟩

-- NOT PRINTED: function 54 (chroma_Style_Get)

-- NOT PRINTED: function 41 (impl_entries)

-- NOT PRINTED: function 26 (impl_StyleGet)

/-! ### chroma_zzHex6: function 55 -/
def chroma_zzHex6.f (a0 : Int) : Option ByteArray := if -9223372036854775808 < a0 then (if a0 < 9223372036854775808 then some (Go.Proofs.YtifhhejohdmiaaaDoorFmt.hex6 a0) else none) else none
theorem chroma_zzHex6.calls (a0 : Int) (r : ByteArray) (w : World) (hV : Go.Proofs.YtifhhejohdmiaaaDoorFmt.VarsOK w) (h : chroma_zzHex6.f a0 = some r) :
    Calls Tryd.prog 55 #[.int .i64 a0] w fun e w' => e = .returned (.string r) ∧ Below w.heap.size w w' := by
  unfold chroma_zzHex6.f at h
  by_cases h0 : -9223372036854775808 < a0
  · rw [if_pos h0] at h
    by_cases h1 : a0 < 9223372036854775808
    · rw [if_pos h1] at h
      obtain rfl := Option.some.inj h
      exact Go.Proofs.YtifhhejohdmiaaaDoorFmt.zzHex6 a0 h0 h1 w hV
    · rw [if_neg h1] at h; cases h
  · rw [if_neg h0] at h; cases h
/-! ### chroma_Colour_String: function 42 -/
def chroma_Colour_String.f (a0 : Int) : Option (ByteArray) := (chroma_zzHex6.f (wrap64 (wrap32 (a0 - 1)))).bind fun t121 => (if 1 + t121.size ≤ 9223372036854775807 then (some ((⟨#[35]⟩ : ByteArray) ++ t121)) else (none))
set_option maxHeartbeats 8000000 in
set_option maxRecDepth 100000 in
theorem chroma_Colour_String.calls (a0 : Int) (r : ByteArray) (w : World) (hV : Go.Proofs.YtifhhejohdmiaaaDoorFmt.VarsOK w) (h : chroma_Colour_String.f a0 = some r) :
    Calls Tryd.prog 42 #[.int .i32 a0] w fun e w' => e = .returned (.string r) ∧ Below w.heap.size w w' := by
  have HB := Aside0.mk (Below.refl w.heap.size w)
  have HV := Aside0.mk hV
  clear hV
  have H : ((chroma_zzHex6.f (wrap64 (wrap32 (a0 - 1)))).bind fun t121 => (if 1 + t121.size ≤ 9223372036854775807 then (some ((⟨#[35]⟩ : ByteArray) ++ t121)) else (none))) = some r := h
  clear h
  replace H := Option.bind_eq_some_iff.mp H
  obtain ⟨t121, A20, H⟩ := H
  replace H : (if 1 + t121.size ≤ 9223372036854775807 then (some ((⟨#[35]⟩ : ByteArray) ++ t121)) else (none)) = some r := H
  have A2 := Aside0.mk A20
  clear A20
  by_cases c3 : 1 + t121.size ≤ 9223372036854775807
  · rw [if_pos c3] at H
    have c3b0 := eq_true c3
    have c3b1 : decide (1 + t121.size ≤ 9223372036854775807) = true := decide_eq_true c3
    try have c3b2 : (9223372036854775807 < 1 + t121.size) = False := eq_false (Nat.not_lt.2 c3)
    obtain rfl := Option.some.inj H
    go_enter Tryd.func42, Tryd.ntmps42
    go_wp2_with (first | ((with_reducible refine gate_callee (f := 55) rfl ?_); refine goesL_ (some 6) rfl rfl Tryd.func55 (by kernel_rfl) rfl #[.int .i64 (wrap64 (wrap32 (a0 - 1)))] rfl (by (try simp only [List.map_toArray, List.map_cons, List.map_nil]); first | done | rfl | (simp only [List.length_drop, List.length_take]; rfl)) ?_; (with_reducible refine (chroma_zzHex6.calls (wrap64 (wrap32 (a0 - 1))) t121 _ ?side1 A2.out).mono ?_); (case side1 => exact Go.Proofs.YtifhhejohdmiaaaDoorFmt.VarsOK.below HV.out (by repeat (first | (with_reducible first | exact HB.out | apply below_alloc | apply pw_below_drewN | apply below_drew1) | exact HB.out))); rintro e w4 ⟨rfl, hb⟩; refine ⟨_, rfl, ?_⟩; have n0_ := Aside0.mk (below_step (by repeat (first | (with_reducible first | exact HB.out | apply below_alloc | apply pw_below_drewN | apply below_drew1) | exact HB.out)) hb); clear HB; have HB := n0_; clear n0_; (try clear hb); (try clear hb2); (try clear hk); (try clear hi)))
    go_ret
    exact ⟨by first | rfl | (simp [errW_none, errW_some] <;> rfl) | (simp [*, errW_none, errW_some] <;> rfl), by repeat (first | (with_reducible first | exact HB.out | apply below_alloc | apply pw_below_drewN | apply below_drew1) | exact HB.out)⟩
  · rw [if_neg c3] at H
    exact absurd H (by simp)

/-! ### impl_ColourString: function 29 -/
def impl_ColourString.f (a0 : Int) : Option (ByteArray) := (chroma_Colour_String.f a0).bind fun t122 => (some t122)
set_option maxHeartbeats 8000000 in
set_option maxRecDepth 100000 in
theorem impl_ColourString.calls (a0 : Int) (r : ByteArray) (w : World) (hV : Go.Proofs.YtifhhejohdmiaaaDoorFmt.VarsOK w) (h : impl_ColourString.f a0 = some r) :
    Calls Tryd.prog 29 #[.int .i32 a0] w fun e w' => e = .returned (.string r) ∧ Below w.heap.size w w' := by
  have HB := Aside0.mk (Below.refl w.heap.size w)
  have HV := Aside0.mk hV
  clear hV
  have H : ((chroma_Colour_String.f a0).bind fun t122 => (some t122)) = some r := h
  clear h
  replace H := Option.bind_eq_some_iff.mp H
  obtain ⟨t122, A20, H⟩ := H
  replace H : (some t122) = some r := H
  have A2 := Aside0.mk A20
  clear A20
  obtain rfl := Option.some.inj H
  go_enter Tryd.func29, Tryd.ntmps29
  go_wp2_with (first | ((with_reducible refine gate_callee (f := 42) rfl ?_); refine goesL_ (some 4) rfl rfl Tryd.func42 (by kernel_rfl) rfl #[.int .i32 a0] rfl (by (try simp only [List.map_toArray, List.map_cons, List.map_nil]); first | done | rfl | (simp only [List.length_drop, List.length_take]; rfl)) ?_; (with_reducible refine (chroma_Colour_String.calls a0 t122 _ ?side1 A2.out).mono ?_); (case side1 => exact Go.Proofs.YtifhhejohdmiaaaDoorFmt.VarsOK.below HV.out (by repeat (first | (with_reducible first | exact HB.out | apply below_alloc | apply pw_below_drewN | apply below_drew1) | exact HB.out))); rintro e w3 ⟨rfl, hb⟩; refine ⟨_, rfl, ?_⟩; have n0_ := Aside0.mk (below_step (by repeat (first | (with_reducible first | exact HB.out | apply below_alloc | apply pw_below_drewN | apply below_drew1) | exact HB.out)) hb); clear HB; have HB := n0_; clear n0_; (try clear hb); (try clear hb2); (try clear hk); (try clear hi)))
  go_ret
  exact ⟨by first | rfl | (simp [errW_none, errW_some] <;> rfl) | (simp [*, errW_none, errW_some] <;> rfl), by repeat (first | (with_reducible first | exact HB.out | apply below_alloc | apply pw_below_drewN | apply below_drew1) | exact HB.out)⟩

-- NOT PRINTED: function 13 (laws_styled)

-- NOT PRINTED: function 3 (laws_FnEntryZero)

/-! ### spec_words: function 30 -/
mutual
def spec_words.l0 : Nat → ByteArray → List ByteArray → ByteArray → Int → Option (List ByteArray × Int)
  | 0, _, _, _, _ => none
  | k + 1, x0, x4, x5, x6 => if x6 < (x0.size : Int) then (if 0 ≤ x6 then (if (bt x0 x6) ≥ 128 then (some (([] : List ByteArray), 2)) else (if (bt x0 x6) = 32 then (spec_words.j1 k x0 x4 x5 x6 (bt x0 x6) true) else (if (bt x0 x6) ≥ 9 then (spec_words.j1 k x0 x4 x5 x6 (bt x0 x6) (decide ((bt x0 x6) ≤ 13))) else (spec_words.j1 k x0 x4 x5 x6 (bt x0 x6) false)))) else (none)) else (if x5.toList = ([] : List UInt8) then (some (x4, 1)) else (if x4.length < 8796093022208 then (some ((x4 ++ [x5]), 1)) else (none)))
def spec_words.j1 : Nat → ByteArray → List ByteArray → ByteArray → Int → Int → Bool → Option (List ByteArray × Int)
  | 0, _, _, _, _, _, _ => none
  | k + 1, x0, x4, x5, x6, x7, x28 => if x28 = true then (if x5.toList = ([] : List UInt8) then (spec_words.l0 k x0 x4 (⟨#[]⟩ : ByteArray) (wrap64 (x6 + 1))) else (if x4.length < 8796093022208 then (spec_words.l0 k x0 (x4 ++ [x5]) (⟨#[]⟩ : ByteArray) (wrap64 (x6 + 1))) else (none))) else ((some (([x7] : List Int) : List Int)).bind fun y137 => (if x5.size + (strOfNums y137).size ≤ 9223372036854775807 then (spec_words.l0 k x0 x4 (x5 ++ (strOfNums y137)) (wrap64 (x6 + 1))) else (none)))
end
def spec_words.f (k : Nat) (a0 : ByteArray) : Option (List ByteArray × Int) := spec_words.l0 k a0 ([] : List ByteArray) (⟨#[]⟩ : ByteArray) 0
theorem spec_words.mono_l : ∀ k, (∀ y0 y1 y2 y3, LeO (spec_words.l0 k y0 y1 y2 y3) (spec_words.l0 (k + 1) y0 y1 y2 y3)) ∧ (∀ y0 y1 y2 y3 y4 y5, LeO (spec_words.j1 k y0 y1 y2 y3 y4 y5) (spec_words.j1 (k + 1) y0 y1 y2 y3 y4 y5))
  | 0 => ⟨fun _ _ _ _ r h => by simp [spec_words.l0] at h, fun _ _ _ _ _ _ r h => by simp [spec_words.j1] at h⟩
  | k + 1 => by
    obtain ⟨ih0, ih1⟩ := spec_words.mono_l k
    refine ⟨?_, ?_⟩
    · intro y0 y1 y2 y3
      unfold spec_words.l0
      repeat' first
      | (with_reducible exact ih0 _ _ _ _)
      | (with_reducible exact ih1 _ _ _ _ _ _)
      | (with_reducible exact LeO.refl _)
      | (with_reducible exact LeO.none _)
      | (with_reducible refine LeO.ite ?_ ?_)
      | (with_reducible refine LeO.bind ?_ (fun _ => ?_))
      | exact ih0 _ _ _ _
      | exact ih1 _ _ _ _ _ _
      | exact LeO.none _
      | refine LeO.ite ?_ ?_
      | refine LeO.bind ?_ (fun _ => ?_)
    · intro y0 y1 y2 y3 y4 y5
      unfold spec_words.j1
      repeat' first
      | (with_reducible exact ih0 _ _ _ _)
      | (with_reducible exact ih1 _ _ _ _ _ _)
      | (with_reducible exact LeO.refl _)
      | (with_reducible exact LeO.none _)
      | (with_reducible refine LeO.ite ?_ ?_)
      | (with_reducible refine LeO.bind ?_ (fun _ => ?_))
      | exact ih0 _ _ _ _
      | exact ih1 _ _ _ _ _ _
      | exact LeO.none _
      | refine LeO.ite ?_ ?_
      | refine LeO.bind ?_ (fun _ => ?_)
theorem spec_words.mono : ∀ a0 k, LeO (spec_words.f k a0) (spec_words.f (k + 1) a0) := by
  intro a0 k
  obtain ⟨ih0, ih1⟩ := spec_words.mono_l k
  unfold spec_words.f
  repeat' first
      | (with_reducible exact ih0 _ _ _ _)
      | (with_reducible exact ih1 _ _ _ _ _ _)
      | (with_reducible exact LeO.refl _)
      | (with_reducible exact LeO.none _)
      | (with_reducible refine LeO.ite ?_ ?_)
      | (with_reducible refine LeO.bind ?_ (fun _ => ?_))
      | exact ih0 _ _ _ _
      | exact ih1 _ _ _ _ _ _
      | exact LeO.none _
      | refine LeO.ite ?_ ?_
      | refine LeO.bind ?_ (fun _ => ?_)
set_option maxHeartbeats 8000000 in
set_option maxRecDepth 100000 in
theorem spec_words.calls (k : Nat) (a0 : ByteArray) (r1 : List ByteArray) (r2 : Int) (w : World) (h : spec_words.f k a0 = some (r1, r2)) :
    Calls Tryd.prog 30 #[.string a0] w fun e w' => ∃ v0_ : Value, e = .returned (.tuple #[v0_, .int .i64 r2]) ∧ Kd.R Kd.string 9 w' w.heap.size (fun _ => True) v0_ r1 ∧ Below w.heap.size w w' := by
  have HB := Aside0.mk (Below.refl w.heap.size w)
  have H : (spec_words.l0 k a0 ([] : List ByteArray) (⟨#[]⟩ : ByteArray) 0) = some (r1, r2) := h
  clear h
  have H' := Aside0.mk H
  clear H
  go_enter Tryd.func30, Tryd.ntmps30
  go_wp2
  go_loopg [4, 5, 6] k (fun kq v4 v5 v6 w' => ∃ (x4_1 : List ByteArray) (x5_1 : ByteArray) (x6_1 : Int), v5 = .string x5_1 ∧ v6 = .int .i64 x6_1 ∧ Aside0 (spec_words.l0 kq a0 x4_1 x5_1 x6_1 = some (r1, r2)) ∧ Aside0 (kq ≤ k) ∧ Aside0 (Kd.R Kd.string 9 w' w.heap.size (fun _ => True) v4 x4_1) ∧ Aside0 (Below w.heap.size w w'))
  case atStart => exact ⟨(([] : List ByteArray)), ((⟨#[]⟩ : ByteArray)), (0), (by first | rfl | (simp; done) | (simp [*]; done)), (by first | rfl | (simp; done) | (simp [*]; done)), H', ⟨Nat.le_refl _⟩, ⟨by first | exact Kd.R_nil _ _ _ _ _ | exact Kd.N_nil _ _ _ _ _ | exact Kd.V_nil _ _ _ _ _ | exact Kd.Q_nil _ _ _ _ _ | exact Kd.S_nil _ _ _ _ _⟩, ⟨by repeat (first | (with_reducible first | exact HB.out | apply below_alloc | apply pw_below_drewN | apply below_drew1) | exact HB.out)⟩⟩
  case round =>
    clear H'
    obtain ⟨x4_1, x5_1, x6_1, rfl, rfl, HA, HK1, HO_4, HB⟩ := hrel
    cases gk with
    | zero => exact absurd HA.out (by simp [spec_words.l0])
    | succ k1 =>
      have H := HA.out
      clear HA
      simp only [spec_words.l0] at H
      by_cases c2 : x6_1 < (a0.size : Int)
      · rw [if_pos c2] at H
        have c2b0 : decide (x6_1 < (a0.size : Int)) = true := decide_eq_true c2
        clear c2
        by_cases c3 : 0 ≤ x6_1
        · rw [if_pos c3] at H
          have c3b0 : decide (0 ≤ x6_1) = true := decide_eq_true c3
          clear c3
          by_cases c5 : (bt a0 x6_1) ≥ 128
          · rw [if_pos c5] at H
            have c5b0 : decide (128 ≤ (bt a0 x6_1)) = true := decide_eq_true c5
            clear c5
            simp only [Option.some.injEq, Prod.mk.injEq] at H
            obtain ⟨rfl, rfl⟩ := H
            have p4 : 0 ≤ (x6_1 : Int) := of_decide_eq_true (by first | (with_reducible assumption) | assumption)
            have q4 : x6_1 < (a0.size : Int) := of_decide_eq_true (by first | (with_reducible assumption) | assumption)
            have hx4 := bt_at a0 x6_1
            replace p4 := eq_true p4
            replace q4 := eq_true q4
            go_wp2
            go_ret2
            exact ⟨_, by first | rfl | (simp [errW_none, errW_some] <;> rfl) | (simp [*, errW_none, errW_some] <;> rfl), by first | exact Kd.R_nil _ _ _ _ _ | exact Kd.N_nil _ _ _ _ _ | exact Kd.V_nil _ _ _ _ _ | exact Kd.Q_nil _ _ _ _ _ | exact Kd.S_nil _ _ _ _ _, by repeat (first | (with_reducible first | exact HB.out | apply below_alloc | apply pw_below_drewN | apply below_drew1) | exact HB.out)⟩
          · rw [if_neg c5] at H
            have c5b0 : decide (128 ≤ (bt a0 x6_1)) = false := decide_eq_false c5
            clear c5
            have HC6 := Aside0.mk H
            clear H
            have p4 : 0 ≤ (x6_1 : Int) := of_decide_eq_true (by first | (with_reducible assumption) | assumption)
            have q4 : x6_1 < (a0.size : Int) := of_decide_eq_true (by first | (with_reducible assumption) | assumption)
            have hx4 := bt_at a0 x6_1
            replace p4 := eq_true p4
            replace q4 := eq_true q4
            go_upto_region 9 with (fail)
            go_cut [28] (fun v28 wc => ∃ (kq : Nat) (x28_5 : Bool), v28 = .bool x28_5 ∧ Aside0 (spec_words.j1 kq a0 x4_1 x5_1 x6_1 (bt a0 x6_1) x28_5 = some (r1, r2)) ∧ Aside0 (kq ≤ k1) ∧ Aside0 (Kd.R Kd.string 9 wc w.heap.size (fun _ => True) u4 x4_1) ∧ Aside0 (Below w.heap.size w wc))
            case first =>
              have H := HC6.out
              clear HC6
              by_cases c7 : (bt a0 x6_1) = 32
              · rw [if_pos c7] at H
                have c7b0 : ((bt a0 x6_1) == 32) = true := beq_iff_eq.mpr c7
                have c7b1 : ((bt a0 x6_1) != 32) = false := bne_eq_false_iff_eq.mpr c7
                clear c7
                (try (have c7b2 := c7b0; simp only [ByteArray.size_extract, Nat.min_self] at c7b2)); (first | rw [c7b0] | (simp only [i64_w, i32_w]; rw [c7b0]) | rw [c7b1] | skip)
                have H' := Aside0.mk H
                clear H
                go_wp2
                go_meet
                case rel => exact ⟨_, (true), (by first | rfl | (simp; done) | (simp [*]; done)), H', ⟨by have := HK1.out; first | omega | exact Nat.le_refl _⟩, ⟨by (with_reducible repeat (first | apply Kd.R_alloc | apply Kd.R_drewN | apply Kd.R_drew)); exact HO_4.out⟩, ⟨by repeat (first | (with_reducible first | exact HB.out | apply below_alloc | apply pw_below_drewN | apply below_drew1) | exact HB.out)⟩⟩
              · rw [if_neg c7] at H
                have c7b0 : ((bt a0 x6_1) == 32) = false := beq_eq_false_iff_ne.mpr c7
                have c7b1 : ((bt a0 x6_1) != 32) = true := bne_iff_ne.mpr c7
                (try (have c7b2 := c7b0; simp only [ByteArray.size_extract, Nat.min_self] at c7b2)); (first | rw [c7b0] | (simp only [i64_w, i32_w]; rw [c7b0]) | rw [c7b1] | skip)
                by_cases c8 : (bt a0 x6_1) ≥ 9
                · rw [if_pos c8] at H
                  have c8b0 : decide (9 ≤ (bt a0 x6_1)) = true := decide_eq_true c8
                  clear c8
                  have H' := Aside0.mk H
                  clear H
                  go_wp2
                  go_meet
                  case rel => exact ⟨_, (decide ((bt a0 x6_1) ≤ 13)), (by first | rfl | (simp; done) | (simp [*]; done)), H', ⟨by have := HK1.out; first | omega | exact Nat.le_refl _⟩, ⟨by (with_reducible repeat (first | apply Kd.R_alloc | apply Kd.R_drewN | apply Kd.R_drew)); exact HO_4.out⟩, ⟨by repeat (first | (with_reducible first | exact HB.out | apply below_alloc | apply pw_below_drewN | apply below_drew1) | exact HB.out)⟩⟩
                · rw [if_neg c8] at H
                  have c8b0 : decide (9 ≤ (bt a0 x6_1)) = false := decide_eq_false c8
                  clear c8
                  have H' := Aside0.mk H
                  clear H
                  go_wp2
                  go_meet
                  case rel => exact ⟨_, (false), (by first | rfl | (simp; done) | (simp [*]; done)), H', ⟨by have := HK1.out; first | omega | exact Nat.le_refl _⟩, ⟨by (with_reducible repeat (first | apply Kd.R_alloc | apply Kd.R_drewN | apply Kd.R_drew)); exact HO_4.out⟩, ⟨by repeat (first | (with_reducible first | exact HB.out | apply below_alloc | apply pw_below_drewN | apply below_drew1) | exact HB.out)⟩⟩
            case rest =>
              clear HC6
              try clear c2
              try clear c2b0
              try clear p2
              try clear c3
              try clear c3b0
              try clear p4
              try clear q4
              try clear hx4
              try clear c5
              try clear c5b0
              try clear c7
              try clear c7b0
              try clear c7b1
              try clear c7b2
              try clear c8
              try clear c8b0
              try clear p4
              try clear q4
              obtain ⟨kq, x28_5, rfl, HA, HJ5, HO_4, HB⟩ := hcut
              cases kq with
              | zero => exact absurd HA.out (by simp [spec_words.j1])
              | succ kj5 =>
                have H := HA.out
                clear HA
                simp only [spec_words.j1] at H
                by_cases c9 : x28_5 = true
                · subst c9
                  have H1 : (if x5_1.toList = ([] : List UInt8) then (spec_words.l0 kj5 a0 x4_1 (⟨#[]⟩ : ByteArray) (wrap64 (x6_1 + 1))) else (if x4_1.length < 8796093022208 then (spec_words.l0 kj5 a0 (x4_1 ++ [x5_1]) (⟨#[]⟩ : ByteArray) (wrap64 (x6_1 + 1))) else (none))) = some (r1, r2) := by rw [if_pos rfl] at H; exact H
                  clear H
                  have H := H1
                  clear H1
                  by_cases c10 : x5_1.toList = ([] : List UInt8)
                  · rw [if_pos c10] at H
                    have c10b0 : (x5_1.toList == ([] : List UInt8)) = true := beq_iff_eq.mpr c10
                    have c10b1 : (x5_1.toList != ([] : List UInt8)) = false := bne_eq_false_iff_eq.mpr c10
                    clear c10
                    have H' := Aside0.mk H
                    clear H
                    go_wp2
                    go_roundg kj5
                    case measure => have := HK1.out; have := HJ5.out; omega
                    case rel => exact ⟨(x4_1), ((⟨#[]⟩ : ByteArray)), (wrap64 (x6_1 + 1)), (by first | rfl | (simp; done) | (simp [*]; done)), (by first | rfl | (simp; done) | (simp [*]; done)), H', ⟨by have := HK1.out; have := HJ5.out; omega⟩, ⟨by (with_reducible repeat (first | apply Kd.R_alloc | apply Kd.R_drewN | apply Kd.R_drew)); exact HO_4.out⟩, ⟨by repeat (first | (with_reducible first | exact HB.out | apply below_alloc | apply pw_below_drewN | apply below_drew1) | exact HB.out)⟩⟩
                  · rw [if_neg c10] at H
                    have c10b0 : (x5_1.toList == ([] : List UInt8)) = false := beq_eq_false_iff_ne.mpr c10
                    have c10b1 : (x5_1.toList != ([] : List UInt8)) = true := bne_iff_ne.mpr c10
                    by_cases c11 : x4_1.length < 8796093022208
                    · rw [if_pos c11] at H
                      have LMc11 := Aside0.mk c11
                      clear c11
                      obtain ⟨y134, hy134⟩ : ∃ y_ : List ByteArray, y_ = (x4_1 ++ [x5_1]) := ⟨_, rfl⟩
                      replace H : (spec_words.l0 kj5 a0 y134 (⟨#[]⟩ : ByteArray) (wrap64 (x6_1 + 1))) = some (r1, r2) := by first | (rw [hy134]; with_reducible exact H) | (have H2_ := (Option.bind_some _ _).symm.trans H; rw [hy134]; with_reducible exact H2_) | (have H2_ := (Option.bind_some _ _).symm.trans H; with_reducible exact H2_) | with_reducible exact H | (rw [hy134]; exact H) | exact H
                      have Ny134 := Aside0.mk hy134
                      clear hy134
                      have H' := Aside0.mk H
                      clear H
                      go_wp2_with (first | ((with_reducible refine gate_builtin (b := .append) (xs := #[.tmp 31, .tmp 33]) rfl ?_); at_builtin; refine Kd.R_append Kd.string (w0 := w) w.heap.size rfl (.tmp 31) (.tmp 33) 60 9 (.string ⟨#[]⟩) 16 rfl Tryd.underlying60 info9 rfl (by decide) (by omega) u4 x4_1 x5_1 [.string x5_1] (fun _ => True) (fun _ => False) rfl rfl ?aP (fun _ hk => hk.elim) ?aF ?aO ?aB ?aS ?aL ?_; (case aP => exact rfl); (case aB => exact (by repeat (first | (with_reducible first | exact HB.out | apply below_alloc | apply pw_below_drewN | apply below_drew1) | exact HB.out))); (case aF => exact (fun _ _ => trivial)); (case aO => exact (by (with_reducible repeat (first | apply Kd.R_alloc | apply Kd.R_drewN | apply Kd.R_drew)); exact HO_4.out)); (case aS => exact (below_size (by repeat (first | (with_reducible first | exact HB.out | apply below_alloc | apply pw_below_drewN | apply below_drew1) | exact HB.out)))); (case aL => have := LMc11.out; omega); intro v135 w12 ho hb hg hat; rw [← Ny134.out] at ho; have n0_ := Aside0.mk (hb); have n1_ := Aside0.mk (ho); clear HB; clear HO_4; have HB := n0_; have HO136 := n1_; clear n0_ n1_; clear ho hb hg hat))
                      go_roundg kj5
                      case measure => have := HK1.out; have := HJ5.out; omega
                      case rel => exact ⟨(y134), ((⟨#[]⟩ : ByteArray)), (wrap64 (x6_1 + 1)), (by first | rfl | (simp; done) | (simp [*]; done)), (by first | rfl | (simp; done) | (simp [*]; done)), H', ⟨by have := HK1.out; have := HJ5.out; omega⟩, ⟨by (with_reducible repeat (first | apply Kd.R_alloc | apply Kd.R_drewN | apply Kd.R_drew)); exact HO136.out⟩, ⟨by repeat (first | (with_reducible first | exact HB.out | apply below_alloc | apply pw_below_drewN | apply below_drew1) | exact HB.out)⟩⟩
                    · rw [if_neg c11] at H
                      exact absurd H (by simp)
                · replace c9 := Bool.eq_false_iff.mpr c9
                  subst c9
                  have H1 : ((some (([(bt a0 x6_1)] : List Int) : List Int)).bind fun y137 => (if x5_1.size + (strOfNums y137).size ≤ 9223372036854775807 then (spec_words.l0 kj5 a0 x4_1 (x5_1 ++ (strOfNums y137)) (wrap64 (x6_1 + 1))) else (none))) = some (r1, r2) := by rw [if_neg (show ¬ (false = true) by decide)] at H; exact H
                  clear H
                  have H := H1
                  clear H1
                  obtain ⟨y137, hy137⟩ : ∃ y_ : List Int, y_ = (([(bt a0 x6_1)] : List Int)) := ⟨_, rfl⟩
                  replace H : (if x5_1.size + (strOfNums y137).size ≤ 9223372036854775807 then (spec_words.l0 kj5 a0 x4_1 (x5_1 ++ (strOfNums y137)) (wrap64 (x6_1 + 1))) else (none)) = some (r1, r2) := by first | (rw [hy137]; with_reducible exact H) | (have H2_ := (Option.bind_some _ _).symm.trans H; rw [hy137]; with_reducible exact H2_) | (have H2_ := (Option.bind_some _ _).symm.trans H; with_reducible exact H2_) | with_reducible exact H | (rw [hy137]; exact H) | exact H
                  have Ny137 := Aside0.mk hy137
                  clear hy137
                  by_cases c13 : x5_1.size + (strOfNums y137).size ≤ 9223372036854775807
                  · rw [if_pos c13] at H
                    have c13b0 := eq_true c13
                    have c13b1 : decide (x5_1.size + (strOfNums y137).size ≤ 9223372036854775807) = true := decide_eq_true c13
                    try have c13b2 : (9223372036854775807 < x5_1.size + (strOfNums y137).size) = False := eq_false (Nat.not_lt.2 c13)
                    have H' := Aside0.mk H
                    clear H
                    go_wp2_with (first | ((with_reducible refine gate_dst (N := 37) rfl ?_); refine Kd.R_lit (Kd.int .u8) _ 5 ?hg (N := 37) ?hd (xs := ([(bt a0 x6_1)] : List Int)) (inner := [.int .u8 (bt a0 x6_1)]) (ok := fun _ => True) (okp := fun _ => True) ?hr ?hp (fun _ hk => hk) trivial (Below.refl _ _) (Nat.le_refl _) (by simp) ?_; (case hd => rfl); (case hg => rfl); (case hr => first | (go_simp; done) | (go_simp; rfl)); (case hp => exact (Reps.one (show Kd.M (Kd.int .u8) _ _ _ (bt a0 x6_1) [.int .u8 (bt a0 x6_1)] from rfl) (Reps.none _ _))); intro v138 w14 ho15 hb hg_ hnew_; clear hg_ hnew_; (first | rw [← Ny137.out] at ho15 | (simp only [Int.reduceToNat] at ho15; rw [← Ny137.out] at ho15)); have n0_ := Aside0.mk (Kd.R_below (by (with_reducible repeat (first | apply Kd.R_alloc | apply Kd.R_drewN | apply Kd.R_drew)); exact HO_4.out) hb); have n1_ := Aside0.mk (Kd.R_lower ho15 (below_size (by repeat (first | (with_reducible first | exact HB.out | apply below_alloc | apply pw_below_drewN | apply below_drew1) | exact HB.out)))); have n2_ := Aside0.mk (below_step (by repeat (first | (with_reducible first | exact HB.out | apply below_alloc | apply pw_below_drewN | apply below_drew1) | exact HB.out)) hb); clear HO_4; clear HB; have HO_4 := n0_; have HO139 := n1_; have HB := n2_; clear n0_ n1_ n2_; clear hb ho15; have hcv16 := own_string (P := Tryd.prog) Tryd.underlying81 Tryd.underlying5 Tryd.underlying9 (Kd.own_of_R HO139.out)))
                    go_roundg kj5
                    case measure => have := HK1.out; have := HJ5.out; omega
                    case rel => exact ⟨(x4_1), (x5_1 ++ (strOfNums y137)), (wrap64 (x6_1 + 1)), (by first | rfl | (simp; done) | (simp [*]; done)), (by first | rfl | (simp; done) | (simp [*]; done)), H', ⟨by have := HK1.out; have := HJ5.out; omega⟩, ⟨by (with_reducible repeat (first | apply Kd.R_alloc | apply Kd.R_drewN | apply Kd.R_drew)); exact HO_4.out⟩, ⟨by repeat (first | (with_reducible first | exact HB.out | apply below_alloc | apply pw_below_drewN | apply below_drew1) | exact HB.out)⟩⟩
                  · rw [if_neg c13] at H
                    exact absurd H (by simp)
        · rw [if_neg c3] at H
          exact absurd H (by simp)
      · rw [if_neg c2] at H
        have c2b0 : decide (x6_1 < (a0.size : Int)) = false := decide_eq_false c2
        clear c2
        by_cases c17 : x5_1.toList = ([] : List UInt8)
        · rw [if_pos c17] at H
          have c17b0 : (x5_1.toList == ([] : List UInt8)) = true := beq_iff_eq.mpr c17
          have c17b1 : (x5_1.toList != ([] : List UInt8)) = false := bne_eq_false_iff_eq.mpr c17
          clear c17
          simp only [Option.some.injEq, Prod.mk.injEq] at H
          obtain ⟨rfl, rfl⟩ := H
          go_wp2
          go_ret2
          exact ⟨_, by first | rfl | (simp [errW_none, errW_some] <;> rfl) | (simp [*, errW_none, errW_some] <;> rfl), by (with_reducible repeat (first | apply Kd.R_alloc | apply Kd.R_drewN | apply Kd.R_drew)); exact HO_4.out, by repeat (first | (with_reducible first | exact HB.out | apply below_alloc | apply pw_below_drewN | apply below_drew1) | exact HB.out)⟩
        · rw [if_neg c17] at H
          have c17b0 : (x5_1.toList == ([] : List UInt8)) = false := beq_eq_false_iff_ne.mpr c17
          have c17b1 : (x5_1.toList != ([] : List UInt8)) = true := bne_iff_ne.mpr c17
          by_cases c18 : x4_1.length < 8796093022208
          · rw [if_pos c18] at H
            have LMc18 := Aside0.mk c18
            clear c18
            obtain ⟨y131, hy131⟩ : ∃ y_ : List ByteArray, y_ = (x4_1 ++ [x5_1]) := ⟨_, rfl⟩
            replace H : (some (y131, 1)) = some (r1, r2) := by first | (rw [hy131]; with_reducible exact H) | (have H2_ := (Option.bind_some _ _).symm.trans H; rw [hy131]; with_reducible exact H2_) | (have H2_ := (Option.bind_some _ _).symm.trans H; with_reducible exact H2_) | with_reducible exact H | (rw [hy131]; exact H) | exact H
            have Ny131 := Aside0.mk hy131
            clear hy131
            simp only [Option.some.injEq, Prod.mk.injEq] at H
            obtain ⟨rfl, rfl⟩ := H
            go_wp2_with (first | ((with_reducible refine gate_builtin (b := .append) (xs := #[.tmp 42, .tmp 44]) rfl ?_); at_builtin; refine Kd.R_append Kd.string (w0 := w) w.heap.size rfl (.tmp 42) (.tmp 44) 60 9 (.string ⟨#[]⟩) 16 rfl Tryd.underlying60 info9 rfl (by decide) (by omega) u4 x4_1 x5_1 [.string x5_1] (fun _ => True) (fun _ => False) rfl rfl ?aP (fun _ hk => hk.elim) ?aF ?aO ?aB ?aS ?aL ?_; (case aP => exact rfl); (case aB => exact (by repeat (first | (with_reducible first | exact HB.out | apply below_alloc | apply pw_below_drewN | apply below_drew1) | exact HB.out))); (case aF => exact (fun _ _ => trivial)); (case aO => exact (by (with_reducible repeat (first | apply Kd.R_alloc | apply Kd.R_drewN | apply Kd.R_drew)); exact HO_4.out)); (case aS => exact (below_size (by repeat (first | (with_reducible first | exact HB.out | apply below_alloc | apply pw_below_drewN | apply below_drew1) | exact HB.out)))); (case aL => have := LMc18.out; omega); intro v132 w19 ho hb hg hat; rw [← Ny131.out] at ho; have n0_ := Aside0.mk (hb); have n1_ := Aside0.mk (ho); clear HB; clear HO_4; have HB := n0_; have HO133 := n1_; clear n0_ n1_; clear ho hb hg hat))
            go_ret2
            exact ⟨_, by first | rfl | (simp [errW_none, errW_some] <;> rfl) | (simp [*, errW_none, errW_some] <;> rfl), by (with_reducible repeat (first | apply Kd.R_alloc | apply Kd.R_drewN | apply Kd.R_drew)); exact HO133.out, by repeat (first | (with_reducible first | exact HB.out | apply below_alloc | apply pw_below_drewN | apply below_drew1) | exact HB.out)⟩
          · rw [if_neg c18] at H
            exact absurd H (by simp)

/-! ### spec_begins: function 31 -/
def spec_begins.f (a0 : ByteArray) (a1 : ByteArray) : Option (Bool) := if (a0.size : Int) ≥ (a1.size : Int) then (if 0 ≤ (a1.size : Int) then (if (a1.size : Int) ≤ (a0.size : Int) then (some ((a0.extract 0 ((a1.size : Int) : Int).toNat).toList == a1.toList)) else (none)) else (none)) else (some false)
set_option maxHeartbeats 8000000 in
set_option maxRecDepth 100000 in
theorem spec_begins.calls (a0 : ByteArray) (a1 : ByteArray) (r : Bool) (w : World) (h : spec_begins.f a0 a1 = some r) :
    Calls Tryd.prog 31 #[.string a0, .string a1] w fun e w' => e = .returned (.bool r) ∧ Drawn0 w w' := by
  have H : (if (a0.size : Int) ≥ (a1.size : Int) then (if 0 ≤ (a1.size : Int) then (if (a1.size : Int) ≤ (a0.size : Int) then (some ((a0.extract 0 ((a1.size : Int) : Int).toNat).toList == a1.toList)) else (none)) else (none)) else (some false)) = some r := h
  clear h
  by_cases c3 : (a0.size : Int) ≥ (a1.size : Int)
  · rw [if_pos c3] at H
    have c3b0 : decide ((a1.size : Int) ≤ (a0.size : Int)) = true := decide_eq_true c3
    have c3b1 : decide (a1.size ≤ a0.size) = true := decide_eq_true (Int.ofNat_le.mp c3)
    clear c3
    by_cases c4 : 0 ≤ (a1.size : Int)
    · rw [if_pos c4] at H
      have c4b0 := eq_true c4
      have c4b1 : decide (0 ≤ (a1.size : Int)) = true := decide_eq_true c4
      clear c4
      by_cases c5 : (a1.size : Int) ≤ (a0.size : Int)
      · rw [if_pos c5] at H
        have c5b0 := eq_true c5
        have c5b1 : decide ((a1.size : Int) ≤ (a0.size : Int)) = true := decide_eq_true c5
        clear c5
        obtain rfl := Option.some.inj H
        go_enter Tryd.func31, Tryd.ntmps31
        go_wp2
        go_ret
        exact ⟨by first | rfl | (simp; done) | (simp [*]; done), by repeat (first | exact Drawn0.refl _ | apply Drawn0.step)⟩
      · rw [if_neg c5] at H
        exact absurd H (by simp)
    · rw [if_neg c4] at H
      exact absurd H (by simp)
  · rw [if_neg c3] at H
    have c3b0 : decide ((a1.size : Int) ≤ (a0.size : Int)) = false := decide_eq_false c3
    have c3b1 : decide (a1.size ≤ a0.size) = false := decide_eq_false (fun h => c3 (Int.ofNat_le.mpr h))
    clear c3
    obtain rfl := Option.some.inj H
    go_enter Tryd.func31, Tryd.ntmps31
    go_wp2
    go_ret
    exact ⟨by first | rfl | (simp; done) | (simp [*]; done), by repeat (first | exact Drawn0.refl _ | apply Drawn0.step)⟩

/-! ### spec_shades: function 43 -/
def spec_shades.f  : Option ((List (S85))) := some (([(⟨(⟨#[98, 108, 97, 99, 107]⟩ : ByteArray), 0⟩ : S85), (⟨(⟨#[100, 97, 114, 107, 114, 101, 100]⟩ : ByteArray), 8323072⟩ : S85), (⟨(⟨#[100, 97, 114, 107, 103, 114, 101, 101, 110]⟩ : ByteArray), 32512⟩ : S85), (⟨(⟨#[98, 114, 111, 119, 110]⟩ : ByteArray), 8355808⟩ : S85), (⟨(⟨#[100, 97, 114, 107, 98, 108, 117, 101]⟩ : ByteArray), 127⟩ : S85), (⟨(⟨#[112, 117, 114, 112, 108, 101]⟩ : ByteArray), 8323199⟩ : S85), (⟨(⟨#[116, 101, 97, 108]⟩ : ByteArray), 32639⟩ : S85), (⟨(⟨#[108, 105, 103, 104, 116, 103, 114, 97, 121]⟩ : ByteArray), 15066597⟩ : S85), (⟨(⟨#[100, 97, 114, 107, 103, 114, 97, 121]⟩ : ByteArray), 5592405⟩ : S85), (⟨(⟨#[114, 101, 100]⟩ : ByteArray), 16711680⟩ : S85), (⟨(⟨#[103, 114, 101, 101, 110]⟩ : ByteArray), 65280⟩ : S85), (⟨(⟨#[121, 101, 108, 108, 111, 119]⟩ : ByteArray), 16776960⟩ : S85), (⟨(⟨#[98, 108, 117, 101]⟩ : ByteArray), 255⟩ : S85), (⟨(⟨#[102, 117, 99, 104, 115, 105, 97]⟩ : ByteArray), 16711935⟩ : S85), (⟨(⟨#[116, 117, 114, 113, 117, 111, 105, 115, 101]⟩ : ByteArray), 65535⟩ : S85), (⟨(⟨#[119, 104, 105, 116, 101]⟩ : ByteArray), 16777215⟩ : S85)] : List (S85)))
set_option maxHeartbeats 8000000 in
set_option maxRecDepth 100000 in
theorem spec_shades.calls  (r : List (S85)) (w : World) (h : spec_shades.f  = some r) :
    Calls Tryd.prog 43 #[] w fun e w' => ∃ v0_ : Value, e = .returned (v0_) ∧ Kd.R k85 85 w' w.heap.size (fun _ => True) v0_ r ∧ Below w.heap.size w w' := by
  have hu85 := Tryd.underlying85
  have HB := Aside0.mk (Below.refl w.heap.size w)
  have H : (some (([(⟨(⟨#[98, 108, 97, 99, 107]⟩ : ByteArray), 0⟩ : S85), (⟨(⟨#[100, 97, 114, 107, 114, 101, 100]⟩ : ByteArray), 8323072⟩ : S85), (⟨(⟨#[100, 97, 114, 107, 103, 114, 101, 101, 110]⟩ : ByteArray), 32512⟩ : S85), (⟨(⟨#[98, 114, 111, 119, 110]⟩ : ByteArray), 8355808⟩ : S85), (⟨(⟨#[100, 97, 114, 107, 98, 108, 117, 101]⟩ : ByteArray), 127⟩ : S85), (⟨(⟨#[112, 117, 114, 112, 108, 101]⟩ : ByteArray), 8323199⟩ : S85), (⟨(⟨#[116, 101, 97, 108]⟩ : ByteArray), 32639⟩ : S85), (⟨(⟨#[108, 105, 103, 104, 116, 103, 114, 97, 121]⟩ : ByteArray), 15066597⟩ : S85), (⟨(⟨#[100, 97, 114, 107, 103, 114, 97, 121]⟩ : ByteArray), 5592405⟩ : S85), (⟨(⟨#[114, 101, 100]⟩ : ByteArray), 16711680⟩ : S85), (⟨(⟨#[103, 114, 101, 101, 110]⟩ : ByteArray), 65280⟩ : S85), (⟨(⟨#[121, 101, 108, 108, 111, 119]⟩ : ByteArray), 16776960⟩ : S85), (⟨(⟨#[98, 108, 117, 101]⟩ : ByteArray), 255⟩ : S85), (⟨(⟨#[102, 117, 99, 104, 115, 105, 97]⟩ : ByteArray), 16711935⟩ : S85), (⟨(⟨#[116, 117, 114, 113, 117, 111, 105, 115, 101]⟩ : ByteArray), 65535⟩ : S85), (⟨(⟨#[119, 104, 105, 116, 101]⟩ : ByteArray), 16777215⟩ : S85)] : List (S85)))) = some r := h
  clear h
  obtain ⟨y140, hy140⟩ : ∃ y_ : List (S85), y_ = (([(⟨(⟨#[98, 108, 97, 99, 107]⟩ : ByteArray), 0⟩ : S85), (⟨(⟨#[100, 97, 114, 107, 114, 101, 100]⟩ : ByteArray), 8323072⟩ : S85), (⟨(⟨#[100, 97, 114, 107, 103, 114, 101, 101, 110]⟩ : ByteArray), 32512⟩ : S85), (⟨(⟨#[98, 114, 111, 119, 110]⟩ : ByteArray), 8355808⟩ : S85), (⟨(⟨#[100, 97, 114, 107, 98, 108, 117, 101]⟩ : ByteArray), 127⟩ : S85), (⟨(⟨#[112, 117, 114, 112, 108, 101]⟩ : ByteArray), 8323199⟩ : S85), (⟨(⟨#[116, 101, 97, 108]⟩ : ByteArray), 32639⟩ : S85), (⟨(⟨#[108, 105, 103, 104, 116, 103, 114, 97, 121]⟩ : ByteArray), 15066597⟩ : S85), (⟨(⟨#[100, 97, 114, 107, 103, 114, 97, 121]⟩ : ByteArray), 5592405⟩ : S85), (⟨(⟨#[114, 101, 100]⟩ : ByteArray), 16711680⟩ : S85), (⟨(⟨#[103, 114, 101, 101, 110]⟩ : ByteArray), 65280⟩ : S85), (⟨(⟨#[121, 101, 108, 108, 111, 119]⟩ : ByteArray), 16776960⟩ : S85), (⟨(⟨#[98, 108, 117, 101]⟩ : ByteArray), 255⟩ : S85), (⟨(⟨#[102, 117, 99, 104, 115, 105, 97]⟩ : ByteArray), 16711935⟩ : S85), (⟨(⟨#[116, 117, 114, 113, 117, 111, 105, 115, 101]⟩ : ByteArray), 65535⟩ : S85), (⟨(⟨#[119, 104, 105, 116, 101]⟩ : ByteArray), 16777215⟩ : S85)] : List (S85))) := ⟨_, rfl⟩
  replace H : (some y140) = some r := by first | (rw [hy140]; with_reducible exact H) | (have H2_ := (Option.bind_some _ _).symm.trans H; rw [hy140]; with_reducible exact H2_) | (have H2_ := (Option.bind_some _ _).symm.trans H; with_reducible exact H2_) | with_reducible exact H | (rw [hy140]; exact H) | exact H
  have Ny140 := Aside0.mk hy140
  clear hy140
  obtain rfl := Option.some.inj H
  go_enter Tryd.func43, Tryd.ntmps43
  go_wp2_with (first | ((with_reducible refine gate_dst (N := 17) rfl ?_); refine Kd.R_lit k85 _ 85 ?hg (N := 17) ?hd (xs := ([(⟨(⟨#[98, 108, 97, 99, 107]⟩ : ByteArray), 0⟩ : S85), (⟨(⟨#[100, 97, 114, 107, 114, 101, 100]⟩ : ByteArray), 8323072⟩ : S85), (⟨(⟨#[100, 97, 114, 107, 103, 114, 101, 101, 110]⟩ : ByteArray), 32512⟩ : S85), (⟨(⟨#[98, 114, 111, 119, 110]⟩ : ByteArray), 8355808⟩ : S85), (⟨(⟨#[100, 97, 114, 107, 98, 108, 117, 101]⟩ : ByteArray), 127⟩ : S85), (⟨(⟨#[112, 117, 114, 112, 108, 101]⟩ : ByteArray), 8323199⟩ : S85), (⟨(⟨#[116, 101, 97, 108]⟩ : ByteArray), 32639⟩ : S85), (⟨(⟨#[108, 105, 103, 104, 116, 103, 114, 97, 121]⟩ : ByteArray), 15066597⟩ : S85), (⟨(⟨#[100, 97, 114, 107, 103, 114, 97, 121]⟩ : ByteArray), 5592405⟩ : S85), (⟨(⟨#[114, 101, 100]⟩ : ByteArray), 16711680⟩ : S85), (⟨(⟨#[103, 114, 101, 101, 110]⟩ : ByteArray), 65280⟩ : S85), (⟨(⟨#[121, 101, 108, 108, 111, 119]⟩ : ByteArray), 16776960⟩ : S85), (⟨(⟨#[98, 108, 117, 101]⟩ : ByteArray), 255⟩ : S85), (⟨(⟨#[102, 117, 99, 104, 115, 105, 97]⟩ : ByteArray), 16711935⟩ : S85), (⟨(⟨#[116, 117, 114, 113, 117, 111, 105, 115, 101]⟩ : ByteArray), 65535⟩ : S85), (⟨(⟨#[119, 104, 105, 116, 101]⟩ : ByteArray), 16777215⟩ : S85)] : List (S85))) (inner := [.string (⟨#[98, 108, 97, 99, 107]⟩ : ByteArray), .int .i64 0, .string (⟨#[100, 97, 114, 107, 114, 101, 100]⟩ : ByteArray), .int .i64 8323072, .string (⟨#[100, 97, 114, 107, 103, 114, 101, 101, 110]⟩ : ByteArray), .int .i64 32512, .string (⟨#[98, 114, 111, 119, 110]⟩ : ByteArray), .int .i64 8355808, .string (⟨#[100, 97, 114, 107, 98, 108, 117, 101]⟩ : ByteArray), .int .i64 127, .string (⟨#[112, 117, 114, 112, 108, 101]⟩ : ByteArray), .int .i64 8323199, .string (⟨#[116, 101, 97, 108]⟩ : ByteArray), .int .i64 32639, .string (⟨#[108, 105, 103, 104, 116, 103, 114, 97, 121]⟩ : ByteArray), .int .i64 15066597, .string (⟨#[100, 97, 114, 107, 103, 114, 97, 121]⟩ : ByteArray), .int .i64 5592405, .string (⟨#[114, 101, 100]⟩ : ByteArray), .int .i64 16711680, .string (⟨#[103, 114, 101, 101, 110]⟩ : ByteArray), .int .i64 65280, .string (⟨#[121, 101, 108, 108, 111, 119]⟩ : ByteArray), .int .i64 16776960, .string (⟨#[98, 108, 117, 101]⟩ : ByteArray), .int .i64 255, .string (⟨#[102, 117, 99, 104, 115, 105, 97]⟩ : ByteArray), .int .i64 16711935, .string (⟨#[116, 117, 114, 113, 117, 111, 105, 115, 101]⟩ : ByteArray), .int .i64 65535, .string (⟨#[119, 104, 105, 116, 101]⟩ : ByteArray), .int .i64 16777215]) (ok := fun _ => True) (okp := fun _ => True) ?hr ?hp (fun _ hk => hk) trivial (Below.refl _ _) (Nat.le_refl _) (by simp) ?_; (case hd => rfl); (case hg => rfl); (case hr => first | (go_simp; done) | (go_simp; rfl)); (case hp => exact (Reps.c2 (show Kd.M k85 _ _ _ (⟨(⟨#[98, 108, 97, 99, 107]⟩ : ByteArray), 0⟩ : S85) [.string (⟨#[98, 108, 97, 99, 107]⟩ : ByteArray), .int .i64 0] from (k85_mkM _ _ _ (⟨(⟨#[98, 108, 97, 99, 107]⟩ : ByteArray), 0⟩ : S85) )) (Reps.c2 (show Kd.M k85 _ _ _ (⟨(⟨#[100, 97, 114, 107, 114, 101, 100]⟩ : ByteArray), 8323072⟩ : S85) [.string (⟨#[100, 97, 114, 107, 114, 101, 100]⟩ : ByteArray), .int .i64 8323072] from (k85_mkM _ _ _ (⟨(⟨#[100, 97, 114, 107, 114, 101, 100]⟩ : ByteArray), 8323072⟩ : S85) )) (Reps.c2 (show Kd.M k85 _ _ _ (⟨(⟨#[100, 97, 114, 107, 103, 114, 101, 101, 110]⟩ : ByteArray), 32512⟩ : S85) [.string (⟨#[100, 97, 114, 107, 103, 114, 101, 101, 110]⟩ : ByteArray), .int .i64 32512] from (k85_mkM _ _ _ (⟨(⟨#[100, 97, 114, 107, 103, 114, 101, 101, 110]⟩ : ByteArray), 32512⟩ : S85) )) (Reps.c2 (show Kd.M k85 _ _ _ (⟨(⟨#[98, 114, 111, 119, 110]⟩ : ByteArray), 8355808⟩ : S85) [.string (⟨#[98, 114, 111, 119, 110]⟩ : ByteArray), .int .i64 8355808] from (k85_mkM _ _ _ (⟨(⟨#[98, 114, 111, 119, 110]⟩ : ByteArray), 8355808⟩ : S85) )) (Reps.c2 (show Kd.M k85 _ _ _ (⟨(⟨#[100, 97, 114, 107, 98, 108, 117, 101]⟩ : ByteArray), 127⟩ : S85) [.string (⟨#[100, 97, 114, 107, 98, 108, 117, 101]⟩ : ByteArray), .int .i64 127] from (k85_mkM _ _ _ (⟨(⟨#[100, 97, 114, 107, 98, 108, 117, 101]⟩ : ByteArray), 127⟩ : S85) )) (Reps.c2 (show Kd.M k85 _ _ _ (⟨(⟨#[112, 117, 114, 112, 108, 101]⟩ : ByteArray), 8323199⟩ : S85) [.string (⟨#[112, 117, 114, 112, 108, 101]⟩ : ByteArray), .int .i64 8323199] from (k85_mkM _ _ _ (⟨(⟨#[112, 117, 114, 112, 108, 101]⟩ : ByteArray), 8323199⟩ : S85) )) (Reps.c2 (show Kd.M k85 _ _ _ (⟨(⟨#[116, 101, 97, 108]⟩ : ByteArray), 32639⟩ : S85) [.string (⟨#[116, 101, 97, 108]⟩ : ByteArray), .int .i64 32639] from (k85_mkM _ _ _ (⟨(⟨#[116, 101, 97, 108]⟩ : ByteArray), 32639⟩ : S85) )) (Reps.c2 (show Kd.M k85 _ _ _ (⟨(⟨#[108, 105, 103, 104, 116, 103, 114, 97, 121]⟩ : ByteArray), 15066597⟩ : S85) [.string (⟨#[108, 105, 103, 104, 116, 103, 114, 97, 121]⟩ : ByteArray), .int .i64 15066597] from (k85_mkM _ _ _ (⟨(⟨#[108, 105, 103, 104, 116, 103, 114, 97, 121]⟩ : ByteArray), 15066597⟩ : S85) )) (Reps.c2 (show Kd.M k85 _ _ _ (⟨(⟨#[100, 97, 114, 107, 103, 114, 97, 121]⟩ : ByteArray), 5592405⟩ : S85) [.string (⟨#[100, 97, 114, 107, 103, 114, 97, 121]⟩ : ByteArray), .int .i64 5592405] from (k85_mkM _ _ _ (⟨(⟨#[100, 97, 114, 107, 103, 114, 97, 121]⟩ : ByteArray), 5592405⟩ : S85) )) (Reps.c2 (show Kd.M k85 _ _ _ (⟨(⟨#[114, 101, 100]⟩ : ByteArray), 16711680⟩ : S85) [.string (⟨#[114, 101, 100]⟩ : ByteArray), .int .i64 16711680] from (k85_mkM _ _ _ (⟨(⟨#[114, 101, 100]⟩ : ByteArray), 16711680⟩ : S85) )) (Reps.c2 (show Kd.M k85 _ _ _ (⟨(⟨#[103, 114, 101, 101, 110]⟩ : ByteArray), 65280⟩ : S85) [.string (⟨#[103, 114, 101, 101, 110]⟩ : ByteArray), .int .i64 65280] from (k85_mkM _ _ _ (⟨(⟨#[103, 114, 101, 101, 110]⟩ : ByteArray), 65280⟩ : S85) )) (Reps.c2 (show Kd.M k85 _ _ _ (⟨(⟨#[121, 101, 108, 108, 111, 119]⟩ : ByteArray), 16776960⟩ : S85) [.string (⟨#[121, 101, 108, 108, 111, 119]⟩ : ByteArray), .int .i64 16776960] from (k85_mkM _ _ _ (⟨(⟨#[121, 101, 108, 108, 111, 119]⟩ : ByteArray), 16776960⟩ : S85) )) (Reps.c2 (show Kd.M k85 _ _ _ (⟨(⟨#[98, 108, 117, 101]⟩ : ByteArray), 255⟩ : S85) [.string (⟨#[98, 108, 117, 101]⟩ : ByteArray), .int .i64 255] from (k85_mkM _ _ _ (⟨(⟨#[98, 108, 117, 101]⟩ : ByteArray), 255⟩ : S85) )) (Reps.c2 (show Kd.M k85 _ _ _ (⟨(⟨#[102, 117, 99, 104, 115, 105, 97]⟩ : ByteArray), 16711935⟩ : S85) [.string (⟨#[102, 117, 99, 104, 115, 105, 97]⟩ : ByteArray), .int .i64 16711935] from (k85_mkM _ _ _ (⟨(⟨#[102, 117, 99, 104, 115, 105, 97]⟩ : ByteArray), 16711935⟩ : S85) )) (Reps.c2 (show Kd.M k85 _ _ _ (⟨(⟨#[116, 117, 114, 113, 117, 111, 105, 115, 101]⟩ : ByteArray), 65535⟩ : S85) [.string (⟨#[116, 117, 114, 113, 117, 111, 105, 115, 101]⟩ : ByteArray), .int .i64 65535] from (k85_mkM _ _ _ (⟨(⟨#[116, 117, 114, 113, 117, 111, 105, 115, 101]⟩ : ByteArray), 65535⟩ : S85) )) (Reps.c2 (show Kd.M k85 _ _ _ (⟨(⟨#[119, 104, 105, 116, 101]⟩ : ByteArray), 16777215⟩ : S85) [.string (⟨#[119, 104, 105, 116, 101]⟩ : ByteArray), .int .i64 16777215] from (k85_mkM _ _ _ (⟨(⟨#[119, 104, 105, 116, 101]⟩ : ByteArray), 16777215⟩ : S85) )) (Reps.none _ _)))))))))))))))))); intro v141 w1 ho2 hb hg_ hnew_; clear hg_ hnew_; (first | rw [← Ny140.out] at ho2 | (simp only [Int.reduceToNat] at ho2; rw [← Ny140.out] at ho2)); have n0_ := Aside0.mk (Kd.R_lower ho2 (below_size (by repeat (first | (with_reducible first | exact HB.out | apply below_alloc | apply pw_below_drewN | apply below_drew1) | exact HB.out)))); have n1_ := Aside0.mk (below_step (by repeat (first | (with_reducible first | exact HB.out | apply below_alloc | apply pw_below_drewN | apply below_drew1) | exact HB.out)) hb); clear HB; have HO142 := n0_; have HB := n1_; clear n0_ n1_; clear hb ho2))
  go_ret
  exact ⟨_, by first | rfl | (simp [errW_none, errW_some] <;> rfl) | (simp [*, errW_none, errW_some] <;> rfl), by (with_reducible repeat (first | apply Kd.R_alloc | apply Kd.R_drewN | apply Kd.R_drew)); exact HO142.out, by repeat (first | (with_reducible first | exact HB.out | apply below_alloc | apply pw_below_drewN | apply below_drew1) | exact HB.out)⟩

end Go.Proofs.YtifhhejohdmiaaaDoor.A
