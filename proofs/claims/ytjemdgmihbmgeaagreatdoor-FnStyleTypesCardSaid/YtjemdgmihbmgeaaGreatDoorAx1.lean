-- WRITTEN BY OUR myprint.py, a program of this session's over the kit's printer
import Derived.Test.YtjemdgmihbmgeaaGreatDoorAx0
namespace Go.Proofs.YtjemdgmihbmgeaaGreatDoor.A
open Go.RowKit Go.Proofs.YtjemdgmihbmgeaaGreatDoorW.PrintWords Go.Proofs.YtjemdgmihbmgeaaGreatDoorW.PrintLast Go.Proofs.YtjemdgmihbmgeaaGreatDoorW.PrintMore
attribute [local go_sem] max2_int min2_int max_two min_two max_three min_three max_four min_four   -- for this text's walks alone
set_option linter.unusedVariables false
set_option linter.unusedSimpArgs false

/-! ### chroma_StyleEntry_IsZero: function 60 -/
def chroma_StyleEntry_IsZero.f (a0_0 : Int) (a0_1 : Int) (a0_2 : Int) (a0_3 : Int) (a0_4 : Int) (a0_5 : Int) (a0_6 : Bool) : Option (Bool) := if a0_0 = 0 then (if a0_1 = 0 then (if a0_2 = 0 then (if a0_3 = 0 then (if a0_4 = 0 then (if a0_5 = 0 then (some (!a0_6)) else (some false)) else (some false)) else (some false)) else (some false)) else (some false)) else (some false)
set_option maxHeartbeats 8000000 in
set_option maxRecDepth 100000 in
theorem chroma_StyleEntry_IsZero.calls (a0_0 : Int) (a0_1 : Int) (a0_2 : Int) (a0_3 : Int) (a0_4 : Int) (a0_5 : Int) (a0_6 : Bool) (r : Bool) (w : World) (h : chroma_StyleEntry_IsZero.f a0_0 a0_1 a0_2 a0_3 a0_4 a0_5 a0_6 = some r) :
    Calls Tryz.prog 60 #[.agg #[.int .i32 a0_0, .int .i32 a0_1, .int .i32 a0_2, .int .u8 a0_3, .int .u8 a0_4, .int .u8 a0_5, .bool a0_6]] w fun e w' => e = .returned (.bool r) ∧ Below w.heap.size w w' := by
  have hu94 := Tryz.underlying94
  have HB := Aside0.mk (Below.refl w.heap.size w)
  have H : (if a0_0 = 0 then (if a0_1 = 0 then (if a0_2 = 0 then (if a0_3 = 0 then (if a0_4 = 0 then (if a0_5 = 0 then (some (!a0_6)) else (some false)) else (some false)) else (some false)) else (some false)) else (some false)) else (some false)) = some r := h
  clear h
  by_cases c2 : a0_0 = 0
  · rw [if_pos c2] at H
    have c2b0 : (a0_0 == 0) = true := beq_iff_eq.mpr c2
    have c2b1 : (a0_0 != 0) = false := bne_eq_false_iff_eq.mpr c2
    clear c2
    by_cases c3 : a0_1 = 0
    · rw [if_pos c3] at H
      have c3b0 : (a0_1 == 0) = true := beq_iff_eq.mpr c3
      have c3b1 : (a0_1 != 0) = false := bne_eq_false_iff_eq.mpr c3
      clear c3
      by_cases c4 : a0_2 = 0
      · rw [if_pos c4] at H
        have c4b0 : (a0_2 == 0) = true := beq_iff_eq.mpr c4
        have c4b1 : (a0_2 != 0) = false := bne_eq_false_iff_eq.mpr c4
        clear c4
        by_cases c5 : a0_3 = 0
        · rw [if_pos c5] at H
          have c5b0 : (a0_3 == 0) = true := beq_iff_eq.mpr c5
          have c5b1 : (a0_3 != 0) = false := bne_eq_false_iff_eq.mpr c5
          clear c5
          by_cases c6 : a0_4 = 0
          · rw [if_pos c6] at H
            have c6b0 : (a0_4 == 0) = true := beq_iff_eq.mpr c6
            have c6b1 : (a0_4 != 0) = false := bne_eq_false_iff_eq.mpr c6
            clear c6
            by_cases c7 : a0_5 = 0
            · rw [if_pos c7] at H
              have c7b0 : (a0_5 == 0) = true := beq_iff_eq.mpr c7
              have c7b1 : (a0_5 != 0) = false := bne_eq_false_iff_eq.mpr c7
              clear c7
              obtain rfl := Option.some.inj H
              go_enter Tryz.func60, Tryz.ntmps60
              go_wp2_with (first | ((with_reducible refine gate_dst (N := 1) rfl ?_); refine box_event ?hg (N := 1) ?hd (cs := #[.int .i32 a0_0, .int .i32 a0_1, .int .i32 a0_2, .int .u8 a0_3, .int .u8 a0_4, .int .u8 a0_5, .bool a0_6]) (t := 94) ?hr ?_; (case hd => rfl); (case hg => rfl); (case hr => first | (go_simp; done) | (go_simp; rfl)); intro gb101 hg w8 hbox hb; have n0_ := Aside0.mk (below_step (by repeat (first | (with_reducible first | exact HB.out | apply below_alloc | apply pw_below_drewN | apply below_drew1) | exact HB.out)) hb); have n1_ := Aside0.mk (hbox); have n2_ := Aside0.mk ((by rw [hg]; exact (below_size (by repeat (first | (with_reducible first | exact HB.out | apply below_alloc | apply pw_below_drewN | apply below_drew1) | exact HB.out))) : w.heap.size ≤ gb101)); have n3_ := Aside0.mk ((by rw [hg]; exact (below_size (by repeat (first | (with_reducible first | exact HB.out | apply below_alloc | apply pw_below_drewN | apply below_drew1) | exact HB.out))) : w.heap.size ≤ gb101)); clear HB; have HB := n0_; have BK101 := n1_; have GW101 := n2_; have GE101 := n3_; clear n0_ n1_ n2_ n3_; clear hb hbox hg; have hcz9_0 : w8.cell? ⟨gb101, 0, none⟩ = some (.int .i32 a0_0) := (blk_cell BK101.out 0).trans rfl; have hcz9_1 : w8.cell? ⟨gb101, 1, none⟩ = some (.int .i32 a0_1) := (blk_cell BK101.out 1).trans rfl; have hcz9_2 : w8.cell? ⟨gb101, 2, none⟩ = some (.int .i32 a0_2) := (blk_cell BK101.out 2).trans rfl; have hcz9_3 : w8.cell? ⟨gb101, 3, none⟩ = some (.int .u8 a0_3) := (blk_cell BK101.out 3).trans rfl; have hcz9_4 : w8.cell? ⟨gb101, 4, none⟩ = some (.int .u8 a0_4) := (blk_cell BK101.out 4).trans rfl; have hcz9_5 : w8.cell? ⟨gb101, 5, none⟩ = some (.int .u8 a0_5) := (blk_cell BK101.out 5).trans rfl; have hcz9_6 : w8.cell? ⟨gb101, 6, none⟩ = some (.bool a0_6) := (blk_cell BK101.out 6).trans rfl; have hfz9_0 := blk_frozen BK101.out 0; have hfz9_1 := blk_frozen BK101.out 1; have hfz9_2 := blk_frozen BK101.out 2; have hfz9_3 := blk_frozen BK101.out 3; have hfz9_4 := blk_frozen BK101.out 4; have hfz9_5 := blk_frozen BK101.out 5; have hfz9_6 := blk_frozen BK101.out 6))
              go_ret
              exact ⟨by first | rfl | (simp [errW_none, errW_some] <;> rfl) | (simp [*, errW_none, errW_some] <;> rfl), by repeat (first | (with_reducible first | exact HB.out | apply below_alloc | apply pw_below_drewN | apply below_drew1 | refine below_set ?_ GE101.out) | exact HB.out)⟩
            · rw [if_neg c7] at H
              have c7b0 : (a0_5 == 0) = false := beq_eq_false_iff_ne.mpr c7
              have c7b1 : (a0_5 != 0) = true := bne_iff_ne.mpr c7
              obtain rfl := Option.some.inj H
              go_enter Tryz.func60, Tryz.ntmps60
              go_wp2_with (first | ((with_reducible refine gate_dst (N := 1) rfl ?_); refine box_event ?hg (N := 1) ?hd (cs := #[.int .i32 a0_0, .int .i32 a0_1, .int .i32 a0_2, .int .u8 a0_3, .int .u8 a0_4, .int .u8 a0_5, .bool a0_6]) (t := 94) ?hr ?_; (case hd => rfl); (case hg => rfl); (case hr => first | (go_simp; done) | (go_simp; rfl)); intro gb101 hg w10 hbox hb; have n0_ := Aside0.mk (below_step (by repeat (first | (with_reducible first | exact HB.out | apply below_alloc | apply pw_below_drewN | apply below_drew1) | exact HB.out)) hb); have n1_ := Aside0.mk (hbox); have n2_ := Aside0.mk ((by rw [hg]; exact (below_size (by repeat (first | (with_reducible first | exact HB.out | apply below_alloc | apply pw_below_drewN | apply below_drew1) | exact HB.out))) : w.heap.size ≤ gb101)); have n3_ := Aside0.mk ((by rw [hg]; exact (below_size (by repeat (first | (with_reducible first | exact HB.out | apply below_alloc | apply pw_below_drewN | apply below_drew1) | exact HB.out))) : w.heap.size ≤ gb101)); clear HB; have HB := n0_; have BK101 := n1_; have GW101 := n2_; have GE101 := n3_; clear n0_ n1_ n2_ n3_; clear hb hbox hg; have hcz11_0 : w10.cell? ⟨gb101, 0, none⟩ = some (.int .i32 a0_0) := (blk_cell BK101.out 0).trans rfl; have hcz11_1 : w10.cell? ⟨gb101, 1, none⟩ = some (.int .i32 a0_1) := (blk_cell BK101.out 1).trans rfl; have hcz11_2 : w10.cell? ⟨gb101, 2, none⟩ = some (.int .i32 a0_2) := (blk_cell BK101.out 2).trans rfl; have hcz11_3 : w10.cell? ⟨gb101, 3, none⟩ = some (.int .u8 a0_3) := (blk_cell BK101.out 3).trans rfl; have hcz11_4 : w10.cell? ⟨gb101, 4, none⟩ = some (.int .u8 a0_4) := (blk_cell BK101.out 4).trans rfl; have hcz11_5 : w10.cell? ⟨gb101, 5, none⟩ = some (.int .u8 a0_5) := (blk_cell BK101.out 5).trans rfl; have hcz11_6 : w10.cell? ⟨gb101, 6, none⟩ = some (.bool a0_6) := (blk_cell BK101.out 6).trans rfl; have hfz11_0 := blk_frozen BK101.out 0; have hfz11_1 := blk_frozen BK101.out 1; have hfz11_2 := blk_frozen BK101.out 2; have hfz11_3 := blk_frozen BK101.out 3; have hfz11_4 := blk_frozen BK101.out 4; have hfz11_5 := blk_frozen BK101.out 5; have hfz11_6 := blk_frozen BK101.out 6))
              go_ret
              exact ⟨by first | rfl | (simp [errW_none, errW_some] <;> rfl) | (simp [*, errW_none, errW_some] <;> rfl), by repeat (first | (with_reducible first | exact HB.out | apply below_alloc | apply pw_below_drewN | apply below_drew1 | refine below_set ?_ GE101.out) | exact HB.out)⟩
          · rw [if_neg c6] at H
            have c6b0 : (a0_4 == 0) = false := beq_eq_false_iff_ne.mpr c6
            have c6b1 : (a0_4 != 0) = true := bne_iff_ne.mpr c6
            obtain rfl := Option.some.inj H
            go_enter Tryz.func60, Tryz.ntmps60
            go_wp2_with (first | ((with_reducible refine gate_dst (N := 1) rfl ?_); refine box_event ?hg (N := 1) ?hd (cs := #[.int .i32 a0_0, .int .i32 a0_1, .int .i32 a0_2, .int .u8 a0_3, .int .u8 a0_4, .int .u8 a0_5, .bool a0_6]) (t := 94) ?hr ?_; (case hd => rfl); (case hg => rfl); (case hr => first | (go_simp; done) | (go_simp; rfl)); intro gb101 hg w12 hbox hb; have n0_ := Aside0.mk (below_step (by repeat (first | (with_reducible first | exact HB.out | apply below_alloc | apply pw_below_drewN | apply below_drew1) | exact HB.out)) hb); have n1_ := Aside0.mk (hbox); have n2_ := Aside0.mk ((by rw [hg]; exact (below_size (by repeat (first | (with_reducible first | exact HB.out | apply below_alloc | apply pw_below_drewN | apply below_drew1) | exact HB.out))) : w.heap.size ≤ gb101)); have n3_ := Aside0.mk ((by rw [hg]; exact (below_size (by repeat (first | (with_reducible first | exact HB.out | apply below_alloc | apply pw_below_drewN | apply below_drew1) | exact HB.out))) : w.heap.size ≤ gb101)); clear HB; have HB := n0_; have BK101 := n1_; have GW101 := n2_; have GE101 := n3_; clear n0_ n1_ n2_ n3_; clear hb hbox hg; have hcz13_0 : w12.cell? ⟨gb101, 0, none⟩ = some (.int .i32 a0_0) := (blk_cell BK101.out 0).trans rfl; have hcz13_1 : w12.cell? ⟨gb101, 1, none⟩ = some (.int .i32 a0_1) := (blk_cell BK101.out 1).trans rfl; have hcz13_2 : w12.cell? ⟨gb101, 2, none⟩ = some (.int .i32 a0_2) := (blk_cell BK101.out 2).trans rfl; have hcz13_3 : w12.cell? ⟨gb101, 3, none⟩ = some (.int .u8 a0_3) := (blk_cell BK101.out 3).trans rfl; have hcz13_4 : w12.cell? ⟨gb101, 4, none⟩ = some (.int .u8 a0_4) := (blk_cell BK101.out 4).trans rfl; have hcz13_5 : w12.cell? ⟨gb101, 5, none⟩ = some (.int .u8 a0_5) := (blk_cell BK101.out 5).trans rfl; have hcz13_6 : w12.cell? ⟨gb101, 6, none⟩ = some (.bool a0_6) := (blk_cell BK101.out 6).trans rfl; have hfz13_0 := blk_frozen BK101.out 0; have hfz13_1 := blk_frozen BK101.out 1; have hfz13_2 := blk_frozen BK101.out 2; have hfz13_3 := blk_frozen BK101.out 3; have hfz13_4 := blk_frozen BK101.out 4; have hfz13_5 := blk_frozen BK101.out 5; have hfz13_6 := blk_frozen BK101.out 6))
            go_ret
            exact ⟨by first | rfl | (simp [errW_none, errW_some] <;> rfl) | (simp [*, errW_none, errW_some] <;> rfl), by repeat (first | (with_reducible first | exact HB.out | apply below_alloc | apply pw_below_drewN | apply below_drew1 | refine below_set ?_ GE101.out) | exact HB.out)⟩
        · rw [if_neg c5] at H
          have c5b0 : (a0_3 == 0) = false := beq_eq_false_iff_ne.mpr c5
          have c5b1 : (a0_3 != 0) = true := bne_iff_ne.mpr c5
          obtain rfl := Option.some.inj H
          go_enter Tryz.func60, Tryz.ntmps60
          go_wp2_with (first | ((with_reducible refine gate_dst (N := 1) rfl ?_); refine box_event ?hg (N := 1) ?hd (cs := #[.int .i32 a0_0, .int .i32 a0_1, .int .i32 a0_2, .int .u8 a0_3, .int .u8 a0_4, .int .u8 a0_5, .bool a0_6]) (t := 94) ?hr ?_; (case hd => rfl); (case hg => rfl); (case hr => first | (go_simp; done) | (go_simp; rfl)); intro gb101 hg w14 hbox hb; have n0_ := Aside0.mk (below_step (by repeat (first | (with_reducible first | exact HB.out | apply below_alloc | apply pw_below_drewN | apply below_drew1) | exact HB.out)) hb); have n1_ := Aside0.mk (hbox); have n2_ := Aside0.mk ((by rw [hg]; exact (below_size (by repeat (first | (with_reducible first | exact HB.out | apply below_alloc | apply pw_below_drewN | apply below_drew1) | exact HB.out))) : w.heap.size ≤ gb101)); have n3_ := Aside0.mk ((by rw [hg]; exact (below_size (by repeat (first | (with_reducible first | exact HB.out | apply below_alloc | apply pw_below_drewN | apply below_drew1) | exact HB.out))) : w.heap.size ≤ gb101)); clear HB; have HB := n0_; have BK101 := n1_; have GW101 := n2_; have GE101 := n3_; clear n0_ n1_ n2_ n3_; clear hb hbox hg; have hcz15_0 : w14.cell? ⟨gb101, 0, none⟩ = some (.int .i32 a0_0) := (blk_cell BK101.out 0).trans rfl; have hcz15_1 : w14.cell? ⟨gb101, 1, none⟩ = some (.int .i32 a0_1) := (blk_cell BK101.out 1).trans rfl; have hcz15_2 : w14.cell? ⟨gb101, 2, none⟩ = some (.int .i32 a0_2) := (blk_cell BK101.out 2).trans rfl; have hcz15_3 : w14.cell? ⟨gb101, 3, none⟩ = some (.int .u8 a0_3) := (blk_cell BK101.out 3).trans rfl; have hcz15_4 : w14.cell? ⟨gb101, 4, none⟩ = some (.int .u8 a0_4) := (blk_cell BK101.out 4).trans rfl; have hcz15_5 : w14.cell? ⟨gb101, 5, none⟩ = some (.int .u8 a0_5) := (blk_cell BK101.out 5).trans rfl; have hcz15_6 : w14.cell? ⟨gb101, 6, none⟩ = some (.bool a0_6) := (blk_cell BK101.out 6).trans rfl; have hfz15_0 := blk_frozen BK101.out 0; have hfz15_1 := blk_frozen BK101.out 1; have hfz15_2 := blk_frozen BK101.out 2; have hfz15_3 := blk_frozen BK101.out 3; have hfz15_4 := blk_frozen BK101.out 4; have hfz15_5 := blk_frozen BK101.out 5; have hfz15_6 := blk_frozen BK101.out 6))
          go_ret
          exact ⟨by first | rfl | (simp [errW_none, errW_some] <;> rfl) | (simp [*, errW_none, errW_some] <;> rfl), by repeat (first | (with_reducible first | exact HB.out | apply below_alloc | apply pw_below_drewN | apply below_drew1 | refine below_set ?_ GE101.out) | exact HB.out)⟩
      · rw [if_neg c4] at H
        have c4b0 : (a0_2 == 0) = false := beq_eq_false_iff_ne.mpr c4
        have c4b1 : (a0_2 != 0) = true := bne_iff_ne.mpr c4
        obtain rfl := Option.some.inj H
        go_enter Tryz.func60, Tryz.ntmps60
        go_wp2_with (first | ((with_reducible refine gate_dst (N := 1) rfl ?_); refine box_event ?hg (N := 1) ?hd (cs := #[.int .i32 a0_0, .int .i32 a0_1, .int .i32 a0_2, .int .u8 a0_3, .int .u8 a0_4, .int .u8 a0_5, .bool a0_6]) (t := 94) ?hr ?_; (case hd => rfl); (case hg => rfl); (case hr => first | (go_simp; done) | (go_simp; rfl)); intro gb101 hg w16 hbox hb; have n0_ := Aside0.mk (below_step (by repeat (first | (with_reducible first | exact HB.out | apply below_alloc | apply pw_below_drewN | apply below_drew1) | exact HB.out)) hb); have n1_ := Aside0.mk (hbox); have n2_ := Aside0.mk ((by rw [hg]; exact (below_size (by repeat (first | (with_reducible first | exact HB.out | apply below_alloc | apply pw_below_drewN | apply below_drew1) | exact HB.out))) : w.heap.size ≤ gb101)); have n3_ := Aside0.mk ((by rw [hg]; exact (below_size (by repeat (first | (with_reducible first | exact HB.out | apply below_alloc | apply pw_below_drewN | apply below_drew1) | exact HB.out))) : w.heap.size ≤ gb101)); clear HB; have HB := n0_; have BK101 := n1_; have GW101 := n2_; have GE101 := n3_; clear n0_ n1_ n2_ n3_; clear hb hbox hg; have hcz17_0 : w16.cell? ⟨gb101, 0, none⟩ = some (.int .i32 a0_0) := (blk_cell BK101.out 0).trans rfl; have hcz17_1 : w16.cell? ⟨gb101, 1, none⟩ = some (.int .i32 a0_1) := (blk_cell BK101.out 1).trans rfl; have hcz17_2 : w16.cell? ⟨gb101, 2, none⟩ = some (.int .i32 a0_2) := (blk_cell BK101.out 2).trans rfl; have hcz17_3 : w16.cell? ⟨gb101, 3, none⟩ = some (.int .u8 a0_3) := (blk_cell BK101.out 3).trans rfl; have hcz17_4 : w16.cell? ⟨gb101, 4, none⟩ = some (.int .u8 a0_4) := (blk_cell BK101.out 4).trans rfl; have hcz17_5 : w16.cell? ⟨gb101, 5, none⟩ = some (.int .u8 a0_5) := (blk_cell BK101.out 5).trans rfl; have hcz17_6 : w16.cell? ⟨gb101, 6, none⟩ = some (.bool a0_6) := (blk_cell BK101.out 6).trans rfl; have hfz17_0 := blk_frozen BK101.out 0; have hfz17_1 := blk_frozen BK101.out 1; have hfz17_2 := blk_frozen BK101.out 2; have hfz17_3 := blk_frozen BK101.out 3; have hfz17_4 := blk_frozen BK101.out 4; have hfz17_5 := blk_frozen BK101.out 5; have hfz17_6 := blk_frozen BK101.out 6))
        go_ret
        exact ⟨by first | rfl | (simp [errW_none, errW_some] <;> rfl) | (simp [*, errW_none, errW_some] <;> rfl), by repeat (first | (with_reducible first | exact HB.out | apply below_alloc | apply pw_below_drewN | apply below_drew1 | refine below_set ?_ GE101.out) | exact HB.out)⟩
    · rw [if_neg c3] at H
      have c3b0 : (a0_1 == 0) = false := beq_eq_false_iff_ne.mpr c3
      have c3b1 : (a0_1 != 0) = true := bne_iff_ne.mpr c3
      obtain rfl := Option.some.inj H
      go_enter Tryz.func60, Tryz.ntmps60
      go_wp2_with (first | ((with_reducible refine gate_dst (N := 1) rfl ?_); refine box_event ?hg (N := 1) ?hd (cs := #[.int .i32 a0_0, .int .i32 a0_1, .int .i32 a0_2, .int .u8 a0_3, .int .u8 a0_4, .int .u8 a0_5, .bool a0_6]) (t := 94) ?hr ?_; (case hd => rfl); (case hg => rfl); (case hr => first | (go_simp; done) | (go_simp; rfl)); intro gb101 hg w18 hbox hb; have n0_ := Aside0.mk (below_step (by repeat (first | (with_reducible first | exact HB.out | apply below_alloc | apply pw_below_drewN | apply below_drew1) | exact HB.out)) hb); have n1_ := Aside0.mk (hbox); have n2_ := Aside0.mk ((by rw [hg]; exact (below_size (by repeat (first | (with_reducible first | exact HB.out | apply below_alloc | apply pw_below_drewN | apply below_drew1) | exact HB.out))) : w.heap.size ≤ gb101)); have n3_ := Aside0.mk ((by rw [hg]; exact (below_size (by repeat (first | (with_reducible first | exact HB.out | apply below_alloc | apply pw_below_drewN | apply below_drew1) | exact HB.out))) : w.heap.size ≤ gb101)); clear HB; have HB := n0_; have BK101 := n1_; have GW101 := n2_; have GE101 := n3_; clear n0_ n1_ n2_ n3_; clear hb hbox hg; have hcz19_0 : w18.cell? ⟨gb101, 0, none⟩ = some (.int .i32 a0_0) := (blk_cell BK101.out 0).trans rfl; have hcz19_1 : w18.cell? ⟨gb101, 1, none⟩ = some (.int .i32 a0_1) := (blk_cell BK101.out 1).trans rfl; have hcz19_2 : w18.cell? ⟨gb101, 2, none⟩ = some (.int .i32 a0_2) := (blk_cell BK101.out 2).trans rfl; have hcz19_3 : w18.cell? ⟨gb101, 3, none⟩ = some (.int .u8 a0_3) := (blk_cell BK101.out 3).trans rfl; have hcz19_4 : w18.cell? ⟨gb101, 4, none⟩ = some (.int .u8 a0_4) := (blk_cell BK101.out 4).trans rfl; have hcz19_5 : w18.cell? ⟨gb101, 5, none⟩ = some (.int .u8 a0_5) := (blk_cell BK101.out 5).trans rfl; have hcz19_6 : w18.cell? ⟨gb101, 6, none⟩ = some (.bool a0_6) := (blk_cell BK101.out 6).trans rfl; have hfz19_0 := blk_frozen BK101.out 0; have hfz19_1 := blk_frozen BK101.out 1; have hfz19_2 := blk_frozen BK101.out 2; have hfz19_3 := blk_frozen BK101.out 3; have hfz19_4 := blk_frozen BK101.out 4; have hfz19_5 := blk_frozen BK101.out 5; have hfz19_6 := blk_frozen BK101.out 6))
      go_ret
      exact ⟨by first | rfl | (simp [errW_none, errW_some] <;> rfl) | (simp [*, errW_none, errW_some] <;> rfl), by repeat (first | (with_reducible first | exact HB.out | apply below_alloc | apply pw_below_drewN | apply below_drew1 | refine below_set ?_ GE101.out) | exact HB.out)⟩
  · rw [if_neg c2] at H
    have c2b0 : (a0_0 == 0) = false := beq_eq_false_iff_ne.mpr c2
    have c2b1 : (a0_0 != 0) = true := bne_iff_ne.mpr c2
    obtain rfl := Option.some.inj H
    go_enter Tryz.func60, Tryz.ntmps60
    go_wp2_with (first | ((with_reducible refine gate_dst (N := 1) rfl ?_); refine box_event ?hg (N := 1) ?hd (cs := #[.int .i32 a0_0, .int .i32 a0_1, .int .i32 a0_2, .int .u8 a0_3, .int .u8 a0_4, .int .u8 a0_5, .bool a0_6]) (t := 94) ?hr ?_; (case hd => rfl); (case hg => rfl); (case hr => first | (go_simp; done) | (go_simp; rfl)); intro gb101 hg w20 hbox hb; have n0_ := Aside0.mk (below_step (by repeat (first | (with_reducible first | exact HB.out | apply below_alloc | apply pw_below_drewN | apply below_drew1) | exact HB.out)) hb); have n1_ := Aside0.mk (hbox); have n2_ := Aside0.mk ((by rw [hg]; exact (below_size (by repeat (first | (with_reducible first | exact HB.out | apply below_alloc | apply pw_below_drewN | apply below_drew1) | exact HB.out))) : w.heap.size ≤ gb101)); have n3_ := Aside0.mk ((by rw [hg]; exact (below_size (by repeat (first | (with_reducible first | exact HB.out | apply below_alloc | apply pw_below_drewN | apply below_drew1) | exact HB.out))) : w.heap.size ≤ gb101)); clear HB; have HB := n0_; have BK101 := n1_; have GW101 := n2_; have GE101 := n3_; clear n0_ n1_ n2_ n3_; clear hb hbox hg; have hcz21_0 : w20.cell? ⟨gb101, 0, none⟩ = some (.int .i32 a0_0) := (blk_cell BK101.out 0).trans rfl; have hcz21_1 : w20.cell? ⟨gb101, 1, none⟩ = some (.int .i32 a0_1) := (blk_cell BK101.out 1).trans rfl; have hcz21_2 : w20.cell? ⟨gb101, 2, none⟩ = some (.int .i32 a0_2) := (blk_cell BK101.out 2).trans rfl; have hcz21_3 : w20.cell? ⟨gb101, 3, none⟩ = some (.int .u8 a0_3) := (blk_cell BK101.out 3).trans rfl; have hcz21_4 : w20.cell? ⟨gb101, 4, none⟩ = some (.int .u8 a0_4) := (blk_cell BK101.out 4).trans rfl; have hcz21_5 : w20.cell? ⟨gb101, 5, none⟩ = some (.int .u8 a0_5) := (blk_cell BK101.out 5).trans rfl; have hcz21_6 : w20.cell? ⟨gb101, 6, none⟩ = some (.bool a0_6) := (blk_cell BK101.out 6).trans rfl; have hfz21_0 := blk_frozen BK101.out 0; have hfz21_1 := blk_frozen BK101.out 1; have hfz21_2 := blk_frozen BK101.out 2; have hfz21_3 := blk_frozen BK101.out 3; have hfz21_4 := blk_frozen BK101.out 4; have hfz21_5 := blk_frozen BK101.out 5; have hfz21_6 := blk_frozen BK101.out 6))
    go_ret
    exact ⟨by first | rfl | (simp [errW_none, errW_some] <;> rfl) | (simp [*, errW_none, errW_some] <;> rfl), by repeat (first | (with_reducible first | exact HB.out | apply below_alloc | apply pw_below_drewN | apply below_drew1 | refine below_set ?_ GE101.out) | exact HB.out)⟩
def wf_S94 (x : S94) : Prop := (IntKind.i32.min ≤ x.f0 ∧ x.f0 ≤ IntKind.i32.max) ∧ (IntKind.i32.min ≤ x.f1 ∧ x.f1 ≤ IntKind.i32.max) ∧ (IntKind.i32.min ≤ x.f2 ∧ x.f2 ≤ IntKind.i32.max) ∧ (IntKind.u8.min ≤ x.f3 ∧ x.f3 ≤ IntKind.u8.max) ∧ (IntKind.u8.min ≤ x.f4 ∧ x.f4 ≤ IntKind.u8.max) ∧ (IntKind.u8.min ≤ x.f5 ∧ x.f5 ≤ IntKind.u8.max) ∧ (True)
def chroma_StyleEntry_IsZero.Pure : Prop := ∀ (a0_0 : Int) (a0_1 : Int) (a0_2 : Int) (a0_3 : Int) (a0_4 : Int) (a0_5 : Int) (a0_6 : Bool), wf_S94 (⟨a0_0, a0_1, a0_2, a0_3, a0_4, a0_5, a0_6⟩ : S94) → chroma_StyleEntry_IsZero.f a0_0 a0_1 a0_2 a0_3 a0_4 a0_5 a0_6 = some true

/-! ### chroma_Colour_Red: function 110 -/
def chroma_Colour_Red.f (a0 : Int) : Option (Int) := some ((Go.bits .and .i32 ((wrap32 (a0 - 1)) / 65536) 255) % 256)
set_option maxHeartbeats 8000000 in
set_option maxRecDepth 100000 in
theorem chroma_Colour_Red.calls (a0 : Int) (r : Int) (w : World) (h : chroma_Colour_Red.f a0 = some r) :
    Calls Tryz.prog 110 #[.int .i32 a0] w fun e w' => e = .returned (.int .u8 r) ∧ Drawn0 w w' := by
  have H : (some ((Go.bits .and .i32 ((wrap32 (a0 - 1)) / 65536) 255) % 256)) = some r := h
  clear h
  obtain rfl := Option.some.inj H
  go_enter Tryz.func110, Tryz.ntmps110
  go_wp2
  go_ret
  exact ⟨by first | rfl | (simp; done) | (simp [*]; done), by repeat (first | exact Drawn0.refl _ | apply Drawn0.step)⟩

/-! ### chroma_Colour_Green: function 111 -/
def chroma_Colour_Green.f (a0 : Int) : Option (Int) := some ((Go.bits .and .i32 ((wrap32 (a0 - 1)) / 256) 255) % 256)
set_option maxHeartbeats 8000000 in
set_option maxRecDepth 100000 in
theorem chroma_Colour_Green.calls (a0 : Int) (r : Int) (w : World) (h : chroma_Colour_Green.f a0 = some r) :
    Calls Tryz.prog 111 #[.int .i32 a0] w fun e w' => e = .returned (.int .u8 r) ∧ Drawn0 w w' := by
  have H : (some ((Go.bits .and .i32 ((wrap32 (a0 - 1)) / 256) 255) % 256)) = some r := h
  clear h
  obtain rfl := Option.some.inj H
  go_enter Tryz.func111, Tryz.ntmps111
  go_wp2
  go_ret
  exact ⟨by first | rfl | (simp; done) | (simp [*]; done), by repeat (first | exact Drawn0.refl _ | apply Drawn0.step)⟩

/-! ### chroma_Colour_Blue: function 112 -/
def chroma_Colour_Blue.f (a0 : Int) : Option (Int) := some ((Go.bits .and .i32 (wrap32 (a0 - 1)) 255) % 256)
set_option maxHeartbeats 8000000 in
set_option maxRecDepth 100000 in
theorem chroma_Colour_Blue.calls (a0 : Int) (r : Int) (w : World) (h : chroma_Colour_Blue.f a0 = some r) :
    Calls Tryz.prog 112 #[.int .i32 a0] w fun e w' => e = .returned (.int .u8 r) ∧ Drawn0 w w' := by
  have H : (some ((Go.bits .and .i32 (wrap32 (a0 - 1)) 255) % 256)) = some r := h
  clear h
  obtain rfl := Option.some.inj H
  go_enter Tryz.func112, Tryz.ntmps112
  go_wp2
  go_ret
  exact ⟨by first | rfl | (simp; done) | (simp [*]; done), by repeat (first | exact Drawn0.refl _ | apply Drawn0.step)⟩

/-! ### chroma_NewColour: function 141 -/
def chroma_NewColour.f (a0 : Int) (a1 : Int) (a2 : Int) : Option (Int) := some (wrap32 ((Go.bits .or .i32 (Go.bits .or .i32 (wrap32 ((wrap32 (a0)) * 65536)) (wrap32 ((wrap32 (a1)) * 256))) (wrap32 (a2))) + 1))
set_option maxHeartbeats 8000000 in
set_option maxRecDepth 100000 in
theorem chroma_NewColour.calls (a0 : Int) (a1 : Int) (a2 : Int) (r : Int) (w : World) (h : chroma_NewColour.f a0 a1 a2 = some r) :
    Calls Tryz.prog 141 #[.int .u8 a0, .int .u8 a1, .int .u8 a2] w fun e w' => e = .returned (.int .i32 r) ∧ Drawn0 w w' := by
  have H : (some (wrap32 ((Go.bits .or .i32 (Go.bits .or .i32 (wrap32 ((wrap32 (a0)) * 65536)) (wrap32 ((wrap32 (a1)) * 256))) (wrap32 (a2))) + 1))) = some r := h
  clear h
  obtain rfl := Option.some.inj H
  go_enter Tryz.func141, Tryz.ntmps141
  go_wp2
  go_ret
  exact ⟨by first | rfl | (simp; done) | (simp [*]; done), by repeat (first | exact Drawn0.refl _ | apply Drawn0.step)⟩

/-! ### chroma_TokenType_Category: function 97 -/
def chroma_TokenType_Category.f (a0 : Int) : Option (Int) := some (wrap64 ((wrap64 (Int.tdiv a0 1000)) * 1000))
set_option maxHeartbeats 8000000 in
set_option maxRecDepth 100000 in
theorem chroma_TokenType_Category.calls (a0 : Int) (r : Int) (w : World) (h : chroma_TokenType_Category.f a0 = some r) :
    Calls Tryz.prog 97 #[.int .i64 a0] w fun e w' => e = .returned (.int .i64 r) ∧ Drawn0 w w' := by
  have H : (some (wrap64 ((wrap64 (Int.tdiv a0 1000)) * 1000))) = some r := h
  clear h
  obtain rfl := Option.some.inj H
  go_enter Tryz.func97, Tryz.ntmps97
  go_wp2
  go_ret
  exact ⟨by first | rfl | (simp; done) | (simp [*]; done), by repeat (first | exact Drawn0.refl _ | apply Drawn0.step)⟩

/-! ### chroma_TokenType_SubCategory: function 98 -/
def chroma_TokenType_SubCategory.f (a0 : Int) : Option (Int) := some (wrap64 ((wrap64 (Int.tdiv a0 100)) * 100))
set_option maxHeartbeats 8000000 in
set_option maxRecDepth 100000 in
theorem chroma_TokenType_SubCategory.calls (a0 : Int) (r : Int) (w : World) (h : chroma_TokenType_SubCategory.f a0 = some r) :
    Calls Tryz.prog 98 #[.int .i64 a0] w fun e w' => e = .returned (.int .i64 r) ∧ Drawn0 w w' := by
  have H : (some (wrap64 ((wrap64 (Int.tdiv a0 100)) * 100))) = some r := h
  clear h
  obtain rfl := Option.some.inj H
  go_enter Tryz.func98, Tryz.ntmps98
  go_wp2
  go_ret
  exact ⟨by first | rfl | (simp; done) | (simp [*]; done), by repeat (first | exact Drawn0.refl _ | apply Drawn0.step)⟩

/-! ### impl_plain: function 50 -/
def impl_plain.f (a0_0 : Int) (a0_1 : Int) (a0_2 : Int) (a0_3 : Int) (a0_4 : Int) (a0_5 : Int) (a0_6 : Bool) : Option (Int × Int × Int × Int × Int × Int × Bool) := some (a0_0, a0_1, a0_2, a0_3, a0_4, a0_5, a0_6)
set_option maxHeartbeats 8000000 in
set_option maxRecDepth 100000 in
theorem impl_plain.calls (a0_0 : Int) (a0_1 : Int) (a0_2 : Int) (a0_3 : Int) (a0_4 : Int) (a0_5 : Int) (a0_6 : Bool) (r1 : Int) (r2 : Int) (r3 : Int) (r4 : Int) (r5 : Int) (r6 : Int) (r7 : Bool) (w : World) (h : impl_plain.f a0_0 a0_1 a0_2 a0_3 a0_4 a0_5 a0_6 = some (r1, r2, r3, r4, r5, r6, r7)) :
    Calls Tryz.prog 50 #[.agg #[.int .i32 a0_0, .int .i32 a0_1, .int .i32 a0_2, .int .u8 a0_3, .int .u8 a0_4, .int .u8 a0_5, .bool a0_6]] w fun e w' => e = .returned (.agg #[.int .i32 r1, .int .i32 r2, .int .i32 r3, .int .u8 r4, .int .u8 r5, .int .u8 r6, .bool r7]) ∧ Below w.heap.size w w' := by
  have hu94 := Tryz.underlying94
  have hu71 := Tryz.underlying71
  have HB := Aside0.mk (Below.refl w.heap.size w)
  have H : (some (a0_0, a0_1, a0_2, a0_3, a0_4, a0_5, a0_6)) = some (r1, r2, r3, r4, r5, r6, r7) := h
  clear h
  simp only [Option.some.injEq, Prod.mk.injEq] at H
  obtain ⟨rfl, rfl, rfl, rfl, rfl, rfl, rfl⟩ := H
  go_enter Tryz.func50, Tryz.ntmps50
  go_wp2_with (first | ((with_reducible refine gate_dst (N := 1) rfl ?_); refine box_event ?hg (N := 1) ?hd (cs := #[.int .i32 a0_0, .int .i32 a0_1, .int .i32 a0_2, .int .u8 a0_3, .int .u8 a0_4, .int .u8 a0_5, .bool a0_6]) (t := 94) ?hr ?_; (case hd => rfl); (case hg => rfl); (case hr => first | (go_simp; done) | (go_simp; rfl)); intro gb102 hg w2 hbox hb; have n0_ := Aside0.mk (below_step (by repeat (first | (with_reducible first | exact HB.out | apply below_alloc | apply pw_below_drewN | apply below_drew1) | exact HB.out)) hb); have n1_ := Aside0.mk (hbox); have n2_ := Aside0.mk ((by rw [hg]; exact (below_size (by repeat (first | (with_reducible first | exact HB.out | apply below_alloc | apply pw_below_drewN | apply below_drew1) | exact HB.out))) : w.heap.size ≤ gb102)); have n3_ := Aside0.mk ((by rw [hg]; exact (below_size (by repeat (first | (with_reducible first | exact HB.out | apply below_alloc | apply pw_below_drewN | apply below_drew1) | exact HB.out))) : w.heap.size ≤ gb102)); clear HB; have HB := n0_; have BK102 := n1_; have GW102 := n2_; have GE102 := n3_; clear n0_ n1_ n2_ n3_; clear hb hbox hg) | ((with_reducible refine gate_dst (N := 2) rfl ?_); refine box_event ?hg (N := 2) ?hd (cs := #[.int .i32 0, .int .i32 0, .int .i32 0, .int .u8 0, .int .u8 0, .int .u8 0, .bool false]) (t := 71) ?hr ?_; (case hd => rfl); (case hg => rfl); (case hr => first | (go_simp; done) | (go_simp; rfl)); intro gb103 hg w3 hbox hb; have n0_ := Aside0.mk (blk_below (g := gb102) (o := .cells #[.int .i32 a0_0, .int .i32 a0_1, .int .i32 a0_2, .int .u8 a0_3, .int .u8 a0_4, .int .u8 a0_5, .bool a0_6] 94 (0, 0)) (by (with_reducible repeat (first | refine blk_drewN ?_ _ | refine blk_drew ?_ | refine blk_alloc ?_ _)); exact BK102.out) hb); have n1_ := Aside0.mk (below_step (by repeat (first | (with_reducible first | exact HB.out | apply below_alloc | apply pw_below_drewN | apply below_drew1 | refine below_set ?_ GE102.out) | exact HB.out)) hb); have n2_ := Aside0.mk (hbox); have n3_ := Aside0.mk ((by rw [hg]; exact (below_size (by repeat (first | (with_reducible first | exact HB.out | apply below_alloc | apply pw_below_drewN | apply below_drew1 | refine below_set ?_ GE102.out) | exact HB.out))) : w.heap.size ≤ gb103)); have n4_ := Aside0.mk ((by rw [hg]; exact (below_size (by repeat (first | (with_reducible first | exact HB.out | apply below_alloc | apply pw_below_drewN | apply below_drew1 | refine below_set ?_ GE102.out) | exact HB.out))) : w.heap.size ≤ gb103)); have n5_ := Aside0.mk ((by rw [hg]; exact Nat.ne_of_lt (blk_lt (g := gb102) (o := .cells #[.int .i32 a0_0, .int .i32 a0_1, .int .i32 a0_2, .int .u8 a0_3, .int .u8 a0_4, .int .u8 a0_5, .bool a0_6] 94 (0, 0)) (by (with_reducible repeat (first | refine blk_drewN ?_ _ | refine blk_drew ?_ | refine blk_alloc ?_ _)); exact BK102.out)) : gb102 ≠ gb103)); have n6_ := Aside0.mk ((by rw [hg]; exact Nat.ne_of_gt (blk_lt (g := gb102) (o := .cells #[.int .i32 a0_0, .int .i32 a0_1, .int .i32 a0_2, .int .u8 a0_3, .int .u8 a0_4, .int .u8 a0_5, .bool a0_6] 94 (0, 0)) (by (with_reducible repeat (first | refine blk_drewN ?_ _ | refine blk_drew ?_ | refine blk_alloc ?_ _)); exact BK102.out)) : gb103 ≠ gb102)); clear BK102; clear HB; have BK102 := n0_; have HB := n1_; have BK103 := n2_; have GW103 := n3_; have GE103 := n4_; have NB102_103 := n5_; have NB103_102 := n6_; clear n0_ n1_ n2_ n3_ n4_ n5_ n6_; clear hb hbox hg; have hnb4 := NB102_103.out; have hnc4 := NB103_102.out; have hcz5_0 : w3.cell? ⟨gb102, 0, none⟩ = some (.int .i32 a0_0) := (blk_cell BK102.out 0).trans rfl; have hcz5_1 : w3.cell? ⟨gb102, 1, none⟩ = some (.int .i32 a0_1) := (blk_cell BK102.out 1).trans rfl; have hcz5_2 : w3.cell? ⟨gb102, 2, none⟩ = some (.int .i32 a0_2) := (blk_cell BK102.out 2).trans rfl; have hcz5_3 : w3.cell? ⟨gb102, 3, none⟩ = some (.int .u8 a0_3) := (blk_cell BK102.out 3).trans rfl; have hcz5_4 : w3.cell? ⟨gb102, 4, none⟩ = some (.int .u8 a0_4) := (blk_cell BK102.out 4).trans rfl; have hcz5_5 : w3.cell? ⟨gb102, 5, none⟩ = some (.int .u8 a0_5) := (blk_cell BK102.out 5).trans rfl; have hcz5_6 : w3.cell? ⟨gb102, 6, none⟩ = some (.bool a0_6) := (blk_cell BK102.out 6).trans rfl; have hfz5_0 := blk_frozen BK102.out 0; have hfz5_1 := blk_frozen BK102.out 1; have hfz5_2 := blk_frozen BK102.out 2; have hfz5_3 := blk_frozen BK102.out 3; have hfz5_4 := blk_frozen BK102.out 4; have hfz5_5 := blk_frozen BK102.out 5; have hfz5_6 := blk_frozen BK102.out 6; have hcz6_0 : w3.cell? ⟨gb103, 0, none⟩ = some (.int .i32 0) := (blk_cell BK103.out 0).trans rfl; have hcz6_1 : w3.cell? ⟨gb103, 1, none⟩ = some (.int .i32 0) := (blk_cell BK103.out 1).trans rfl; have hcz6_2 : w3.cell? ⟨gb103, 2, none⟩ = some (.int .i32 0) := (blk_cell BK103.out 2).trans rfl; have hcz6_3 : w3.cell? ⟨gb103, 3, none⟩ = some (.int .u8 0) := (blk_cell BK103.out 3).trans rfl; have hcz6_4 : w3.cell? ⟨gb103, 4, none⟩ = some (.int .u8 0) := (blk_cell BK103.out 4).trans rfl; have hcz6_5 : w3.cell? ⟨gb103, 5, none⟩ = some (.int .u8 0) := (blk_cell BK103.out 5).trans rfl; have hcz6_6 : w3.cell? ⟨gb103, 6, none⟩ = some (.bool false) := (blk_cell BK103.out 6).trans rfl; have hfz6_0 := blk_frozen BK103.out 0; have hfz6_1 := blk_frozen BK103.out 1; have hfz6_2 := blk_frozen BK103.out 2; have hfz6_3 := blk_frozen BK103.out 3; have hfz6_4 := blk_frozen BK103.out 4; have hfz6_5 := blk_frozen BK103.out 5; have hfz6_6 := blk_frozen BK103.out 6))
  refine bodyPost_ret (results_cell_row rfl _ _ gb103 71 #[.int .i32 a0_0, .int .i32 a0_1, .int .i32 a0_2, .int .u8 a0_3, .int .u8 a0_4, .int .u8 a0_5, .bool a0_6] (0, 0) _ rfl (by (with_reducible repeat (first | refine blk_drewN ?_ _ | refine blk_drew ?_ | refine blk_alloc ?_ _)); refine blk_put (cs := #[.int .i32 a0_0, .int .i32 a0_1, .int .i32 a0_2, .int .u8 a0_3, .int .u8 a0_4, .int .u8 a0_5, .bool false]) ?_ 6 _ rfl; (with_reducible repeat (first | refine blk_drewN ?_ _ | refine blk_drew ?_ | refine blk_alloc ?_ _)); refine blk_put (cs := #[.int .i32 a0_0, .int .i32 a0_1, .int .i32 a0_2, .int .u8 a0_3, .int .u8 a0_4, .int .u8 0, .bool false]) ?_ 5 _ rfl; (with_reducible repeat (first | refine blk_drewN ?_ _ | refine blk_drew ?_ | refine blk_alloc ?_ _)); refine blk_put (cs := #[.int .i32 a0_0, .int .i32 a0_1, .int .i32 a0_2, .int .u8 a0_3, .int .u8 0, .int .u8 0, .bool false]) ?_ 4 _ rfl; (with_reducible repeat (first | refine blk_drewN ?_ _ | refine blk_drew ?_ | refine blk_alloc ?_ _)); refine blk_put (cs := #[.int .i32 a0_0, .int .i32 a0_1, .int .i32 a0_2, .int .u8 0, .int .u8 0, .int .u8 0, .bool false]) ?_ 3 _ rfl; (with_reducible repeat (first | refine blk_drewN ?_ _ | refine blk_drew ?_ | refine blk_alloc ?_ _)); refine blk_put (cs := #[.int .i32 a0_0, .int .i32 a0_1, .int .i32 0, .int .u8 0, .int .u8 0, .int .u8 0, .bool false]) ?_ 2 _ rfl; (with_reducible repeat (first | refine blk_drewN ?_ _ | refine blk_drew ?_ | refine blk_alloc ?_ _)); refine blk_put (cs := #[.int .i32 a0_0, .int .i32 0, .int .i32 0, .int .u8 0, .int .u8 0, .int .u8 0, .bool false]) ?_ 1 _ rfl; (with_reducible repeat (first | refine blk_drewN ?_ _ | refine blk_drew ?_ | refine blk_alloc ?_ _)); refine blk_put (cs := #[.int .i32 0, .int .i32 0, .int .i32 0, .int .u8 0, .int .u8 0, .int .u8 0, .bool false]) ?_ 0 _ rfl; (with_reducible repeat (first | refine blk_drewN ?_ _ | refine blk_drew ?_ | refine blk_alloc ?_ _)); exact BK103.out) Tryz.underlying71 rfl (by kernel_rfl)) rfl ?_
  exact ⟨by first | rfl | (simp [errW_none, errW_some] <;> rfl) | (simp [*, errW_none, errW_some] <;> rfl), by repeat (first | (with_reducible first | exact HB.out | apply below_alloc | apply pw_below_drewN | apply below_drew1 | refine below_set ?_ GE102.out | refine below_set ?_ GE103.out) | exact HB.out)⟩

/-! ### impl_entered: function 42 -/
def impl_entered.f (a0_0 : Int) (a0_1 : Int) (a0_2 : Int) (a0_3 : Int) (a0_4 : Int) (a0_5 : Int) (a0_6 : Bool) : Option (Int × Int × Int × Int × Int × Int × Bool) := some (a0_0, a0_1, a0_2, a0_3, a0_4, a0_5, a0_6)
set_option maxHeartbeats 8000000 in
set_option maxRecDepth 100000 in
theorem impl_entered.calls (a0_0 : Int) (a0_1 : Int) (a0_2 : Int) (a0_3 : Int) (a0_4 : Int) (a0_5 : Int) (a0_6 : Bool) (r1 : Int) (r2 : Int) (r3 : Int) (r4 : Int) (r5 : Int) (r6 : Int) (r7 : Bool) (w : World) (h : impl_entered.f a0_0 a0_1 a0_2 a0_3 a0_4 a0_5 a0_6 = some (r1, r2, r3, r4, r5, r6, r7)) :
    Calls Tryz.prog 42 #[.agg #[.int .i32 a0_0, .int .i32 a0_1, .int .i32 a0_2, .int .u8 a0_3, .int .u8 a0_4, .int .u8 a0_5, .bool a0_6]] w fun e w' => e = .returned (.agg #[.int .i32 r1, .int .i32 r2, .int .i32 r3, .int .u8 r4, .int .u8 r5, .int .u8 r6, .bool r7]) ∧ Below w.heap.size w w' := by
  have hu71 := Tryz.underlying71
  have hu94 := Tryz.underlying94
  have HB := Aside0.mk (Below.refl w.heap.size w)
  have H : (some (a0_0, a0_1, a0_2, a0_3, a0_4, a0_5, a0_6)) = some (r1, r2, r3, r4, r5, r6, r7) := h
  clear h
  simp only [Option.some.injEq, Prod.mk.injEq] at H
  obtain ⟨rfl, rfl, rfl, rfl, rfl, rfl, rfl⟩ := H
  go_enter Tryz.func42, Tryz.ntmps42
  go_wp2_with (first | ((with_reducible refine gate_dst (N := 1) rfl ?_); refine box_event ?hg (N := 1) ?hd (cs := #[.int .i32 a0_0, .int .i32 a0_1, .int .i32 a0_2, .int .u8 a0_3, .int .u8 a0_4, .int .u8 a0_5, .bool a0_6]) (t := 71) ?hr ?_; (case hd => rfl); (case hg => rfl); (case hr => first | (go_simp; done) | (go_simp; rfl)); intro gb104 hg w2 hbox hb; have n0_ := Aside0.mk (below_step (by repeat (first | (with_reducible first | exact HB.out | apply below_alloc | apply pw_below_drewN | apply below_drew1) | exact HB.out)) hb); have n1_ := Aside0.mk (hbox); have n2_ := Aside0.mk ((by rw [hg]; exact (below_size (by repeat (first | (with_reducible first | exact HB.out | apply below_alloc | apply pw_below_drewN | apply below_drew1) | exact HB.out))) : w.heap.size ≤ gb104)); have n3_ := Aside0.mk ((by rw [hg]; exact (below_size (by repeat (first | (with_reducible first | exact HB.out | apply below_alloc | apply pw_below_drewN | apply below_drew1) | exact HB.out))) : w.heap.size ≤ gb104)); clear HB; have HB := n0_; have BK104 := n1_; have GW104 := n2_; have GE104 := n3_; clear n0_ n1_ n2_ n3_; clear hb hbox hg) | ((with_reducible refine gate_dst (N := 2) rfl ?_); refine box_event ?hg (N := 2) ?hd (cs := #[.int .i32 0, .int .i32 0, .int .i32 0, .int .u8 0, .int .u8 0, .int .u8 0, .bool false]) (t := 94) ?hr ?_; (case hd => rfl); (case hg => rfl); (case hr => first | (go_simp; done) | (go_simp; rfl)); intro gb105 hg w3 hbox hb; have n0_ := Aside0.mk (blk_below (g := gb104) (o := .cells #[.int .i32 a0_0, .int .i32 a0_1, .int .i32 a0_2, .int .u8 a0_3, .int .u8 a0_4, .int .u8 a0_5, .bool a0_6] 71 (0, 0)) (by (with_reducible repeat (first | refine blk_drewN ?_ _ | refine blk_drew ?_ | refine blk_alloc ?_ _)); exact BK104.out) hb); have n1_ := Aside0.mk (below_step (by repeat (first | (with_reducible first | exact HB.out | apply below_alloc | apply pw_below_drewN | apply below_drew1 | refine below_set ?_ GE104.out) | exact HB.out)) hb); have n2_ := Aside0.mk (hbox); have n3_ := Aside0.mk ((by rw [hg]; exact (below_size (by repeat (first | (with_reducible first | exact HB.out | apply below_alloc | apply pw_below_drewN | apply below_drew1 | refine below_set ?_ GE104.out) | exact HB.out))) : w.heap.size ≤ gb105)); have n4_ := Aside0.mk ((by rw [hg]; exact (below_size (by repeat (first | (with_reducible first | exact HB.out | apply below_alloc | apply pw_below_drewN | apply below_drew1 | refine below_set ?_ GE104.out) | exact HB.out))) : w.heap.size ≤ gb105)); have n5_ := Aside0.mk ((by rw [hg]; exact Nat.ne_of_lt (blk_lt (g := gb104) (o := .cells #[.int .i32 a0_0, .int .i32 a0_1, .int .i32 a0_2, .int .u8 a0_3, .int .u8 a0_4, .int .u8 a0_5, .bool a0_6] 71 (0, 0)) (by (with_reducible repeat (first | refine blk_drewN ?_ _ | refine blk_drew ?_ | refine blk_alloc ?_ _)); exact BK104.out)) : gb104 ≠ gb105)); have n6_ := Aside0.mk ((by rw [hg]; exact Nat.ne_of_gt (blk_lt (g := gb104) (o := .cells #[.int .i32 a0_0, .int .i32 a0_1, .int .i32 a0_2, .int .u8 a0_3, .int .u8 a0_4, .int .u8 a0_5, .bool a0_6] 71 (0, 0)) (by (with_reducible repeat (first | refine blk_drewN ?_ _ | refine blk_drew ?_ | refine blk_alloc ?_ _)); exact BK104.out)) : gb105 ≠ gb104)); clear BK104; clear HB; have BK104 := n0_; have HB := n1_; have BK105 := n2_; have GW105 := n3_; have GE105 := n4_; have NB104_105 := n5_; have NB105_104 := n6_; clear n0_ n1_ n2_ n3_ n4_ n5_ n6_; clear hb hbox hg; have hnb4 := NB104_105.out; have hnc4 := NB105_104.out; have hcz5_0 : w3.cell? ⟨gb104, 0, none⟩ = some (.int .i32 a0_0) := (blk_cell BK104.out 0).trans rfl; have hcz5_1 : w3.cell? ⟨gb104, 1, none⟩ = some (.int .i32 a0_1) := (blk_cell BK104.out 1).trans rfl; have hcz5_2 : w3.cell? ⟨gb104, 2, none⟩ = some (.int .i32 a0_2) := (blk_cell BK104.out 2).trans rfl; have hcz5_3 : w3.cell? ⟨gb104, 3, none⟩ = some (.int .u8 a0_3) := (blk_cell BK104.out 3).trans rfl; have hcz5_4 : w3.cell? ⟨gb104, 4, none⟩ = some (.int .u8 a0_4) := (blk_cell BK104.out 4).trans rfl; have hcz5_5 : w3.cell? ⟨gb104, 5, none⟩ = some (.int .u8 a0_5) := (blk_cell BK104.out 5).trans rfl; have hcz5_6 : w3.cell? ⟨gb104, 6, none⟩ = some (.bool a0_6) := (blk_cell BK104.out 6).trans rfl; have hfz5_0 := blk_frozen BK104.out 0; have hfz5_1 := blk_frozen BK104.out 1; have hfz5_2 := blk_frozen BK104.out 2; have hfz5_3 := blk_frozen BK104.out 3; have hfz5_4 := blk_frozen BK104.out 4; have hfz5_5 := blk_frozen BK104.out 5; have hfz5_6 := blk_frozen BK104.out 6; have hcz6_0 : w3.cell? ⟨gb105, 0, none⟩ = some (.int .i32 0) := (blk_cell BK105.out 0).trans rfl; have hcz6_1 : w3.cell? ⟨gb105, 1, none⟩ = some (.int .i32 0) := (blk_cell BK105.out 1).trans rfl; have hcz6_2 : w3.cell? ⟨gb105, 2, none⟩ = some (.int .i32 0) := (blk_cell BK105.out 2).trans rfl; have hcz6_3 : w3.cell? ⟨gb105, 3, none⟩ = some (.int .u8 0) := (blk_cell BK105.out 3).trans rfl; have hcz6_4 : w3.cell? ⟨gb105, 4, none⟩ = some (.int .u8 0) := (blk_cell BK105.out 4).trans rfl; have hcz6_5 : w3.cell? ⟨gb105, 5, none⟩ = some (.int .u8 0) := (blk_cell BK105.out 5).trans rfl; have hcz6_6 : w3.cell? ⟨gb105, 6, none⟩ = some (.bool false) := (blk_cell BK105.out 6).trans rfl; have hfz6_0 := blk_frozen BK105.out 0; have hfz6_1 := blk_frozen BK105.out 1; have hfz6_2 := blk_frozen BK105.out 2; have hfz6_3 := blk_frozen BK105.out 3; have hfz6_4 := blk_frozen BK105.out 4; have hfz6_5 := blk_frozen BK105.out 5; have hfz6_6 := blk_frozen BK105.out 6))
  refine bodyPost_ret (results_cell_row rfl _ _ gb105 94 #[.int .i32 a0_0, .int .i32 a0_1, .int .i32 a0_2, .int .u8 a0_3, .int .u8 a0_4, .int .u8 a0_5, .bool a0_6] (0, 0) _ rfl (by (with_reducible repeat (first | refine blk_drewN ?_ _ | refine blk_drew ?_ | refine blk_alloc ?_ _)); refine blk_put (cs := #[.int .i32 a0_0, .int .i32 a0_1, .int .i32 a0_2, .int .u8 a0_3, .int .u8 a0_4, .int .u8 a0_5, .bool false]) ?_ 6 _ rfl; (with_reducible repeat (first | refine blk_drewN ?_ _ | refine blk_drew ?_ | refine blk_alloc ?_ _)); refine blk_put (cs := #[.int .i32 a0_0, .int .i32 a0_1, .int .i32 a0_2, .int .u8 a0_3, .int .u8 a0_4, .int .u8 0, .bool false]) ?_ 5 _ rfl; (with_reducible repeat (first | refine blk_drewN ?_ _ | refine blk_drew ?_ | refine blk_alloc ?_ _)); refine blk_put (cs := #[.int .i32 a0_0, .int .i32 a0_1, .int .i32 a0_2, .int .u8 a0_3, .int .u8 0, .int .u8 0, .bool false]) ?_ 4 _ rfl; (with_reducible repeat (first | refine blk_drewN ?_ _ | refine blk_drew ?_ | refine blk_alloc ?_ _)); refine blk_put (cs := #[.int .i32 a0_0, .int .i32 a0_1, .int .i32 a0_2, .int .u8 0, .int .u8 0, .int .u8 0, .bool false]) ?_ 3 _ rfl; (with_reducible repeat (first | refine blk_drewN ?_ _ | refine blk_drew ?_ | refine blk_alloc ?_ _)); refine blk_put (cs := #[.int .i32 a0_0, .int .i32 a0_1, .int .i32 0, .int .u8 0, .int .u8 0, .int .u8 0, .bool false]) ?_ 2 _ rfl; (with_reducible repeat (first | refine blk_drewN ?_ _ | refine blk_drew ?_ | refine blk_alloc ?_ _)); refine blk_put (cs := #[.int .i32 a0_0, .int .i32 0, .int .i32 0, .int .u8 0, .int .u8 0, .int .u8 0, .bool false]) ?_ 1 _ rfl; (with_reducible repeat (first | refine blk_drewN ?_ _ | refine blk_drew ?_ | refine blk_alloc ?_ _)); refine blk_put (cs := #[.int .i32 0, .int .i32 0, .int .i32 0, .int .u8 0, .int .u8 0, .int .u8 0, .bool false]) ?_ 0 _ rfl; (with_reducible repeat (first | refine blk_drewN ?_ _ | refine blk_drew ?_ | refine blk_alloc ?_ _)); exact BK105.out) Tryz.underlying94 rfl (by kernel_rfl)) rfl ?_
  exact ⟨by first | rfl | (simp [errW_none, errW_some] <;> rfl) | (simp [*, errW_none, errW_some] <;> rfl), by repeat (first | (with_reducible first | exact HB.out | apply below_alloc | apply pw_below_drewN | apply below_drew1 | refine below_set ?_ GE104.out | refine below_set ?_ GE105.out) | exact HB.out)⟩

/-! ### chroma_zzHex6: function 87 -/
def chroma_zzHex6.f (a0 : Int) : Option ByteArray := if -9223372036854775808 < a0 then (if a0 < 9223372036854775808 then some (Go.Proofs.YtjemdgmihbmgeaaGreatDoorFmt.hex6 a0) else none) else none
theorem chroma_zzHex6.calls (a0 : Int) (r : ByteArray) (w : World) (hV : Go.Proofs.YtjemdgmihbmgeaaGreatDoorFmt.VarsOK w) (h : chroma_zzHex6.f a0 = some r) :
    Calls Tryz.prog 87 #[.int .i64 a0] w fun e w' => e = .returned (.string r) ∧ Below w.heap.size w w' := by
  unfold chroma_zzHex6.f at h
  by_cases h0 : -9223372036854775808 < a0
  · rw [if_pos h0] at h
    by_cases h1 : a0 < 9223372036854775808
    · rw [if_pos h1] at h
      obtain rfl := Option.some.inj h
      exact Go.Proofs.YtjemdgmihbmgeaaGreatDoorFmt.zzHex6 a0 h0 h1 w hV
    · rw [if_neg h1] at h; cases h
  · rw [if_neg h0] at h; cases h
/-! ### chroma_Colour_String: function 62 -/
def chroma_Colour_String.f (a0 : Int) : Option (ByteArray) := (chroma_zzHex6.f (wrap64 (wrap32 (a0 - 1)))).bind fun t106 => (if 1 + t106.size ≤ 9223372036854775807 then (some ((⟨#[35]⟩ : ByteArray) ++ t106)) else (none))
set_option maxHeartbeats 8000000 in
set_option maxRecDepth 100000 in
theorem chroma_Colour_String.calls (a0 : Int) (r : ByteArray) (w : World) (hV : Go.Proofs.YtjemdgmihbmgeaaGreatDoorFmt.VarsOK w) (h : chroma_Colour_String.f a0 = some r) :
    Calls Tryz.prog 62 #[.int .i32 a0] w fun e w' => e = .returned (.string r) ∧ Below w.heap.size w w' := by
  have HB := Aside0.mk (Below.refl w.heap.size w)
  have HV := Aside0.mk hV
  clear hV
  have H : ((chroma_zzHex6.f (wrap64 (wrap32 (a0 - 1)))).bind fun t106 => (if 1 + t106.size ≤ 9223372036854775807 then (some ((⟨#[35]⟩ : ByteArray) ++ t106)) else (none))) = some r := h
  clear h
  replace H := Option.bind_eq_some_iff.mp H
  obtain ⟨t106, A20, H⟩ := H
  replace H : (if 1 + t106.size ≤ 9223372036854775807 then (some ((⟨#[35]⟩ : ByteArray) ++ t106)) else (none)) = some r := H
  have A2 := Aside0.mk A20
  clear A20
  by_cases c3 : 1 + t106.size ≤ 9223372036854775807
  · rw [if_pos c3] at H
    have c3b0 := eq_true c3
    have c3b1 : decide (1 + t106.size ≤ 9223372036854775807) = true := decide_eq_true c3
    try have c3b2 : (9223372036854775807 < 1 + t106.size) = False := eq_false (Nat.not_lt.2 c3)
    obtain rfl := Option.some.inj H
    go_enter Tryz.func62, Tryz.ntmps62
    go_wp2_with (first | ((with_reducible refine gate_callee (f := 87) rfl ?_); refine goesL_ (some 6) rfl rfl Tryz.func87 (by kernel_rfl) rfl #[.int .i64 (wrap64 (wrap32 (a0 - 1)))] rfl (by (try simp only [List.map_toArray, List.map_cons, List.map_nil]); first | done | rfl | (simp only [List.length_drop, List.length_take]; rfl)) ?_; (with_reducible refine (chroma_zzHex6.calls (wrap64 (wrap32 (a0 - 1))) t106 _ ?side1 A2.out).mono ?_); (case side1 => exact Go.Proofs.YtjemdgmihbmgeaaGreatDoorFmt.VarsOK.below HV.out (by repeat (first | (with_reducible first | exact HB.out | apply below_alloc | apply pw_below_drewN | apply below_drew1) | exact HB.out))); rintro e w4 ⟨rfl, hb⟩; refine ⟨_, rfl, ?_⟩; have n0_ := Aside0.mk (below_step (by repeat (first | (with_reducible first | exact HB.out | apply below_alloc | apply pw_below_drewN | apply below_drew1) | exact HB.out)) hb); clear HB; have HB := n0_; clear n0_; (try clear hb); (try clear hb2); (try clear hk); (try clear hi)))
    go_ret
    exact ⟨by first | rfl | (simp [errW_none, errW_some] <;> rfl) | (simp [*, errW_none, errW_some] <;> rfl), by repeat (first | (with_reducible first | exact HB.out | apply below_alloc | apply pw_below_drewN | apply below_drew1) | exact HB.out)⟩
  · rw [if_neg c3] at H
    exact absurd H (by simp)

/-! ### impl_ColourString: function 30 -/
def impl_ColourString.f (a0 : Int) : Option (ByteArray) := (chroma_Colour_String.f a0).bind fun t107 => (some t107)
set_option maxHeartbeats 8000000 in
set_option maxRecDepth 100000 in
theorem impl_ColourString.calls (a0 : Int) (r : ByteArray) (w : World) (hV : Go.Proofs.YtjemdgmihbmgeaaGreatDoorFmt.VarsOK w) (h : impl_ColourString.f a0 = some r) :
    Calls Tryz.prog 30 #[.int .i32 a0] w fun e w' => e = .returned (.string r) ∧ Below w.heap.size w w' := by
  have HB := Aside0.mk (Below.refl w.heap.size w)
  have HV := Aside0.mk hV
  clear hV
  have H : ((chroma_Colour_String.f a0).bind fun t107 => (some t107)) = some r := h
  clear h
  replace H := Option.bind_eq_some_iff.mp H
  obtain ⟨t107, A20, H⟩ := H
  replace H : (some t107) = some r := H
  have A2 := Aside0.mk A20
  clear A20
  obtain rfl := Option.some.inj H
  go_enter Tryz.func30, Tryz.ntmps30
  go_wp2_with (first | ((with_reducible refine gate_callee (f := 62) rfl ?_); refine goesL_ (some 4) rfl rfl Tryz.func62 (by kernel_rfl) rfl #[.int .i32 a0] rfl (by (try simp only [List.map_toArray, List.map_cons, List.map_nil]); first | done | rfl | (simp only [List.length_drop, List.length_take]; rfl)) ?_; (with_reducible refine (chroma_Colour_String.calls a0 t107 _ ?side1 A2.out).mono ?_); (case side1 => exact Go.Proofs.YtjemdgmihbmgeaaGreatDoorFmt.VarsOK.below HV.out (by repeat (first | (with_reducible first | exact HB.out | apply below_alloc | apply pw_below_drewN | apply below_drew1) | exact HB.out))); rintro e w3 ⟨rfl, hb⟩; refine ⟨_, rfl, ?_⟩; have n0_ := Aside0.mk (below_step (by repeat (first | (with_reducible first | exact HB.out | apply below_alloc | apply pw_below_drewN | apply below_drew1) | exact HB.out)) hb); clear HB; have HB := n0_; clear n0_; (try clear hb); (try clear hb2); (try clear hk); (try clear hi)))
  go_ret
  exact ⟨by first | rfl | (simp [errW_none, errW_some] <;> rfl) | (simp [*, errW_none, errW_some] <;> rfl), by repeat (first | (with_reducible first | exact HB.out | apply below_alloc | apply pw_below_drewN | apply below_drew1) | exact HB.out)⟩

end Go.Proofs.YtjemdgmihbmgeaaGreatDoor.A
