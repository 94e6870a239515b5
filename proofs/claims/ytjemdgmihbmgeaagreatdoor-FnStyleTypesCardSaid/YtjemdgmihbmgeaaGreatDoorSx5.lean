-- WRITTEN BY OUR myprint.py, a program of this session's over the kit's printer
import Derived.Test.YtjemdgmihbmgeaaGreatDoorSx0
import Derived.Test.YtjemdgmihbmgeaaGreatDoorSx1
import Derived.Test.YtjemdgmihbmgeaaGreatDoorSx4
namespace Go.Proofs.YtjemdgmihbmgeaaGreatDoor.S
open Go.RowKit Go.Proofs.YtjemdgmihbmgeaaGreatDoorW.PrintWords Go.Proofs.YtjemdgmihbmgeaaGreatDoorW.PrintLast Go.Proofs.YtjemdgmihbmgeaaGreatDoorW.PrintMore
attribute [local go_sem] max2_int min2_int max_two min_two max_three min_three max_four min_four   -- for this text's walks alone
set_option linter.unusedVariables false
set_option linter.unusedSimpArgs false

attribute [local go_sem high] eqA62
/-! ### spec_TypeIs: function 57 -/
def spec_TypeIs.l0 : Nat → Int → List (S158) → Int → Int → Option (Bool)
  | 0, _, _, _, _ => none
  | k + 1, x0, x5, x6, x7 => if x7 < x6 then (if 0 ≤ x7 then (if x7 < (x5.length : Int) then (if ((rd_T158 x5 x7).f0) = x0 then (some true) else (spec_TypeIs.l0 k x0 x5 x6 (wrap64 (x7 + 1)))) else (none)) else (none)) else (some false)
def spec_TypeIs.f (k : Nat) (a0 : Int) : Option (Bool) := (spec_kinds.f).bind fun t137 => (spec_TypeIs.l0 k a0 t137 (t137.length : Int) 0)
theorem spec_TypeIs.mono_l : ∀ k, (∀ y0 y1 y2 y3, LeO (spec_TypeIs.l0 k y0 y1 y2 y3) (spec_TypeIs.l0 (k + 1) y0 y1 y2 y3))
  | 0 => fun _ _ _ _ r h => by simp [spec_TypeIs.l0] at h
  | k + 1 => by
    have ih0 := spec_TypeIs.mono_l k
    · intro y0 y1 y2 y3
      unfold spec_TypeIs.l0
      repeat' first
      | (with_reducible exact ih0 _ _ _ _)
      | (with_reducible exact LeO.refl _)
      | (with_reducible exact LeO.none _)
      | (with_reducible refine LeO.ite ?_ ?_)
      | (with_reducible refine LeO.bind ?_ (fun _ => ?_))
      | exact ih0 _ _ _ _
      | exact LeO.none _
      | refine LeO.ite ?_ ?_
      | refine LeO.bind ?_ (fun _ => ?_)
theorem spec_TypeIs.mono : ∀ a0 k, LeO (spec_TypeIs.f k a0) (spec_TypeIs.f (k + 1) a0) := by
  intro a0 k
  have ih0 := spec_TypeIs.mono_l k
  unfold spec_TypeIs.f
  repeat' first
      | (with_reducible exact ih0 _ _ _ _)
      | (with_reducible exact LeO.refl _)
      | (with_reducible exact LeO.none _)
      | (with_reducible refine LeO.ite ?_ ?_)
      | (with_reducible refine LeO.bind ?_ (fun _ => ?_))
      | exact ih0 _ _ _ _
      | exact LeO.none _
      | refine LeO.ite ?_ ?_
      | refine LeO.bind ?_ (fun _ => ?_)
set_option maxHeartbeats 8000000 in
set_option maxRecDepth 100000 in
theorem spec_TypeIs.calls (k : Nat) (a0 : Int) (r : Bool) (w : World) (h : spec_TypeIs.f k a0 = some r) :
    Calls Tryz.prog 57 #[.int .i64 a0] w fun e w' => e = .returned (.bool r) ∧ Below w.heap.size w w' := by
  have hu158 := Tryz.underlying158
  have HB := Aside0.mk (Below.refl w.heap.size w)
  have H : ((spec_kinds.f).bind fun t137 => (spec_TypeIs.l0 k a0 t137 (t137.length : Int) 0)) = some r := h
  clear h
  replace H := Option.bind_eq_some_iff.mp H
  obtain ⟨t137, A20, H⟩ := H
  replace H : (spec_TypeIs.l0 k a0 t137 (t137.length : Int) 0) = some r := H
  have A2 := Aside0.mk A20
  clear A20
  have H' := Aside0.mk H
  clear H
  go_enter Tryz.func57, Tryz.ntmps57
  go_wp2_with (first | ((with_reducible refine gate_callee (f := 83) rfl ?_); refine goesL_ (some 5) rfl rfl Tryz.func83 (by kernel_rfl) rfl #[] rfl (by (try simp only [List.map_toArray, List.map_cons, List.map_nil]); first | done | rfl | (simp only [List.length_drop, List.length_take]; rfl)) ?_; (with_reducible refine (spec_kinds.calls  t137 _ A2.out).mono ?_); rintro e w3 ⟨v138, rfl, ho0, hb⟩; refine ⟨_, rfl, ?_⟩; have n0_ := Aside0.mk (Kd.R_lower ho0 (below_size (by repeat (first | (with_reducible first | exact HB.out | apply below_alloc | apply pw_below_drewN | apply below_drew1) | exact HB.out)))); have n1_ := Aside0.mk (below_step (by repeat (first | (with_reducible first | exact HB.out | apply below_alloc | apply pw_below_drewN | apply below_drew1) | exact HB.out)) hb); clear HB; have HO139 := n0_; have HB := n1_; clear n0_ n1_; (try clear hb); (try clear hb2); (try clear hk); (try clear hi); (try clear ho0); obtain ⟨Ao4, co4, eo4⟩ := Kd.R_slice HO139.out; subst eo4))
  go_loopg [7] k (fun kq v7 w' => ∃ (x7_1 : Int), v7 = .int .i64 x7_1 ∧ Aside0 (spec_TypeIs.l0 kq a0 t137 (t137.length : Int) x7_1 = some r) ∧ Aside0 (kq ≤ k) ∧ Aside0 (Kd.R k158 158 w' w.heap.size (fun _ => True) (.slice Ao4 t137.length co4) t137) ∧ Aside0 (Below w.heap.size w w'))
  case atStart => exact ⟨(0), (by first | rfl | (simp; done) | (simp [*]; done)), H', ⟨Nat.le_refl _⟩, ⟨by (with_reducible repeat (first | apply Kd.R_alloc | apply Kd.R_drewN | apply Kd.R_drew)); exact HO139.out⟩, ⟨by repeat (first | (with_reducible first | exact HB.out | apply below_alloc | apply pw_below_drewN | apply below_drew1) | exact HB.out)⟩⟩
  case round =>
    clear H'
    try clear p2
    obtain ⟨x7_1, rfl, HA, HK1, HO_5, HB⟩ := hrel
    cases gk with
    | zero => exact absurd HA.out (by simp [spec_TypeIs.l0])
    | succ k1 =>
      have H := HA.out
      clear HA
      simp only [spec_TypeIs.l0] at H
      by_cases c5 : x7_1 < (t137.length : Int)
      · rw [if_pos c5] at H
        have c5b0 : decide (x7_1 < (t137.length : Int)) = true := decide_eq_true c5
        clear c5
        by_cases c6 : 0 ≤ x7_1
        · rw [if_pos c6] at H
          have c6b0 : decide (0 ≤ x7_1) = true := decide_eq_true c6
          clear c6
          by_cases c7 : x7_1 < (t137.length : Int)
          · rw [if_pos c7] at H
            have c7b0 : decide (x7_1 < (t137.length : Int)) = true := decide_eq_true c7
            clear c7
            by_cases c8 : ((rd_T158 t137 x7_1).f0) = a0
            · rw [if_pos c8] at H
              have c8b0 : (((rd_T158 t137 x7_1).f0) == a0) = true := beq_iff_eq.mpr c8
              have c8b1 : (((rd_T158 t137 x7_1).f0) != a0) = false := bne_eq_false_iff_eq.mpr c8
              clear c8
              obtain rfl := Option.some.inj H
              have p140 : 0 ≤ (x7_1 : Int) := of_decide_eq_true (by first | (with_reducible assumption) | assumption)
              have q140 : x7_1 < (t137.length : Int) := of_decide_eq_true (by first | (with_reducible assumption) | assumption)
              obtain ⟨ad140, e140, hx140_0, hx140_1⟩ := at_T158 (Kd.R_reads' HO_5.out).2.2 x7_1 p140 q140
              cases e140
              replace p140 := eq_true p140
              replace q140 := eq_true q140
              go_wp2_with (first | ((with_reducible refine gate_dst (N := 4) rfl ?_); refine box_event ?hg (N := 4) ?hd (cs := #[.int .i64 0, .string (⟨#[]⟩ : ByteArray)]) (t := 158) ?hr ?_; (case hd => rfl); (case hg => rfl); (case hr => first | (go_simp; done) | (go_simp; rfl)); intro gb141 hg w9 hbox hb; have n0_ := Aside0.mk (Kd.R_below (Kd.R_elderB (by (with_reducible repeat (first | apply Kd.R_alloc | apply Kd.R_drewN | apply Kd.R_drew)); exact HO_5.out) gb141 (Nat.le_of_eq hg.symm)) hb); have n1_ := Aside0.mk (below_step (by repeat (first | (with_reducible first | exact HB.out | apply below_alloc | apply pw_below_drewN | apply below_drew1) | exact HB.out)) hb); have n2_ := Aside0.mk (hbox); have n3_ := Aside0.mk ((by rw [hg]; exact (below_size (by repeat (first | (with_reducible first | exact HB.out | apply below_alloc | apply pw_below_drewN | apply below_drew1) | exact HB.out))) : w.heap.size ≤ gb141)); have n4_ := Aside0.mk ((by rw [hg]; exact (below_size (by repeat (first | (with_reducible first | exact HB.out | apply below_alloc | apply pw_below_drewN | apply below_drew1) | exact HB.out))) : w.heap.size ≤ gb141)); clear HO_5; clear HB; have HO_5 := n0_; have HB := n1_; have BK141 := n2_; have GW141 := n3_; have GE141 := n4_; clear n0_ n1_ n2_ n3_ n4_; clear hb hbox hg; have hcz10_0 : w9.cell? ⟨gb141, 0, none⟩ = some (.int .i64 0) := (blk_cell BK141.out 0).trans rfl; have hcz10_1 : w9.cell? ⟨gb141, 1, none⟩ = some (.string (⟨#[]⟩ : ByteArray)) := (blk_cell BK141.out 1).trans rfl; have hfz10_0 := blk_frozen BK141.out 0; have hfz10_1 := blk_frozen BK141.out 1))
              go_ret
              exact ⟨by first | rfl | (simp [errW_none, errW_some] <;> rfl) | (simp [*, errW_none, errW_some] <;> rfl), by repeat (first | (with_reducible first | exact HB.out | apply below_alloc | apply pw_below_drewN | apply below_drew1 | refine below_set ?_ GE141.out) | exact HB.out)⟩
            · rw [if_neg c8] at H
              have c8b0 : (((rd_T158 t137 x7_1).f0) == a0) = false := beq_eq_false_iff_ne.mpr c8
              have c8b1 : (((rd_T158 t137 x7_1).f0) != a0) = true := bne_iff_ne.mpr c8
              have H' := Aside0.mk H
              clear H
              have p140 : 0 ≤ (x7_1 : Int) := of_decide_eq_true (by first | (with_reducible assumption) | assumption)
              have q140 : x7_1 < (t137.length : Int) := of_decide_eq_true (by first | (with_reducible assumption) | assumption)
              obtain ⟨ad140, e140, hx140_0, hx140_1⟩ := at_T158 (Kd.R_reads' HO_5.out).2.2 x7_1 p140 q140
              cases e140
              replace p140 := eq_true p140
              replace q140 := eq_true q140
              go_wp2_with (first | ((with_reducible refine gate_dst (N := 4) rfl ?_); refine box_event ?hg (N := 4) ?hd (cs := #[.int .i64 0, .string (⟨#[]⟩ : ByteArray)]) (t := 158) ?hr ?_; (case hd => rfl); (case hg => rfl); (case hr => first | (go_simp; done) | (go_simp; rfl)); intro gb141 hg w11 hbox hb; have n0_ := Aside0.mk (Kd.R_below (Kd.R_elderB (by (with_reducible repeat (first | apply Kd.R_alloc | apply Kd.R_drewN | apply Kd.R_drew)); exact HO_5.out) gb141 (Nat.le_of_eq hg.symm)) hb); have n1_ := Aside0.mk (below_step (by repeat (first | (with_reducible first | exact HB.out | apply below_alloc | apply pw_below_drewN | apply below_drew1) | exact HB.out)) hb); have n2_ := Aside0.mk (hbox); have n3_ := Aside0.mk ((by rw [hg]; exact (below_size (by repeat (first | (with_reducible first | exact HB.out | apply below_alloc | apply pw_below_drewN | apply below_drew1) | exact HB.out))) : w.heap.size ≤ gb141)); have n4_ := Aside0.mk ((by rw [hg]; exact (below_size (by repeat (first | (with_reducible first | exact HB.out | apply below_alloc | apply pw_below_drewN | apply below_drew1) | exact HB.out))) : w.heap.size ≤ gb141)); clear HO_5; clear HB; have HO_5 := n0_; have HB := n1_; have BK141 := n2_; have GW141 := n3_; have GE141 := n4_; clear n0_ n1_ n2_ n3_ n4_; clear hb hbox hg; have hcz12_0 : w11.cell? ⟨gb141, 0, none⟩ = some (.int .i64 0) := (blk_cell BK141.out 0).trans rfl; have hcz12_1 : w11.cell? ⟨gb141, 1, none⟩ = some (.string (⟨#[]⟩ : ByteArray)) := (blk_cell BK141.out 1).trans rfl; have hfz12_0 := blk_frozen BK141.out 0; have hfz12_1 := blk_frozen BK141.out 1))
              go_roundg k1
              case measure => have := HK1.out; omega
              case rel => exact ⟨(wrap64 (x7_1 + 1)), (by first | rfl | (simp; done) | (simp [*]; done)), H', ⟨by have := HK1.out; omega⟩, ⟨by (with_reducible repeat (first | apply Kd.R_alloc | apply Kd.R_drewN | apply Kd.R_drew)); exact Kd.R_mono (Kd.R_far (p := ⟨gb141, 1, none⟩) (Kd.R_far (p := ⟨gb141, 0, none⟩) (Kd.R_mono HO_5.out (fun k_ hk => (⟨hk, hk.2⟩ : _ ∧ k_ ≠ gb141))) (fun _ hk => hk.2) (.int .i64 ((rd_T158 t137 x7_1).f0))) (fun _ hk => hk.2) (.string ((rd_T158 t137 x7_1).f1))) (fun _ hk => trivial)⟩, ⟨by repeat (first | (with_reducible first | exact HB.out | apply below_alloc | apply pw_below_drewN | apply below_drew1 | refine below_set ?_ GE141.out) | exact HB.out)⟩⟩
          · rw [if_neg c7] at H
            exact absurd H (by simp)
        · rw [if_neg c6] at H
          exact absurd H (by simp)
      · rw [if_neg c5] at H
        have c5b0 : decide (x7_1 < (t137.length : Int)) = false := decide_eq_false c5
        clear c5
        obtain rfl := Option.some.inj H
        go_wp2
        go_ret
        exact ⟨by first | rfl | (simp [errW_none, errW_some] <;> rfl) | (simp [*, errW_none, errW_some] <;> rfl), by repeat (first | (with_reducible first | exact HB.out | apply below_alloc | apply pw_below_drewN | apply below_drew1) | exact HB.out)⟩
def spec_TypeIs.Pure : Prop := ∀ (a0 : Int), (Lit.int .i64 a0).wf = true → ∃ k, spec_TypeIs.f k a0 = some true

/-! ### spec_category: function 67 -/
def spec_category.f (a0 : Int) : Option (Int) := if a0 < 1000 then (some 0) else (some (wrap64 (a0 - (Int.tmod a0 1000))))
set_option maxHeartbeats 8000000 in
set_option maxRecDepth 100000 in
theorem spec_category.calls (a0 : Int) (r : Int) (w : World) (h : spec_category.f a0 = some r) :
    Calls Tryz.prog 67 #[.int .i64 a0] w fun e w' => e = .returned (.int .i64 r) ∧ Drawn0 w w' := by
  have H : (if a0 < 1000 then (some 0) else (some (wrap64 (a0 - (Int.tmod a0 1000))))) = some r := h
  clear h
  by_cases c2 : a0 < 1000
  · rw [if_pos c2] at H
    have c2b0 : decide (a0 < 1000) = true := decide_eq_true c2
    clear c2
    obtain rfl := Option.some.inj H
    go_enter Tryz.func67, Tryz.ntmps67
    go_wp2
    go_ret
    exact ⟨by first | rfl | (simp; done) | (simp [*]; done), by repeat (first | exact Drawn0.refl _ | apply Drawn0.step)⟩
  · rw [if_neg c2] at H
    have c2b0 : decide (a0 < 1000) = false := decide_eq_false c2
    clear c2
    obtain rfl := Option.some.inj H
    go_enter Tryz.func67, Tryz.ntmps67
    go_wp2
    go_ret
    exact ⟨by first | rfl | (simp; done) | (simp [*]; done), by repeat (first | exact Drawn0.refl _ | apply Drawn0.step)⟩

/-! ### spec_hundred: function 68 -/
def spec_hundred.f (a0 : Int) : Option (Int) := if a0 < 1000 then (some 0) else (some (wrap64 (a0 - (Int.tmod a0 100))))
set_option maxHeartbeats 8000000 in
set_option maxRecDepth 100000 in
theorem spec_hundred.calls (a0 : Int) (r : Int) (w : World) (h : spec_hundred.f a0 = some r) :
    Calls Tryz.prog 68 #[.int .i64 a0] w fun e w' => e = .returned (.int .i64 r) ∧ Drawn0 w w' := by
  have H : (if a0 < 1000 then (some 0) else (some (wrap64 (a0 - (Int.tmod a0 100))))) = some r := h
  clear h
  by_cases c2 : a0 < 1000
  · rw [if_pos c2] at H
    have c2b0 : decide (a0 < 1000) = true := decide_eq_true c2
    clear c2
    obtain rfl := Option.some.inj H
    go_enter Tryz.func68, Tryz.ntmps68
    go_wp2
    go_ret
    exact ⟨by first | rfl | (simp; done) | (simp [*]; done), by repeat (first | exact Drawn0.refl _ | apply Drawn0.step)⟩
  · rw [if_neg c2] at H
    have c2b0 : decide (a0 < 1000) = false := decide_eq_false c2
    clear c2
    obtain rfl := Option.some.inj H
    go_enter Tryz.func68, Tryz.ntmps68
    go_wp2
    go_ret
    exact ⟨by first | rfl | (simp; done) | (simp [*]; done), by repeat (first | exact Drawn0.refl _ | apply Drawn0.step)⟩

/-! ### spec_EntryIsZero: function 25 -/
def spec_EntryIsZero.f (a0_0 : Int) (a0_1 : Int) (a0_2 : Int) (a0_3 : Int) (a0_4 : Int) (a0_5 : Int) (a0_6 : Bool) : Option (Bool) := some (a0_0 == 0 && (a0_1 == 0 && (a0_2 == 0 && (a0_3 == 0 && (a0_4 == 0 && (a0_5 == 0 && (!a0_6)))))))
set_option maxHeartbeats 8000000 in
set_option maxRecDepth 100000 in
theorem spec_EntryIsZero.calls (a0_0 : Int) (a0_1 : Int) (a0_2 : Int) (a0_3 : Int) (a0_4 : Int) (a0_5 : Int) (a0_6 : Bool) (r : Bool) (w : World) (h : spec_EntryIsZero.f a0_0 a0_1 a0_2 a0_3 a0_4 a0_5 a0_6 = some r) :
    Calls Tryz.prog 25 #[.agg #[.int .i32 a0_0, .int .i32 a0_1, .int .i32 a0_2, .int .u8 a0_3, .int .u8 a0_4, .int .u8 a0_5, .bool a0_6]] w fun e w' => e = .returned (.bool r) ∧ Below w.heap.size w w' := by
  have hu62 := Tryz.underlying62
  have HB := Aside0.mk (Below.refl w.heap.size w)
  have H : (some (a0_0 == 0 && (a0_1 == 0 && (a0_2 == 0 && (a0_3 == 0 && (a0_4 == 0 && (a0_5 == 0 && (!a0_6)))))))) = some r := h
  clear h
  obtain rfl := Option.some.inj H
  go_enter Tryz.func25, Tryz.ntmps25
  go_wp2_with (first | ((with_reducible refine gate_dst (N := 1) rfl ?_); refine box_event ?hg (N := 1) ?hd (cs := #[.int .i32 a0_0, .int .i32 a0_1, .int .i32 a0_2, .int .u8 a0_3, .int .u8 a0_4, .int .u8 a0_5, .bool a0_6]) (t := 62) ?hr ?_; (case hd => rfl); (case hg => rfl); (case hr => first | (go_simp; done) | (go_simp; rfl)); intro gb142 hg w2 hbox hb; have n0_ := Aside0.mk (below_step (by repeat (first | (with_reducible first | exact HB.out | apply below_alloc | apply pw_below_drewN | apply below_drew1) | exact HB.out)) hb); have n1_ := Aside0.mk (hbox); have n2_ := Aside0.mk ((by rw [hg]; exact (below_size (by repeat (first | (with_reducible first | exact HB.out | apply below_alloc | apply pw_below_drewN | apply below_drew1) | exact HB.out))) : w.heap.size ≤ gb142)); have n3_ := Aside0.mk ((by rw [hg]; exact (below_size (by repeat (first | (with_reducible first | exact HB.out | apply below_alloc | apply pw_below_drewN | apply below_drew1) | exact HB.out))) : w.heap.size ≤ gb142)); clear HB; have HB := n0_; have BK142 := n1_; have GW142 := n2_; have GE142 := n3_; clear n0_ n1_ n2_ n3_; clear hb hbox hg; have hcz3_0 : w2.cell? ⟨gb142, 0, none⟩ = some (.int .i32 a0_0) := (blk_cell BK142.out 0).trans rfl; have hcz3_1 : w2.cell? ⟨gb142, 1, none⟩ = some (.int .i32 a0_1) := (blk_cell BK142.out 1).trans rfl; have hcz3_2 : w2.cell? ⟨gb142, 2, none⟩ = some (.int .i32 a0_2) := (blk_cell BK142.out 2).trans rfl; have hcz3_3 : w2.cell? ⟨gb142, 3, none⟩ = some (.int .u8 a0_3) := (blk_cell BK142.out 3).trans rfl; have hcz3_4 : w2.cell? ⟨gb142, 4, none⟩ = some (.int .u8 a0_4) := (blk_cell BK142.out 4).trans rfl; have hcz3_5 : w2.cell? ⟨gb142, 5, none⟩ = some (.int .u8 a0_5) := (blk_cell BK142.out 5).trans rfl; have hcz3_6 : w2.cell? ⟨gb142, 6, none⟩ = some (.bool a0_6) := (blk_cell BK142.out 6).trans rfl; have hfz3_0 := blk_frozen BK142.out 0; have hfz3_1 := blk_frozen BK142.out 1; have hfz3_2 := blk_frozen BK142.out 2; have hfz3_3 := blk_frozen BK142.out 3; have hfz3_4 := blk_frozen BK142.out 4; have hfz3_5 := blk_frozen BK142.out 5; have hfz3_6 := blk_frozen BK142.out 6))
  go_ret
  exact ⟨by first | rfl | (simp [errW_none, errW_some] <;> rfl) | (simp [*, errW_none, errW_some] <;> rfl), by repeat (first | (with_reducible first | exact HB.out | apply below_alloc | apply pw_below_drewN | apply below_drew1 | refine below_set ?_ GE142.out) | exact HB.out)⟩
def wf_S62 (x : S62) : Prop := (IntKind.i32.min ≤ x.f0 ∧ x.f0 ≤ IntKind.i32.max) ∧ (IntKind.i32.min ≤ x.f1 ∧ x.f1 ≤ IntKind.i32.max) ∧ (IntKind.i32.min ≤ x.f2 ∧ x.f2 ≤ IntKind.i32.max) ∧ (IntKind.u8.min ≤ x.f3 ∧ x.f3 ≤ IntKind.u8.max) ∧ (IntKind.u8.min ≤ x.f4 ∧ x.f4 ≤ IntKind.u8.max) ∧ (IntKind.u8.min ≤ x.f5 ∧ x.f5 ≤ IntKind.u8.max) ∧ (True)
def spec_EntryIsZero.Pure : Prop := ∀ (a0_0 : Int) (a0_1 : Int) (a0_2 : Int) (a0_3 : Int) (a0_4 : Int) (a0_5 : Int) (a0_6 : Bool), wf_S62 (⟨a0_0, a0_1, a0_2, a0_3, a0_4, a0_5, a0_6⟩ : S62) → spec_EntryIsZero.f a0_0 a0_1 a0_2 a0_3 a0_4 a0_5 a0_6 = some true

end Go.Proofs.YtjemdgmihbmgeaaGreatDoor.S
