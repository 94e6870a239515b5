-- WRITTEN BY OUR myprint.py, a program of this session's over the kit's printer
import Derived.Test.YtifhhejohdmiaaaDoorKx0
namespace Go.Proofs.YtifhhejohdmiaaaDoor.K
open Go.RowKit Go.Proofs.YtifhhejohdmiaaaDoorW.PrintWords Go.Proofs.YtifhhejohdmiaaaDoorW.PrintLast Go.Proofs.YtifhhejohdmiaaaDoorW.PrintMore
attribute [local go_sem] max2_int min2_int max_two min_two max_three min_three max_four min_four   -- for this text's walks alone
set_option linter.unusedVariables false
set_option linter.unusedSimpArgs false

/-! ### laws_styled: function 13 -/
def laws_styled.f : Option Bool := some true
theorem laws_styled.calls (r : Bool) (w : World) (hV : Go.Proofs.YtifhhejohdmiaaaDoorFmt.VarsOK w) (h : laws_styled.f = some r) :
    Calls Tryd.prog 13 #[] w fun e w' => e = .returned (.bool r) ∧ Below w.heap.size w w' := by
  obtain rfl := Option.some.inj h
  exact Go.Proofs.YtifhhejohdmiaaaDoorEnt.sane w hV
/-! ### laws_plain: function 35 -/
def laws_plain.f (a0 : Int) : Option (Bool) := if a0 ≥ 1 then (some (decide (a0 ≤ 16777216))) else (some false)
set_option maxHeartbeats 8000000 in
set_option maxRecDepth 100000 in
theorem laws_plain.calls (a0 : Int) (r : Bool) (w : World) (h : laws_plain.f a0 = some r) :
    Calls Tryd.prog 35 #[.int .i32 a0] w fun e w' => e = .returned (.bool r) ∧ Drawn0 w w' := by
  have H : (if a0 ≥ 1 then (some (decide (a0 ≤ 16777216))) else (some false)) = some r := h
  clear h
  by_cases c2 : a0 ≥ 1
  · rw [if_pos c2] at H
    have c2b0 : decide (1 ≤ a0) = true := decide_eq_true c2
    clear c2
    obtain rfl := Option.some.inj H
    go_enter Tryd.func35, Tryd.ntmps35
    go_wp2
    go_ret
    exact ⟨by first | rfl | (simp; done) | (simp [*]; done), by repeat (first | exact Drawn0.refl _ | apply Drawn0.step)⟩
  · rw [if_neg c2] at H
    have c2b0 : decide (1 ≤ a0) = false := decide_eq_false c2
    clear c2
    obtain rfl := Option.some.inj H
    go_enter Tryd.func35, Tryd.ntmps35
    go_wp2
    go_ret
    exact ⟨by first | rfl | (simp; done) | (simp [*]; done), by repeat (first | exact Drawn0.refl _ | apply Drawn0.step)⟩

/-! ### laws_usual: function 16 -/
def laws_usual.l0 : Nat → List Int → Int → Int → Int → Int → Int → Int → Int → Int → Bool → Option (Bool)
  | 0, _, _, _, _, _, _, _, _, _, _ => none
  | k + 1, x11, x12, x13, x102000, x102001, x102002, x102003, x102004, x102005, x102006 => if x13 < x12 then (if 0 ≤ x13 then (if x13 < (x11.length : Int) then (if (rd x11 x13) = 0 then (laws_usual.l0 k x11 x12 (wrap64 (x13 + 1)) x102000 x102001 x102002 x102003 x102004 x102005 x102006) else ((laws_plain.f (rd x11 x13)).bind fun t106 => (if t106 = true then (laws_usual.l0 k x11 x12 (wrap64 (x13 + 1)) x102000 x102001 x102002 x102003 x102004 x102005 x102006) else (some false)))) else (none)) else (none)) else (if x102003 ≤ 2 then (if x102004 ≤ 2 then (some (decide (x102005 ≤ 2))) else (some false)) else (some false))
def laws_usual.f (k : Nat) (a0_0 : Int) (a0_1 : Int) (a0_2 : Int) (a0_3 : Int) (a0_4 : Int) (a0_5 : Int) (a0_6 : Bool) : Option (Bool) := (some (([a0_0, a0_1, a0_2] : List Int) : List Int)).bind fun y102 => (laws_usual.l0 k y102 (y102.length : Int) 0 a0_0 a0_1 a0_2 a0_3 a0_4 a0_5 a0_6)
theorem laws_usual.mono_l : ∀ k, (∀ y0 y1 y2 y3 y4 y5 y6 y7 y8 y9, LeO (laws_usual.l0 k y0 y1 y2 y3 y4 y5 y6 y7 y8 y9) (laws_usual.l0 (k + 1) y0 y1 y2 y3 y4 y5 y6 y7 y8 y9))
  | 0 => fun _ _ _ _ _ _ _ _ _ _ r h => by simp [laws_usual.l0] at h
  | k + 1 => by
    have ih0 := laws_usual.mono_l k
    · intro y0 y1 y2 y3 y4 y5 y6 y7 y8 y9
      unfold laws_usual.l0
      repeat' first
      | (with_reducible exact ih0 _ _ _ _ _ _ _ _ _ _)
      | (with_reducible exact LeO.refl _)
      | (with_reducible exact LeO.none _)
      | (with_reducible refine LeO.ite ?_ ?_)
      | (with_reducible refine LeO.bind ?_ (fun _ => ?_))
      | exact ih0 _ _ _ _ _ _ _ _ _ _
      | exact LeO.none _
      | refine LeO.ite ?_ ?_
      | refine LeO.bind ?_ (fun _ => ?_)
theorem laws_usual.mono : ∀ a0 a1 a2 a3 a4 a5 a6 k, LeO (laws_usual.f k a0 a1 a2 a3 a4 a5 a6) (laws_usual.f (k + 1) a0 a1 a2 a3 a4 a5 a6) := by
  intro a0 a1 a2 a3 a4 a5 a6 k
  have ih0 := laws_usual.mono_l k
  unfold laws_usual.f
  repeat' first
      | (with_reducible exact ih0 _ _ _ _ _ _ _ _ _ _)
      | (with_reducible exact LeO.refl _)
      | (with_reducible exact LeO.none _)
      | (with_reducible refine LeO.ite ?_ ?_)
      | (with_reducible refine LeO.bind ?_ (fun _ => ?_))
      | exact ih0 _ _ _ _ _ _ _ _ _ _
      | exact LeO.none _
      | refine LeO.ite ?_ ?_
      | refine LeO.bind ?_ (fun _ => ?_)
set_option maxHeartbeats 8000000 in
set_option maxRecDepth 100000 in
theorem laws_usual.calls (k : Nat) (a0_0 : Int) (a0_1 : Int) (a0_2 : Int) (a0_3 : Int) (a0_4 : Int) (a0_5 : Int) (a0_6 : Bool) (r : Bool) (w : World) (h : laws_usual.f k a0_0 a0_1 a0_2 a0_3 a0_4 a0_5 a0_6 = some r) :
    Calls Tryd.prog 16 #[.agg #[.int .i32 a0_0, .int .i32 a0_1, .int .i32 a0_2, .int .u8 a0_3, .int .u8 a0_4, .int .u8 a0_5, .bool a0_6]] w fun e w' => e = .returned (.bool r) ∧ Below w.heap.size w w' := by
  have hu23 := Tryd.underlying23
  have HB := Aside0.mk (Below.refl w.heap.size w)
  have H : ((some (([a0_0, a0_1, a0_2] : List Int) : List Int)).bind fun y102 => (laws_usual.l0 k y102 (y102.length : Int) 0 a0_0 a0_1 a0_2 a0_3 a0_4 a0_5 a0_6)) = some r := h
  clear h
  obtain ⟨y102, hy102⟩ : ∃ y_ : List Int, y_ = (([a0_0, a0_1, a0_2] : List Int)) := ⟨_, rfl⟩
  replace H : (laws_usual.l0 k y102 (y102.length : Int) 0 a0_0 a0_1 a0_2 a0_3 a0_4 a0_5 a0_6) = some r := by first | (rw [hy102]; with_reducible exact H) | (have H2_ := (Option.bind_some _ _).symm.trans H; rw [hy102]; with_reducible exact H2_) | (have H2_ := (Option.bind_some _ _).symm.trans H; with_reducible exact H2_) | with_reducible exact H | (rw [hy102]; exact H) | exact H
  have Ny102 := Aside0.mk hy102
  clear hy102
  have H' := Aside0.mk H
  clear H
  go_enter Tryd.func16, Tryd.ntmps16
  go_wp2_with (first | ((with_reducible refine gate_dst (N := 1) rfl ?_); refine box_event ?hg (N := 1) ?hd (cs := #[.int .i32 a0_0, .int .i32 a0_1, .int .i32 a0_2, .int .u8 a0_3, .int .u8 a0_4, .int .u8 a0_5, .bool a0_6]) (t := 23) ?hr ?_; (case hd => rfl); (case hg => rfl); (case hr => first | (go_simp; done) | (go_simp; rfl)); intro gb101 hg w2 hbox hb; have n0_ := Aside0.mk (below_step (by repeat (first | (with_reducible first | exact HB.out | apply below_alloc | apply pw_below_drewN | apply below_drew1) | exact HB.out)) hb); have n1_ := Aside0.mk (hbox); have n2_ := Aside0.mk ((by rw [hg]; exact (below_size (by repeat (first | (with_reducible first | exact HB.out | apply below_alloc | apply pw_below_drewN | apply below_drew1) | exact HB.out))) : w.heap.size ≤ gb101)); have n3_ := Aside0.mk ((by rw [hg]; exact (below_size (by repeat (first | (with_reducible first | exact HB.out | apply below_alloc | apply pw_below_drewN | apply below_drew1) | exact HB.out))) : w.heap.size ≤ gb101)); clear HB; have HB := n0_; have BK101 := n1_; have GW101 := n2_; have GE101 := n3_; clear n0_ n1_ n2_ n3_; clear hb hbox hg; have hcz3_0 : w2.cell? ⟨gb101, 0, none⟩ = some (.int .i32 a0_0) := (blk_cell BK101.out 0).trans rfl; have hcz3_1 : w2.cell? ⟨gb101, 1, none⟩ = some (.int .i32 a0_1) := (blk_cell BK101.out 1).trans rfl; have hcz3_2 : w2.cell? ⟨gb101, 2, none⟩ = some (.int .i32 a0_2) := (blk_cell BK101.out 2).trans rfl; have hcz3_3 : w2.cell? ⟨gb101, 3, none⟩ = some (.int .u8 a0_3) := (blk_cell BK101.out 3).trans rfl; have hcz3_4 : w2.cell? ⟨gb101, 4, none⟩ = some (.int .u8 a0_4) := (blk_cell BK101.out 4).trans rfl; have hcz3_5 : w2.cell? ⟨gb101, 5, none⟩ = some (.int .u8 a0_5) := (blk_cell BK101.out 5).trans rfl; have hcz3_6 : w2.cell? ⟨gb101, 6, none⟩ = some (.bool a0_6) := (blk_cell BK101.out 6).trans rfl; have hfz3_0 := blk_frozen BK101.out 0; have hfz3_1 := blk_frozen BK101.out 1; have hfz3_2 := blk_frozen BK101.out 2; have hfz3_3 := blk_frozen BK101.out 3; have hfz3_4 := blk_frozen BK101.out 4; have hfz3_5 := blk_frozen BK101.out 5; have hfz3_6 := blk_frozen BK101.out 6) | ((with_reducible refine gate_dst (N := 11) rfl ?_); refine Kd.R_lit (Kd.int .i32) _ 21 ?hg (N := 11) ?hd (xs := ([a0_0, a0_1, a0_2] : List Int)) (inner := [.int .i32 a0_0, .int .i32 a0_1, .int .i32 a0_2]) (ok := fun _ => True) (okp := fun _ => True) ?hr ?hp (fun _ hk => hk) trivial (Below.refl _ _) (Nat.le_refl _) (by simp) ?_; (case hd => rfl); (case hg => rfl); (case hr => first | (go_simp; done) | (go_simp; rfl)); (case hp => exact (Reps.one (show Kd.M (Kd.int .i32) _ _ _ a0_0 [.int .i32 a0_0] from rfl) (Reps.one (show Kd.M (Kd.int .i32) _ _ _ a0_1 [.int .i32 a0_1] from rfl) (Reps.one (show Kd.M (Kd.int .i32) _ _ _ a0_2 [.int .i32 a0_2] from rfl) (Reps.none _ _))))); intro v103 w4 ho5 hb hg_ hnew_; clear hg_ hnew_; (first | rw [← Ny102.out] at ho5 | (simp only [Int.reduceToNat] at ho5; rw [← Ny102.out] at ho5)); have n0_ := Aside0.mk (Kd.R_lower ho5 (below_size (by repeat (first | (with_reducible first | exact HB.out | apply below_alloc | apply pw_below_drewN | apply below_drew1 | refine below_set ?_ GE101.out) | exact HB.out)))); have n1_ := Aside0.mk (blk_below (g := gb101) (o := .cells #[.int .i32 a0_0, .int .i32 a0_1, .int .i32 a0_2, .int .u8 a0_3, .int .u8 a0_4, .int .u8 a0_5, .bool a0_6] 23 (0, 0)) (by (with_reducible repeat (first | refine blk_drewN ?_ _ | refine blk_drew ?_ | refine blk_alloc ?_ _)); exact BK101.out) hb); have n2_ := Aside0.mk (below_step (by repeat (first | (with_reducible first | exact HB.out | apply below_alloc | apply pw_below_drewN | apply below_drew1 | refine below_set ?_ GE101.out) | exact HB.out)) hb); clear BK101; clear HB; have HO104 := n0_; have BK101 := n1_; have HB := n2_; clear n0_ n1_ n2_; clear hb ho5; obtain ⟨Ao6, co6, eo6⟩ := Kd.R_slice HO104.out; subst eo6))
  go_loopg [13] k (fun kq v13 w' => ∃ (x13_1 : Int), v13 = .int .i64 x13_1 ∧ Aside0 (laws_usual.l0 kq y102 (y102.length : Int) x13_1 a0_0 a0_1 a0_2 a0_3 a0_4 a0_5 a0_6 = some r) ∧ Aside0 (kq ≤ k) ∧ Aside0 (Kd.R (Kd.int .i32) 21 w' w.heap.size (fun _ => True) (.slice Ao6 y102.length co6) y102) ∧ Aside0 (w'.heap[gb101]? = some (.cells #[.int .i32 a0_0, .int .i32 a0_1, .int .i32 a0_2, .int .u8 a0_3, .int .u8 a0_4, .int .u8 a0_5, .bool a0_6] 23 (0, 0))) ∧ Aside0 (Below w.heap.size w w'))
  case atStart => exact ⟨(0), (by first | rfl | (simp; done) | (simp [*]; done)), H', ⟨Nat.le_refl _⟩, ⟨by (with_reducible repeat (first | apply Kd.R_alloc | apply Kd.R_drewN | apply Kd.R_drew)); exact HO104.out⟩, ⟨by (with_reducible repeat (first | refine blk_drewN ?_ _ | refine blk_drew ?_ | refine blk_alloc ?_ _)); exact BK101.out⟩, ⟨by repeat (first | (with_reducible first | exact HB.out | apply below_alloc | apply pw_below_drewN | apply below_drew1 | refine below_set ?_ GE101.out) | exact HB.out)⟩⟩
  case round =>
    clear H'
    try clear c1
    try clear p2
    try clear hcz3_0
    try clear hcz3_1
    try clear hcz3_2
    try clear hcz3_3
    try clear hcz3_4
    try clear hcz3_5
    try clear hcz3_6
    try clear hfz3_0
    try clear hfz3_1
    try clear hfz3_2
    try clear hfz3_3
    try clear hfz3_4
    try clear hfz3_5
    try clear hfz3_6
    obtain ⟨x13_1, rfl, HA, HK1, HO_11, BK101, HB⟩ := hrel
    cases gk with
    | zero => exact absurd HA.out (by simp [laws_usual.l0])
    | succ k1 =>
      have H := HA.out
      clear HA
      simp only [laws_usual.l0] at H
      by_cases c7 : x13_1 < (y102.length : Int)
      · rw [if_pos c7] at H
        have c7b0 : decide (x13_1 < (y102.length : Int)) = true := decide_eq_true c7
        clear c7
        by_cases c8 : 0 ≤ x13_1
        · rw [if_pos c8] at H
          have c8b0 : decide (0 ≤ x13_1) = true := decide_eq_true c8
          clear c8
          by_cases c9 : x13_1 < (y102.length : Int)
          · rw [if_pos c9] at H
            have c9b0 : decide (x13_1 < (y102.length : Int)) = true := decide_eq_true c9
            clear c9
            by_cases c10 : (rd y102 x13_1) = 0
            · rw [if_pos c10] at H
              have c10b0 : ((rd y102 x13_1) == 0) = true := beq_iff_eq.mpr c10
              have c10b1 : ((rd y102 x13_1) != 0) = false := bne_eq_false_iff_eq.mpr c10
              clear c10
              have H' := Aside0.mk H
              clear H
              have p105 : 0 ≤ (x13_1 : Int) := of_decide_eq_true (by first | (with_reducible assumption) | assumption)
              have q105 : x13_1 < (y102.length : Int) := of_decide_eq_true (by first | (with_reducible assumption) | assumption)
              obtain ⟨ad105, e105, hx105_0⟩ := Kd.at_int (Kd.R_reads' HO_11.out).2.2 x13_1 p105 q105
              cases e105
              replace p105 := eq_true p105
              replace q105 := eq_true q105
              go_wp2
              go_roundg k1
              case measure => have := HK1.out; omega
              case rel => exact ⟨(wrap64 (x13_1 + 1)), (by first | rfl | (simp; done) | (simp [*]; done)), H', ⟨by have := HK1.out; omega⟩, ⟨by (with_reducible repeat (first | apply Kd.R_alloc | apply Kd.R_drewN | apply Kd.R_drew)); exact HO_11.out⟩, ⟨by (with_reducible repeat (first | refine blk_drewN ?_ _ | refine blk_drew ?_ | refine blk_alloc ?_ _)); exact BK101.out⟩, ⟨by repeat (first | (with_reducible first | exact HB.out | apply below_alloc | apply pw_below_drewN | apply below_drew1 | refine below_set ?_ GE101.out) | exact HB.out)⟩⟩
            · rw [if_neg c10] at H
              have c10b0 : ((rd y102 x13_1) == 0) = false := beq_eq_false_iff_ne.mpr c10
              have c10b1 : ((rd y102 x13_1) != 0) = true := bne_iff_ne.mpr c10
              replace H := Option.bind_eq_some_iff.mp H
              obtain ⟨t106, A110, H⟩ := H
              replace H : (if t106 = true then (laws_usual.l0 k1 y102 (y102.length : Int) (wrap64 (x13_1 + 1)) a0_0 a0_1 a0_2 a0_3 a0_4 a0_5 a0_6) else (some false)) = some r := H
              have A11 := Aside0.mk A110
              clear A110
              by_cases c12 : t106 = true
              · subst c12
                have H1 : (laws_usual.l0 k1 y102 (y102.length : Int) (wrap64 (x13_1 + 1)) a0_0 a0_1 a0_2 a0_3 a0_4 a0_5 a0_6) = some r := by rw [if_pos rfl] at H; exact H
                clear H
                have H := H1
                clear H1
                have H' := Aside0.mk H
                clear H
                have p105 : 0 ≤ (x13_1 : Int) := of_decide_eq_true (by first | (with_reducible assumption) | assumption)
                have q105 : x13_1 < (y102.length : Int) := of_decide_eq_true (by first | (with_reducible assumption) | assumption)
                obtain ⟨ad105, e105, hx105_0⟩ := Kd.at_int (Kd.R_reads' HO_11.out).2.2 x13_1 p105 q105
                cases e105
                replace p105 := eq_true p105
                replace q105 := eq_true q105
                go_wp2_with (first | (go_at_call 35; (with_reducible refine (laws_plain.calls (rd y102 x13_1) true _ A11.out).mono ?_); rintro e w' ⟨rfl, ⟨nd, rfl⟩⟩))
                go_roundg k1
                case measure => have := HK1.out; omega
                case rel => exact ⟨(wrap64 (x13_1 + 1)), (by first | rfl | (simp; done) | (simp [*]; done)), H', ⟨by have := HK1.out; omega⟩, ⟨by (with_reducible repeat (first | apply Kd.R_alloc | apply Kd.R_drewN | apply Kd.R_drew)); exact HO_11.out⟩, ⟨by (with_reducible repeat (first | refine blk_drewN ?_ _ | refine blk_drew ?_ | refine blk_alloc ?_ _)); exact BK101.out⟩, ⟨by repeat (first | (with_reducible first | exact HB.out | apply below_alloc | apply pw_below_drewN | apply below_drew1 | refine below_set ?_ GE101.out) | exact HB.out)⟩⟩
              · replace c12 := Bool.eq_false_iff.mpr c12
                subst c12
                have H1 : (some false) = some r := by rw [if_neg (show ¬ (false = true) by decide)] at H; exact H
                clear H
                have H := H1
                clear H1
                obtain rfl := Option.some.inj H
                have p105 : 0 ≤ (x13_1 : Int) := of_decide_eq_true (by first | (with_reducible assumption) | assumption)
                have q105 : x13_1 < (y102.length : Int) := of_decide_eq_true (by first | (with_reducible assumption) | assumption)
                obtain ⟨ad105, e105, hx105_0⟩ := Kd.at_int (Kd.R_reads' HO_11.out).2.2 x13_1 p105 q105
                cases e105
                replace p105 := eq_true p105
                replace q105 := eq_true q105
                go_wp2_with (first | (go_at_call 35; (with_reducible refine (laws_plain.calls (rd y102 x13_1) false _ A11.out).mono ?_); rintro e w' ⟨rfl, ⟨nd, rfl⟩⟩))
                go_ret
                exact ⟨by first | rfl | (simp [errW_none, errW_some] <;> rfl) | (simp [*, errW_none, errW_some] <;> rfl), by repeat (first | (with_reducible first | exact HB.out | apply below_alloc | apply pw_below_drewN | apply below_drew1 | refine below_set ?_ GE101.out) | exact HB.out)⟩
          · rw [if_neg c9] at H
            exact absurd H (by simp)
        · rw [if_neg c8] at H
          exact absurd H (by simp)
      · rw [if_neg c7] at H
        have c7b0 : decide (x13_1 < (y102.length : Int)) = false := decide_eq_false c7
        clear c7
        by_cases c13 : a0_3 ≤ 2
        · rw [if_pos c13] at H
          have c13b0 : decide (a0_3 ≤ 2) = true := decide_eq_true c13
          clear c13
          by_cases c14 : a0_4 ≤ 2
          · rw [if_pos c14] at H
            have c14b0 : decide (a0_4 ≤ 2) = true := decide_eq_true c14
            clear c14
            obtain rfl := Option.some.inj H
            have hcz15_0 : wr.cell? ⟨gb101, 0, none⟩ = some (.int .i32 a0_0) := (blk_cell BK101.out 0).trans rfl
            have hcz15_1 : wr.cell? ⟨gb101, 1, none⟩ = some (.int .i32 a0_1) := (blk_cell BK101.out 1).trans rfl
            have hcz15_2 : wr.cell? ⟨gb101, 2, none⟩ = some (.int .i32 a0_2) := (blk_cell BK101.out 2).trans rfl
            have hcz15_3 : wr.cell? ⟨gb101, 3, none⟩ = some (.int .u8 a0_3) := (blk_cell BK101.out 3).trans rfl
            have hcz15_4 : wr.cell? ⟨gb101, 4, none⟩ = some (.int .u8 a0_4) := (blk_cell BK101.out 4).trans rfl
            have hcz15_5 : wr.cell? ⟨gb101, 5, none⟩ = some (.int .u8 a0_5) := (blk_cell BK101.out 5).trans rfl
            have hcz15_6 : wr.cell? ⟨gb101, 6, none⟩ = some (.bool a0_6) := (blk_cell BK101.out 6).trans rfl
            have hfz15_0 := blk_frozen BK101.out 0
            have hfz15_1 := blk_frozen BK101.out 1
            have hfz15_2 := blk_frozen BK101.out 2
            have hfz15_3 := blk_frozen BK101.out 3
            have hfz15_4 := blk_frozen BK101.out 4
            have hfz15_5 := blk_frozen BK101.out 5
            have hfz15_6 := blk_frozen BK101.out 6
            go_wp2
            go_ret
            exact ⟨by first | rfl | (simp [errW_none, errW_some] <;> rfl) | (simp [*, errW_none, errW_some] <;> rfl), by repeat (first | (with_reducible first | exact HB.out | apply below_alloc | apply pw_below_drewN | apply below_drew1 | refine below_set ?_ GE101.out) | exact HB.out)⟩
          · rw [if_neg c14] at H
            have c14b0 : decide (a0_4 ≤ 2) = false := decide_eq_false c14
            clear c14
            obtain rfl := Option.some.inj H
            have hcz16_0 : wr.cell? ⟨gb101, 0, none⟩ = some (.int .i32 a0_0) := (blk_cell BK101.out 0).trans rfl
            have hcz16_1 : wr.cell? ⟨gb101, 1, none⟩ = some (.int .i32 a0_1) := (blk_cell BK101.out 1).trans rfl
            have hcz16_2 : wr.cell? ⟨gb101, 2, none⟩ = some (.int .i32 a0_2) := (blk_cell BK101.out 2).trans rfl
            have hcz16_3 : wr.cell? ⟨gb101, 3, none⟩ = some (.int .u8 a0_3) := (blk_cell BK101.out 3).trans rfl
            have hcz16_4 : wr.cell? ⟨gb101, 4, none⟩ = some (.int .u8 a0_4) := (blk_cell BK101.out 4).trans rfl
            have hcz16_5 : wr.cell? ⟨gb101, 5, none⟩ = some (.int .u8 a0_5) := (blk_cell BK101.out 5).trans rfl
            have hcz16_6 : wr.cell? ⟨gb101, 6, none⟩ = some (.bool a0_6) := (blk_cell BK101.out 6).trans rfl
            have hfz16_0 := blk_frozen BK101.out 0
            have hfz16_1 := blk_frozen BK101.out 1
            have hfz16_2 := blk_frozen BK101.out 2
            have hfz16_3 := blk_frozen BK101.out 3
            have hfz16_4 := blk_frozen BK101.out 4
            have hfz16_5 := blk_frozen BK101.out 5
            have hfz16_6 := blk_frozen BK101.out 6
            go_wp2
            go_ret
            exact ⟨by first | rfl | (simp [errW_none, errW_some] <;> rfl) | (simp [*, errW_none, errW_some] <;> rfl), by repeat (first | (with_reducible first | exact HB.out | apply below_alloc | apply pw_below_drewN | apply below_drew1 | refine below_set ?_ GE101.out) | exact HB.out)⟩
        · rw [if_neg c13] at H
          have c13b0 : decide (a0_3 ≤ 2) = false := decide_eq_false c13
          clear c13
          obtain rfl := Option.some.inj H
          have hcz17_0 : wr.cell? ⟨gb101, 0, none⟩ = some (.int .i32 a0_0) := (blk_cell BK101.out 0).trans rfl
          have hcz17_1 : wr.cell? ⟨gb101, 1, none⟩ = some (.int .i32 a0_1) := (blk_cell BK101.out 1).trans rfl
          have hcz17_2 : wr.cell? ⟨gb101, 2, none⟩ = some (.int .i32 a0_2) := (blk_cell BK101.out 2).trans rfl
          have hcz17_3 : wr.cell? ⟨gb101, 3, none⟩ = some (.int .u8 a0_3) := (blk_cell BK101.out 3).trans rfl
          have hcz17_4 : wr.cell? ⟨gb101, 4, none⟩ = some (.int .u8 a0_4) := (blk_cell BK101.out 4).trans rfl
          have hcz17_5 : wr.cell? ⟨gb101, 5, none⟩ = some (.int .u8 a0_5) := (blk_cell BK101.out 5).trans rfl
          have hcz17_6 : wr.cell? ⟨gb101, 6, none⟩ = some (.bool a0_6) := (blk_cell BK101.out 6).trans rfl
          have hfz17_0 := blk_frozen BK101.out 0
          have hfz17_1 := blk_frozen BK101.out 1
          have hfz17_2 := blk_frozen BK101.out 2
          have hfz17_3 := blk_frozen BK101.out 3
          have hfz17_4 := blk_frozen BK101.out 4
          have hfz17_5 := blk_frozen BK101.out 5
          have hfz17_6 := blk_frozen BK101.out 6
          go_wp2
          go_ret
          exact ⟨by first | rfl | (simp [errW_none, errW_some] <;> rfl) | (simp [*, errW_none, errW_some] <;> rfl), by repeat (first | (with_reducible first | exact HB.out | apply below_alloc | apply pw_below_drewN | apply below_drew1 | refine below_set ?_ GE101.out) | exact HB.out)⟩

/-! ### laws_lines: function 17 -/
def laws_lines.l0 : Nat → List (S23) → List (S23) → Int → Int → Option (Bool)
  | 0, _, _, _, _ => none
  | k + 1, x0, x5, x6, x7 => if x7 < x6 then (if 0 ≤ x7 then (if x7 < (x5.length : Int) then ((laws_usual.f k ((rd_T23 x5 x7).f0) ((rd_T23 x5 x7).f1) ((rd_T23 x5 x7).f2) ((rd_T23 x5 x7).f3) ((rd_T23 x5 x7).f4) ((rd_T23 x5 x7).f5) ((rd_T23 x5 x7).f6)).bind fun t109 => (if t109 = true then (laws_lines.l0 k x0 x5 x6 (wrap64 (x7 + 1))) else (some false))) else (none)) else (none)) else (some (decide ((x0.length : Int) ≤ 20)))
def laws_lines.f (k : Nat) (l0 : List (S23)) : Option (Bool) := laws_lines.l0 k l0 l0 (l0.length : Int) 0
theorem laws_lines.mono_l : ∀ k, (∀ y0 y1 y2 y3, LeO (laws_lines.l0 k y0 y1 y2 y3) (laws_lines.l0 (k + 1) y0 y1 y2 y3))
  | 0 => fun _ _ _ _ r h => by simp [laws_lines.l0] at h
  | k + 1 => by
    have ih0 := laws_lines.mono_l k
    · intro y0 y1 y2 y3
      unfold laws_lines.l0
      repeat' first
      | (with_reducible exact ih0 _ _ _ _)
      | (with_reducible exact laws_usual.mono _ _ _ _ _ _ _ _)
      | (with_reducible exact LeO.refl _)
      | (with_reducible exact LeO.none _)
      | (with_reducible refine LeO.ite ?_ ?_)
      | (with_reducible refine LeO.bind ?_ (fun _ => ?_))
      | exact ih0 _ _ _ _
      | exact laws_usual.mono _ _ _ _ _ _ _ _
      | exact LeO.none _
      | refine LeO.ite ?_ ?_
      | refine LeO.bind ?_ (fun _ => ?_)
theorem laws_lines.mono : ∀ a0 k, LeO (laws_lines.f k a0) (laws_lines.f (k + 1) a0) := by
  intro a0 k
  have ih0 := laws_lines.mono_l k
  unfold laws_lines.f
  repeat' first
      | (with_reducible exact ih0 _ _ _ _)
      | (with_reducible exact laws_usual.mono _ _ _ _ _ _ _ _)
      | (with_reducible exact LeO.refl _)
      | (with_reducible exact LeO.none _)
      | (with_reducible refine LeO.ite ?_ ?_)
      | (with_reducible refine LeO.bind ?_ (fun _ => ?_))
      | exact ih0 _ _ _ _
      | exact laws_usual.mono _ _ _ _ _ _ _ _
      | exact LeO.none _
      | refine LeO.ite ?_ ?_
      | refine LeO.bind ?_ (fun _ => ?_)
set_option maxHeartbeats 8000000 in
set_option maxRecDepth 100000 in
theorem laws_lines.calls (k : Nat) (A0 : Option Addr) (c0 : Nat) (l0 : List (S23)) (r : Bool) (w : World) (hr0 : Kd.C k23 w A0 l0.length l0) (hc0 : l0.length ≤ c0) (h : laws_lines.f k l0 = some r) :
    Calls Tryd.prog 17 #[.slice A0 l0.length c0] w fun e w' => e = .returned (.bool r) ∧ Below w.heap.size w w' := by
  have hu23 := Tryd.underlying23
  have HR0 := Aside0.mk hr0
  have HC0 := Aside0.mk hc0
  clear hr0 hc0
  have HB := Aside0.mk (Below.refl w.heap.size w)
  have H : (laws_lines.l0 k l0 l0 (l0.length : Int) 0) = some r := h
  clear h
  have H' := Aside0.mk H
  clear H
  go_enter Tryd.func17, Tryd.ntmps17
  go_wp2
  go_loopg [7] k (fun kq v7 w' => ∃ (x7_1 : Int), v7 = .int .i64 x7_1 ∧ Aside0 (laws_lines.l0 kq l0 l0 (l0.length : Int) x7_1 = some r) ∧ Aside0 (kq ≤ k) ∧ Aside0 (Below w.heap.size w w'))
  case atStart => exact ⟨(0), (by first | rfl | (simp; done) | (simp [*]; done)), H', ⟨Nat.le_refl _⟩, ⟨by repeat (first | (with_reducible first | exact HB.out | apply below_alloc | apply pw_below_drewN | apply below_drew1) | exact HB.out)⟩⟩
  case round =>
    clear H'
    try clear c1
    obtain ⟨x7_1, rfl, HA, HK1, HB⟩ := hrel
    cases gk with
    | zero => exact absurd HA.out (by simp [laws_lines.l0])
    | succ k1 =>
      have H := HA.out
      clear HA
      simp only [laws_lines.l0] at H
      by_cases c2 : x7_1 < (l0.length : Int)
      · rw [if_pos c2] at H
        have c2b0 : decide (x7_1 < (l0.length : Int)) = true := decide_eq_true c2
        clear c2
        by_cases c3 : 0 ≤ x7_1
        · rw [if_pos c3] at H
          have c3b0 : decide (0 ≤ x7_1) = true := decide_eq_true c3
          clear c3
          by_cases c4 : x7_1 < (l0.length : Int)
          · rw [if_pos c4] at H
            have c4b0 : decide (x7_1 < (l0.length : Int)) = true := decide_eq_true c4
            clear c4
            replace H := Option.bind_eq_some_iff.mp H
            obtain ⟨t109, A50, H⟩ := H
            replace H : (if t109 = true then (laws_lines.l0 k1 l0 l0 (l0.length : Int) (wrap64 (x7_1 + 1))) else (some false)) = some r := H
            have A5 := Aside0.mk A50
            clear A50
            by_cases c6 : t109 = true
            · subst c6
              have H1 : (laws_lines.l0 k1 l0 l0 (l0.length : Int) (wrap64 (x7_1 + 1))) = some r := by rw [if_pos rfl] at H; exact H
              clear H
              have H := H1
              clear H1
              have H' := Aside0.mk H
              clear H
              have p107 : 0 ≤ (x7_1 : Int) := of_decide_eq_true (by first | (with_reducible assumption) | assumption)
              have q107 : x7_1 < (l0.length : Int) := of_decide_eq_true (by first | (with_reducible assumption) | assumption)
              obtain ⟨ad107, e107, hx107_0, hx107_1, hx107_2, hx107_3, hx107_4, hx107_5, hx107_6⟩ := at_T23 HR0.out x7_1 p107 q107
              cases e107
              replace hx107_0 := (HB.out.cell (World.block_lt_of_cell? w _ hx107_0)).trans hx107_0
              replace hx107_1 := (HB.out.cell (World.block_lt_of_cell? w _ hx107_1)).trans hx107_1
              replace hx107_2 := (HB.out.cell (World.block_lt_of_cell? w _ hx107_2)).trans hx107_2
              replace hx107_3 := (HB.out.cell (World.block_lt_of_cell? w _ hx107_3)).trans hx107_3
              replace hx107_4 := (HB.out.cell (World.block_lt_of_cell? w _ hx107_4)).trans hx107_4
              replace hx107_5 := (HB.out.cell (World.block_lt_of_cell? w _ hx107_5)).trans hx107_5
              replace hx107_6 := (HB.out.cell (World.block_lt_of_cell? w _ hx107_6)).trans hx107_6
              replace p107 := eq_true p107
              replace q107 := eq_true q107
              go_wp2_with (first | ((with_reducible refine gate_dst (N := 4) rfl ?_); refine box_event ?hg (N := 4) ?hd (cs := #[.int .i32 0, .int .i32 0, .int .i32 0, .int .u8 0, .int .u8 0, .int .u8 0, .bool false]) (t := 23) ?hr ?_; (case hd => rfl); (case hg => rfl); (case hr => first | (go_simp; done) | (go_simp; rfl)); intro gb108 hg w7 hbox hb; have n0_ := Aside0.mk (below_step (by repeat (first | (with_reducible first | exact HB.out | apply below_alloc | apply pw_below_drewN | apply below_drew1) | exact HB.out)) hb); have n1_ := Aside0.mk (hbox); have n2_ := Aside0.mk ((by rw [hg]; exact (below_size (by repeat (first | (with_reducible first | exact HB.out | apply below_alloc | apply pw_below_drewN | apply below_drew1) | exact HB.out))) : w.heap.size ≤ gb108)); have n3_ := Aside0.mk ((by rw [hg]; exact (below_size (by repeat (first | (with_reducible first | exact HB.out | apply below_alloc | apply pw_below_drewN | apply below_drew1) | exact HB.out))) : w.heap.size ≤ gb108)); clear HB; have HB := n0_; have BK108 := n1_; have GW108 := n2_; have GE108 := n3_; clear n0_ n1_ n2_ n3_; clear hb hbox hg; have hcz8_0 : w7.cell? ⟨gb108, 0, none⟩ = some (.int .i32 0) := (blk_cell BK108.out 0).trans rfl; have hcz8_1 : w7.cell? ⟨gb108, 1, none⟩ = some (.int .i32 0) := (blk_cell BK108.out 1).trans rfl; have hcz8_2 : w7.cell? ⟨gb108, 2, none⟩ = some (.int .i32 0) := (blk_cell BK108.out 2).trans rfl; have hcz8_3 : w7.cell? ⟨gb108, 3, none⟩ = some (.int .u8 0) := (blk_cell BK108.out 3).trans rfl; have hcz8_4 : w7.cell? ⟨gb108, 4, none⟩ = some (.int .u8 0) := (blk_cell BK108.out 4).trans rfl; have hcz8_5 : w7.cell? ⟨gb108, 5, none⟩ = some (.int .u8 0) := (blk_cell BK108.out 5).trans rfl; have hcz8_6 : w7.cell? ⟨gb108, 6, none⟩ = some (.bool false) := (blk_cell BK108.out 6).trans rfl; have hfz8_0 := blk_frozen BK108.out 0; have hfz8_1 := blk_frozen BK108.out 1; have hfz8_2 := blk_frozen BK108.out 2; have hfz8_3 := blk_frozen BK108.out 3; have hfz8_4 := blk_frozen BK108.out 4; have hfz8_5 := blk_frozen BK108.out 5; have hfz8_6 := blk_frozen BK108.out 6) | ((with_reducible refine gate_callee (f := 16) rfl ?_); refine goesL_ (some 12) rfl rfl Tryd.func16 (by kernel_rfl) rfl #[.agg #[.int .i32 ((rd_T23 l0 x7_1).f0), .int .i32 ((rd_T23 l0 x7_1).f1), .int .i32 ((rd_T23 l0 x7_1).f2), .int .u8 ((rd_T23 l0 x7_1).f3), .int .u8 ((rd_T23 l0 x7_1).f4), .int .u8 ((rd_T23 l0 x7_1).f5), .bool ((rd_T23 l0 x7_1).f6)]] rfl (by (try simp only [List.map_toArray, List.map_cons, List.map_nil]); first | done | rfl | (simp only [List.length_drop, List.length_take]; rfl)) ?_; (with_reducible refine (laws_usual.calls k1 ((rd_T23 l0 x7_1).f0) ((rd_T23 l0 x7_1).f1) ((rd_T23 l0 x7_1).f2) ((rd_T23 l0 x7_1).f3) ((rd_T23 l0 x7_1).f4) ((rd_T23 l0 x7_1).f5) ((rd_T23 l0 x7_1).f6) true _ A5.out).mono ?_); rintro e w9 ⟨rfl, hb⟩; refine ⟨_, rfl, ?_⟩; have n0_ := Aside0.mk (blk_below (g := gb108) (o := .cells #[.int .i32 ((rd_T23 l0 x7_1).f0), .int .i32 ((rd_T23 l0 x7_1).f1), .int .i32 ((rd_T23 l0 x7_1).f2), .int .u8 ((rd_T23 l0 x7_1).f3), .int .u8 ((rd_T23 l0 x7_1).f4), .int .u8 ((rd_T23 l0 x7_1).f5), .bool ((rd_T23 l0 x7_1).f6)] 23 (0, 0)) (by (with_reducible repeat (first | refine blk_drewN ?_ _ | refine blk_drew ?_ | refine blk_alloc ?_ _)); refine blk_put (cs := #[.int .i32 ((rd_T23 l0 x7_1).f0), .int .i32 ((rd_T23 l0 x7_1).f1), .int .i32 ((rd_T23 l0 x7_1).f2), .int .u8 ((rd_T23 l0 x7_1).f3), .int .u8 ((rd_T23 l0 x7_1).f4), .int .u8 ((rd_T23 l0 x7_1).f5), .bool false]) ?_ 6 _ rfl; (with_reducible repeat (first | refine blk_drewN ?_ _ | refine blk_drew ?_ | refine blk_alloc ?_ _)); refine blk_put (cs := #[.int .i32 ((rd_T23 l0 x7_1).f0), .int .i32 ((rd_T23 l0 x7_1).f1), .int .i32 ((rd_T23 l0 x7_1).f2), .int .u8 ((rd_T23 l0 x7_1).f3), .int .u8 ((rd_T23 l0 x7_1).f4), .int .u8 0, .bool false]) ?_ 5 _ rfl; (with_reducible repeat (first | refine blk_drewN ?_ _ | refine blk_drew ?_ | refine blk_alloc ?_ _)); refine blk_put (cs := #[.int .i32 ((rd_T23 l0 x7_1).f0), .int .i32 ((rd_T23 l0 x7_1).f1), .int .i32 ((rd_T23 l0 x7_1).f2), .int .u8 ((rd_T23 l0 x7_1).f3), .int .u8 0, .int .u8 0, .bool false]) ?_ 4 _ rfl; (with_reducible repeat (first | refine blk_drewN ?_ _ | refine blk_drew ?_ | refine blk_alloc ?_ _)); refine blk_put (cs := #[.int .i32 ((rd_T23 l0 x7_1).f0), .int .i32 ((rd_T23 l0 x7_1).f1), .int .i32 ((rd_T23 l0 x7_1).f2), .int .u8 0, .int .u8 0, .int .u8 0, .bool false]) ?_ 3 _ rfl; (with_reducible repeat (first | refine blk_drewN ?_ _ | refine blk_drew ?_ | refine blk_alloc ?_ _)); refine blk_put (cs := #[.int .i32 ((rd_T23 l0 x7_1).f0), .int .i32 ((rd_T23 l0 x7_1).f1), .int .i32 0, .int .u8 0, .int .u8 0, .int .u8 0, .bool false]) ?_ 2 _ rfl; (with_reducible repeat (first | refine blk_drewN ?_ _ | refine blk_drew ?_ | refine blk_alloc ?_ _)); refine blk_put (cs := #[.int .i32 ((rd_T23 l0 x7_1).f0), .int .i32 0, .int .i32 0, .int .u8 0, .int .u8 0, .int .u8 0, .bool false]) ?_ 1 _ rfl; (with_reducible repeat (first | refine blk_drewN ?_ _ | refine blk_drew ?_ | refine blk_alloc ?_ _)); refine blk_put (cs := #[.int .i32 0, .int .i32 0, .int .i32 0, .int .u8 0, .int .u8 0, .int .u8 0, .bool false]) ?_ 0 _ rfl; (with_reducible repeat (first | refine blk_drewN ?_ _ | refine blk_drew ?_ | refine blk_alloc ?_ _)); exact BK108.out) hb); have n1_ := Aside0.mk (below_step (by repeat (first | (with_reducible first | exact HB.out | apply below_alloc | apply pw_below_drewN | apply below_drew1 | refine below_set ?_ GE108.out) | exact HB.out)) hb); clear BK108; clear HB; have BK108 := n0_; have HB := n1_; clear n0_ n1_; (try clear hb); (try clear hb2); (try clear hk); (try clear hi)))
              go_roundg k1
              case measure => have := HK1.out; omega
              case rel => exact ⟨(wrap64 (x7_1 + 1)), (by first | rfl | (simp; done) | (simp [*]; done)), H', ⟨by have := HK1.out; omega⟩, ⟨by repeat (first | (with_reducible first | exact HB.out | apply below_alloc | apply pw_below_drewN | apply below_drew1 | refine below_set ?_ GE108.out) | exact HB.out)⟩⟩
            · replace c6 := Bool.eq_false_iff.mpr c6
              subst c6
              have H1 : (some false) = some r := by rw [if_neg (show ¬ (false = true) by decide)] at H; exact H
              clear H
              have H := H1
              clear H1
              obtain rfl := Option.some.inj H
              have p107 : 0 ≤ (x7_1 : Int) := of_decide_eq_true (by first | (with_reducible assumption) | assumption)
              have q107 : x7_1 < (l0.length : Int) := of_decide_eq_true (by first | (with_reducible assumption) | assumption)
              obtain ⟨ad107, e107, hx107_0, hx107_1, hx107_2, hx107_3, hx107_4, hx107_5, hx107_6⟩ := at_T23 HR0.out x7_1 p107 q107
              cases e107
              replace hx107_0 := (HB.out.cell (World.block_lt_of_cell? w _ hx107_0)).trans hx107_0
              replace hx107_1 := (HB.out.cell (World.block_lt_of_cell? w _ hx107_1)).trans hx107_1
              replace hx107_2 := (HB.out.cell (World.block_lt_of_cell? w _ hx107_2)).trans hx107_2
              replace hx107_3 := (HB.out.cell (World.block_lt_of_cell? w _ hx107_3)).trans hx107_3
              replace hx107_4 := (HB.out.cell (World.block_lt_of_cell? w _ hx107_4)).trans hx107_4
              replace hx107_5 := (HB.out.cell (World.block_lt_of_cell? w _ hx107_5)).trans hx107_5
              replace hx107_6 := (HB.out.cell (World.block_lt_of_cell? w _ hx107_6)).trans hx107_6
              replace p107 := eq_true p107
              replace q107 := eq_true q107
              go_wp2_with (first | ((with_reducible refine gate_dst (N := 4) rfl ?_); refine box_event ?hg (N := 4) ?hd (cs := #[.int .i32 0, .int .i32 0, .int .i32 0, .int .u8 0, .int .u8 0, .int .u8 0, .bool false]) (t := 23) ?hr ?_; (case hd => rfl); (case hg => rfl); (case hr => first | (go_simp; done) | (go_simp; rfl)); intro gb108 hg w10 hbox hb; have n0_ := Aside0.mk (below_step (by repeat (first | (with_reducible first | exact HB.out | apply below_alloc | apply pw_below_drewN | apply below_drew1) | exact HB.out)) hb); have n1_ := Aside0.mk (hbox); have n2_ := Aside0.mk ((by rw [hg]; exact (below_size (by repeat (first | (with_reducible first | exact HB.out | apply below_alloc | apply pw_below_drewN | apply below_drew1) | exact HB.out))) : w.heap.size ≤ gb108)); have n3_ := Aside0.mk ((by rw [hg]; exact (below_size (by repeat (first | (with_reducible first | exact HB.out | apply below_alloc | apply pw_below_drewN | apply below_drew1) | exact HB.out))) : w.heap.size ≤ gb108)); clear HB; have HB := n0_; have BK108 := n1_; have GW108 := n2_; have GE108 := n3_; clear n0_ n1_ n2_ n3_; clear hb hbox hg; have hcz11_0 : w10.cell? ⟨gb108, 0, none⟩ = some (.int .i32 0) := (blk_cell BK108.out 0).trans rfl; have hcz11_1 : w10.cell? ⟨gb108, 1, none⟩ = some (.int .i32 0) := (blk_cell BK108.out 1).trans rfl; have hcz11_2 : w10.cell? ⟨gb108, 2, none⟩ = some (.int .i32 0) := (blk_cell BK108.out 2).trans rfl; have hcz11_3 : w10.cell? ⟨gb108, 3, none⟩ = some (.int .u8 0) := (blk_cell BK108.out 3).trans rfl; have hcz11_4 : w10.cell? ⟨gb108, 4, none⟩ = some (.int .u8 0) := (blk_cell BK108.out 4).trans rfl; have hcz11_5 : w10.cell? ⟨gb108, 5, none⟩ = some (.int .u8 0) := (blk_cell BK108.out 5).trans rfl; have hcz11_6 : w10.cell? ⟨gb108, 6, none⟩ = some (.bool false) := (blk_cell BK108.out 6).trans rfl; have hfz11_0 := blk_frozen BK108.out 0; have hfz11_1 := blk_frozen BK108.out 1; have hfz11_2 := blk_frozen BK108.out 2; have hfz11_3 := blk_frozen BK108.out 3; have hfz11_4 := blk_frozen BK108.out 4; have hfz11_5 := blk_frozen BK108.out 5; have hfz11_6 := blk_frozen BK108.out 6) | ((with_reducible refine gate_callee (f := 16) rfl ?_); refine goesL_ (some 12) rfl rfl Tryd.func16 (by kernel_rfl) rfl #[.agg #[.int .i32 ((rd_T23 l0 x7_1).f0), .int .i32 ((rd_T23 l0 x7_1).f1), .int .i32 ((rd_T23 l0 x7_1).f2), .int .u8 ((rd_T23 l0 x7_1).f3), .int .u8 ((rd_T23 l0 x7_1).f4), .int .u8 ((rd_T23 l0 x7_1).f5), .bool ((rd_T23 l0 x7_1).f6)]] rfl (by (try simp only [List.map_toArray, List.map_cons, List.map_nil]); first | done | rfl | (simp only [List.length_drop, List.length_take]; rfl)) ?_; (with_reducible refine (laws_usual.calls k1 ((rd_T23 l0 x7_1).f0) ((rd_T23 l0 x7_1).f1) ((rd_T23 l0 x7_1).f2) ((rd_T23 l0 x7_1).f3) ((rd_T23 l0 x7_1).f4) ((rd_T23 l0 x7_1).f5) ((rd_T23 l0 x7_1).f6) false _ A5.out).mono ?_); rintro e w12 ⟨rfl, hb⟩; refine ⟨_, rfl, ?_⟩; have n0_ := Aside0.mk (blk_below (g := gb108) (o := .cells #[.int .i32 ((rd_T23 l0 x7_1).f0), .int .i32 ((rd_T23 l0 x7_1).f1), .int .i32 ((rd_T23 l0 x7_1).f2), .int .u8 ((rd_T23 l0 x7_1).f3), .int .u8 ((rd_T23 l0 x7_1).f4), .int .u8 ((rd_T23 l0 x7_1).f5), .bool ((rd_T23 l0 x7_1).f6)] 23 (0, 0)) (by (with_reducible repeat (first | refine blk_drewN ?_ _ | refine blk_drew ?_ | refine blk_alloc ?_ _)); refine blk_put (cs := #[.int .i32 ((rd_T23 l0 x7_1).f0), .int .i32 ((rd_T23 l0 x7_1).f1), .int .i32 ((rd_T23 l0 x7_1).f2), .int .u8 ((rd_T23 l0 x7_1).f3), .int .u8 ((rd_T23 l0 x7_1).f4), .int .u8 ((rd_T23 l0 x7_1).f5), .bool false]) ?_ 6 _ rfl; (with_reducible repeat (first | refine blk_drewN ?_ _ | refine blk_drew ?_ | refine blk_alloc ?_ _)); refine blk_put (cs := #[.int .i32 ((rd_T23 l0 x7_1).f0), .int .i32 ((rd_T23 l0 x7_1).f1), .int .i32 ((rd_T23 l0 x7_1).f2), .int .u8 ((rd_T23 l0 x7_1).f3), .int .u8 ((rd_T23 l0 x7_1).f4), .int .u8 0, .bool false]) ?_ 5 _ rfl; (with_reducible repeat (first | refine blk_drewN ?_ _ | refine blk_drew ?_ | refine blk_alloc ?_ _)); refine blk_put (cs := #[.int .i32 ((rd_T23 l0 x7_1).f0), .int .i32 ((rd_T23 l0 x7_1).f1), .int .i32 ((rd_T23 l0 x7_1).f2), .int .u8 ((rd_T23 l0 x7_1).f3), .int .u8 0, .int .u8 0, .bool false]) ?_ 4 _ rfl; (with_reducible repeat (first | refine blk_drewN ?_ _ | refine blk_drew ?_ | refine blk_alloc ?_ _)); refine blk_put (cs := #[.int .i32 ((rd_T23 l0 x7_1).f0), .int .i32 ((rd_T23 l0 x7_1).f1), .int .i32 ((rd_T23 l0 x7_1).f2), .int .u8 0, .int .u8 0, .int .u8 0, .bool false]) ?_ 3 _ rfl; (with_reducible repeat (first | refine blk_drewN ?_ _ | refine blk_drew ?_ | refine blk_alloc ?_ _)); refine blk_put (cs := #[.int .i32 ((rd_T23 l0 x7_1).f0), .int .i32 ((rd_T23 l0 x7_1).f1), .int .i32 0, .int .u8 0, .int .u8 0, .int .u8 0, .bool false]) ?_ 2 _ rfl; (with_reducible repeat (first | refine blk_drewN ?_ _ | refine blk_drew ?_ | refine blk_alloc ?_ _)); refine blk_put (cs := #[.int .i32 ((rd_T23 l0 x7_1).f0), .int .i32 0, .int .i32 0, .int .u8 0, .int .u8 0, .int .u8 0, .bool false]) ?_ 1 _ rfl; (with_reducible repeat (first | refine blk_drewN ?_ _ | refine blk_drew ?_ | refine blk_alloc ?_ _)); refine blk_put (cs := #[.int .i32 0, .int .i32 0, .int .i32 0, .int .u8 0, .int .u8 0, .int .u8 0, .bool false]) ?_ 0 _ rfl; (with_reducible repeat (first | refine blk_drewN ?_ _ | refine blk_drew ?_ | refine blk_alloc ?_ _)); exact BK108.out) hb); have n1_ := Aside0.mk (below_step (by repeat (first | (with_reducible first | exact HB.out | apply below_alloc | apply pw_below_drewN | apply below_drew1 | refine below_set ?_ GE108.out) | exact HB.out)) hb); clear BK108; clear HB; have BK108 := n0_; have HB := n1_; clear n0_ n1_; (try clear hb); (try clear hb2); (try clear hk); (try clear hi)))
              go_ret
              exact ⟨by first | rfl | (simp [errW_none, errW_some] <;> rfl) | (simp [*, errW_none, errW_some] <;> rfl), by repeat (first | (with_reducible first | exact HB.out | apply below_alloc | apply pw_below_drewN | apply below_drew1 | refine below_set ?_ GE108.out) | exact HB.out)⟩
          · rw [if_neg c4] at H
            exact absurd H (by simp)
        · rw [if_neg c3] at H
          exact absurd H (by simp)
      · rw [if_neg c2] at H
        have c2b0 : decide (x7_1 < (l0.length : Int)) = false := decide_eq_false c2
        clear c2
        obtain rfl := Option.some.inj H
        go_wp2
        go_ret
        exact ⟨by first | rfl | (simp [errW_none, errW_some] <;> rfl) | (simp [*, errW_none, errW_some] <;> rfl), by repeat (first | (with_reducible first | exact HB.out | apply below_alloc | apply pw_below_drewN | apply below_drew1) | exact HB.out)⟩

/-! ### impl_EntryInherit: function 18 -/
def impl_EntryInherit.toE (x : S23) : Go.Proofs.YtifhhejohdmiaaaDoorEnt.Ent := ⟨x.f0, x.f1, x.f2, x.f3, x.f4, x.f5, x.f6⟩
theorem impl_EntryInherit.ents {w : World} {A : Option Addr} {l : List (S23)} (h : Kd.C k23 w A l.length l) : l.map impl_EntryInherit.toE ≠ [] → ∃ g o, A = some ⟨g, o, none⟩ ∧ g < w.heap.size ∧ Go.Proofs.YtifhhejohdmiaaaDoorEnt.Ents w g o (l.map impl_EntryInherit.toE) := by
  intro hne
  have hpos : 0 < l.length := List.length_pos_iff.2 (fun e => hne (by rw [e]; rfl))
  have key : ∀ (i : Nat) (hi : i < l.length), ∃ ad : Addr, A = some ad ∧ ∀ j u, ([.int .i32 (l[i]).f0, .int .i32 (l[i]).f1, .int .i32 (l[i]).f2, .int .u8 (l[i]).f3, .int .u8 (l[i]).f4, .int .u8 (l[i]).f5, .bool (l[i]).f6] : List Value)[j]? = some u → w.cell? (ad.add (i * 7 + j)) = some u := by
    intro i hi
    obtain ⟨ad, c, e, _, hK, hc⟩ := Kd.C_get h z23 (i : Int) (by omega) (by omega)
    have hg : l.getD (i : Int).toNat z23 = l[i] := by
      rw [Int.toNat_natCast, List.getD_eq_getElem?_getD, List.getElem?_eq_getElem hi]; rfl
    rw [hg] at hK
    obtain rfl := k23_open hK
    exact ⟨ad, e, fun j u hu => hc j u hu⟩
  obtain ⟨ad, rfl, hc⟩ := key 0 hpos
  have h0 := hc 0 _ rfl
  have hsp : (ad.add 0).spot = none := World.cell?_spot h0
  obtain ⟨b, o, sp⟩ := ad
  have hsp' : sp = none := by simpa [Addr.add] using hsp
  subst hsp'
  have hadd : ∀ j, (⟨b, o, none⟩ : Addr).add j = ⟨b, o + j, none⟩ := fun j => by unfold Addr.add; split <;> simp_all
  have hlt := World.block_lt_of_cell? w _ h0
  rw [hadd] at hlt
  refine ⟨b, o, rfl, hlt, fun i hi => ?_⟩
  have hi' : i < l.length := by simpa using hi
  obtain ⟨ad, e, hc⟩ := key i hi'
  injection e with e
  subst e
  have c : ∀ j u, ([.int .i32 (l[i]).f0, .int .i32 (l[i]).f1, .int .i32 (l[i]).f2, .int .u8 (l[i]).f3, .int .u8 (l[i]).f4, .int .u8 (l[i]).f5, .bool (l[i]).f6] : List Value)[j]? = some u → w.cell? ⟨b, o + i * 7 + j, none⟩ = some u := fun j u hu => by
    have := hc j u hu
    rw [hadd, ← Nat.add_assoc] at this
    exact this
  rw [List.getElem_map]
  exact ⟨c 0 _ rfl, c 1 _ rfl, c 2 _ rfl, c 3 _ rfl, c 4 _ rfl, c 5 _ rfl, c 6 _ rfl⟩
def impl_EntryInherit.out (e : Go.Proofs.YtifhhejohdmiaaaDoorEnt.Ent) : Int × Int × Int × Int × Int × Int × Bool := (e.c, e.b, e.o, e.bo, e.it, e.un, e.ni)
def impl_EntryInherit.f (a0_0 : Int) (a0_1 : Int) (a0_2 : Int) (a0_3 : Int) (a0_4 : Int) (a0_5 : Int) (a0_6 : Bool) (l1 : List (S23)) : Option (Int × Int × Int × Int × Int × Int × Bool) :=
  if l1.length ≤ 1000000 then some (impl_EntryInherit.out (Go.Proofs.YtifhhejohdmiaaaDoorEnt.inhL ⟨a0_0, a0_1, a0_2, a0_3, a0_4, a0_5, a0_6⟩ (l1.map impl_EntryInherit.toE))) else none
theorem impl_EntryInherit.calls (a0_0 : Int) (a0_1 : Int) (a0_2 : Int) (a0_3 : Int) (a0_4 : Int) (a0_5 : Int) (a0_6 : Bool) (A1 : Option Addr) (c1 : Nat) (l1 : List (S23)) (r1 : Int) (r2 : Int) (r3 : Int) (r4 : Int) (r5 : Int) (r6 : Int) (r7 : Bool) (w : World) (hr1 : Kd.C k23 w A1 l1.length l1) (hc1 : l1.length ≤ c1) (h : impl_EntryInherit.f a0_0 a0_1 a0_2 a0_3 a0_4 a0_5 a0_6 l1 = some (r1, r2, r3, r4, r5, r6, r7)) :
    Calls Tryd.prog 18 #[.agg #[.int .i32 a0_0, .int .i32 a0_1, .int .i32 a0_2, .int .u8 a0_3, .int .u8 a0_4, .int .u8 a0_5, .bool a0_6], .slice A1 l1.length c1] w fun e w' => e = .returned (.agg #[.int .i32 r1, .int .i32 r2, .int .i32 r3, .int .u8 r4, .int .u8 r5, .int .u8 r6, .bool r7]) ∧ Below w.heap.size w w' := by
  unfold impl_EntryInherit.f at h
  by_cases h0 : l1.length ≤ 1000000
  · rw [if_pos h0] at h
    simp only [Option.some.injEq, impl_EntryInherit.out, Prod.mk.injEq] at h
    obtain ⟨rfl, rfl, rfl, rfl, rfl, rfl, rfl⟩ := h
    have := Go.Proofs.YtifhhejohdmiaaaDoorEnt.eInh_c ⟨a0_0, a0_1, a0_2, a0_3, a0_4, a0_5, a0_6⟩ A1 c1 (l1.map impl_EntryInherit.toE) (by rw [List.length_map]; exact h0) (by rw [List.length_map]; exact hc1) w (impl_EntryInherit.ents hr1)
    rw [List.length_map] at this
    exact this
  · rw [if_neg h0] at h; cases h
end Go.Proofs.YtifhhejohdmiaaaDoor.K
