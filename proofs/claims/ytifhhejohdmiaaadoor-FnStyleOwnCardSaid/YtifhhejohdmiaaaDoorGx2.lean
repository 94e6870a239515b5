-- WRITTEN BY OUR myprint.py, a program of this session's over the kit's printer
import Derived.Test.YtifhhejohdmiaaaDoorGx0
namespace Go.Proofs.YtifhhejohdmiaaaDoor.G
open Go.RowKit Go.Proofs.YtifhhejohdmiaaaDoorW.PrintWords Go.Proofs.YtifhhejohdmiaaaDoorW.PrintLast Go.Proofs.YtifhhejohdmiaaaDoorW.PrintMore
attribute [local go_sem] max2_int min2_int max_two min_two max_three min_three max_four min_four   -- for this text's walks alone
set_option linter.unusedVariables false
set_option linter.unusedSimpArgs false

/-! ### laws_styled: function 13 -/
def laws_styled.f : Option Bool := some true
theorem laws_styled.calls (r : Bool) (w : World) (hV : Go.Proofs.YtifhhejohdmiaaaDoorFmt.VarsOK w) (h : laws_styled.f = some r) :
    Calls Tryd.prog 13 #[] w fun e w' => e = .returned (.bool r) ∧ Below w.heap.size w w' := by
  obtain rfl := Option.some.inj h
  exact Go.Proofs.YtifhhejohdmiaaaDoorEnt.sane w hV
/-! ### laws_plain: function 35 -/
def laws_plain.f (a0 : Int) : Option (Bool) := if a0 ≥ 1 then (some (decide (a0 ≤ 16777216))) else (some false)
set_option maxHeartbeats 8000000 in
set_option maxRecDepth 100000 in
theorem laws_plain.calls (a0 : Int) (r : Bool) (w : World) (h : laws_plain.f a0 = some r) :
    Calls Tryd.prog 35 #[.int .i32 a0] w fun e w' => e = .returned (.bool r) ∧ Drawn0 w w' := by
  have H : (if a0 ≥ 1 then (some (decide (a0 ≤ 16777216))) else (some false)) = some r := h
  clear h
  by_cases c2 : a0 ≥ 1
  · rw [if_pos c2] at H
    have c2b0 : decide (1 ≤ a0) = true := decide_eq_true c2
    clear c2
    obtain rfl := Option.some.inj H
    go_enter Tryd.func35, Tryd.ntmps35
    go_wp2
    go_ret
    exact ⟨by first | rfl | (simp; done) | (simp [*]; done), by repeat (first | exact Drawn0.refl _ | apply Drawn0.step)⟩
  · rw [if_neg c2] at H
    have c2b0 : decide (1 ≤ a0) = false := decide_eq_false c2
    clear c2
    obtain rfl := Option.some.inj H
    go_enter Tryd.func35, Tryd.ntmps35
    go_wp2
    go_ret
    exact ⟨by first | rfl | (simp; done) | (simp [*]; done), by repeat (first | exact Drawn0.refl _ | apply Drawn0.step)⟩

/-! ### laws_usual: function 16 -/
def laws_usual.l0 : Nat → List Int → Int → Int → Int → Int → Int → Int → Int → Int → Bool → Option (Bool)
  | 0, _, _, _, _, _, _, _, _, _, _ => none
  | k + 1, x11, x12, x13, x102000, x102001, x102002, x102003, x102004, x102005, x102006 => if x13 < x12 then (if 0 ≤ x13 then (if x13 < (x11.length : Int) then (if (rd x11 x13) = 0 then (laws_usual.l0 k x11 x12 (wrap64 (x13 + 1)) x102000 x102001 x102002 x102003 x102004 x102005 x102006) else ((laws_plain.f (rd x11 x13)).bind fun t106 => (if t106 = true then (laws_usual.l0 k x11 x12 (wrap64 (x13 + 1)) x102000 x102001 x102002 x102003 x102004 x102005 x102006) else (some false)))) else (none)) else (none)) else (if x102003 ≤ 2 then (if x102004 ≤ 2 then (some (decide (x102005 ≤ 2))) else (some false)) else (some false))
def laws_usual.f (k : Nat) (a0_0 : Int) (a0_1 : Int) (a0_2 : Int) (a0_3 : Int) (a0_4 : Int) (a0_5 : Int) (a0_6 : Bool) : Option (Bool) := (some (([a0_0, a0_1, a0_2] : List Int) : List Int)).bind fun y102 => (laws_usual.l0 k y102 (y102.length : Int) 0 a0_0 a0_1 a0_2 a0_3 a0_4 a0_5 a0_6)
theorem laws_usual.mono_l : ∀ k, (∀ y0 y1 y2 y3 y4 y5 y6 y7 y8 y9, LeO (laws_usual.l0 k y0 y1 y2 y3 y4 y5 y6 y7 y8 y9) (laws_usual.l0 (k + 1) y0 y1 y2 y3 y4 y5 y6 y7 y8 y9))
  | 0 => fun _ _ _ _ _ _ _ _ _ _ r h => by simp [laws_usual.l0] at h
  | k + 1 => by
    have ih0 := laws_usual.mono_l k
    · intro y0 y1 y2 y3 y4 y5 y6 y7 y8 y9
      unfold laws_usual.l0
      repeat' first
      | (with_reducible exact ih0 _ _ _ _ _ _ _ _ _ _)
      | (with_reducible exact LeO.refl _)
      | (with_reducible exact LeO.none _)
      | (with_reducible refine LeO.ite ?_ ?_)
      | (with_reducible refine LeO.bind ?_ (fun _ => ?_))
      | exact ih0 _ _ _ _ _ _ _ _ _ _
      | exact LeO.none _
      | refine LeO.ite ?_ ?_
      | refine LeO.bind ?_ (fun _ => ?_)
theorem laws_usual.mono : ∀ a0 a1 a2 a3 a4 a5 a6 k, LeO (laws_usual.f k a0 a1 a2 a3 a4 a5 a6) (laws_usual.f (k + 1) a0 a1 a2 a3 a4 a5 a6) := by
  intro a0 a1 a2 a3 a4 a5 a6 k
  have ih0 := laws_usual.mono_l k
  unfold laws_usual.f
  repeat' first
      | (with_reducible exact ih0 _ _ _ _ _ _ _ _ _ _)
      | (with_reducible exact LeO.refl _)
      | (with_reducible exact LeO.none _)
      | (with_reducible refine LeO.ite ?_ ?_)
      | (with_reducible refine LeO.bind ?_ (fun _ => ?_))
      | exact ih0 _ _ _ _ _ _ _ _ _ _
      | exact LeO.none _
      | refine LeO.ite ?_ ?_
      | refine LeO.bind ?_ (fun _ => ?_)
set_option maxHeartbeats 8000000 in
set_option maxRecDepth 100000 in
theorem laws_usual.calls (k : Nat) (a0_0 : Int) (a0_1 : Int) (a0_2 : Int) (a0_3 : Int) (a0_4 : Int) (a0_5 : Int) (a0_6 : Bool) (r : Bool) (w : World) (h : laws_usual.f k a0_0 a0_1 a0_2 a0_3 a0_4 a0_5 a0_6 = some r) :
    Calls Tryd.prog 16 #[.agg #[.int .i32 a0_0, .int .i32 a0_1, .int .i32 a0_2, .int .u8 a0_3, .int .u8 a0_4, .int .u8 a0_5, .bool a0_6]] w fun e w' => e = .returned (.bool r) ∧ Below w.heap.size w w' := by
  have hu23 := Tryd.underlying23
  have HB := Aside0.mk (Below.refl w.heap.size w)
  have H : ((some (([a0_0, a0_1, a0_2] : List Int) : List Int)).bind fun y102 => (laws_usual.l0 k y102 (y102.length : Int) 0 a0_0 a0_1 a0_2 a0_3 a0_4 a0_5 a0_6)) = some r := h
  clear h
  obtain ⟨y102, hy102⟩ : ∃ y_ : List Int, y_ = (([a0_0, a0_1, a0_2] : List Int)) := ⟨_, rfl⟩
  replace H : (laws_usual.l0 k y102 (y102.length : Int) 0 a0_0 a0_1 a0_2 a0_3 a0_4 a0_5 a0_6) = some r := by first | (rw [hy102]; with_reducible exact H) | (have H2_ := (Option.bind_some _ _).symm.trans H; rw [hy102]; with_reducible exact H2_) | (have H2_ := (Option.bind_some _ _).symm.trans H; with_reducible exact H2_) | with_reducible exact H | (rw [hy102]; exact H) | exact H
  have Ny102 := Aside0.mk hy102
  clear hy102
  have H' := Aside0.mk H
  clear H
  go_enter Tryd.func16, Tryd.ntmps16
  go_wp2_with (first | ((with_reducible refine gate_dst (N := 1) rfl ?_); refine box_event ?hg (N := 1) ?hd (cs := #[.int .i32 a0_0, .int .i32 a0_1, .int .i32 a0_2, .int .u8 a0_3, .int .u8 a0_4, .int .u8 a0_5, .bool a0_6]) (t := 23) ?hr ?_; (case hd => rfl); (case hg => rfl); (case hr => first | (go_simp; done) | (go_simp; rfl)); intro gb101 hg w2 hbox hb; have n0_ := Aside0.mk (below_step (by repeat (first | (with_reducible first | exact HB.out | apply below_alloc | apply pw_below_drewN | apply below_drew1) | exact HB.out)) hb); have n1_ := Aside0.mk (hbox); have n2_ := Aside0.mk ((by rw [hg]; exact (below_size (by repeat (first | (with_reducible first | exact HB.out | apply below_alloc | apply pw_below_drewN | apply below_drew1) | exact HB.out))) : w.heap.size ≤ gb101)); have n3_ := Aside0.mk ((by rw [hg]; exact (below_size (by repeat (first | (with_reducible first | exact HB.out | apply below_alloc | apply pw_below_drewN | apply below_drew1) | exact HB.out))) : w.heap.size ≤ gb101)); clear HB; have HB := n0_; have BK101 := n1_; have GW101 := n2_; have GE101 := n3_; clear n0_ n1_ n2_ n3_; clear hb hbox hg; have hcz3_0 : w2.cell? ⟨gb101, 0, none⟩ = some (.int .i32 a0_0) := (blk_cell BK101.out 0).trans rfl; have hcz3_1 : w2.cell? ⟨gb101, 1, none⟩ = some (.int .i32 a0_1) := (blk_cell BK101.out 1).trans rfl; have hcz3_2 : w2.cell? ⟨gb101, 2, none⟩ = some (.int .i32 a0_2) := (blk_cell BK101.out 2).trans rfl; have hcz3_3 : w2.cell? ⟨gb101, 3, none⟩ = some (.int .u8 a0_3) := (blk_cell BK101.out 3).trans rfl; have hcz3_4 : w2.cell? ⟨gb101, 4, none⟩ = some (.int .u8 a0_4) := (blk_cell BK101.out 4).trans rfl; have hcz3_5 : w2.cell? ⟨gb101, 5, none⟩ = some (.int .u8 a0_5) := (blk_cell BK101.out 5).trans rfl; have hcz3_6 : w2.cell? ⟨gb101, 6, none⟩ = some (.bool a0_6) := (blk_cell BK101.out 6).trans rfl; have hfz3_0 := blk_frozen BK101.out 0; have hfz3_1 := blk_frozen BK101.out 1; have hfz3_2 := blk_frozen BK101.out 2; have hfz3_3 := blk_frozen BK101.out 3; have hfz3_4 := blk_frozen BK101.out 4; have hfz3_5 := blk_frozen BK101.out 5; have hfz3_6 := blk_frozen BK101.out 6) | ((with_reducible refine gate_dst (N := 11) rfl ?_); refine Kd.R_lit (Kd.int .i32) _ 21 ?hg (N := 11) ?hd (xs := ([a0_0, a0_1, a0_2] : List Int)) (inner := [.int .i32 a0_0, .int .i32 a0_1, .int .i32 a0_2]) (ok := fun _ => True) (okp := fun _ => True) ?hr ?hp (fun _ hk => hk) trivial (Below.refl _ _) (Nat.le_refl _) (by simp) ?_; (case hd => rfl); (case hg => rfl); (case hr => first | (go_simp; done) | (go_simp; rfl)); (case hp => exact (Reps.one (show Kd.M (Kd.int .i32) _ _ _ a0_0 [.int .i32 a0_0] from rfl) (Reps.one (show Kd.M (Kd.int .i32) _ _ _ a0_1 [.int .i32 a0_1] from rfl) (Reps.one (show Kd.M (Kd.int .i32) _ _ _ a0_2 [.int .i32 a0_2] from rfl) (Reps.none _ _))))); intro v103 w4 ho5 hb hg_ hnew_; clear hg_ hnew_; (first | rw [← Ny102.out] at ho5 | (simp only [Int.reduceToNat] at ho5; rw [← Ny102.out] at ho5)); have n0_ := Aside0.mk (Kd.R_lower ho5 (below_size (by repeat (first | (with_reducible first | exact HB.out | apply below_alloc | apply pw_below_drewN | apply below_drew1 | refine below_set ?_ GE101.out) | exact HB.out)))); have n1_ := Aside0.mk (blk_below (g := gb101) (o := .cells #[.int .i32 a0_0, .int .i32 a0_1, .int .i32 a0_2, .int .u8 a0_3, .int .u8 a0_4, .int .u8 a0_5, .bool a0_6] 23 (0, 0)) (by (with_reducible repeat (first | refine blk_drewN ?_ _ | refine blk_drew ?_ | refine blk_alloc ?_ _)); exact BK101.out) hb); have n2_ := Aside0.mk (below_step (by repeat (first | (with_reducible first | exact HB.out | apply below_alloc | apply pw_below_drewN | apply below_drew1 | refine below_set ?_ GE101.out) | exact HB.out)) hb); clear BK101; clear HB; have HO104 := n0_; have BK101 := n1_; have HB := n2_; clear n0_ n1_ n2_; clear hb ho5; obtain ⟨Ao6, co6, eo6⟩ := Kd.R_slice HO104.out; subst eo6))
  go_loopg [13] k (fun kq v13 w' => ∃ (x13_1 : Int), v13 = .int .i64 x13_1 ∧ Aside0 (laws_usual.l0 kq y102 (y102.length : Int) x13_1 a0_0 a0_1 a0_2 a0_3 a0_4 a0_5 a0_6 = some r) ∧ Aside0 (kq ≤ k) ∧ Aside0 (Kd.R (Kd.int .i32) 21 w' w.heap.size (fun _ => True) (.slice Ao6 y102.length co6) y102) ∧ Aside0 (w'.heap[gb101]? = some (.cells #[.int .i32 a0_0, .int .i32 a0_1, .int .i32 a0_2, .int .u8 a0_3, .int .u8 a0_4, .int .u8 a0_5, .bool a0_6] 23 (0, 0))) ∧ Aside0 (Below w.heap.size w w'))
  case atStart => exact ⟨(0), (by first | rfl | (simp; done) | (simp [*]; done)), H', ⟨Nat.le_refl _⟩, ⟨by (with_reducible repeat (first | apply Kd.R_alloc | apply Kd.R_drewN | apply Kd.R_drew)); exact HO104.out⟩, ⟨by (with_reducible repeat (first | refine blk_drewN ?_ _ | refine blk_drew ?_ | refine blk_alloc ?_ _)); exact BK101.out⟩, ⟨by repeat (first | (with_reducible first | exact HB.out | apply below_alloc | apply pw_below_drewN | apply below_drew1 | refine below_set ?_ GE101.out) | exact HB.out)⟩⟩
  case round =>
    clear H'
    try clear c1
    try clear p2
    try clear hcz3_0
    try clear hcz3_1
    try clear hcz3_2
    try clear hcz3_3
    try clear hcz3_4
    try clear hcz3_5
    try clear hcz3_6
    try clear hfz3_0
    try clear hfz3_1
    try clear hfz3_2
    try clear hfz3_3
    try clear hfz3_4
    try clear hfz3_5
    try clear hfz3_6
    obtain ⟨x13_1, rfl, HA, HK1, HO_11, BK101, HB⟩ := hrel
    cases gk with
    | zero => exact absurd HA.out (by simp [laws_usual.l0])
    | succ k1 =>
      have H := HA.out
      clear HA
      simp only [laws_usual.l0] at H
      by_cases c7 : x13_1 < (y102.length : Int)
      · rw [if_pos c7] at H
        have c7b0 : decide (x13_1 < (y102.length : Int)) = true := decide_eq_true c7
        clear c7
        by_cases c8 : 0 ≤ x13_1
        · rw [if_pos c8] at H
          have c8b0 : decide (0 ≤ x13_1) = true := decide_eq_true c8
          clear c8
          by_cases c9 : x13_1 < (y102.length : Int)
          · rw [if_pos c9] at H
            have c9b0 : decide (x13_1 < (y102.length : Int)) = true := decide_eq_true c9
            clear c9
            by_cases c10 : (rd y102 x13_1) = 0
            · rw [if_pos c10] at H
              have c10b0 : ((rd y102 x13_1) == 0) = true := beq_iff_eq.mpr c10
              have c10b1 : ((rd y102 x13_1) != 0) = false := bne_eq_false_iff_eq.mpr c10
              clear c10
              have H' := Aside0.mk H
              clear H
              have p105 : 0 ≤ (x13_1 : Int) := of_decide_eq_true (by first | (with_reducible assumption) | assumption)
              have q105 : x13_1 < (y102.length : Int) := of_decide_eq_true (by first | (with_reducible assumption) | assumption)
              obtain ⟨ad105, e105, hx105_0⟩ := Kd.at_int (Kd.R_reads' HO_11.out).2.2 x13_1 p105 q105
              cases e105
              replace p105 := eq_true p105
              replace q105 := eq_true q105
              go_wp2
              go_roundg k1
              case measure => have := HK1.out; omega
              case rel => exact ⟨(wrap64 (x13_1 + 1)), (by first | rfl | (simp; done) | (simp [*]; done)), H', ⟨by have := HK1.out; omega⟩, ⟨by (with_reducible repeat (first | apply Kd.R_alloc | apply Kd.R_drewN | apply Kd.R_drew)); exact HO_11.out⟩, ⟨by (with_reducible repeat (first | refine blk_drewN ?_ _ | refine blk_drew ?_ | refine blk_alloc ?_ _)); exact BK101.out⟩, ⟨by repeat (first | (with_reducible first | exact HB.out | apply below_alloc | apply pw_below_drewN | apply below_drew1 | refine below_set ?_ GE101.out) | exact HB.out)⟩⟩
            · rw [if_neg c10] at H
              have c10b0 : ((rd y102 x13_1) == 0) = false := beq_eq_false_iff_ne.mpr c10
              have c10b1 : ((rd y102 x13_1) != 0) = true := bne_iff_ne.mpr c10
              replace H := Option.bind_eq_some_iff.mp H
              obtain ⟨t106, A110, H⟩ := H
              replace H : (if t106 = true then (laws_usual.l0 k1 y102 (y102.length : Int) (wrap64 (x13_1 + 1)) a0_0 a0_1 a0_2 a0_3 a0_4 a0_5 a0_6) else (some false)) = some r := H
              have A11 := Aside0.mk A110
              clear A110
              by_cases c12 : t106 = true
              · subst c12
                have H1 : (laws_usual.l0 k1 y102 (y102.length : Int) (wrap64 (x13_1 + 1)) a0_0 a0_1 a0_2 a0_3 a0_4 a0_5 a0_6) = some r := by rw [if_pos rfl] at H; exact H
                clear H
                have H := H1
                clear H1
                have H' := Aside0.mk H
                clear H
                have p105 : 0 ≤ (x13_1 : Int) := of_decide_eq_true (by first | (with_reducible assumption) | assumption)
                have q105 : x13_1 < (y102.length : Int) := of_decide_eq_true (by first | (with_reducible assumption) | assumption)
                obtain ⟨ad105, e105, hx105_0⟩ := Kd.at_int (Kd.R_reads' HO_11.out).2.2 x13_1 p105 q105
                cases e105
                replace p105 := eq_true p105
                replace q105 := eq_true q105
                go_wp2_with (first | (go_at_call 35; (with_reducible refine (laws_plain.calls (rd y102 x13_1) true _ A11.out).mono ?_); rintro e w' ⟨rfl, ⟨nd, rfl⟩⟩))
                go_roundg k1
                case measure => have := HK1.out; omega
                case rel => exact ⟨(wrap64 (x13_1 + 1)), (by first | rfl | (simp; done) | (simp [*]; done)), H', ⟨by have := HK1.out; omega⟩, ⟨by (with_reducible repeat (first | apply Kd.R_alloc | apply Kd.R_drewN | apply Kd.R_drew)); exact HO_11.out⟩, ⟨by (with_reducible repeat (first | refine blk_drewN ?_ _ | refine blk_drew ?_ | refine blk_alloc ?_ _)); exact BK101.out⟩, ⟨by repeat (first | (with_reducible first | exact HB.out | apply below_alloc | apply pw_below_drewN | apply below_drew1 | refine below_set ?_ GE101.out) | exact HB.out)⟩⟩
              · replace c12 := Bool.eq_false_iff.mpr c12
                subst c12
                have H1 : (some false) = some r := by rw [if_neg (show ¬ (false = true) by decide)] at H; exact H
                clear H
                have H := H1
                clear H1
                obtain rfl := Option.some.inj H
                have p105 : 0 ≤ (x13_1 : Int) := of_decide_eq_true (by first | (with_reducible assumption) | assumption)
                have q105 : x13_1 < (y102.length : Int) := of_decide_eq_true (by first | (with_reducible assumption) | assumption)
                obtain ⟨ad105, e105, hx105_0⟩ := Kd.at_int (Kd.R_reads' HO_11.out).2.2 x13_1 p105 q105
                cases e105
                replace p105 := eq_true p105
                replace q105 := eq_true q105
                go_wp2_with (first | (go_at_call 35; (with_reducible refine (laws_plain.calls (rd y102 x13_1) false _ A11.out).mono ?_); rintro e w' ⟨rfl, ⟨nd, rfl⟩⟩))
                go_ret
                exact ⟨by first | rfl | (simp [errW_none, errW_some] <;> rfl) | (simp [*, errW_none, errW_some] <;> rfl), by repeat (first | (with_reducible first | exact HB.out | apply below_alloc | apply pw_below_drewN | apply below_drew1 | refine below_set ?_ GE101.out) | exact HB.out)⟩
          · rw [if_neg c9] at H
            exact absurd H (by simp)
        · rw [if_neg c8] at H
          exact absurd H (by simp)
      · rw [if_neg c7] at H
        have c7b0 : decide (x13_1 < (y102.length : Int)) = false := decide_eq_false c7
        clear c7
        by_cases c13 : a0_3 ≤ 2
        · rw [if_pos c13] at H
          have c13b0 : decide (a0_3 ≤ 2) = true := decide_eq_true c13
          clear c13
          by_cases c14 : a0_4 ≤ 2
          · rw [if_pos c14] at H
            have c14b0 : decide (a0_4 ≤ 2) = true := decide_eq_true c14
            clear c14
            obtain rfl := Option.some.inj H
            have hcz15_0 : wr.cell? ⟨gb101, 0, none⟩ = some (.int .i32 a0_0) := (blk_cell BK101.out 0).trans rfl
            have hcz15_1 : wr.cell? ⟨gb101, 1, none⟩ = some (.int .i32 a0_1) := (blk_cell BK101.out 1).trans rfl
            have hcz15_2 : wr.cell? ⟨gb101, 2, none⟩ = some (.int .i32 a0_2) := (blk_cell BK101.out 2).trans rfl
            have hcz15_3 : wr.cell? ⟨gb101, 3, none⟩ = some (.int .u8 a0_3) := (blk_cell BK101.out 3).trans rfl
            have hcz15_4 : wr.cell? ⟨gb101, 4, none⟩ = some (.int .u8 a0_4) := (blk_cell BK101.out 4).trans rfl
            have hcz15_5 : wr.cell? ⟨gb101, 5, none⟩ = some (.int .u8 a0_5) := (blk_cell BK101.out 5).trans rfl
            have hcz15_6 : wr.cell? ⟨gb101, 6, none⟩ = some (.bool a0_6) := (blk_cell BK101.out 6).trans rfl
            have hfz15_0 := blk_frozen BK101.out 0
            have hfz15_1 := blk_frozen BK101.out 1
            have hfz15_2 := blk_frozen BK101.out 2
            have hfz15_3 := blk_frozen BK101.out 3
            have hfz15_4 := blk_frozen BK101.out 4
            have hfz15_5 := blk_frozen BK101.out 5
            have hfz15_6 := blk_frozen BK101.out 6
            go_wp2
            go_ret
            exact ⟨by first | rfl | (simp [errW_none, errW_some] <;> rfl) | (simp [*, errW_none, errW_some] <;> rfl), by repeat (first | (with_reducible first | exact HB.out | apply below_alloc | apply pw_below_drewN | apply below_drew1 | refine below_set ?_ GE101.out) | exact HB.out)⟩
          · rw [if_neg c14] at H
            have c14b0 : decide (a0_4 ≤ 2) = false := decide_eq_false c14
            clear c14
            obtain rfl := Option.some.inj H
            have hcz16_0 : wr.cell? ⟨gb101, 0, none⟩ = some (.int .i32 a0_0) := (blk_cell BK101.out 0).trans rfl
            have hcz16_1 : wr.cell? ⟨gb101, 1, none⟩ = some (.int .i32 a0_1) := (blk_cell BK101.out 1).trans rfl
            have hcz16_2 : wr.cell? ⟨gb101, 2, none⟩ = some (.int .i32 a0_2) := (blk_cell BK101.out 2).trans rfl
            have hcz16_3 : wr.cell? ⟨gb101, 3, none⟩ = some (.int .u8 a0_3) := (blk_cell BK101.out 3).trans rfl
            have hcz16_4 : wr.cell? ⟨gb101, 4, none⟩ = some (.int .u8 a0_4) := (blk_cell BK101.out 4).trans rfl
            have hcz16_5 : wr.cell? ⟨gb101, 5, none⟩ = some (.int .u8 a0_5) := (blk_cell BK101.out 5).trans rfl
            have hcz16_6 : wr.cell? ⟨gb101, 6, none⟩ = some (.bool a0_6) := (blk_cell BK101.out 6).trans rfl
            have hfz16_0 := blk_frozen BK101.out 0
            have hfz16_1 := blk_frozen BK101.out 1
            have hfz16_2 := blk_frozen BK101.out 2
            have hfz16_3 := blk_frozen BK101.out 3
            have hfz16_4 := blk_frozen BK101.out 4
            have hfz16_5 := blk_frozen BK101.out 5
            have hfz16_6 := blk_frozen BK101.out 6
            go_wp2
            go_ret
            exact ⟨by first | rfl | (simp [errW_none, errW_some] <;> rfl) | (simp [*, errW_none, errW_some] <;> rfl), by repeat (first | (with_reducible first | exact HB.out | apply below_alloc | apply pw_below_drewN | apply below_drew1 | refine below_set ?_ GE101.out) | exact HB.out)⟩
        · rw [if_neg c13] at H
          have c13b0 : decide (a0_3 ≤ 2) = false := decide_eq_false c13
          clear c13
          obtain rfl := Option.some.inj H
          have hcz17_0 : wr.cell? ⟨gb101, 0, none⟩ = some (.int .i32 a0_0) := (blk_cell BK101.out 0).trans rfl
          have hcz17_1 : wr.cell? ⟨gb101, 1, none⟩ = some (.int .i32 a0_1) := (blk_cell BK101.out 1).trans rfl
          have hcz17_2 : wr.cell? ⟨gb101, 2, none⟩ = some (.int .i32 a0_2) := (blk_cell BK101.out 2).trans rfl
          have hcz17_3 : wr.cell? ⟨gb101, 3, none⟩ = some (.int .u8 a0_3) := (blk_cell BK101.out 3).trans rfl
          have hcz17_4 : wr.cell? ⟨gb101, 4, none⟩ = some (.int .u8 a0_4) := (blk_cell BK101.out 4).trans rfl
          have hcz17_5 : wr.cell? ⟨gb101, 5, none⟩ = some (.int .u8 a0_5) := (blk_cell BK101.out 5).trans rfl
          have hcz17_6 : wr.cell? ⟨gb101, 6, none⟩ = some (.bool a0_6) := (blk_cell BK101.out 6).trans rfl
          have hfz17_0 := blk_frozen BK101.out 0
          have hfz17_1 := blk_frozen BK101.out 1
          have hfz17_2 := blk_frozen BK101.out 2
          have hfz17_3 := blk_frozen BK101.out 3
          have hfz17_4 := blk_frozen BK101.out 4
          have hfz17_5 := blk_frozen BK101.out 5
          have hfz17_6 := blk_frozen BK101.out 6
          go_wp2
          go_ret
          exact ⟨by first | rfl | (simp [errW_none, errW_some] <;> rfl) | (simp [*, errW_none, errW_some] <;> rfl), by repeat (first | (with_reducible first | exact HB.out | apply below_alloc | apply pw_below_drewN | apply below_drew1 | refine below_set ?_ GE101.out) | exact HB.out)⟩

/-! ### impl_entered: function 27 -/
def impl_entered.f (a0_0 : Int) (a0_1 : Int) (a0_2 : Int) (a0_3 : Int) (a0_4 : Int) (a0_5 : Int) (a0_6 : Bool) : Option (Int × Int × Int × Int × Int × Int × Bool) := some (a0_0, a0_1, a0_2, a0_3, a0_4, a0_5, a0_6)
set_option maxHeartbeats 8000000 in
set_option maxRecDepth 100000 in
theorem impl_entered.calls (a0_0 : Int) (a0_1 : Int) (a0_2 : Int) (a0_3 : Int) (a0_4 : Int) (a0_5 : Int) (a0_6 : Bool) (r1 : Int) (r2 : Int) (r3 : Int) (r4 : Int) (r5 : Int) (r6 : Int) (r7 : Bool) (w : World) (h : impl_entered.f a0_0 a0_1 a0_2 a0_3 a0_4 a0_5 a0_6 = some (r1, r2, r3, r4, r5, r6, r7)) :
    Calls Tryd.prog 27 #[.agg #[.int .i32 a0_0, .int .i32 a0_1, .int .i32 a0_2, .int .u8 a0_3, .int .u8 a0_4, .int .u8 a0_5, .bool a0_6]] w fun e w' => e = .returned (.agg #[.int .i32 r1, .int .i32 r2, .int .i32 r3, .int .u8 r4, .int .u8 r5, .int .u8 r6, .bool r7]) ∧ Below w.heap.size w w' := by
  have hu23 := Tryd.underlying23
  have hu57 := Tryd.underlying57
  have HB := Aside0.mk (Below.refl w.heap.size w)
  have H : (some (a0_0, a0_1, a0_2, a0_3, a0_4, a0_5, a0_6)) = some (r1, r2, r3, r4, r5, r6, r7) := h
  clear h
  simp only [Option.some.injEq, Prod.mk.injEq] at H
  obtain ⟨rfl, rfl, rfl, rfl, rfl, rfl, rfl⟩ := H
  go_enter Tryd.func27, Tryd.ntmps27
  go_wp2_with (first | ((with_reducible refine gate_dst (N := 1) rfl ?_); refine box_event ?hg (N := 1) ?hd (cs := #[.int .i32 a0_0, .int .i32 a0_1, .int .i32 a0_2, .int .u8 a0_3, .int .u8 a0_4, .int .u8 a0_5, .bool a0_6]) (t := 23) ?hr ?_; (case hd => rfl); (case hg => rfl); (case hr => first | (go_simp; done) | (go_simp; rfl)); intro gb107 hg w2 hbox hb; have n0_ := Aside0.mk (below_step (by repeat (first | (with_reducible first | exact HB.out | apply below_alloc | apply pw_below_drewN | apply below_drew1) | exact HB.out)) hb); have n1_ := Aside0.mk (hbox); have n2_ := Aside0.mk ((by rw [hg]; exact (below_size (by repeat (first | (with_reducible first | exact HB.out | apply below_alloc | apply pw_below_drewN | apply below_drew1) | exact HB.out))) : w.heap.size ≤ gb107)); have n3_ := Aside0.mk ((by rw [hg]; exact (below_size (by repeat (first | (with_reducible first | exact HB.out | apply below_alloc | apply pw_below_drewN | apply below_drew1) | exact HB.out))) : w.heap.size ≤ gb107)); clear HB; have HB := n0_; have BK107 := n1_; have GW107 := n2_; have GE107 := n3_; clear n0_ n1_ n2_ n3_; clear hb hbox hg) | ((with_reducible refine gate_dst (N := 2) rfl ?_); refine box_event ?hg (N := 2) ?hd (cs := #[.int .i32 0, .int .i32 0, .int .i32 0, .int .u8 0, .int .u8 0, .int .u8 0, .bool false]) (t := 57) ?hr ?_; (case hd => rfl); (case hg => rfl); (case hr => first | (go_simp; done) | (go_simp; rfl)); intro gb108 hg w3 hbox hb; have n0_ := Aside0.mk (blk_below (g := gb107) (o := .cells #[.int .i32 a0_0, .int .i32 a0_1, .int .i32 a0_2, .int .u8 a0_3, .int .u8 a0_4, .int .u8 a0_5, .bool a0_6] 23 (0, 0)) (by (with_reducible repeat (first | refine blk_drewN ?_ _ | refine blk_drew ?_ | refine blk_alloc ?_ _)); exact BK107.out) hb); have n1_ := Aside0.mk (below_step (by repeat (first | (with_reducible first | exact HB.out | apply below_alloc | apply pw_below_drewN | apply below_drew1 | refine below_set ?_ GE107.out) | exact HB.out)) hb); have n2_ := Aside0.mk (hbox); have n3_ := Aside0.mk ((by rw [hg]; exact (below_size (by repeat (first | (with_reducible first | exact HB.out | apply below_alloc | apply pw_below_drewN | apply below_drew1 | refine below_set ?_ GE107.out) | exact HB.out))) : w.heap.size ≤ gb108)); have n4_ := Aside0.mk ((by rw [hg]; exact (below_size (by repeat (first | (with_reducible first | exact HB.out | apply below_alloc | apply pw_below_drewN | apply below_drew1 | refine below_set ?_ GE107.out) | exact HB.out))) : w.heap.size ≤ gb108)); have n5_ := Aside0.mk ((by rw [hg]; exact Nat.ne_of_lt (blk_lt (g := gb107) (o := .cells #[.int .i32 a0_0, .int .i32 a0_1, .int .i32 a0_2, .int .u8 a0_3, .int .u8 a0_4, .int .u8 a0_5, .bool a0_6] 23 (0, 0)) (by (with_reducible repeat (first | refine blk_drewN ?_ _ | refine blk_drew ?_ | refine blk_alloc ?_ _)); exact BK107.out)) : gb107 ≠ gb108)); have n6_ := Aside0.mk ((by rw [hg]; exact Nat.ne_of_gt (blk_lt (g := gb107) (o := .cells #[.int .i32 a0_0, .int .i32 a0_1, .int .i32 a0_2, .int .u8 a0_3, .int .u8 a0_4, .int .u8 a0_5, .bool a0_6] 23 (0, 0)) (by (with_reducible repeat (first | refine blk_drewN ?_ _ | refine blk_drew ?_ | refine blk_alloc ?_ _)); exact BK107.out)) : gb108 ≠ gb107)); clear BK107; clear HB; have BK107 := n0_; have HB := n1_; have BK108 := n2_; have GW108 := n3_; have GE108 := n4_; have NB107_108 := n5_; have NB108_107 := n6_; clear n0_ n1_ n2_ n3_ n4_ n5_ n6_; clear hb hbox hg; have hnb4 := NB107_108.out; have hnc4 := NB108_107.out; have hcz5_0 : w3.cell? ⟨gb107, 0, none⟩ = some (.int .i32 a0_0) := (blk_cell BK107.out 0).trans rfl; have hcz5_1 : w3.cell? ⟨gb107, 1, none⟩ = some (.int .i32 a0_1) := (blk_cell BK107.out 1).trans rfl; have hcz5_2 : w3.cell? ⟨gb107, 2, none⟩ = some (.int .i32 a0_2) := (blk_cell BK107.out 2).trans rfl; have hcz5_3 : w3.cell? ⟨gb107, 3, none⟩ = some (.int .u8 a0_3) := (blk_cell BK107.out 3).trans rfl; have hcz5_4 : w3.cell? ⟨gb107, 4, none⟩ = some (.int .u8 a0_4) := (blk_cell BK107.out 4).trans rfl; have hcz5_5 : w3.cell? ⟨gb107, 5, none⟩ = some (.int .u8 a0_5) := (blk_cell BK107.out 5).trans rfl; have hcz5_6 : w3.cell? ⟨gb107, 6, none⟩ = some (.bool a0_6) := (blk_cell BK107.out 6).trans rfl; have hfz5_0 := blk_frozen BK107.out 0; have hfz5_1 := blk_frozen BK107.out 1; have hfz5_2 := blk_frozen BK107.out 2; have hfz5_3 := blk_frozen BK107.out 3; have hfz5_4 := blk_frozen BK107.out 4; have hfz5_5 := blk_frozen BK107.out 5; have hfz5_6 := blk_frozen BK107.out 6; have hcz6_0 : w3.cell? ⟨gb108, 0, none⟩ = some (.int .i32 0) := (blk_cell BK108.out 0).trans rfl; have hcz6_1 : w3.cell? ⟨gb108, 1, none⟩ = some (.int .i32 0) := (blk_cell BK108.out 1).trans rfl; have hcz6_2 : w3.cell? ⟨gb108, 2, none⟩ = some (.int .i32 0) := (blk_cell BK108.out 2).trans rfl; have hcz6_3 : w3.cell? ⟨gb108, 3, none⟩ = some (.int .u8 0) := (blk_cell BK108.out 3).trans rfl; have hcz6_4 : w3.cell? ⟨gb108, 4, none⟩ = some (.int .u8 0) := (blk_cell BK108.out 4).trans rfl; have hcz6_5 : w3.cell? ⟨gb108, 5, none⟩ = some (.int .u8 0) := (blk_cell BK108.out 5).trans rfl; have hcz6_6 : w3.cell? ⟨gb108, 6, none⟩ = some (.bool false) := (blk_cell BK108.out 6).trans rfl; have hfz6_0 := blk_frozen BK108.out 0; have hfz6_1 := blk_frozen BK108.out 1; have hfz6_2 := blk_frozen BK108.out 2; have hfz6_3 := blk_frozen BK108.out 3; have hfz6_4 := blk_frozen BK108.out 4; have hfz6_5 := blk_frozen BK108.out 5; have hfz6_6 := blk_frozen BK108.out 6))
  refine bodyPost_ret (results_cell_row rfl _ _ gb108 57 #[.int .i32 a0_0, .int .i32 a0_1, .int .i32 a0_2, .int .u8 a0_3, .int .u8 a0_4, .int .u8 a0_5, .bool a0_6] (0, 0) _ rfl (by (with_reducible repeat (first | refine blk_drewN ?_ _ | refine blk_drew ?_ | refine blk_alloc ?_ _)); refine blk_put (cs := #[.int .i32 a0_0, .int .i32 a0_1, .int .i32 a0_2, .int .u8 a0_3, .int .u8 a0_4, .int .u8 a0_5, .bool false]) ?_ 6 _ rfl; (with_reducible repeat (first | refine blk_drewN ?_ _ | refine blk_drew ?_ | refine blk_alloc ?_ _)); refine blk_put (cs := #[.int .i32 a0_0, .int .i32 a0_1, .int .i32 a0_2, .int .u8 a0_3, .int .u8 a0_4, .int .u8 0, .bool false]) ?_ 5 _ rfl; (with_reducible repeat (first | refine blk_drewN ?_ _ | refine blk_drew ?_ | refine blk_alloc ?_ _)); refine blk_put (cs := #[.int .i32 a0_0, .int .i32 a0_1, .int .i32 a0_2, .int .u8 a0_3, .int .u8 0, .int .u8 0, .bool false]) ?_ 4 _ rfl; (with_reducible repeat (first | refine blk_drewN ?_ _ | refine blk_drew ?_ | refine blk_alloc ?_ _)); refine blk_put (cs := #[.int .i32 a0_0, .int .i32 a0_1, .int .i32 a0_2, .int .u8 0, .int .u8 0, .int .u8 0, .bool false]) ?_ 3 _ rfl; (with_reducible repeat (first | refine blk_drewN ?_ _ | refine blk_drew ?_ | refine blk_alloc ?_ _)); refine blk_put (cs := #[.int .i32 a0_0, .int .i32 a0_1, .int .i32 0, .int .u8 0, .int .u8 0, .int .u8 0, .bool false]) ?_ 2 _ rfl; (with_reducible repeat (first | refine blk_drewN ?_ _ | refine blk_drew ?_ | refine blk_alloc ?_ _)); refine blk_put (cs := #[.int .i32 a0_0, .int .i32 0, .int .i32 0, .int .u8 0, .int .u8 0, .int .u8 0, .bool false]) ?_ 1 _ rfl; (with_reducible repeat (first | refine blk_drewN ?_ _ | refine blk_drew ?_ | refine blk_alloc ?_ _)); refine blk_put (cs := #[.int .i32 0, .int .i32 0, .int .i32 0, .int .u8 0, .int .u8 0, .int .u8 0, .bool false]) ?_ 0 _ rfl; (with_reducible repeat (first | refine blk_drewN ?_ _ | refine blk_drew ?_ | refine blk_alloc ?_ _)); exact BK108.out) Tryd.underlying57 rfl (by kernel_rfl)) rfl ?_
  exact ⟨by first | rfl | (simp [errW_none, errW_some] <;> rfl) | (simp [*, errW_none, errW_some] <;> rfl), by repeat (first | (with_reducible first | exact HB.out | apply below_alloc | apply pw_below_drewN | apply below_drew1 | refine below_set ?_ GE107.out | refine below_set ?_ GE108.out) | exact HB.out)⟩

/-! ### chroma_zzHex6: function 55 -/
def chroma_zzHex6.f (a0 : Int) : Option ByteArray := if -9223372036854775808 < a0 then (if a0 < 9223372036854775808 then some (Go.Proofs.YtifhhejohdmiaaaDoorFmt.hex6 a0) else none) else none
theorem chroma_zzHex6.calls (a0 : Int) (r : ByteArray) (w : World) (hV : Go.Proofs.YtifhhejohdmiaaaDoorFmt.VarsOK w) (h : chroma_zzHex6.f a0 = some r) :
    Calls Tryd.prog 55 #[.int .i64 a0] w fun e w' => e = .returned (.string r) ∧ Below w.heap.size w w' := by
  unfold chroma_zzHex6.f at h
  by_cases h0 : -9223372036854775808 < a0
  · rw [if_pos h0] at h
    by_cases h1 : a0 < 9223372036854775808
    · rw [if_pos h1] at h
      obtain rfl := Option.some.inj h
      exact Go.Proofs.YtifhhejohdmiaaaDoorFmt.zzHex6 a0 h0 h1 w hV
    · rw [if_neg h1] at h; cases h
  · rw [if_neg h0] at h; cases h
/-! ### chroma_Colour_String: function 42 -/
def chroma_Colour_String.f (a0 : Int) : Option (ByteArray) := (chroma_zzHex6.f (wrap64 (wrap32 (a0 - 1)))).bind fun t109 => (if 1 + t109.size ≤ 9223372036854775807 then (some ((⟨#[35]⟩ : ByteArray) ++ t109)) else (none))
set_option maxHeartbeats 8000000 in
set_option maxRecDepth 100000 in
theorem chroma_Colour_String.calls (a0 : Int) (r : ByteArray) (w : World) (hV : Go.Proofs.YtifhhejohdmiaaaDoorFmt.VarsOK w) (h : chroma_Colour_String.f a0 = some r) :
    Calls Tryd.prog 42 #[.int .i32 a0] w fun e w' => e = .returned (.string r) ∧ Below w.heap.size w w' := by
  have HB := Aside0.mk (Below.refl w.heap.size w)
  have HV := Aside0.mk hV
  clear hV
  have H : ((chroma_zzHex6.f (wrap64 (wrap32 (a0 - 1)))).bind fun t109 => (if 1 + t109.size ≤ 9223372036854775807 then (some ((⟨#[35]⟩ : ByteArray) ++ t109)) else (none))) = some r := h
  clear h
  replace H := Option.bind_eq_some_iff.mp H
  obtain ⟨t109, A20, H⟩ := H
  replace H : (if 1 + t109.size ≤ 9223372036854775807 then (some ((⟨#[35]⟩ : ByteArray) ++ t109)) else (none)) = some r := H
  have A2 := Aside0.mk A20
  clear A20
  by_cases c3 : 1 + t109.size ≤ 9223372036854775807
  · rw [if_pos c3] at H
    have c3b0 := eq_true c3
    have c3b1 : decide (1 + t109.size ≤ 9223372036854775807) = true := decide_eq_true c3
    try have c3b2 : (9223372036854775807 < 1 + t109.size) = False := eq_false (Nat.not_lt.2 c3)
    obtain rfl := Option.some.inj H
    go_enter Tryd.func42, Tryd.ntmps42
    go_wp2_with (first | ((with_reducible refine gate_callee (f := 55) rfl ?_); refine goesL_ (some 6) rfl rfl Tryd.func55 (by kernel_rfl) rfl #[.int .i64 (wrap64 (wrap32 (a0 - 1)))] rfl (by (try simp only [List.map_toArray, List.map_cons, List.map_nil]); first | done | rfl | (simp only [List.length_drop, List.length_take]; rfl)) ?_; (with_reducible refine (chroma_zzHex6.calls (wrap64 (wrap32 (a0 - 1))) t109 _ ?side1 A2.out).mono ?_); (case side1 => exact Go.Proofs.YtifhhejohdmiaaaDoorFmt.VarsOK.below HV.out (by repeat (first | (with_reducible first | exact HB.out | apply below_alloc | apply pw_below_drewN | apply below_drew1) | exact HB.out))); rintro e w4 ⟨rfl, hb⟩; refine ⟨_, rfl, ?_⟩; have n0_ := Aside0.mk (below_step (by repeat (first | (with_reducible first | exact HB.out | apply below_alloc | apply pw_below_drewN | apply below_drew1) | exact HB.out)) hb); clear HB; have HB := n0_; clear n0_; (try clear hb); (try clear hb2); (try clear hk); (try clear hi)))
    go_ret
    exact ⟨by first | rfl | (simp [errW_none, errW_some] <;> rfl) | (simp [*, errW_none, errW_some] <;> rfl), by repeat (first | (with_reducible first | exact HB.out | apply below_alloc | apply pw_below_drewN | apply below_drew1) | exact HB.out)⟩
  · rw [if_neg c3] at H
    exact absurd H (by simp)

/-! ### chroma_Colour_IsSet: function 48 -/
def chroma_Colour_IsSet.f (a0 : Int) : Option (Bool) := some (a0 != 0)
set_option maxHeartbeats 8000000 in
set_option maxRecDepth 100000 in
theorem chroma_Colour_IsSet.calls (a0 : Int) (r : Bool) (w : World) (h : chroma_Colour_IsSet.f a0 = some r) :
    Calls Tryd.prog 48 #[.int .i32 a0] w fun e w' => e = .returned (.bool r) ∧ Drawn0 w w' := by
  have H : (some (a0 != 0)) = some r := h
  clear h
  obtain rfl := Option.some.inj H
  go_enter Tryd.func48, Tryd.ntmps48
  go_wp2
  go_ret
  exact ⟨by first | rfl | (simp; done) | (simp [*]; done), by repeat (first | exact Drawn0.refl _ | apply Drawn0.step)⟩

/-! ### chroma_Trilean_Prefix: function 51 -/
def chroma_Trilean_Prefix.f (a0 : Int) (a1 : ByteArray) : Option (ByteArray) := if a0 = 1 then (some a1) else (if a0 = 2 then (if 2 + a1.size ≤ 9223372036854775807 then (some ((⟨#[110, 111]⟩ : ByteArray) ++ a1)) else (none)) else (some (⟨#[]⟩ : ByteArray)))
set_option maxHeartbeats 8000000 in
set_option maxRecDepth 100000 in
theorem chroma_Trilean_Prefix.calls (a0 : Int) (a1 : ByteArray) (r : ByteArray) (w : World) (h : chroma_Trilean_Prefix.f a0 a1 = some r) :
    Calls Tryd.prog 51 #[.int .u8 a0, .string a1] w fun e w' => e = .returned (.string r) ∧ Drawn0 w w' := by
  have H : (if a0 = 1 then (some a1) else (if a0 = 2 then (if 2 + a1.size ≤ 9223372036854775807 then (some ((⟨#[110, 111]⟩ : ByteArray) ++ a1)) else (none)) else (some (⟨#[]⟩ : ByteArray)))) = some r := h
  clear h
  by_cases c3 : a0 = 1
  · rw [if_pos c3] at H
    have c3b0 : (a0 == 1) = true := beq_iff_eq.mpr c3
    have c3b1 : (a0 != 1) = false := bne_eq_false_iff_eq.mpr c3
    clear c3
    obtain rfl := Option.some.inj H
    go_enter Tryd.func51, Tryd.ntmps51
    go_wp2
    go_ret
    exact ⟨by first | rfl | (simp; done) | (simp [*]; done), by repeat (first | exact Drawn0.refl _ | apply Drawn0.step)⟩
  · rw [if_neg c3] at H
    have c3b0 : (a0 == 1) = false := beq_eq_false_iff_ne.mpr c3
    have c3b1 : (a0 != 1) = true := bne_iff_ne.mpr c3
    by_cases c4 : a0 = 2
    · rw [if_pos c4] at H
      have c4b0 : (a0 == 2) = true := beq_iff_eq.mpr c4
      have c4b1 : (a0 != 2) = false := bne_eq_false_iff_eq.mpr c4
      clear c4
      by_cases c5 : 2 + a1.size ≤ 9223372036854775807
      · rw [if_pos c5] at H
        have c5b0 := eq_true c5
        have c5b1 : decide (2 + a1.size ≤ 9223372036854775807) = true := decide_eq_true c5
        try have c5b2 : (9223372036854775807 < 2 + a1.size) = False := eq_false (Nat.not_lt.2 c5)
        obtain rfl := Option.some.inj H
        go_enter Tryd.func51, Tryd.ntmps51
        go_wp2
        go_ret
        exact ⟨by first | rfl | (simp; done) | (simp [*]; done), by repeat (first | exact Drawn0.refl _ | apply Drawn0.step)⟩
      · rw [if_neg c5] at H
        exact absurd H (by simp)
    · rw [if_neg c4] at H
      have c4b0 : (a0 == 2) = false := beq_eq_false_iff_ne.mpr c4
      have c4b1 : (a0 != 2) = true := bne_iff_ne.mpr c4
      obtain rfl := Option.some.inj H
      go_enter Tryd.func51, Tryd.ntmps51
      go_wp2
      go_ret
      exact ⟨by first | rfl | (simp; done) | (simp [*]; done), by repeat (first | exact Drawn0.refl _ | apply Drawn0.step)⟩

/-! ### strings_Join: function 52 -/
def strings_Join.f (l0 : List ByteArray) (a1 : ByteArray) : Option ByteArray :=
  if l0.length ≤ 140737488355328 then (if (Lib.join (l0.map (·.data.toList)) a1.data.toList).length ≤ 140737488355328 then some ⟨(Lib.join (l0.map (·.data.toList)) a1.data.toList).toArray⟩ else none) else none
theorem strings_Join.calls (A0 : Option Addr) (c0 : Nat) (l0 : List ByteArray) (a1 : ByteArray) (r : ByteArray) (w : World) (hr0 : Kd.C Kd.string w A0 l0.length l0) (hc0 : l0.length ≤ c0) (h : strings_Join.f l0 a1 = some r) :
    Calls Tryd.prog 52 #[.slice A0 l0.length c0, .string a1] w fun e w' => e = .returned (.string r) ∧ Below w.heap.size w w' := by
  unfold strings_Join.f at h
  by_cases h1 : l0.length ≤ 140737488355328
  · rw [if_pos h1] at h
    by_cases h2 : (Lib.join (l0.map (·.data.toList)) a1.data.toList).length ≤ 140737488355328
    · rw [if_pos h2] at h
      obtain rfl := Option.some.inj h
      match l0, hr0, hc0, h1, h2 with
      | [], _, _, _, _ => exact (Tryd.strings_Join_none A0 c0 a1 w).mono fun e w' ⟨he, hw⟩ => ⟨he, hw ▸ Below.refl _ _⟩
      | x :: xs, hr0, hc0, h1, h2 =>
        obtain ⟨ad, rfl, hc⟩ := hr0.2.2 (by simp)
        have hcell : ∀ (j : Nat) p, (x :: xs)[j]? = some p → w.cell? (ad.add j) = some (.string p) := by
          intro j p hp
          obtain ⟨c, _, hcs, hcc⟩ := hc j p hp
          have hcs' : c = [.string p] := hcs
          subst hcs'
          have := hcc 0 _ rfl
          simpa [show (Kd.string).sz = 1 from rfl] using this
        have h0 := hcell 0 x rfl
        have hsp : (ad.add 0).spot = none := World.cell?_spot h0
        obtain ⟨b, o, sp⟩ := ad
        have hsp' : sp = none := by simpa [Addr.add] using hsp
        subst hsp'
        have hadd : ∀ j, (⟨b, o, none⟩ : Addr).add j = ⟨b, o + j, none⟩ := fun j => by unfold Addr.add; split <;> simp_all
        have hlt := World.block_lt_of_cell? w _ h0
        rw [hadd] at hlt
        exact Tryd.strings_Join b o c0 (x :: xs) a1 w (fun j p hp => by have := hcell j p hp; rwa [hadd] at this) hlt h1 hc0 h2
    · rw [if_neg h2] at h; exact absurd h (by simp)
  · rw [if_neg h1] at h; exact absurd h (by simp)

end Go.Proofs.YtifhhejohdmiaaaDoor.G
