-- WRITTEN BY OUR myprint.py, a program of this session's over the kit's printer
import Derived.Test.YtmldahejeobohaaDoorKx0
import Derived.Test.YtmldahejeobohaaDoorKx1
import Derived.Test.YtmldahejeobohaaDoorKx2
namespace Go.Proofs.YtmldahejeobohaaDoor.K
open Go.RowKit Go.Proofs.YtmldahejeobohaaDoorW.PrintWords Go.Proofs.YtmldahejeobohaaDoorW.PrintLast Go.Proofs.YtmldahejeobohaaDoorW.PrintMore
attribute [local go_sem] max2_int min2_int max_two min_two max_three min_three max_four min_four   -- for this text's walks alone
set_option linter.unusedVariables false
set_option linter.unusedSimpArgs false

attribute [local go_sem high] eqA27
/-! ### laws_runs: function 26 -/
def laws_runs.l0 : Nat → List (S27) → List (S27) → Int → Int → Option ((List (S27)))
  | 0, _, _, _, _ => none
  | k + 1, x3, x7, x8, x9 => if x9 < x8 then (if 0 ≤ x9 then (if x9 < (x7.length : Int) then (if ((rd_T27 x7 x9).f1).toList = ([] : List UInt8) then (laws_runs.l0 k x3 x7 x8 (wrap64 (x9 + 1))) else (if (x3.length : Int) > 0 then (if 0 ≤ (wrap64 ((x3.length : Int) - 1)) then (if (wrap64 ((x3.length : Int) - 1)) < (x3.length : Int) then (if ((rd_T27 x3 (wrap64 ((x3.length : Int) - 1))).f0) = ((rd_T27 x7 x9).f0) then (if ((rd_T27 x3 (wrap64 ((x3.length : Int) - 1))).f1).size + ((rd_T27 x7 x9).f1).size ≤ 9223372036854775807 then (laws_runs.l0 k (x3.set ((wrap64 ((x3.length : Int) - 1)) : Int).toNat (⟨(rd_T27 x3 (wrap64 ((x3.length : Int) - 1))).f0, ((rd_T27 x3 (wrap64 ((x3.length : Int) - 1))).f1) ++ ((rd_T27 x7 x9).f1)⟩ : S27)) x7 x8 (wrap64 (x9 + 1))) else (none)) else (if x3.length < 5864062014805 then (laws_runs.l0 k (x3 ++ [(⟨(rd_T27 x7 x9).f0, (rd_T27 x7 x9).f1⟩ : S27)]) x7 x8 (wrap64 (x9 + 1))) else (none))) else (none)) else (none)) else (if x3.length < 5864062014805 then (laws_runs.l0 k (x3 ++ [(⟨(rd_T27 x7 x9).f0, (rd_T27 x7 x9).f1⟩ : S27)]) x7 x8 (wrap64 (x9 + 1))) else (none)))) else (none)) else (none)) else (some x3)
def laws_runs.f (k : Nat) (l0 : List (S27)) : Option ((List (S27))) := laws_runs.l0 k ([] : List (S27)) l0 (l0.length : Int) 0
theorem laws_runs.mono_l : ∀ k, (∀ y0 y1 y2 y3, LeO (laws_runs.l0 k y0 y1 y2 y3) (laws_runs.l0 (k + 1) y0 y1 y2 y3))
  | 0 => fun _ _ _ _ r h => by simp [laws_runs.l0] at h
  | k + 1 => by
    have ih0 := laws_runs.mono_l k
    · intro y0 y1 y2 y3
      unfold laws_runs.l0
      repeat' first
      | (with_reducible exact ih0 _ _ _ _)
      | (with_reducible exact LeO.refl _)
      | (with_reducible exact LeO.none _)
      | (with_reducible refine LeO.ite ?_ ?_)
      | (with_reducible refine LeO.bind ?_ (fun _ => ?_))
      | exact ih0 _ _ _ _
      | exact LeO.none _
      | refine LeO.ite ?_ ?_
      | refine LeO.bind ?_ (fun _ => ?_)
theorem laws_runs.mono : ∀ a0 k, LeO (laws_runs.f k a0) (laws_runs.f (k + 1) a0) := by
  intro a0 k
  have ih0 := laws_runs.mono_l k
  unfold laws_runs.f
  repeat' first
      | (with_reducible exact ih0 _ _ _ _)
      | (with_reducible exact LeO.refl _)
      | (with_reducible exact LeO.none _)
      | (with_reducible refine LeO.ite ?_ ?_)
      | (with_reducible refine LeO.bind ?_ (fun _ => ?_))
      | exact ih0 _ _ _ _
      | exact LeO.none _
      | refine LeO.ite ?_ ?_
      | refine LeO.bind ?_ (fun _ => ?_)
def laws_runs.T7 : Bool × List (List Nat × List Nat) := (true, [([], []), ([0], [0]), ([1], [1]), ([2], [2]), ([2], [2]), ([4, 2], [2, 4]), ([3, 5, 2], [2, 3, 5]), ([6, 2], [2, 6]), ([7, 2], [2, 7]), ([2], [2]), ([9, 2], [2, 9]), ([8, 10, 2], [2, 8, 10]), ([2, 11], [2, 11])])
def laws_runs.B7 : List Nat := [0, 1, 3, 7, 7, 23, 63, 127, 255, 7, 519, 2047, 4095]
theorem laws_runs.tab7 : rtab .any (opsOf Tryd.f26 7) = laws_runs.T7 := by kernel_rfl
theorem laws_runs.bits7 : waitsOk laws_runs.T7.2 laws_runs.B7 = true := by kernel_rfl
def laws_runs.T8 : Bool × List (List Nat × List Nat) := (true, [([], []), ([], []), ([1], [1]), ([0, 2], [0, 2]), ([3], [3]), ([4], [4]), ([], []), ([6], [6]), ([5, 7], [5, 7]), ([0, 2, 0, 1, 2, 3, 4, 5, 6, 7, 8], [0, 2]), ([9, 0, 1, 2, 3, 4, 5, 6, 7, 8], [9]), ([10, 8, 0, 1, 2, 3, 4, 5, 6, 7, 8], [8, 10])])
def laws_runs.B8 : List Nat := [0, 0, 2, 7, 15, 31, 0, 64, 255, 511, 1023, 2047]
theorem laws_runs.tab8 : rtab .any (opsOf Tryd.f26 8) = laws_runs.T8 := by kernel_rfl
theorem laws_runs.bits8 : waitsOk laws_runs.T8.2 laws_runs.B8 = true := by kernel_rfl
set_option maxHeartbeats 8000000 in
set_option maxRecDepth 100000 in
theorem laws_runs.calls (k : Nat) (A0 : Option Addr) (c0 : Nat) (l0 : List (S27)) (r : List (S27)) (w : World) (hr0 : Kd.C k27 w A0 l0.length l0) (hc0 : l0.length ≤ c0) (h : laws_runs.f k l0 = some r) :
    Calls Tryd.prog 26 #[.slice A0 l0.length c0] w fun e w' => ∃ v0_ : Value, e = .returned (v0_) ∧ Kd.R k27 27 w' w.heap.size (fun _ => True) v0_ r ∧ Below w.heap.size w w' := by
  have hu27 := Tryd.underlying27
  have HR0 := Aside0.mk hr0
  have HC0 := Aside0.mk hc0
  clear hr0 hc0
  have HB := Aside0.mk (Below.refl w.heap.size w)
  have H : (laws_runs.l0 k ([] : List (S27)) l0 (l0.length : Int) 0) = some r := h
  clear h
  have H' := Aside0.mk H
  clear H
  go_enter Tryd.func26, Tryd.ntmps26
  go_wp2
  go_loopg [3, 9] k (fun kq v3 v9 w' => ∃ (x3_1 : List (S27)) (x9_1 : Int), v9 = .int .i64 x9_1 ∧ Aside0 (laws_runs.l0 kq x3_1 l0 (l0.length : Int) x9_1 = some r) ∧ Aside0 (kq ≤ k) ∧ Aside0 (Kd.R k27 27 w' w.heap.size (fun _ => True) v3 x3_1) ∧ Aside0 (Below w.heap.size w w'))
  case atStart => exact ⟨(([] : List (S27))), (0), (by first | rfl | (simp; done) | (simp [*]; done)), H', ⟨Nat.le_refl _⟩, ⟨by first | exact Kd.R_nil _ _ _ _ _ | exact Kd.N_nil _ _ _ _ _ | exact Kd.V_nil _ _ _ _ _ | exact Kd.Q_nil _ _ _ _ _ | exact Kd.S_nil _ _ _ _ _⟩, ⟨by repeat (first | (with_reducible first | exact HB.out | apply below_alloc | apply pw_below_drewN | apply below_drew1) | exact HB.out)⟩⟩
  case round =>
    clear H'
    obtain ⟨x3_1, x9_1, rfl, HA, HK1, HO_3, HB⟩ := hrel
    cases gk with
    | zero => exact absurd HA.out (by simp [laws_runs.l0])
    | succ k1 =>
      have H := HA.out
      clear HA
      simp only [laws_runs.l0] at H
      by_cases c2 : x9_1 < (l0.length : Int)
      · rw [if_pos c2] at H
        have c2b0 : decide (x9_1 < (l0.length : Int)) = true := decide_eq_true c2
        clear c2
        by_cases c3 : 0 ≤ x9_1
        · rw [if_pos c3] at H
          have c3b0 : decide (0 ≤ x9_1) = true := decide_eq_true c3
          clear c3
          by_cases c4 : x9_1 < (l0.length : Int)
          · rw [if_pos c4] at H
            have c4b0 : decide (x9_1 < (l0.length : Int)) = true := decide_eq_true c4
            clear c4
            by_cases c5 : ((rd_T27 l0 x9_1).f1).toList = ([] : List UInt8)
            · rw [if_pos c5] at H
              have c5b0 : (((rd_T27 l0 x9_1).f1).toList == ([] : List UInt8)) = true := beq_iff_eq.mpr c5
              have c5b1 : (((rd_T27 l0 x9_1).f1).toList != ([] : List UInt8)) = false := bne_eq_false_iff_eq.mpr c5
              clear c5
              have H' := Aside0.mk H
              clear H
              have p111 : 0 ≤ (x9_1 : Int) := of_decide_eq_true (by first | (with_reducible assumption) | assumption)
              have q111 : x9_1 < (l0.length : Int) := of_decide_eq_true (by first | (with_reducible assumption) | assumption)
              obtain ⟨ad111, e111, hx111_0, hx111_1⟩ := at_T27 HR0.out x9_1 p111 q111
              cases e111
              replace hx111_0 := (HB.out.cell (World.block_lt_of_cell? w _ hx111_0)).trans hx111_0
              replace hx111_1 := (HB.out.cell (World.block_lt_of_cell? w _ hx111_1)).trans hx111_1
              replace p111 := eq_true p111
              replace q111 := eq_true q111
              go_wp2_with (first | ((with_reducible refine gate_dst (N := 5) rfl ?_); refine box_event ?hg (N := 5) ?hd (cs := #[.int .i64 0, .string (⟨#[]⟩ : ByteArray)]) (t := 27) ?hr ?_; (case hd => rfl); (case hg => rfl); (case hr => first | (go_simp; done) | (go_simp; rfl)); intro gb112 hg w6 hbox hb; have n0_ := Aside0.mk (Kd.R_below (Kd.R_elderB (by (with_reducible repeat (first | apply Kd.R_alloc | apply Kd.R_drewN | apply Kd.R_drew)); exact HO_3.out) gb112 (Nat.le_of_eq hg.symm)) hb); have n1_ := Aside0.mk (below_step (by repeat (first | (with_reducible first | exact HB.out | apply below_alloc | apply pw_below_drewN | apply below_drew1) | exact HB.out)) hb); have n2_ := Aside0.mk (hbox); have n3_ := Aside0.mk ((by rw [hg]; exact (below_size (by repeat (first | (with_reducible first | exact HB.out | apply below_alloc | apply pw_below_drewN | apply below_drew1) | exact HB.out))) : w.heap.size ≤ gb112)); have n4_ := Aside0.mk ((by rw [hg]; exact (below_size (by repeat (first | (with_reducible first | exact HB.out | apply below_alloc | apply pw_below_drewN | apply below_drew1) | exact HB.out))) : w.heap.size ≤ gb112)); clear HO_3; clear HB; have HO_3 := n0_; have HB := n1_; have BK112 := n2_; have GW112 := n3_; have GE112 := n4_; clear n0_ n1_ n2_ n3_ n4_; clear hb hbox hg; have hcz7_0 : w6.cell? ⟨gb112, 0, none⟩ = some (.int .i64 0) := (blk_cell BK112.out 0).trans rfl; have hcz7_1 : w6.cell? ⟨gb112, 1, none⟩ = some (.string (⟨#[]⟩ : ByteArray)) := (blk_cell BK112.out 1).trans rfl; have hfz7_0 := blk_frozen BK112.out 0; have hfz7_1 := blk_frozen BK112.out 1))
              go_roundg k1
              case measure => have := HK1.out; omega
              case rel => exact ⟨(x3_1), (wrap64 (x9_1 + 1)), (by first | rfl | (simp; done) | (simp [*]; done)), H', ⟨by have := HK1.out; omega⟩, ⟨by (with_reducible repeat (first | apply Kd.R_alloc | apply Kd.R_drewN | apply Kd.R_drew)); exact Kd.R_mono (Kd.R_far (p := ⟨gb112, 1, none⟩) (Kd.R_far (p := ⟨gb112, 0, none⟩) (Kd.R_mono HO_3.out (fun k_ hk => (⟨hk, hk.2⟩ : _ ∧ k_ ≠ gb112))) (fun _ hk => hk.2) (.int .i64 ((rd_T27 l0 x9_1).f0))) (fun _ hk => hk.2) (.string ((rd_T27 l0 x9_1).f1))) (fun _ hk => trivial)⟩, ⟨by repeat (first | (with_reducible first | exact HB.out | apply below_alloc | apply pw_below_drewN | apply below_drew1 | refine below_set ?_ GE112.out) | exact HB.out)⟩⟩
            · rw [if_neg c5] at H
              have c5b0 : (((rd_T27 l0 x9_1).f1).toList == ([] : List UInt8)) = false := beq_eq_false_iff_ne.mpr c5
              have c5b1 : (((rd_T27 l0 x9_1).f1).toList != ([] : List UInt8)) = true := bne_iff_ne.mpr c5
              by_cases c8 : (x3_1.length : Int) > 0
              · rw [if_pos c8] at H
                have c8b0 : decide (0 < (x3_1.length : Int)) = true := decide_eq_true c8
                have c8b1 : decide (0 < x3_1.length) = true := decide_eq_true (by omega)
                clear c8
                obtain ⟨ji9, hji9⟩ : ∃ j_ : Int, (wrap64 ((x3_1.length : Int) - 1)) = j_ := ⟨_, rfl⟩
                replace H : (if 0 ≤ (ji9) then (if (ji9) < (x3_1.length : Int) then (if ((rd_T27 x3_1 (ji9)).f0) = ((rd_T27 l0 x9_1).f0) then (if ((rd_T27 x3_1 (ji9)).f1).size + ((rd_T27 l0 x9_1).f1).size ≤ 9223372036854775807 then (laws_runs.l0 k1 (x3_1.set ((ji9) : Int).toNat (⟨(rd_T27 x3_1 (ji9)).f0, ((rd_T27 x3_1 (ji9)).f1) ++ ((rd_T27 l0 x9_1).f1)⟩ : S27)) l0 (l0.length : Int) (wrap64 (x9_1 + 1))) else (none)) else (if x3_1.length < 5864062014805 then (laws_runs.l0 k1 (x3_1 ++ [(⟨(rd_T27 l0 x9_1).f0, (rd_T27 l0 x9_1).f1⟩ : S27)]) l0 (l0.length : Int) (wrap64 (x9_1 + 1))) else (none))) else (none)) else (none)) = some r := by first | (rw [hji9] at H; exact H) | (simp only [hji9] at H ⊢; exact H)
                have hji9w : (IntKind.i64.wrap ((x3_1.length : Int) - 1)) = ji9 := (i64_w _).trans hji9
                by_cases c10 : 0 ≤ (ji9)
                · rw [if_pos c10] at H
                  have c10b0 : decide (0 ≤ (ji9)) = true := decide_eq_true c10
                  clear c10
                  by_cases c11 : (ji9) < (x3_1.length : Int)
                  · rw [if_pos c11] at H
                    have c11b0 : decide ((ji9) < (x3_1.length : Int)) = true := decide_eq_true c11
                    clear c11
                    by_cases c12 : ((rd_T27 x3_1 (ji9)).f0) = ((rd_T27 l0 x9_1).f0)
                    · rw [if_pos c12] at H
                      have c12b0 : (((rd_T27 x3_1 (ji9)).f0) == ((rd_T27 l0 x9_1).f0)) = true := beq_iff_eq.mpr c12
                      have c12b1 : (((rd_T27 x3_1 (ji9)).f0) != ((rd_T27 l0 x9_1).f0)) = false := bne_eq_false_iff_eq.mpr c12
                      clear c12
                      by_cases c13 : ((rd_T27 x3_1 (ji9)).f1).size + ((rd_T27 l0 x9_1).f1).size ≤ 9223372036854775807
                      · rw [if_pos c13] at H
                        have c13b0 := eq_true c13
                        have c13b1 : decide (((rd_T27 x3_1 (ji9)).f1).size + ((rd_T27 l0 x9_1).f1).size ≤ 9223372036854775807) = true := decide_eq_true c13
                        try have c13b2 : (9223372036854775807 < ((rd_T27 x3_1 (ji9)).f1).size + ((rd_T27 l0 x9_1).f1).size) = False := eq_false (Nat.not_lt.2 c13)
                        obtain ⟨y115, hy115⟩ : ∃ y_ : List (S27), y_ = (x3_1.set ((ji9) : Int).toNat (⟨(rd_T27 x3_1 (ji9)).f0, ((rd_T27 x3_1 (ji9)).f1) ++ ((rd_T27 l0 x9_1).f1)⟩ : S27)) := ⟨_, rfl⟩
                        replace H : (laws_runs.l0 k1 y115 l0 (l0.length : Int) (wrap64 (x9_1 + 1))) = some r := by first | (rw [hy115]; with_reducible exact H) | (have H2_ := (Option.bind_some _ _).symm.trans H; rw [hy115]; with_reducible exact H2_) | (have H2_ := (Option.bind_some _ _).symm.trans H; with_reducible exact H2_) | with_reducible exact H | (rw [hy115]; exact H) | exact H
                        have Ny115 := Aside0.mk hy115
                        clear hy115
                        have H' := Aside0.mk H
                        clear H
                        have p111 : 0 ≤ (x9_1 : Int) := of_decide_eq_true (by first | (with_reducible assumption) | assumption)
                        have q111 : x9_1 < (l0.length : Int) := of_decide_eq_true (by first | (with_reducible assumption) | assumption)
                        obtain ⟨ad111, e111, hx111_0, hx111_1⟩ := at_T27 HR0.out x9_1 p111 q111
                        cases e111
                        replace hx111_0 := (HB.out.cell (World.block_lt_of_cell? w _ hx111_0)).trans hx111_0
                        replace hx111_1 := (HB.out.cell (World.block_lt_of_cell? w _ hx111_1)).trans hx111_1
                        replace p111 := eq_true p111
                        replace q111 := eq_true q111
                        try go_wp2_with (first | ((with_reducible refine gate_dst (N := 5) rfl ?_); refine box_event ?hg (N := 5) ?hd (cs := #[.int .i64 0, .string (⟨#[]⟩ : ByteArray)]) (t := 27) ?hr ?_; (case hd => rfl); (case hg => rfl); (case hr => first | (go_simp; done) | (go_simp; rfl)); intro gb112 hg w15 hbox hb; have n0_ := Aside0.mk (Kd.R_below (Kd.R_elderB (by (with_reducible repeat (first | apply Kd.R_alloc | apply Kd.R_drewN | apply Kd.R_drew)); exact HO_3.out) gb112 (Nat.le_of_eq hg.symm)) hb); have n1_ := Aside0.mk (below_step (by repeat (first | (with_reducible first | exact HB.out | apply below_alloc | apply pw_below_drewN | apply below_drew1) | exact HB.out)) hb); have n2_ := Aside0.mk (hbox); have n3_ := Aside0.mk ((by rw [hg]; exact (below_size (by repeat (first | (with_reducible first | exact HB.out | apply below_alloc | apply pw_below_drewN | apply below_drew1) | exact HB.out))) : w.heap.size ≤ gb112)); have n4_ := Aside0.mk ((by rw [hg]; exact (below_size (by repeat (first | (with_reducible first | exact HB.out | apply below_alloc | apply pw_below_drewN | apply below_drew1) | exact HB.out))) : w.heap.size ≤ gb112)); clear HO_3; clear HB; have HO_3 := n0_; have HB := n1_; have BK112 := n2_; have GW112 := n3_; have GE112 := n4_; clear n0_ n1_ n2_ n3_ n4_; clear hb hbox hg; have hcz16_0 : w15.cell? ⟨gb112, 0, none⟩ = some (.int .i64 0) := (blk_cell BK112.out 0).trans rfl; have hcz16_1 : w15.cell? ⟨gb112, 1, none⟩ = some (.string (⟨#[]⟩ : ByteArray)) := (blk_cell BK112.out 1).trans rfl; have hfz16_0 := blk_frozen BK112.out 0; have hfz16_1 := blk_frozen BK112.out 1; obtain ⟨Ao17, co17, eo17⟩ := Kd.R_slice HO_3.out; subst eo17))
                        have n0_ : Aside0 (Kd.R k27 27 ((w15.setCell ⟨gb112, 0, none⟩ (.int .i64 ((rd_T27 l0 x9_1).f0))).setCell ⟨gb112, 1, none⟩ (.string ((rd_T27 l0 x9_1).f1))) w.heap.size (fun k_ => k_ ≠ gb112) (.slice Ao17 x3_1.length co17) x3_1) := ⟨by (with_reducible repeat (first | apply Kd.R_alloc | apply Kd.R_drewN | apply Kd.R_drew)); exact Kd.R_mono (Kd.R_far (p := ⟨gb112, 1, none⟩) (Kd.R_far (p := ⟨gb112, 0, none⟩) (Kd.R_mono HO_3.out (fun k_ hk => (⟨hk, hk.2⟩ : _ ∧ k_ ≠ gb112))) (fun _ hk => hk.2) (.int .i64 ((rd_T27 l0 x9_1).f0))) (fun _ hk => hk.2) (.string ((rd_T27 l0 x9_1).f1))) (fun _ hk => hk.1.2)⟩
                        have n1_ : Aside0 (((w15.setCell ⟨gb112, 0, none⟩ (.int .i64 ((rd_T27 l0 x9_1).f0))).setCell ⟨gb112, 1, none⟩ (.string ((rd_T27 l0 x9_1).f1))).heap[gb112]? = some (.cells #[.int .i64 ((rd_T27 l0 x9_1).f0), .string ((rd_T27 l0 x9_1).f1)] 27 (0, 0))) := ⟨by (with_reducible repeat (first | refine blk_drewN ?_ _ | refine blk_drew ?_ | refine blk_alloc ?_ _)); refine blk_put (cs := #[.int .i64 ((rd_T27 l0 x9_1).f0), .string (⟨#[]⟩ : ByteArray)]) ?_ 1 _ rfl; (with_reducible repeat (first | refine blk_drewN ?_ _ | refine blk_drew ?_ | refine blk_alloc ?_ _)); refine blk_put (cs := #[.int .i64 0, .string (⟨#[]⟩ : ByteArray)]) ?_ 0 _ rfl; (with_reducible repeat (first | refine blk_drewN ?_ _ | refine blk_drew ?_ | refine blk_alloc ?_ _)); exact BK112.out⟩
                        have n2_ : Aside0 (Below w.heap.size w ((w15.setCell ⟨gb112, 0, none⟩ (.int .i64 ((rd_T27 l0 x9_1).f0))).setCell ⟨gb112, 1, none⟩ (.string ((rd_T27 l0 x9_1).f1)))) := ⟨by repeat (first | (with_reducible first | exact HB.out | apply below_alloc | apply pw_below_drewN | apply below_drew1 | refine below_set ?_ GE112.out) | exact HB.out)⟩
                        (try clear HO_3)
                        (try clear BK112)
                        (try clear HB)
                        generalize ((w15.setCell ⟨gb112, 0, none⟩ (.int .i64 ((rd_T27 l0 x9_1).f0))).setCell ⟨gb112, 1, none⟩ (.string ((rd_T27 l0 x9_1).f1))) = w18 at n0_ n1_ n2_ ⊢
                        have HO_3 := n0_
                        have BK112 := n1_
                        have HB := n2_
                        clear n0_ n1_ n2_
                        have n0_ := Aside0.mk (Kd.R_drew HO_3.out)
                        have n1_ := Aside0.mk (blk_drew BK112.out)
                        have n2_ := Aside0.mk (below_drew1 HB.out)
                        clear HO_3
                        clear BK112
                        clear HB
                        have HO_3 := n0_
                        have BK112 := n1_
                        have HB := n2_
                        clear n0_ n1_ n2_
                        have p113 : 0 ≤ ((ji9) : Int) := of_decide_eq_true (by first | (with_reducible assumption) | assumption)
                        have q113 : (ji9) < (x3_1.length : Int) := of_decide_eq_true (by first | (with_reducible assumption) | assumption)
                        obtain ⟨ad113, e113, hx113_0, hx113_1⟩ := at_T27 (Kd.R_reads' HO_3.out).2.2 (ji9) p113 q113
                        cases e113
                        replace p113 := eq_true p113
                        replace q113 := eq_true q113
                        refine start_ (n := 13) (S := fun w' => w'.cell? ⟨gb112, 0, none⟩ = some (.int .i64 ((rd_T27 l0 x9_1).f0)) ∧ w'.cell? ⟨gb112, 1, none⟩ = some (.string ((rd_T27 l0 x9_1).f1)) ∧ w'.cell? (ad113.add (((ji9)).toNat * 2)) = some (.int .i64 ((rd_T27 x3_1 (ji9)).f0)) ∧ w'.cell? ⟨(ad113.add (((ji9)).toNat * 2)).block, (ad113.add (((ji9)).toNat * 2)).off + 1, none⟩ = some (.string ((rd_T27 x3_1 (ji9)).f1))) (ds := []) #[false, false, false, false, false, false, false, false, false, false, false, false, false] (by kernel_rfl) rfl rfl ⟨(blk_cell BK112.out 0).trans rfl, (blk_cell BK112.out 1).trans rfl, hx113_0, hx113_1⟩ (fun hHeld => ?_); refine with_tabW laws_runs.tab7 laws_runs.bits7 (fun HT_ HW_ => ?_)
                        generalize w18.drew = w19 at HO_3 BK112 HB hx113_0 hx113_1 hHeld ⊢
                        refine pure_ (i := 0) (N := some 18) (v := ?_) (a' := ?_) #[true, false, false, false, false, false, false, false, false, false, false, false, false] rfl rfl (any_of HT_.out (by kernel_rfl)) (fun _ _ _ h => h) (Or.inl ⟨by rfl, ?_⟩) ?_ ?_
                        rotate_left
                        · intro w'
                          go_simp
                          with_reducible rfl
                        rotate_left
                        · simp only [Act.put, List.setIfInBounds_toArray, List.set_cons_zero, List.set_cons_succ, i64_w, i32_w]
                          rfl
                        refine pure_ (i := 1) (N := some 19) (v := ?_) (a' := ?_) #[true, true, false, false, false, false, false, false, false, false, false, false, false] rfl rfl (any_of HT_.out (by kernel_rfl)) (fun _ _ _ h => h) (Or.inl ⟨by rfl, ?_⟩) ?_ ?_
                        rotate_left
                        · intro w'
                          go_simp
                          with_reducible rfl
                        rotate_left
                        · simp only [Act.put, List.setIfInBounds_toArray, List.set_cons_zero, List.set_cons_succ, i64_w, i32_w]
                          rfl
                        refine pure_ (i := 2) (N := some 20) (v := ?_) (a' := ?_) #[true, true, true, false, false, false, false, false, false, false, false, false, false] rfl rfl (any_of HT_.out (by kernel_rfl)) (fun _ _ _ h => h) (Or.inl ⟨by rfl, ?_⟩) ?_ ?_
                        rotate_left
                        · intro w'
                          go_simp
                          with_reducible rfl
                        rotate_left
                        · simp only [Act.put, List.setIfInBounds_toArray, List.set_cons_zero, List.set_cons_succ, i64_w, i32_w]
                          rfl
                        refine pure_ (i := 3) (N := some 21) (v := ?_) (a' := ?_) #[true, true, true, true, false, false, false, false, false, false, false, false, false] rfl rfl (any_of HT_.out (by kernel_rfl)) (fun _ _ _ h => h) (Or.inl ⟨by rfl, ?_⟩) ?_ ?_
                        rotate_left
                        · intro w'
                          go_simp
                          with_reducible rfl
                        rotate_left
                        · simp only [Act.put, List.setIfInBounds_toArray, List.set_cons_zero, List.set_cons_succ, i64_w, i32_w]
                          rfl
                        refine pure_ (i := 4) (N := some 22) (v := ?_) (a' := ?_) #[true, true, true, true, true, false, false, false, false, false, false, false, false] rfl rfl (any_of HT_.out (by kernel_rfl)) (fun _ _ _ h => h) (Or.inl ⟨by rfl, ?_⟩) ?_ ?_
                        rotate_left
                        · intro w'
                          go_simp
                          with_reducible rfl
                        rotate_left
                        · simp only [Act.put, List.setIfInBounds_toArray, List.set_cons_zero, List.set_cons_succ, i64_w, i32_w]
                          rfl
                        refine pure_ (i := 5) (N := some 23) (v := ?_) (a' := ?_) #[true, true, true, true, true, true, false, false, false, false, false, false, false] rfl rfl (any_of HT_.out (by kernel_rfl)) (fun _ _ _ h => h) (Or.inl ⟨by rfl, ?_⟩) ?_ ?_
                        rotate_left
                        · intro w'
                          go_simp
                          with_reducible rfl
                        rotate_left
                        · simp only [Act.put, List.setIfInBounds_toArray, List.set_cons_zero, List.set_cons_succ, i64_w, i32_w]
                          rfl
                        refine pure_ (i := 6) (N := some 24) (v := ?_) (a' := ?_) #[true, true, true, true, true, true, true, false, false, false, false, false, false] rfl rfl (any_of HT_.out (by kernel_rfl)) (fun _ _ _ h => h) (Or.inl ⟨by rfl, ?_⟩) ?_ ?_
                        rotate_left
                        · intro w'
                          go_simp
                          with_reducible rfl
                        rotate_left
                        · simp only [Act.put, List.setIfInBounds_toArray, List.set_cons_zero, List.set_cons_succ, i64_w, i32_w]
                          rfl
                        refine pure_ (i := 7) (N := some 25) (v := ?_) (a' := ?_) #[true, true, true, true, true, true, true, true, false, false, false, false, false] rfl rfl (any_of HT_.out (by kernel_rfl)) (fun _ _ _ h => h) (Or.inl ⟨by rfl, ?_⟩) ?_ ?_
                        rotate_left
                        · intro w'
                          go_simp
                          with_reducible rfl
                        rotate_left
                        · simp only [Act.put, List.setIfInBounds_toArray, List.set_cons_zero, List.set_cons_succ, i64_w, i32_w]
                          rfl
                        refine pure_ (i := 9) (N := some 27) (v := ?_) (a' := ?_) #[true, true, true, true, true, true, true, true, false, true, false, false, false] rfl rfl (any_of HT_.out (by kernel_rfl)) (fun _ _ _ h => h) (Or.inl ⟨by rfl, ?_⟩) ?_ ?_
                        rotate_left
                        · intro w'
                          go_simp
                          with_reducible rfl
                        rotate_left
                        · simp only [Act.put, List.setIfInBounds_toArray, List.set_cons_zero, List.set_cons_succ, i64_w, i32_w]
                          rfl
                        refine take_ (i := 8) (N := some 26) (v := ?_) (a' := ?_) #[true, true, true, true, true, true, true, true, true, true, false, false, false] rfl rfl (take_ofW HT_.out HW_.out (by kernel_rfl)) (fun _ _ _ h => h) (Or.inl ⟨by rfl, ?_⟩) hHeld ?_ ?_
                        rotate_left
                        · rintro w' ⟨s0, s1, s2, s3⟩
                          go_simp
                          with_reducible rfl
                        rotate_left
                        · simp only [Act.put, List.setIfInBounds_toArray, List.set_cons_zero, List.set_cons_succ, i64_w, i32_w]
                          rfl
                        refine take_ (i := 10) (N := some 28) (v := ?_) (a' := ?_) #[true, true, true, true, true, true, true, true, true, true, true, false, false] rfl rfl (take_ofW HT_.out HW_.out (by kernel_rfl)) (fun _ _ _ h => h) (Or.inl ⟨by rfl, ?_⟩) hHeld ?_ ?_
                        rotate_left
                        · rintro w' ⟨s0, s1, s2, s3⟩
                          go_simp
                          with_reducible rfl
                        rotate_left
                        · simp only [Act.put, List.setIfInBounds_toArray, List.set_cons_zero, List.set_cons_succ, i64_w, i32_w]
                          rfl
                        refine pure_ (i := 11) (N := some 29) (v := ?_) (a' := ?_) #[true, true, true, true, true, true, true, true, true, true, true, true, false] rfl rfl (any_of HT_.out (by kernel_rfl)) (fun _ _ _ h => h) (Or.inl ⟨by rfl, ?_⟩) ?_ ?_
                        rotate_left
                        · intro w'
                          go_simp
                          with_reducible rfl
                        rotate_left
                        · simp only [Act.put, List.setIfInBounds_toArray, List.set_cons_zero, List.set_cons_succ, i64_w, i32_w]
                          rfl
                        refine pure_ (i := 12) (N := some 30) (v := ?_) (a' := ?_) #[true, true, true, true, true, true, true, true, true, true, true, true, true] rfl rfl (any_of HT_.out (by kernel_rfl)) (fun _ _ _ h => h) (Or.inl ⟨by rfl, ?_⟩) ?_ ?_
                        rotate_left
                        · intro w'
                          go_simp
                          with_reducible rfl
                        rotate_left
                        · simp only [Act.put, List.setIfInBounds_toArray, List.set_cons_zero, List.set_cons_succ, i64_w, i32_w]
                          rfl
                        refine done_ (done_of HT_.out (by kernel_rfl)) ?_
                        try go_wp2
                        have n0_ := Aside0.mk (Kd.R_drew HO_3.out)
                        have n1_ := Aside0.mk (blk_drew BK112.out)
                        have n2_ := Aside0.mk (below_drew1 HB.out)
                        clear HO_3
                        clear BK112
                        clear HB
                        have HO_3 := n0_
                        have BK112 := n1_
                        have HB := n2_
                        clear n0_ n1_ n2_
                        have p114 : 0 ≤ ((ji9) : Int) := of_decide_eq_true (by first | (with_reducible assumption) | assumption)
                        have q114 : (ji9) < (x3_1.length : Int) := of_decide_eq_true (by first | (with_reducible assumption) | assumption)
                        obtain ⟨ad114, e114, hx114_0, hx114_1⟩ := at_T27 (Kd.R_reads' HO_3.out).2.2 (ji9) p114 q114
                        obtain rfl : ad113 = ad114 := (by injection e114)
                        replace p114 := eq_true p114
                        replace q114 := eq_true q114
                        have p14 : 0 ≤ ((ji9) : Int) := of_decide_eq_true (by first | (with_reducible assumption) | assumption)
                        have q14 : ((ji9) : Int) < ((x3_1.length : Int) : Int) := of_decide_eq_true (by first | (with_reducible assumption) | assumption)
                        obtain ⟨go14, co14, eo14, gb14, gl14, cl14, HG14⟩ := Kd.R_form HO_3.out (by omega)
                        (first | cases eo14 | (injection eo14 with ea_ en_ ec_; (first | subst ea_ | (injection ea_ with ea_; subst ea_)); subst ec_; clear en_))
                        have GB14 := Aside0.mk gb14
                        have GG14 := Aside0.mk HG14
                        clear gb14 gl14 HG14
                        (first | simp only [add_plain] at hx113_0 | skip)
                        (first | simp only [add_plain] at hx113_1 | skip)
                        (first | simp only [add_plain] at hx114_0 | skip)
                        (first | simp only [add_plain] at hx114_1 | skip)
                        obtain ⟨ce14, hcl14, hM14, hcc14, hfr14⟩ := Kd.R_elem HO_3.out z27 ((ji9) : Int) p14 q14
                        obtain rfl := k27_openM hM14
                        have hx14_0 : World.cell? _ ⟨go14, ((ji9) : Int).toNat * 2, none⟩ = some (.int .i64 ((rd_T27 x3_1 (ji9)).f0)) := hcc14 0 _ rfl
                        have hx14_1 : World.cell? _ ⟨go14, ((ji9) : Int).toNat * 2 + 1, none⟩ = some (.string ((rd_T27 x3_1 (ji9)).f1)) := hcc14 1 _ rfl
                        have hf14_0 : World.frozen? _ ⟨go14, ((ji9) : Int).toNat * 2, none⟩ = false := hfr14 0
                        have hf14_1 : World.frozen? _ ⟨go14, ((ji9) : Int).toNat * 2 + 1, none⟩ = false := hfr14 1
                        clear hcl14 hcc14 hfr14 hM14
                        replace p14 := eq_true p14
                        replace q14 := eq_true q14
                        obtain ⟨ce21, hcl21, hM21, hcc21, hfr21⟩ := Kd.R_elem HO_3.out z27 ((ji9) : Int) (of_decide_eq_true (by first | (with_reducible assumption) | assumption)) (by have h_ : ((ji9) : Int) < ((x3_1.length : Int) : Int) := of_decide_eq_true (by first | (with_reducible assumption) | assumption); first | exact h_ | (have e_ := (Kd.R_reads' HO_3.out).1; omega) | simpa using h_)
                        obtain rfl := k27_openM hM21
                        have HP21 := (Kd.R_seg HO_3.out ((ji9) : Int) (of_decide_eq_true (by first | (with_reducible assumption) | assumption)) (by have h_ : ((ji9) : Int) < ((x3_1.length : Int) : Int) := of_decide_eq_true (by first | (with_reducible assumption) | assumption); first | exact h_ | (have e_ := (Kd.R_reads' HO_3.out).1; omega) | simpa using h_) (seg := [.string (((rd_T27 x3_1 (ji9)).f1) ++ ((rd_T27 l0 x9_1).f1))]) (j := 1) hcl21 hcc21 (show 2 ≤ 2 from by decide) (x' := (⟨(rd_T27 x3_1 (ji9)).f0, ((rd_T27 x3_1 (ji9)).f1) ++ ((rd_T27 l0 x9_1).f1)⟩ : S27)) (k27_mkM _ _ _ (⟨(rd_T27 x3_1 (ji9)).f0, ((rd_T27 x3_1 (ji9)).f1) ++ ((rd_T27 l0 x9_1).f1)⟩ : S27) ) (fun _ hk => hk)).1
                        rw [← Ny115.out] at HP21
                        have HQ21 := Aside0.mk HP21
                        clear hcl21 hcc21 hfr21 hM21 HP21
                        refine start_ (n := 12) (S := fun w' => w'.cell? ⟨gb112, 0, none⟩ = some (.int .i64 ((rd_T27 l0 x9_1).f0)) ∧ w'.cell? ⟨gb112, 1, none⟩ = some (.string ((rd_T27 l0 x9_1).f1)) ∧ w'.cell? ⟨go14, ((ji9)).toNat * 2, none⟩ = some (.int .i64 ((rd_T27 x3_1 (ji9)).f0)) ∧ w'.cell? ⟨go14, ((ji9)).toNat * 2 + 1, none⟩ = some (.string ((rd_T27 x3_1 (ji9)).f1))) (ds := [11]) #[false, false, false, false, false, false, false, false, false, false, false, false] (by kernel_rfl) rfl rfl ⟨(blk_cell BK112.out 0).trans rfl, (blk_cell BK112.out 1).trans rfl, hx114_0, hx114_1⟩ (fun hHeld => ?_); refine with_tabW laws_runs.tab8 laws_runs.bits8 (fun HT_ HW_ => ?_)
                        generalize w19.drew = w20 at HO_3 BK112 HB GG14 HQ21 hf14_0 hf14_1 hx113_0 hx113_1 hx114_0 hx114_1 hx14_0 hx14_1 hHeld ⊢
                        refine pure_ (i := 0) (N := some 31) (v := ?_) (a' := ?_) #[true, false, false, false, false, false, false, false, false, false, false, false] rfl rfl (any_of HT_.out (by kernel_rfl)) (fun _ _ _ h => h) (Or.inl ⟨by rfl, ?_⟩) ?_ ?_
                        rotate_left
                        · intro w'
                          go_simp
                          with_reducible rfl
                        rotate_left
                        · simp only [Act.put, List.setIfInBounds_toArray, List.set_cons_zero, List.set_cons_succ, i64_w, i32_w]
                          rfl
                        refine pure_ (i := 1) (N := some 32) (v := ?_) (a' := ?_) #[true, true, false, false, false, false, false, false, false, false, false, false] rfl rfl (any_of HT_.out (by kernel_rfl)) (fun _ _ _ h => h) (Or.inl ⟨by rfl, ?_⟩) ?_ ?_
                        rotate_left
                        · intro w'
                          go_simp
                          with_reducible rfl
                        rotate_left
                        · simp only [Act.put, List.setIfInBounds_toArray, List.set_cons_zero, List.set_cons_succ, i64_w, i32_w]
                          rfl
                        refine pure_ (i := 2) (N := some 33) (v := ?_) (a' := ?_) #[true, true, true, false, false, false, false, false, false, false, false, false] rfl rfl (any_of HT_.out (by kernel_rfl)) (fun _ _ _ h => h) (Or.inl ⟨by rfl, ?_⟩) ?_ ?_
                        rotate_left
                        · intro w'
                          go_simp
                          with_reducible rfl
                        rotate_left
                        · simp only [Act.put, List.setIfInBounds_toArray, List.set_cons_zero, List.set_cons_succ, i64_w, i32_w]
                          rfl
                        refine pure_ (i := 3) (N := some 34) (v := ?_) (a' := ?_) #[true, true, true, true, false, false, false, false, false, false, false, false] rfl rfl (any_of HT_.out (by kernel_rfl)) (fun _ _ _ h => h) (Or.inl ⟨by rfl, ?_⟩) ?_ ?_
                        rotate_left
                        · intro w'
                          go_simp
                          with_reducible rfl
                        rotate_left
                        · simp only [Act.put, List.setIfInBounds_toArray, List.set_cons_zero, List.set_cons_succ, i64_w, i32_w]
                          rfl
                        refine pure_ (i := 4) (N := some 35) (v := ?_) (a' := ?_) #[true, true, true, true, true, false, false, false, false, false, false, false] rfl rfl (any_of HT_.out (by kernel_rfl)) (fun _ _ _ h => h) (Or.inl ⟨by rfl, ?_⟩) ?_ ?_
                        rotate_left
                        · intro w'
                          go_simp
                          with_reducible rfl
                        rotate_left
                        · simp only [Act.put, List.setIfInBounds_toArray, List.set_cons_zero, List.set_cons_succ, i64_w, i32_w]
                          rfl
                        refine pure_ (i := 6) (N := some 37) (v := ?_) (a' := ?_) #[true, true, true, true, true, false, true, false, false, false, false, false] rfl rfl (any_of HT_.out (by kernel_rfl)) (fun _ _ _ h => h) (Or.inl ⟨by rfl, ?_⟩) ?_ ?_
                        rotate_left
                        · intro w'
                          go_simp
                          with_reducible rfl
                        rotate_left
                        · simp only [Act.put, List.setIfInBounds_toArray, List.set_cons_zero, List.set_cons_succ, i64_w, i32_w]
                          rfl
                        refine take_ (i := 5) (N := some 36) (v := ?_) (a' := ?_) #[true, true, true, true, true, true, true, false, false, false, false, false] rfl rfl (take_ofW HT_.out HW_.out (by kernel_rfl)) (fun _ _ _ h => h) (Or.inl ⟨by rfl, ?_⟩) hHeld ?_ ?_
                        rotate_left
                        · rintro w' ⟨s0, s1, s2, s3⟩
                          go_simp
                          with_reducible rfl
                        rotate_left
                        · simp only [Act.put, List.setIfInBounds_toArray, List.set_cons_zero, List.set_cons_succ, i64_w, i32_w]
                          rfl
                        refine take_ (i := 7) (N := some 38) (v := ?_) (a' := ?_) #[true, true, true, true, true, true, true, true, false, false, false, false] rfl rfl (take_ofW HT_.out HW_.out (by kernel_rfl)) (fun _ _ _ h => h) (Or.inl ⟨by rfl, ?_⟩) hHeld ?_ ?_
                        rotate_left
                        · rintro w' ⟨s0, s1, s2, s3⟩
                          go_simp
                          with_reducible rfl
                        rotate_left
                        · simp only [Act.put, List.setIfInBounds_toArray, List.set_cons_zero, List.set_cons_succ, i64_w, i32_w]
                          rfl
                        refine pure_ (i := 8) (N := some 39) (v := ?_) (a' := ?_) #[true, true, true, true, true, true, true, true, true, false, false, false] rfl rfl (any_of HT_.out (by kernel_rfl)) (fun _ _ _ h => h) (Or.inl ⟨by rfl, ?_⟩) ?_ ?_
                        rotate_left
                        · intro w'
                          go_simp
                          with_reducible rfl
                        rotate_left
                        · simp only [Act.put, List.setIfInBounds_toArray, List.set_cons_zero, List.set_cons_succ, i64_w, i32_w]
                          rfl
                        refine pure_ (i := 9) (N := some 40) (v := ?_) (a' := ?_) #[true, true, true, true, true, true, true, true, true, true, false, false] rfl rfl (any_of HT_.out (by kernel_rfl)) (fun _ _ _ h => h) (Or.inl ⟨by rfl, ?_⟩) ?_ ?_
                        rotate_left
                        · intro w'
                          go_simp
                          with_reducible rfl
                        rotate_left
                        · simp only [Act.put, List.setIfInBounds_toArray, List.set_cons_zero, List.set_cons_succ, i64_w, i32_w]
                          rfl
                        refine pure_ (i := 10) (N := some 41) (v := ?_) (a' := ?_) #[true, true, true, true, true, true, true, true, true, true, true, false] rfl rfl (any_of HT_.out (by kernel_rfl)) (fun _ _ _ h => h) (Or.inl ⟨by rfl, ?_⟩) ?_ ?_
                        rotate_left
                        · intro w'
                          go_simp
                          with_reducible rfl
                        rotate_left
                        · simp only [Act.put, List.setIfInBounds_toArray, List.set_cons_zero, List.set_cons_succ, i64_w, i32_w]
                          rfl
                        refine last_ (i := 11) (N := none) #[true, true, true, true, true, true, true, true, true, true, true, true] rfl rfl (one_of HT_.out (by kernel_rfl)) (by decide) (fun K hK => ?_)
                        refine skip_ (w1 := ?_) (by rfl) rfl ?_ ?_
                        rotate_left
                        · go_simp
                          rfl
                        refine hK.out _ _ ?_
                        clear hK K
                        refine done_ (done_of HT_.out (by kernel_rfl)) ?_
                        try go_wp2
                        go_roundg k1
                        case measure => have := HK1.out; omega
                        case rel => exact ⟨(y115), (wrap64 (x9_1 + 1)), (by first | rfl | (simp; done) | (simp [*]; done)), H', ⟨by have := HK1.out; omega⟩, ⟨by (with_reducible repeat (first | apply Kd.R_alloc | apply Kd.R_drewN | apply Kd.R_drew)); exact Kd.R_mono HQ21.out (fun _ hk => trivial)⟩, ⟨by repeat (first | (with_reducible first | exact HB.out | apply below_alloc | apply pw_below_drewN | apply below_drew1 | refine below_set ?_ GB14.out | refine below_set ?_ GE112.out) | exact HB.out)⟩⟩
                      · rw [if_neg c13] at H
                        exact absurd H (by simp)
                    · rw [if_neg c12] at H
                      have c12b0 : (((rd_T27 x3_1 (ji9)).f0) == ((rd_T27 l0 x9_1).f0)) = false := beq_eq_false_iff_ne.mpr c12
                      have c12b1 : (((rd_T27 x3_1 (ji9)).f0) != ((rd_T27 l0 x9_1).f0)) = true := bne_iff_ne.mpr c12
                      by_cases c22 : x3_1.length < 5864062014805
                      · rw [if_pos c22] at H
                        have LMc22 := Aside0.mk c22
                        clear c22
                        obtain ⟨y116, hy116⟩ : ∃ y_ : List (S27), y_ = (x3_1 ++ [(⟨(rd_T27 l0 x9_1).f0, (rd_T27 l0 x9_1).f1⟩ : S27)]) := ⟨_, rfl⟩
                        replace H : (laws_runs.l0 k1 y116 l0 (l0.length : Int) (wrap64 (x9_1 + 1))) = some r := by first | (rw [hy116]; with_reducible exact H) | (have H2_ := (Option.bind_some _ _).symm.trans H; rw [hy116]; with_reducible exact H2_) | (have H2_ := (Option.bind_some _ _).symm.trans H; with_reducible exact H2_) | with_reducible exact H | (rw [hy116]; exact H) | exact H
                        have Ny116 := Aside0.mk hy116
                        clear hy116
                        have H' := Aside0.mk H
                        clear H
                        have p111 : 0 ≤ (x9_1 : Int) := of_decide_eq_true (by first | (with_reducible assumption) | assumption)
                        have q111 : x9_1 < (l0.length : Int) := of_decide_eq_true (by first | (with_reducible assumption) | assumption)
                        obtain ⟨ad111, e111, hx111_0, hx111_1⟩ := at_T27 HR0.out x9_1 p111 q111
                        cases e111
                        replace hx111_0 := (HB.out.cell (World.block_lt_of_cell? w _ hx111_0)).trans hx111_0
                        replace hx111_1 := (HB.out.cell (World.block_lt_of_cell? w _ hx111_1)).trans hx111_1
                        replace p111 := eq_true p111
                        replace q111 := eq_true q111
                        try go_wp2_with (first | ((with_reducible refine gate_dst (N := 5) rfl ?_); refine box_event ?hg (N := 5) ?hd (cs := #[.int .i64 0, .string (⟨#[]⟩ : ByteArray)]) (t := 27) ?hr ?_; (case hd => rfl); (case hg => rfl); (case hr => first | (go_simp; done) | (go_simp; rfl)); intro gb112 hg w23 hbox hb; have n0_ := Aside0.mk (Kd.R_below (Kd.R_elderB (by (with_reducible repeat (first | apply Kd.R_alloc | apply Kd.R_drewN | apply Kd.R_drew)); exact HO_3.out) gb112 (Nat.le_of_eq hg.symm)) hb); have n1_ := Aside0.mk (below_step (by repeat (first | (with_reducible first | exact HB.out | apply below_alloc | apply pw_below_drewN | apply below_drew1) | exact HB.out)) hb); have n2_ := Aside0.mk (hbox); have n3_ := Aside0.mk ((by rw [hg]; exact (below_size (by repeat (first | (with_reducible first | exact HB.out | apply below_alloc | apply pw_below_drewN | apply below_drew1) | exact HB.out))) : w.heap.size ≤ gb112)); have n4_ := Aside0.mk ((by rw [hg]; exact (below_size (by repeat (first | (with_reducible first | exact HB.out | apply below_alloc | apply pw_below_drewN | apply below_drew1) | exact HB.out))) : w.heap.size ≤ gb112)); clear HO_3; clear HB; have HO_3 := n0_; have HB := n1_; have BK112 := n2_; have GW112 := n3_; have GE112 := n4_; clear n0_ n1_ n2_ n3_ n4_; clear hb hbox hg; have hcz24_0 : w23.cell? ⟨gb112, 0, none⟩ = some (.int .i64 0) := (blk_cell BK112.out 0).trans rfl; have hcz24_1 : w23.cell? ⟨gb112, 1, none⟩ = some (.string (⟨#[]⟩ : ByteArray)) := (blk_cell BK112.out 1).trans rfl; have hfz24_0 := blk_frozen BK112.out 0; have hfz24_1 := blk_frozen BK112.out 1; obtain ⟨Ao25, co25, eo25⟩ := Kd.R_slice HO_3.out; subst eo25))
                        have n0_ : Aside0 (Kd.R k27 27 ((w23.setCell ⟨gb112, 0, none⟩ (.int .i64 ((rd_T27 l0 x9_1).f0))).setCell ⟨gb112, 1, none⟩ (.string ((rd_T27 l0 x9_1).f1))) w.heap.size (fun k_ => k_ ≠ gb112) (.slice Ao25 x3_1.length co25) x3_1) := ⟨by (with_reducible repeat (first | apply Kd.R_alloc | apply Kd.R_drewN | apply Kd.R_drew)); exact Kd.R_mono (Kd.R_far (p := ⟨gb112, 1, none⟩) (Kd.R_far (p := ⟨gb112, 0, none⟩) (Kd.R_mono HO_3.out (fun k_ hk => (⟨hk, hk.2⟩ : _ ∧ k_ ≠ gb112))) (fun _ hk => hk.2) (.int .i64 ((rd_T27 l0 x9_1).f0))) (fun _ hk => hk.2) (.string ((rd_T27 l0 x9_1).f1))) (fun _ hk => hk.1.2)⟩
                        have n1_ : Aside0 (((w23.setCell ⟨gb112, 0, none⟩ (.int .i64 ((rd_T27 l0 x9_1).f0))).setCell ⟨gb112, 1, none⟩ (.string ((rd_T27 l0 x9_1).f1))).heap[gb112]? = some (.cells #[.int .i64 ((rd_T27 l0 x9_1).f0), .string ((rd_T27 l0 x9_1).f1)] 27 (0, 0))) := ⟨by (with_reducible repeat (first | refine blk_drewN ?_ _ | refine blk_drew ?_ | refine blk_alloc ?_ _)); refine blk_put (cs := #[.int .i64 ((rd_T27 l0 x9_1).f0), .string (⟨#[]⟩ : ByteArray)]) ?_ 1 _ rfl; (with_reducible repeat (first | refine blk_drewN ?_ _ | refine blk_drew ?_ | refine blk_alloc ?_ _)); refine blk_put (cs := #[.int .i64 0, .string (⟨#[]⟩ : ByteArray)]) ?_ 0 _ rfl; (with_reducible repeat (first | refine blk_drewN ?_ _ | refine blk_drew ?_ | refine blk_alloc ?_ _)); exact BK112.out⟩
                        have n2_ : Aside0 (Below w.heap.size w ((w23.setCell ⟨gb112, 0, none⟩ (.int .i64 ((rd_T27 l0 x9_1).f0))).setCell ⟨gb112, 1, none⟩ (.string ((rd_T27 l0 x9_1).f1)))) := ⟨by repeat (first | (with_reducible first | exact HB.out | apply below_alloc | apply pw_below_drewN | apply below_drew1 | refine below_set ?_ GE112.out) | exact HB.out)⟩
                        (try clear HO_3)
                        (try clear BK112)
                        (try clear HB)
                        generalize ((w23.setCell ⟨gb112, 0, none⟩ (.int .i64 ((rd_T27 l0 x9_1).f0))).setCell ⟨gb112, 1, none⟩ (.string ((rd_T27 l0 x9_1).f1))) = w26 at n0_ n1_ n2_ ⊢
                        have HO_3 := n0_
                        have BK112 := n1_
                        have HB := n2_
                        clear n0_ n1_ n2_
                        have n0_ := Aside0.mk (Kd.R_drew HO_3.out)
                        have n1_ := Aside0.mk (blk_drew BK112.out)
                        have n2_ := Aside0.mk (below_drew1 HB.out)
                        clear HO_3
                        clear BK112
                        clear HB
                        have HO_3 := n0_
                        have BK112 := n1_
                        have HB := n2_
                        clear n0_ n1_ n2_
                        have p113 : 0 ≤ ((ji9) : Int) := of_decide_eq_true (by first | (with_reducible assumption) | assumption)
                        have q113 : (ji9) < (x3_1.length : Int) := of_decide_eq_true (by first | (with_reducible assumption) | assumption)
                        obtain ⟨ad113, e113, hx113_0, hx113_1⟩ := at_T27 (Kd.R_reads' HO_3.out).2.2 (ji9) p113 q113
                        cases e113
                        replace p113 := eq_true p113
                        replace q113 := eq_true q113
                        refine start_ (n := 13) (S := fun w' => w'.cell? ⟨gb112, 0, none⟩ = some (.int .i64 ((rd_T27 l0 x9_1).f0)) ∧ w'.cell? ⟨gb112, 1, none⟩ = some (.string ((rd_T27 l0 x9_1).f1)) ∧ w'.cell? (ad113.add (((ji9)).toNat * 2)) = some (.int .i64 ((rd_T27 x3_1 (ji9)).f0)) ∧ w'.cell? ⟨(ad113.add (((ji9)).toNat * 2)).block, (ad113.add (((ji9)).toNat * 2)).off + 1, none⟩ = some (.string ((rd_T27 x3_1 (ji9)).f1))) (ds := []) #[false, false, false, false, false, false, false, false, false, false, false, false, false] (by kernel_rfl) rfl rfl ⟨(blk_cell BK112.out 0).trans rfl, (blk_cell BK112.out 1).trans rfl, hx113_0, hx113_1⟩ (fun hHeld => ?_); refine with_tabW laws_runs.tab7 laws_runs.bits7 (fun HT_ HW_ => ?_)
                        generalize w26.drew = w27 at HO_3 BK112 HB hx113_0 hx113_1 hHeld ⊢
                        refine pure_ (i := 0) (N := some 18) (v := ?_) (a' := ?_) #[true, false, false, false, false, false, false, false, false, false, false, false, false] rfl rfl (any_of HT_.out (by kernel_rfl)) (fun _ _ _ h => h) (Or.inl ⟨by rfl, ?_⟩) ?_ ?_
                        rotate_left
                        · intro w'
                          go_simp
                          with_reducible rfl
                        rotate_left
                        · simp only [Act.put, List.setIfInBounds_toArray, List.set_cons_zero, List.set_cons_succ, i64_w, i32_w]
                          rfl
                        refine pure_ (i := 1) (N := some 19) (v := ?_) (a' := ?_) #[true, true, false, false, false, false, false, false, false, false, false, false, false] rfl rfl (any_of HT_.out (by kernel_rfl)) (fun _ _ _ h => h) (Or.inl ⟨by rfl, ?_⟩) ?_ ?_
                        rotate_left
                        · intro w'
                          go_simp
                          with_reducible rfl
                        rotate_left
                        · simp only [Act.put, List.setIfInBounds_toArray, List.set_cons_zero, List.set_cons_succ, i64_w, i32_w]
                          rfl
                        refine pure_ (i := 2) (N := some 20) (v := ?_) (a' := ?_) #[true, true, true, false, false, false, false, false, false, false, false, false, false] rfl rfl (any_of HT_.out (by kernel_rfl)) (fun _ _ _ h => h) (Or.inl ⟨by rfl, ?_⟩) ?_ ?_
                        rotate_left
                        · intro w'
                          go_simp
                          with_reducible rfl
                        rotate_left
                        · simp only [Act.put, List.setIfInBounds_toArray, List.set_cons_zero, List.set_cons_succ, i64_w, i32_w]
                          rfl
                        refine pure_ (i := 3) (N := some 21) (v := ?_) (a' := ?_) #[true, true, true, true, false, false, false, false, false, false, false, false, false] rfl rfl (any_of HT_.out (by kernel_rfl)) (fun _ _ _ h => h) (Or.inl ⟨by rfl, ?_⟩) ?_ ?_
                        rotate_left
                        · intro w'
                          go_simp
                          with_reducible rfl
                        rotate_left
                        · simp only [Act.put, List.setIfInBounds_toArray, List.set_cons_zero, List.set_cons_succ, i64_w, i32_w]
                          rfl
                        refine pure_ (i := 4) (N := some 22) (v := ?_) (a' := ?_) #[true, true, true, true, true, false, false, false, false, false, false, false, false] rfl rfl (any_of HT_.out (by kernel_rfl)) (fun _ _ _ h => h) (Or.inl ⟨by rfl, ?_⟩) ?_ ?_
                        rotate_left
                        · intro w'
                          go_simp
                          with_reducible rfl
                        rotate_left
                        · simp only [Act.put, List.setIfInBounds_toArray, List.set_cons_zero, List.set_cons_succ, i64_w, i32_w]
                          rfl
                        refine pure_ (i := 5) (N := some 23) (v := ?_) (a' := ?_) #[true, true, true, true, true, true, false, false, false, false, false, false, false] rfl rfl (any_of HT_.out (by kernel_rfl)) (fun _ _ _ h => h) (Or.inl ⟨by rfl, ?_⟩) ?_ ?_
                        rotate_left
                        · intro w'
                          go_simp
                          with_reducible rfl
                        rotate_left
                        · simp only [Act.put, List.setIfInBounds_toArray, List.set_cons_zero, List.set_cons_succ, i64_w, i32_w]
                          rfl
                        refine pure_ (i := 6) (N := some 24) (v := ?_) (a' := ?_) #[true, true, true, true, true, true, true, false, false, false, false, false, false] rfl rfl (any_of HT_.out (by kernel_rfl)) (fun _ _ _ h => h) (Or.inl ⟨by rfl, ?_⟩) ?_ ?_
                        rotate_left
                        · intro w'
                          go_simp
                          with_reducible rfl
                        rotate_left
                        · simp only [Act.put, List.setIfInBounds_toArray, List.set_cons_zero, List.set_cons_succ, i64_w, i32_w]
                          rfl
                        refine pure_ (i := 7) (N := some 25) (v := ?_) (a' := ?_) #[true, true, true, true, true, true, true, true, false, false, false, false, false] rfl rfl (any_of HT_.out (by kernel_rfl)) (fun _ _ _ h => h) (Or.inl ⟨by rfl, ?_⟩) ?_ ?_
                        rotate_left
                        · intro w'
                          go_simp
                          with_reducible rfl
                        rotate_left
                        · simp only [Act.put, List.setIfInBounds_toArray, List.set_cons_zero, List.set_cons_succ, i64_w, i32_w]
                          rfl
                        refine pure_ (i := 9) (N := some 27) (v := ?_) (a' := ?_) #[true, true, true, true, true, true, true, true, false, true, false, false, false] rfl rfl (any_of HT_.out (by kernel_rfl)) (fun _ _ _ h => h) (Or.inl ⟨by rfl, ?_⟩) ?_ ?_
                        rotate_left
                        · intro w'
                          go_simp
                          with_reducible rfl
                        rotate_left
                        · simp only [Act.put, List.setIfInBounds_toArray, List.set_cons_zero, List.set_cons_succ, i64_w, i32_w]
                          rfl
                        refine take_ (i := 8) (N := some 26) (v := ?_) (a' := ?_) #[true, true, true, true, true, true, true, true, true, true, false, false, false] rfl rfl (take_ofW HT_.out HW_.out (by kernel_rfl)) (fun _ _ _ h => h) (Or.inl ⟨by rfl, ?_⟩) hHeld ?_ ?_
                        rotate_left
                        · rintro w' ⟨s0, s1, s2, s3⟩
                          go_simp
                          with_reducible rfl
                        rotate_left
                        · simp only [Act.put, List.setIfInBounds_toArray, List.set_cons_zero, List.set_cons_succ, i64_w, i32_w]
                          rfl
                        refine take_ (i := 10) (N := some 28) (v := ?_) (a' := ?_) #[true, true, true, true, true, true, true, true, true, true, true, false, false] rfl rfl (take_ofW HT_.out HW_.out (by kernel_rfl)) (fun _ _ _ h => h) (Or.inl ⟨by rfl, ?_⟩) hHeld ?_ ?_
                        rotate_left
                        · rintro w' ⟨s0, s1, s2, s3⟩
                          go_simp
                          with_reducible rfl
                        rotate_left
                        · simp only [Act.put, List.setIfInBounds_toArray, List.set_cons_zero, List.set_cons_succ, i64_w, i32_w]
                          rfl
                        refine pure_ (i := 11) (N := some 29) (v := ?_) (a' := ?_) #[true, true, true, true, true, true, true, true, true, true, true, true, false] rfl rfl (any_of HT_.out (by kernel_rfl)) (fun _ _ _ h => h) (Or.inl ⟨by rfl, ?_⟩) ?_ ?_
                        rotate_left
                        · intro w'
                          go_simp
                          with_reducible rfl
                        rotate_left
                        · simp only [Act.put, List.setIfInBounds_toArray, List.set_cons_zero, List.set_cons_succ, i64_w, i32_w]
                          rfl
                        refine pure_ (i := 12) (N := some 30) (v := ?_) (a' := ?_) #[true, true, true, true, true, true, true, true, true, true, true, true, true] rfl rfl (any_of HT_.out (by kernel_rfl)) (fun _ _ _ h => h) (Or.inl ⟨by rfl, ?_⟩) ?_ ?_
                        rotate_left
                        · intro w'
                          go_simp
                          with_reducible rfl
                        rotate_left
                        · simp only [Act.put, List.setIfInBounds_toArray, List.set_cons_zero, List.set_cons_succ, i64_w, i32_w]
                          rfl
                        refine done_ (done_of HT_.out (by kernel_rfl)) ?_
                        have hcz28_0 : w27.cell? ⟨gb112, 0, none⟩ = some (.int .i64 ((rd_T27 l0 x9_1).f0)) := (blk_cell BK112.out 0).trans rfl
                        have hcz28_1 : w27.cell? ⟨gb112, 1, none⟩ = some (.string ((rd_T27 l0 x9_1).f1)) := (blk_cell BK112.out 1).trans rfl
                        have hfz28_0 := blk_frozen BK112.out 0
                        have hfz28_1 := blk_frozen BK112.out 1
                        try go_wp2_with (first | ((with_reducible refine gate_builtin (b := .append) (xs := #[.tmp 42, .tmp 44]) rfl ?_); at_builtin; refine Kd.R_append k27 (w0 := w) w.heap.size rfl (.tmp 42) (.tmp 44) 23 27 (.agg #[(.int .i64 0), (.string ⟨#[]⟩)]) 24 rfl Tryd.underlying23 info27 rfl (by decide) (by omega) (.slice (some ad113) x3_1.length co25) x3_1 (⟨(rd_T27 l0 x9_1).f0, (rd_T27 l0 x9_1).f1⟩ : S27) [.int .i64 ((rd_T27 l0 x9_1).f0), .string ((rd_T27 l0 x9_1).f1)] (fun k_ => k_ ≠ gb112) (fun _ => False) rfl rfl ?aP (fun _ hk => hk.elim) ?aF ?aO ?aB ?aS ?aL ?_; (case aP => exact k27_mkM _ _ _ (⟨(rd_T27 l0 x9_1).f0, (rd_T27 l0 x9_1).f1⟩ : S27)); (case aB => exact (by repeat (first | (with_reducible first | exact HB.out | apply below_alloc | apply pw_below_drewN | apply below_drew1 | refine below_set ?_ GE112.out) | exact HB.out))); (case aF => exact (fun k_ hk => Kd.freshB (g := gb112) (o := .cells #[.int .i64 ((rd_T27 l0 x9_1).f0), .string ((rd_T27 l0 x9_1).f1)] 27 (0, 0)) (by (with_reducible repeat (first | refine blk_drewN ?_ _ | refine blk_drew ?_ | refine blk_alloc ?_ _)); exact BK112.out) k_ hk)); (case aO => exact (by (with_reducible repeat (first | apply Kd.R_alloc | apply Kd.R_drewN | apply Kd.R_drew)); exact HO_3.out)); (case aS => exact (below_size (by repeat (first | (with_reducible first | exact HB.out | apply below_alloc | apply pw_below_drewN | apply below_drew1 | refine below_set ?_ GE112.out) | exact HB.out)))); (case aL => have := LMc22.out; omega); intro v117 w29 ho hb hg hat; rw [← Ny116.out] at ho; have n0_ := Aside0.mk (blk_grown (g := gb112) (o := .cells #[.int .i64 ((rd_T27 l0 x9_1).f0), .string ((rd_T27 l0 x9_1).f1)] 27 (0, 0)) (by (with_reducible repeat (first | refine blk_drewN ?_ _ | refine blk_drew ?_ | refine blk_alloc ?_ _)); exact BK112.out) hg (Kd.R_away HO_3.out (fun _ hk => hk))); have n1_ := Aside0.mk (hb); have n2_ := Aside0.mk (ho); clear BK112; clear HB; clear HO_3; have BK112 := n0_; have HB := n1_; have HO118 := n2_; clear n0_ n1_ n2_; clear ho hb hg hat))
                        go_roundg k1
                        case measure => have := HK1.out; omega
                        case rel => exact ⟨(y116), (wrap64 (x9_1 + 1)), (by first | rfl | (simp; done) | (simp [*]; done)), H', ⟨by have := HK1.out; omega⟩, ⟨by (with_reducible repeat (first | apply Kd.R_alloc | apply Kd.R_drewN | apply Kd.R_drew)); exact Kd.R_mono HO118.out (fun _ hk => trivial)⟩, ⟨by repeat (first | (with_reducible first | exact HB.out | apply below_alloc | apply pw_below_drewN | apply below_drew1 | refine below_set ?_ GE112.out) | exact HB.out)⟩⟩
                      · rw [if_neg c22] at H
                        exact absurd H (by simp)
                  · rw [if_neg c11] at H
                    exact absurd H (by simp)
                · rw [if_neg c10] at H
                  exact absurd H (by simp)
              · rw [if_neg c8] at H
                have c8b0 : decide (0 < (x3_1.length : Int)) = false := decide_eq_false c8
                have c8b1 : decide (0 < x3_1.length) = false := decide_eq_false (by omega)
                clear c8
                by_cases c30 : x3_1.length < 5864062014805
                · rw [if_pos c30] at H
                  have LMc30 := Aside0.mk c30
                  clear c30
                  obtain ⟨y119, hy119⟩ : ∃ y_ : List (S27), y_ = (x3_1 ++ [(⟨(rd_T27 l0 x9_1).f0, (rd_T27 l0 x9_1).f1⟩ : S27)]) := ⟨_, rfl⟩
                  replace H : (laws_runs.l0 k1 y119 l0 (l0.length : Int) (wrap64 (x9_1 + 1))) = some r := by first | (rw [hy119]; with_reducible exact H) | (have H2_ := (Option.bind_some _ _).symm.trans H; rw [hy119]; with_reducible exact H2_) | (have H2_ := (Option.bind_some _ _).symm.trans H; with_reducible exact H2_) | with_reducible exact H | (rw [hy119]; exact H) | exact H
                  have Ny119 := Aside0.mk hy119
                  clear hy119
                  have H' := Aside0.mk H
                  clear H
                  have p111 : 0 ≤ (x9_1 : Int) := of_decide_eq_true (by first | (with_reducible assumption) | assumption)
                  have q111 : x9_1 < (l0.length : Int) := of_decide_eq_true (by first | (with_reducible assumption) | assumption)
                  obtain ⟨ad111, e111, hx111_0, hx111_1⟩ := at_T27 HR0.out x9_1 p111 q111
                  cases e111
                  replace hx111_0 := (HB.out.cell (World.block_lt_of_cell? w _ hx111_0)).trans hx111_0
                  replace hx111_1 := (HB.out.cell (World.block_lt_of_cell? w _ hx111_1)).trans hx111_1
                  replace p111 := eq_true p111
                  replace q111 := eq_true q111
                  try go_wp2_with (first | ((with_reducible refine gate_dst (N := 5) rfl ?_); refine box_event ?hg (N := 5) ?hd (cs := #[.int .i64 0, .string (⟨#[]⟩ : ByteArray)]) (t := 27) ?hr ?_; (case hd => rfl); (case hg => rfl); (case hr => first | (go_simp; done) | (go_simp; rfl)); intro gb112 hg w31 hbox hb; have n0_ := Aside0.mk (Kd.R_below (Kd.R_elderB (by (with_reducible repeat (first | apply Kd.R_alloc | apply Kd.R_drewN | apply Kd.R_drew)); exact HO_3.out) gb112 (Nat.le_of_eq hg.symm)) hb); have n1_ := Aside0.mk (below_step (by repeat (first | (with_reducible first | exact HB.out | apply below_alloc | apply pw_below_drewN | apply below_drew1) | exact HB.out)) hb); have n2_ := Aside0.mk (hbox); have n3_ := Aside0.mk ((by rw [hg]; exact (below_size (by repeat (first | (with_reducible first | exact HB.out | apply below_alloc | apply pw_below_drewN | apply below_drew1) | exact HB.out))) : w.heap.size ≤ gb112)); have n4_ := Aside0.mk ((by rw [hg]; exact (below_size (by repeat (first | (with_reducible first | exact HB.out | apply below_alloc | apply pw_below_drewN | apply below_drew1) | exact HB.out))) : w.heap.size ≤ gb112)); clear HO_3; clear HB; have HO_3 := n0_; have HB := n1_; have BK112 := n2_; have GW112 := n3_; have GE112 := n4_; clear n0_ n1_ n2_ n3_ n4_; clear hb hbox hg; have hcz32_0 : w31.cell? ⟨gb112, 0, none⟩ = some (.int .i64 0) := (blk_cell BK112.out 0).trans rfl; have hcz32_1 : w31.cell? ⟨gb112, 1, none⟩ = some (.string (⟨#[]⟩ : ByteArray)) := (blk_cell BK112.out 1).trans rfl; have hfz32_0 := blk_frozen BK112.out 0; have hfz32_1 := blk_frozen BK112.out 1; obtain ⟨Ao33, co33, eo33⟩ := Kd.R_slice HO_3.out; subst eo33))
                  have n0_ : Aside0 (Kd.R k27 27 ((w31.setCell ⟨gb112, 0, none⟩ (.int .i64 ((rd_T27 l0 x9_1).f0))).setCell ⟨gb112, 1, none⟩ (.string ((rd_T27 l0 x9_1).f1))) w.heap.size (fun k_ => k_ ≠ gb112) (.slice Ao33 x3_1.length co33) x3_1) := ⟨by (with_reducible repeat (first | apply Kd.R_alloc | apply Kd.R_drewN | apply Kd.R_drew)); exact Kd.R_mono (Kd.R_far (p := ⟨gb112, 1, none⟩) (Kd.R_far (p := ⟨gb112, 0, none⟩) (Kd.R_mono HO_3.out (fun k_ hk => (⟨hk, hk.2⟩ : _ ∧ k_ ≠ gb112))) (fun _ hk => hk.2) (.int .i64 ((rd_T27 l0 x9_1).f0))) (fun _ hk => hk.2) (.string ((rd_T27 l0 x9_1).f1))) (fun _ hk => hk.1.2)⟩
                  have n1_ : Aside0 (((w31.setCell ⟨gb112, 0, none⟩ (.int .i64 ((rd_T27 l0 x9_1).f0))).setCell ⟨gb112, 1, none⟩ (.string ((rd_T27 l0 x9_1).f1))).heap[gb112]? = some (.cells #[.int .i64 ((rd_T27 l0 x9_1).f0), .string ((rd_T27 l0 x9_1).f1)] 27 (0, 0))) := ⟨by (with_reducible repeat (first | refine blk_drewN ?_ _ | refine blk_drew ?_ | refine blk_alloc ?_ _)); refine blk_put (cs := #[.int .i64 ((rd_T27 l0 x9_1).f0), .string (⟨#[]⟩ : ByteArray)]) ?_ 1 _ rfl; (with_reducible repeat (first | refine blk_drewN ?_ _ | refine blk_drew ?_ | refine blk_alloc ?_ _)); refine blk_put (cs := #[.int .i64 0, .string (⟨#[]⟩ : ByteArray)]) ?_ 0 _ rfl; (with_reducible repeat (first | refine blk_drewN ?_ _ | refine blk_drew ?_ | refine blk_alloc ?_ _)); exact BK112.out⟩
                  have n2_ : Aside0 (Below w.heap.size w ((w31.setCell ⟨gb112, 0, none⟩ (.int .i64 ((rd_T27 l0 x9_1).f0))).setCell ⟨gb112, 1, none⟩ (.string ((rd_T27 l0 x9_1).f1)))) := ⟨by repeat (first | (with_reducible first | exact HB.out | apply below_alloc | apply pw_below_drewN | apply below_drew1 | refine below_set ?_ GE112.out) | exact HB.out)⟩
                  (try clear HO_3)
                  (try clear BK112)
                  (try clear HB)
                  generalize ((w31.setCell ⟨gb112, 0, none⟩ (.int .i64 ((rd_T27 l0 x9_1).f0))).setCell ⟨gb112, 1, none⟩ (.string ((rd_T27 l0 x9_1).f1))) = w34 at n0_ n1_ n2_ ⊢
                  have HO_3 := n0_
                  have BK112 := n1_
                  have HB := n2_
                  clear n0_ n1_ n2_
                  have n0_ := Aside0.mk (Kd.R_drew HO_3.out)
                  have n1_ := Aside0.mk (blk_drew BK112.out)
                  have n2_ := Aside0.mk (below_drew1 HB.out)
                  clear HO_3
                  clear BK112
                  clear HB
                  have HO_3 := n0_
                  have BK112 := n1_
                  have HB := n2_
                  clear n0_ n1_ n2_
                  refine start_ (n := 13) (S := fun w' => True) (ds := []) #[false, false, false, false, false, false, false, false, false, false, false, false, false] (by kernel_rfl) rfl rfl trivial (fun hHeld => ?_); refine with_tabW laws_runs.tab7 laws_runs.bits7 (fun HT_ HW_ => ?_)
                  generalize w34.drew = w35 at HO_3 BK112 HB hHeld ⊢
                  refine pure_ (i := 0) (N := some 18) (v := ?_) (a' := ?_) #[true, false, false, false, false, false, false, false, false, false, false, false, false] rfl rfl (any_of HT_.out (by kernel_rfl)) (fun _ _ _ h => h) (Or.inl ⟨by rfl, ?_⟩) ?_ ?_
                  rotate_left
                  · intro w'
                    go_simp
                    with_reducible rfl
                  rotate_left
                  · simp only [Act.put, List.setIfInBounds_toArray, List.set_cons_zero, List.set_cons_succ, i64_w, i32_w]
                    rfl
                  refine pure_ (i := 1) (N := some 19) (v := ?_) (a' := ?_) #[true, true, false, false, false, false, false, false, false, false, false, false, false] rfl rfl (any_of HT_.out (by kernel_rfl)) (fun _ _ _ h => h) (Or.inl ⟨by rfl, ?_⟩) ?_ ?_
                  rotate_left
                  · intro w'
                    go_simp
                    with_reducible rfl
                  rotate_left
                  · simp only [Act.put, List.setIfInBounds_toArray, List.set_cons_zero, List.set_cons_succ, i64_w, i32_w]
                    rfl
                  refine pure_ (i := 2) (N := some 20) (v := ?_) (a' := ?_) #[true, true, true, false, false, false, false, false, false, false, false, false, false] rfl rfl (any_of HT_.out (by kernel_rfl)) (fun _ _ _ h => h) (Or.inl ⟨by rfl, ?_⟩) ?_ ?_
                  rotate_left
                  · intro w'
                    go_simp
                    with_reducible rfl
                  rotate_left
                  · simp only [Act.put, List.setIfInBounds_toArray, List.set_cons_zero, List.set_cons_succ, i64_w, i32_w]
                    rfl
                  refine pure_ (i := 3) (N := some 21) (v := undef) (a' := ?_) #[true, true, true, true, false, false, false, false, false, false, false, false, false] rfl rfl (any_of HT_.out (by kernel_rfl)) (fun _ _ _ h => h) (Or.inr ⟨by rfl, rfl⟩) ?_ ?_
                  rotate_left
                  · simp only [Act.put, List.setIfInBounds_toArray, List.set_cons_zero, List.set_cons_succ, i64_w, i32_w]
                    rfl
                  refine pure_ (i := 4) (N := some 22) (v := undef) (a' := ?_) #[true, true, true, true, true, false, false, false, false, false, false, false, false] rfl rfl (any_of HT_.out (by kernel_rfl)) (fun _ _ _ h => h) (Or.inr ⟨by rfl, rfl⟩) ?_ ?_
                  rotate_left
                  · simp only [Act.put, List.setIfInBounds_toArray, List.set_cons_zero, List.set_cons_succ, i64_w, i32_w]
                    rfl
                  refine pure_ (i := 5) (N := some 23) (v := undef) (a' := ?_) #[true, true, true, true, true, true, false, false, false, false, false, false, false] rfl rfl (any_of HT_.out (by kernel_rfl)) (fun _ _ _ h => h) (Or.inr ⟨by rfl, rfl⟩) ?_ ?_
                  rotate_left
                  · simp only [Act.put, List.setIfInBounds_toArray, List.set_cons_zero, List.set_cons_succ, i64_w, i32_w]
                    rfl
                  refine pure_ (i := 6) (N := some 24) (v := undef) (a' := ?_) #[true, true, true, true, true, true, true, false, false, false, false, false, false] rfl rfl (any_of HT_.out (by kernel_rfl)) (fun _ _ _ h => h) (Or.inr ⟨by rfl, rfl⟩) ?_ ?_
                  rotate_left
                  · simp only [Act.put, List.setIfInBounds_toArray, List.set_cons_zero, List.set_cons_succ, i64_w, i32_w]
                    rfl
                  refine pure_ (i := 7) (N := some 25) (v := undef) (a' := ?_) #[true, true, true, true, true, true, true, true, false, false, false, false, false] rfl rfl (any_of HT_.out (by kernel_rfl)) (fun _ _ _ h => h) (Or.inr ⟨by rfl, rfl⟩) ?_ ?_
                  rotate_left
                  · simp only [Act.put, List.setIfInBounds_toArray, List.set_cons_zero, List.set_cons_succ, i64_w, i32_w]
                    rfl
                  refine pure_ (i := 8) (N := some 26) (v := undef) (a' := ?_) #[true, true, true, true, true, true, true, true, true, false, false, false, false] rfl rfl (any_of HT_.out (by kernel_rfl)) (fun _ _ _ h => h) (Or.inr ⟨by rfl, rfl⟩) ?_ ?_
                  rotate_left
                  · simp only [Act.put, List.setIfInBounds_toArray, List.set_cons_zero, List.set_cons_succ, i64_w, i32_w]
                    rfl
                  refine pure_ (i := 9) (N := some 27) (v := undef) (a' := ?_) #[true, true, true, true, true, true, true, true, true, true, false, false, false] rfl rfl (any_of HT_.out (by kernel_rfl)) (fun _ _ _ h => h) (Or.inr ⟨by rfl, rfl⟩) ?_ ?_
                  rotate_left
                  · simp only [Act.put, List.setIfInBounds_toArray, List.set_cons_zero, List.set_cons_succ, i64_w, i32_w]
                    rfl
                  refine pure_ (i := 10) (N := some 28) (v := undef) (a' := ?_) #[true, true, true, true, true, true, true, true, true, true, true, false, false] rfl rfl (any_of HT_.out (by kernel_rfl)) (fun _ _ _ h => h) (Or.inr ⟨by rfl, rfl⟩) ?_ ?_
                  rotate_left
                  · simp only [Act.put, List.setIfInBounds_toArray, List.set_cons_zero, List.set_cons_succ, i64_w, i32_w]
                    rfl
                  refine pure_ (i := 11) (N := some 29) (v := undef) (a' := ?_) #[true, true, true, true, true, true, true, true, true, true, true, true, false] rfl rfl (any_of HT_.out (by kernel_rfl)) (fun _ _ _ h => h) (Or.inr ⟨by rfl, rfl⟩) ?_ ?_
                  rotate_left
                  · simp only [Act.put, List.setIfInBounds_toArray, List.set_cons_zero, List.set_cons_succ, i64_w, i32_w]
                    rfl
                  refine pure_ (i := 12) (N := some 30) (v := ?_) (a' := ?_) #[true, true, true, true, true, true, true, true, true, true, true, true, true] rfl rfl (any_of HT_.out (by kernel_rfl)) (fun _ _ _ h => h) (Or.inl ⟨by rfl, ?_⟩) ?_ ?_
                  rotate_left
                  · intro w'
                    go_simp
                    with_reducible rfl
                  rotate_left
                  · simp only [Act.put, List.setIfInBounds_toArray, List.set_cons_zero, List.set_cons_succ, i64_w, i32_w]
                    rfl
                  refine done_ (done_of HT_.out (by kernel_rfl)) ?_
                  have hcz36_0 : w35.cell? ⟨gb112, 0, none⟩ = some (.int .i64 ((rd_T27 l0 x9_1).f0)) := (blk_cell BK112.out 0).trans rfl
                  have hcz36_1 : w35.cell? ⟨gb112, 1, none⟩ = some (.string ((rd_T27 l0 x9_1).f1)) := (blk_cell BK112.out 1).trans rfl
                  have hfz36_0 := blk_frozen BK112.out 0
                  have hfz36_1 := blk_frozen BK112.out 1
                  try go_wp2_with (first | ((with_reducible refine gate_builtin (b := .append) (xs := #[.tmp 42, .tmp 44]) rfl ?_); at_builtin; refine Kd.R_append k27 (w0 := w) w.heap.size rfl (.tmp 42) (.tmp 44) 23 27 (.agg #[(.int .i64 0), (.string ⟨#[]⟩)]) 24 rfl Tryd.underlying23 info27 rfl (by decide) (by omega) (.slice Ao33 x3_1.length co33) x3_1 (⟨(rd_T27 l0 x9_1).f0, (rd_T27 l0 x9_1).f1⟩ : S27) [.int .i64 ((rd_T27 l0 x9_1).f0), .string ((rd_T27 l0 x9_1).f1)] (fun k_ => k_ ≠ gb112) (fun _ => False) rfl rfl ?aP (fun _ hk => hk.elim) ?aF ?aO ?aB ?aS ?aL ?_; (case aP => exact k27_mkM _ _ _ (⟨(rd_T27 l0 x9_1).f0, (rd_T27 l0 x9_1).f1⟩ : S27)); (case aB => exact (by repeat (first | (with_reducible first | exact HB.out | apply below_alloc | apply pw_below_drewN | apply below_drew1 | refine below_set ?_ GE112.out) | exact HB.out))); (case aF => exact (fun k_ hk => Kd.freshB (g := gb112) (o := .cells #[.int .i64 ((rd_T27 l0 x9_1).f0), .string ((rd_T27 l0 x9_1).f1)] 27 (0, 0)) (by (with_reducible repeat (first | refine blk_drewN ?_ _ | refine blk_drew ?_ | refine blk_alloc ?_ _)); exact BK112.out) k_ hk)); (case aO => exact (by (with_reducible repeat (first | apply Kd.R_alloc | apply Kd.R_drewN | apply Kd.R_drew)); exact HO_3.out)); (case aS => exact (below_size (by repeat (first | (with_reducible first | exact HB.out | apply below_alloc | apply pw_below_drewN | apply below_drew1 | refine below_set ?_ GE112.out) | exact HB.out)))); (case aL => have := LMc30.out; omega); intro v120 w37 ho hb hg hat; rw [← Ny119.out] at ho; have n0_ := Aside0.mk (blk_grown (g := gb112) (o := .cells #[.int .i64 ((rd_T27 l0 x9_1).f0), .string ((rd_T27 l0 x9_1).f1)] 27 (0, 0)) (by (with_reducible repeat (first | refine blk_drewN ?_ _ | refine blk_drew ?_ | refine blk_alloc ?_ _)); exact BK112.out) hg (Kd.R_away HO_3.out (fun _ hk => hk))); have n1_ := Aside0.mk (hb); have n2_ := Aside0.mk (ho); clear BK112; clear HB; clear HO_3; have BK112 := n0_; have HB := n1_; have HO121 := n2_; clear n0_ n1_ n2_; clear ho hb hg hat))
                  go_roundg k1
                  case measure => have := HK1.out; omega
                  case rel => exact ⟨(y119), (wrap64 (x9_1 + 1)), (by first | rfl | (simp; done) | (simp [*]; done)), H', ⟨by have := HK1.out; omega⟩, ⟨by (with_reducible repeat (first | apply Kd.R_alloc | apply Kd.R_drewN | apply Kd.R_drew)); exact Kd.R_mono HO121.out (fun _ hk => trivial)⟩, ⟨by repeat (first | (with_reducible first | exact HB.out | apply below_alloc | apply pw_below_drewN | apply below_drew1 | refine below_set ?_ GE112.out) | exact HB.out)⟩⟩
                · rw [if_neg c30] at H
                  exact absurd H (by simp)
          · rw [if_neg c4] at H
            exact absurd H (by simp)
        · rw [if_neg c3] at H
          exact absurd H (by simp)
      · rw [if_neg c2] at H
        have c2b0 : decide (x9_1 < (l0.length : Int)) = false := decide_eq_false c2
        clear c2
        obtain rfl := Option.some.inj H
        go_wp2
        go_ret
        exact ⟨_, by first | rfl | (simp [errW_none, errW_some] <;> rfl) | (simp [*, errW_none, errW_some] <;> rfl), by (with_reducible repeat (first | apply Kd.R_alloc | apply Kd.R_drewN | apply Kd.R_drew)); exact HO_3.out, by repeat (first | (with_reducible first | exact HB.out | apply below_alloc | apply pw_below_drewN | apply below_drew1) | exact HB.out)⟩

/-! ### laws_same: function 12 -/
def laws_same.l0 : Nat → List (S27) → List (S27) → Int → Int → Option (Bool)
  | 0, _, _, _, _ => none
  | k + 1, x0, x1, x12, x13 => if x13 < x12 then (if 0 ≤ x13 then (if x13 < (x0.length : Int) then (if x13 < (x1.length : Int) then (if (!(((rd_T27 x0 x13).f0) == ((rd_T27 x1 x13).f0)) || (!((((rd_T27 x0 x13).f1).toList) == (((rd_T27 x1 x13).f1).toList)))) = true then (some false) else (laws_same.l0 k x0 x1 x12 (wrap64 (x13 + 1)))) else (none)) else (none)) else (none)) else (some true)
def laws_same.f (k : Nat) (l0 : List (S27)) (l1 : List (S27)) : Option (Bool) := if (l0.length : Int) = (l1.length : Int) then (laws_same.l0 k l0 l1 (l0.length : Int) 0) else (some false)
theorem laws_same.mono_l : ∀ k, (∀ y0 y1 y2 y3, LeO (laws_same.l0 k y0 y1 y2 y3) (laws_same.l0 (k + 1) y0 y1 y2 y3))
  | 0 => fun _ _ _ _ r h => by simp [laws_same.l0] at h
  | k + 1 => by
    have ih0 := laws_same.mono_l k
    · intro y0 y1 y2 y3
      unfold laws_same.l0
      repeat' first
      | (with_reducible exact ih0 _ _ _ _)
      | (with_reducible exact LeO.refl _)
      | (with_reducible exact LeO.none _)
      | (with_reducible refine LeO.ite ?_ ?_)
      | (with_reducible refine LeO.bind ?_ (fun _ => ?_))
      | exact ih0 _ _ _ _
      | exact LeO.none _
      | refine LeO.ite ?_ ?_
      | refine LeO.bind ?_ (fun _ => ?_)
theorem laws_same.mono : ∀ a0 a1 k, LeO (laws_same.f k a0 a1) (laws_same.f (k + 1) a0 a1) := by
  intro a0 a1 k
  have ih0 := laws_same.mono_l k
  unfold laws_same.f
  repeat' first
      | (with_reducible exact ih0 _ _ _ _)
      | (with_reducible exact LeO.refl _)
      | (with_reducible exact LeO.none _)
      | (with_reducible refine LeO.ite ?_ ?_)
      | (with_reducible refine LeO.bind ?_ (fun _ => ?_))
      | exact ih0 _ _ _ _
      | exact LeO.none _
      | refine LeO.ite ?_ ?_
      | refine LeO.bind ?_ (fun _ => ?_)
set_option maxHeartbeats 8000000 in
set_option maxRecDepth 100000 in
theorem laws_same.calls (k : Nat) (A0 : Option Addr) (c0 : Nat) (l0 : List (S27)) (A1 : Option Addr) (c1 : Nat) (l1 : List (S27)) (r : Bool) (w : World) (hr0 : Kd.C k27 w A0 l0.length l0) (hc0 : l0.length ≤ c0) (hr1 : Kd.C k27 w A1 l1.length l1) (hc1 : l1.length ≤ c1) (h : laws_same.f k l0 l1 = some r) :
    Calls Tryd.prog 12 #[.slice A0 l0.length c0, .slice A1 l1.length c1] w fun e w' => e = .returned (.bool r) ∧ Drawn0 w w' := by
  have hu27 := Tryd.underlying27
  have HR0 := Aside0.mk hr0
  have HC0 := Aside0.mk hc0
  clear hr0 hc0
  have HR1 := Aside0.mk hr1
  have HC1 := Aside0.mk hc1
  clear hr1 hc1
  have H : (if (l0.length : Int) = (l1.length : Int) then (laws_same.l0 k l0 l1 (l0.length : Int) 0) else (some false)) = some r := h
  clear h
  by_cases c3 : (l0.length : Int) = (l1.length : Int)
  · rw [if_pos c3] at H
    have c3b0 : ((l0.length : Int) == (l1.length : Int)) = true := beq_iff_eq.mpr c3
    have c3b1 : ((l0.length : Int) != (l1.length : Int)) = false := bne_eq_false_iff_eq.mpr c3
    have c3b2 : (l0.length == l1.length) = true := by first | simpa using c3 | (simp at c3 ⊢; omega)
    clear c3
    have H' := Aside0.mk H
    clear H
    go_enter Tryd.func12, Tryd.ntmps12
    go_wp2
    repeat (go_quiet (fail); try go_wp2)
    go_loopg [13] k (fun kq v13 w' => ∃ (x13_1 : Int), v13 = .int .i64 x13_1 ∧ Aside0 (laws_same.l0 kq l0 l1 (l0.length : Int) x13_1 = some r) ∧ Aside0 (kq ≤ k) ∧ Drawn0 w w')
    case atStart => exact ⟨(0), (by first | rfl | (simp; done) | (simp [*]; done)), H', ⟨Nat.le_refl _⟩, by repeat (first | exact Drawn0.refl _ | apply Drawn0.step)⟩
    case round =>
      clear H'
      try clear c1
      try clear p2
      try clear c3
      try clear c3b0
      try clear c3b1
      try clear c3b2
      obtain ⟨x13_1, rfl, HA, HK1, ⟨m1, rfl⟩⟩ := hrel
      cases gk with
      | zero => exact absurd HA.out (by simp [laws_same.l0])
      | succ k1 =>
        have H := HA.out
        clear HA
        simp only [laws_same.l0] at H
        by_cases c4 : x13_1 < (l0.length : Int)
        · rw [if_pos c4] at H
          have c4b0 : decide (x13_1 < (l0.length : Int)) = true := decide_eq_true c4
          clear c4
          by_cases c5 : 0 ≤ x13_1
          · rw [if_pos c5] at H
            have c5b0 : decide (0 ≤ x13_1) = true := decide_eq_true c5
            clear c5
            by_cases c6 : x13_1 < (l0.length : Int)
            · rw [if_pos c6] at H
              have c6b0 : decide (x13_1 < (l0.length : Int)) = true := decide_eq_true c6
              clear c6
              by_cases c7 : x13_1 < (l1.length : Int)
              · rw [if_pos c7] at H
                have c7b0 : decide (x13_1 < (l1.length : Int)) = true := decide_eq_true c7
                clear c7
                by_cases c8 : (!(((rd_T27 l0 x13_1).f0) == ((rd_T27 l1 x13_1).f0)) || (!((((rd_T27 l0 x13_1).f1).toList) == (((rd_T27 l1 x13_1).f1).toList)))) = true
                · rw [if_pos c8] at H
                  have c8b0 : (!(((rd_T27 l0 x13_1).f0) == ((rd_T27 l1 x13_1).f0)) || (!((((rd_T27 l0 x13_1).f1).toList) == (((rd_T27 l1 x13_1).f1).toList)))) = true := c8
                  clear c8
                  obtain rfl := Option.some.inj H
                  have p122 : 0 ≤ (x13_1 : Int) := of_decide_eq_true (by first | (with_reducible assumption) | assumption)
                  have q122 : x13_1 < (l0.length : Int) := of_decide_eq_true (by first | (with_reducible assumption) | assumption)
                  obtain ⟨ad122, e122, hx122_0, hx122_1⟩ := at_T27 HR0.out x13_1 p122 q122
                  cases e122
                  replace p122 := eq_true p122
                  replace q122 := eq_true q122
                  have p123 : 0 ≤ (x13_1 : Int) := of_decide_eq_true (by first | (with_reducible assumption) | assumption)
                  have q123 : x13_1 < (l1.length : Int) := of_decide_eq_true (by first | (with_reducible assumption) | assumption)
                  obtain ⟨ad123, e123, hx123_0, hx123_1⟩ := at_T27 HR1.out x13_1 p123 q123
                  cases e123
                  replace p123 := eq_true p123
                  replace q123 := eq_true q123
                  go_wp2
                  repeat (go_quiet (fail); try go_wp2)
                  go_ret
                  exact ⟨by first | rfl | (simp; done) | (simp [*]; done), by repeat (first | exact Drawn0.refl _ | apply Drawn0.step)⟩
                · rw [if_neg c8] at H
                  have c8b0 : (!(((rd_T27 l0 x13_1).f0) == ((rd_T27 l1 x13_1).f0)) || (!((((rd_T27 l0 x13_1).f1).toList) == (((rd_T27 l1 x13_1).f1).toList)))) = false := by simpa using c8
                  clear c8
                  have H' := Aside0.mk H
                  clear H
                  have p122 : 0 ≤ (x13_1 : Int) := of_decide_eq_true (by first | (with_reducible assumption) | assumption)
                  have q122 : x13_1 < (l0.length : Int) := of_decide_eq_true (by first | (with_reducible assumption) | assumption)
                  obtain ⟨ad122, e122, hx122_0, hx122_1⟩ := at_T27 HR0.out x13_1 p122 q122
                  cases e122
                  replace p122 := eq_true p122
                  replace q122 := eq_true q122
                  have p123 : 0 ≤ (x13_1 : Int) := of_decide_eq_true (by first | (with_reducible assumption) | assumption)
                  have q123 : x13_1 < (l1.length : Int) := of_decide_eq_true (by first | (with_reducible assumption) | assumption)
                  obtain ⟨ad123, e123, hx123_0, hx123_1⟩ := at_T27 HR1.out x13_1 p123 q123
                  cases e123
                  replace p123 := eq_true p123
                  replace q123 := eq_true q123
                  go_wp2
                  repeat (go_quiet (fail); try go_wp2)
                  go_roundg k1
                  case measure => have := HK1.out; omega
                  case rel => exact ⟨(wrap64 (x13_1 + 1)), (by first | rfl | (simp; done) | (simp [*]; done)), H', ⟨by have := HK1.out; omega⟩, by repeat (first | exact Drawn0.refl _ | apply Drawn0.step)⟩
              · rw [if_neg c7] at H
                exact absurd H (by simp)
            · rw [if_neg c6] at H
              exact absurd H (by simp)
          · rw [if_neg c5] at H
            exact absurd H (by simp)
        · rw [if_neg c4] at H
          have c4b0 : decide (x13_1 < (l0.length : Int)) = false := decide_eq_false c4
          clear c4
          obtain rfl := Option.some.inj H
          go_wp2
          repeat (go_quiet (fail); try go_wp2)
          go_ret
          exact ⟨by first | rfl | (simp; done) | (simp [*]; done), by repeat (first | exact Drawn0.refl _ | apply Drawn0.step)⟩
  · rw [if_neg c3] at H
    have c3b0 : ((l0.length : Int) == (l1.length : Int)) = false := beq_eq_false_iff_ne.mpr c3
    have c3b1 : ((l0.length : Int) != (l1.length : Int)) = true := bne_iff_ne.mpr c3
    have c3b2 : (l0.length == l1.length) = false := by first | simpa using c3 | (simp at c3 ⊢; omega)
    obtain rfl := Option.some.inj H
    go_enter Tryd.func12, Tryd.ntmps12
    go_wp2
    repeat (go_quiet (fail); try go_wp2)
    go_ret
    exact ⟨by first | rfl | (simp; done) | (simp [*]; done), by repeat (first | exact Drawn0.refl _ | apply Drawn0.step)⟩
def laws_same.Pure : Prop := ∀ (l0 : List (S27)) (l1 : List (S27)), (l0.length ≤ 9223372036854775807 ∧ ∀ x ∈ l0, wf_S27 x) → (l1.length ≤ 9223372036854775807 ∧ ∀ x ∈ l1, wf_S27 x) → ∃ k, laws_same.f k l0 l1 = some true

end Go.Proofs.YtmldahejeobohaaDoor.K
