-- WRITTEN BY OUR myprint.py, a program of this session's over the kit's printer
import Derived.Test.YtmldahejeobohaaDoorKx0
namespace Go.Proofs.YtmldahejeobohaaDoor.K
open Go.RowKit Go.Proofs.YtmldahejeobohaaDoorW.PrintWords Go.Proofs.YtmldahejeobohaaDoorW.PrintLast Go.Proofs.YtmldahejeobohaaDoorW.PrintMore
attribute [local go_sem] max2_int min2_int max_two min_two max_three min_three max_four min_four   -- for this text's walks alone
set_option linter.unusedVariables false
set_option linter.unusedSimpArgs false

/-! ### laws_zzFits5: function 19 -/
def laws_zzFits5.f (a0_0 : Int) (a0_1 : ByteArray) : Option (Bool) := if (a0_1.size : Int) > 2147483647 then (some false) else (some true)
set_option maxHeartbeats 8000000 in
set_option maxRecDepth 100000 in
theorem laws_zzFits5.calls (a0_0 : Int) (a0_1 : ByteArray) (r : Bool) (w : World) (h : laws_zzFits5.f a0_0 a0_1 = some r) :
    Calls Tryd.prog 19 #[.agg #[.int .i64 a0_0, .string a0_1]] w fun e w' => e = .returned (.bool r) ∧ Below w.heap.size w w' := by
  have hu27 := Tryd.underlying27
  have HB := Aside0.mk (Below.refl w.heap.size w)
  have H : (if (a0_1.size : Int) > 2147483647 then (some false) else (some true)) = some r := h
  clear h
  by_cases c2 : (a0_1.size : Int) > 2147483647
  · rw [if_pos c2] at H
    have c2b0 : decide (2147483647 < (a0_1.size : Int)) = true := decide_eq_true c2
    have c2b1 : decide (2147483647 < a0_1.size) = true := decide_eq_true (by omega)
    clear c2
    obtain rfl := Option.some.inj H
    go_enter Tryd.func19, Tryd.ntmps19
    go_wp2_with (first | ((with_reducible refine gate_dst (N := 1) rfl ?_); refine box_event ?hg (N := 1) ?hd (cs := #[.int .i64 a0_0, .string a0_1]) (t := 27) ?hr ?_; (case hd => rfl); (case hg => rfl); (case hr => first | (go_simp; done) | (go_simp; rfl)); intro gb101 hg w3 hbox hb; have n0_ := Aside0.mk (below_step (by repeat (first | (with_reducible first | exact HB.out | apply below_alloc | apply pw_below_drewN | apply below_drew1) | exact HB.out)) hb); have n1_ := Aside0.mk (hbox); have n2_ := Aside0.mk ((by rw [hg]; exact (below_size (by repeat (first | (with_reducible first | exact HB.out | apply below_alloc | apply pw_below_drewN | apply below_drew1) | exact HB.out))) : w.heap.size ≤ gb101)); have n3_ := Aside0.mk ((by rw [hg]; exact (below_size (by repeat (first | (with_reducible first | exact HB.out | apply below_alloc | apply pw_below_drewN | apply below_drew1) | exact HB.out))) : w.heap.size ≤ gb101)); clear HB; have HB := n0_; have BK101 := n1_; have GW101 := n2_; have GE101 := n3_; clear n0_ n1_ n2_ n3_; clear hb hbox hg; have hcz4_0 : w3.cell? ⟨gb101, 0, none⟩ = some (.int .i64 a0_0) := (blk_cell BK101.out 0).trans rfl; have hcz4_1 : w3.cell? ⟨gb101, 1, none⟩ = some (.string a0_1) := (blk_cell BK101.out 1).trans rfl; have hfz4_0 := blk_frozen BK101.out 0; have hfz4_1 := blk_frozen BK101.out 1))
    go_ret
    exact ⟨by first | rfl | (simp [errW_none, errW_some] <;> rfl) | (simp [*, errW_none, errW_some] <;> rfl), by repeat (first | (with_reducible first | exact HB.out | apply below_alloc | apply pw_below_drewN | apply below_drew1 | refine below_set ?_ GE101.out) | exact HB.out)⟩
  · rw [if_neg c2] at H
    have c2b0 : decide (2147483647 < (a0_1.size : Int)) = false := decide_eq_false c2
    have c2b1 : decide (2147483647 < a0_1.size) = false := decide_eq_false (by omega)
    clear c2
    obtain rfl := Option.some.inj H
    go_enter Tryd.func19, Tryd.ntmps19
    go_wp2_with (first | ((with_reducible refine gate_dst (N := 1) rfl ?_); refine box_event ?hg (N := 1) ?hd (cs := #[.int .i64 a0_0, .string a0_1]) (t := 27) ?hr ?_; (case hd => rfl); (case hg => rfl); (case hr => first | (go_simp; done) | (go_simp; rfl)); intro gb101 hg w5 hbox hb; have n0_ := Aside0.mk (below_step (by repeat (first | (with_reducible first | exact HB.out | apply below_alloc | apply pw_below_drewN | apply below_drew1) | exact HB.out)) hb); have n1_ := Aside0.mk (hbox); have n2_ := Aside0.mk ((by rw [hg]; exact (below_size (by repeat (first | (with_reducible first | exact HB.out | apply below_alloc | apply pw_below_drewN | apply below_drew1) | exact HB.out))) : w.heap.size ≤ gb101)); have n3_ := Aside0.mk ((by rw [hg]; exact (below_size (by repeat (first | (with_reducible first | exact HB.out | apply below_alloc | apply pw_below_drewN | apply below_drew1) | exact HB.out))) : w.heap.size ≤ gb101)); clear HB; have HB := n0_; have BK101 := n1_; have GW101 := n2_; have GE101 := n3_; clear n0_ n1_ n2_ n3_; clear hb hbox hg; have hcz6_0 : w5.cell? ⟨gb101, 0, none⟩ = some (.int .i64 a0_0) := (blk_cell BK101.out 0).trans rfl; have hcz6_1 : w5.cell? ⟨gb101, 1, none⟩ = some (.string a0_1) := (blk_cell BK101.out 1).trans rfl; have hfz6_0 := blk_frozen BK101.out 0; have hfz6_1 := blk_frozen BK101.out 1))
    go_ret
    exact ⟨by first | rfl | (simp [errW_none, errW_some] <;> rfl) | (simp [*, errW_none, errW_some] <;> rfl), by repeat (first | (with_reducible first | exact HB.out | apply below_alloc | apply pw_below_drewN | apply below_drew1 | refine below_set ?_ GE101.out) | exact HB.out)⟩

/-! ### laws_zzFits4: function 6 -/
def laws_zzFits4.l0 : Nat → List (S27) → Int → Int → Option (Bool)
  | 0, _, _, _ => none
  | k + 1, x8, x9, x10 => if x10 < x9 then (if 0 ≤ x10 then (if x10 < (x8.length : Int) then ((laws_zzFits5.f ((rd_T27 x8 x10).f0) ((rd_T27 x8 x10).f1)).bind fun t104 => (if t104 = true then (laws_zzFits4.l0 k x8 x9 (wrap64 (x10 + 1))) else (some false))) else (none)) else (none)) else (some true)
def laws_zzFits4.f (k : Nat) (l0 : List (S27)) : Option (Bool) := if (l0.length : Int) > 2147483647 then (some false) else (laws_zzFits4.l0 k l0 (l0.length : Int) 0)
theorem laws_zzFits4.mono_l : ∀ k, (∀ y0 y1 y2, LeO (laws_zzFits4.l0 k y0 y1 y2) (laws_zzFits4.l0 (k + 1) y0 y1 y2))
  | 0 => fun _ _ _ r h => by simp [laws_zzFits4.l0] at h
  | k + 1 => by
    have ih0 := laws_zzFits4.mono_l k
    · intro y0 y1 y2
      unfold laws_zzFits4.l0
      repeat' first
      | (with_reducible exact ih0 _ _ _)
      | (with_reducible exact LeO.refl _)
      | (with_reducible exact LeO.none _)
      | (with_reducible refine LeO.ite ?_ ?_)
      | (with_reducible refine LeO.bind ?_ (fun _ => ?_))
      | exact ih0 _ _ _
      | exact LeO.none _
      | refine LeO.ite ?_ ?_
      | refine LeO.bind ?_ (fun _ => ?_)
theorem laws_zzFits4.mono : ∀ a0 k, LeO (laws_zzFits4.f k a0) (laws_zzFits4.f (k + 1) a0) := by
  intro a0 k
  have ih0 := laws_zzFits4.mono_l k
  unfold laws_zzFits4.f
  repeat' first
      | (with_reducible exact ih0 _ _ _)
      | (with_reducible exact LeO.refl _)
      | (with_reducible exact LeO.none _)
      | (with_reducible refine LeO.ite ?_ ?_)
      | (with_reducible refine LeO.bind ?_ (fun _ => ?_))
      | exact ih0 _ _ _
      | exact LeO.none _
      | refine LeO.ite ?_ ?_
      | refine LeO.bind ?_ (fun _ => ?_)
set_option maxHeartbeats 8000000 in
set_option maxRecDepth 100000 in
theorem laws_zzFits4.calls (k : Nat) (A0 : Option Addr) (c0 : Nat) (l0 : List (S27)) (r : Bool) (w : World) (hr0 : Kd.C k27 w A0 l0.length l0) (hc0 : l0.length ≤ c0) (h : laws_zzFits4.f k l0 = some r) :
    Calls Tryd.prog 6 #[.slice A0 l0.length c0] w fun e w' => e = .returned (.bool r) ∧ Below w.heap.size w w' := by
  have hu27 := Tryd.underlying27
  have HR0 := Aside0.mk hr0
  have HC0 := Aside0.mk hc0
  clear hr0 hc0
  have HB := Aside0.mk (Below.refl w.heap.size w)
  have H : (if (l0.length : Int) > 2147483647 then (some false) else (laws_zzFits4.l0 k l0 (l0.length : Int) 0)) = some r := h
  clear h
  by_cases c2 : (l0.length : Int) > 2147483647
  · rw [if_pos c2] at H
    have c2b0 : decide (2147483647 < (l0.length : Int)) = true := decide_eq_true c2
    have c2b1 : decide (2147483647 < l0.length) = true := decide_eq_true (by omega)
    clear c2
    obtain rfl := Option.some.inj H
    go_enter Tryd.func6, Tryd.ntmps6
    go_wp2
    go_ret
    exact ⟨by first | rfl | (simp [errW_none, errW_some] <;> rfl) | (simp [*, errW_none, errW_some] <;> rfl), by repeat (first | (with_reducible first | exact HB.out | apply below_alloc | apply pw_below_drewN | apply below_drew1) | exact HB.out)⟩
  · rw [if_neg c2] at H
    have c2b0 : decide (2147483647 < (l0.length : Int)) = false := decide_eq_false c2
    have c2b1 : decide (2147483647 < l0.length) = false := decide_eq_false (by omega)
    clear c2
    have H' := Aside0.mk H
    clear H
    go_enter Tryd.func6, Tryd.ntmps6
    go_wp2
    go_loopg [10] k (fun kq v10 w' => ∃ (x10_1 : Int), v10 = .int .i64 x10_1 ∧ Aside0 (laws_zzFits4.l0 kq l0 (l0.length : Int) x10_1 = some r) ∧ Aside0 (kq ≤ k) ∧ Aside0 (Below w.heap.size w w'))
    case atStart => exact ⟨(0), (by first | rfl | (simp; done) | (simp [*]; done)), H', ⟨Nat.le_refl _⟩, ⟨by repeat (first | (with_reducible first | exact HB.out | apply below_alloc | apply pw_below_drewN | apply below_drew1) | exact HB.out)⟩⟩
    case round =>
      clear H'
      try clear c2
      try clear c2b0
      try clear c2b1
      try clear p2
      obtain ⟨x10_1, rfl, HA, HK1, HB⟩ := hrel
      cases gk with
      | zero => exact absurd HA.out (by simp [laws_zzFits4.l0])
      | succ k1 =>
        have H := HA.out
        clear HA
        simp only [laws_zzFits4.l0] at H
        by_cases c3 : x10_1 < (l0.length : Int)
        · rw [if_pos c3] at H
          have c3b0 : decide (x10_1 < (l0.length : Int)) = true := decide_eq_true c3
          clear c3
          by_cases c4 : 0 ≤ x10_1
          · rw [if_pos c4] at H
            have c4b0 : decide (0 ≤ x10_1) = true := decide_eq_true c4
            clear c4
            by_cases c5 : x10_1 < (l0.length : Int)
            · rw [if_pos c5] at H
              have c5b0 : decide (x10_1 < (l0.length : Int)) = true := decide_eq_true c5
              clear c5
              replace H := Option.bind_eq_some_iff.mp H
              obtain ⟨t104, A60, H⟩ := H
              replace H : (if t104 = true then (laws_zzFits4.l0 k1 l0 (l0.length : Int) (wrap64 (x10_1 + 1))) else (some false)) = some r := H
              have A6 := Aside0.mk A60
              clear A60
              by_cases c7 : t104 = true
              · subst c7
                have H1 : (laws_zzFits4.l0 k1 l0 (l0.length : Int) (wrap64 (x10_1 + 1))) = some r := by rw [if_pos rfl] at H; exact H
                clear H
                have H := H1
                clear H1
                have H' := Aside0.mk H
                clear H
                have p102 : 0 ≤ (x10_1 : Int) := of_decide_eq_true (by first | (with_reducible assumption) | assumption)
                have q102 : x10_1 < (l0.length : Int) := of_decide_eq_true (by first | (with_reducible assumption) | assumption)
                obtain ⟨ad102, e102, hx102_0, hx102_1⟩ := at_T27 HR0.out x10_1 p102 q102
                cases e102
                replace hx102_0 := (HB.out.cell (World.block_lt_of_cell? w _ hx102_0)).trans hx102_0
                replace hx102_1 := (HB.out.cell (World.block_lt_of_cell? w _ hx102_1)).trans hx102_1
                replace p102 := eq_true p102
                replace q102 := eq_true q102
                go_wp2_with (first | ((with_reducible refine gate_dst (N := 4) rfl ?_); refine box_event ?hg (N := 4) ?hd (cs := #[.int .i64 0, .string (⟨#[]⟩ : ByteArray)]) (t := 27) ?hr ?_; (case hd => rfl); (case hg => rfl); (case hr => first | (go_simp; done) | (go_simp; rfl)); intro gb103 hg w8 hbox hb; have n0_ := Aside0.mk (below_step (by repeat (first | (with_reducible first | exact HB.out | apply below_alloc | apply pw_below_drewN | apply below_drew1) | exact HB.out)) hb); have n1_ := Aside0.mk (hbox); have n2_ := Aside0.mk ((by rw [hg]; exact (below_size (by repeat (first | (with_reducible first | exact HB.out | apply below_alloc | apply pw_below_drewN | apply below_drew1) | exact HB.out))) : w.heap.size ≤ gb103)); have n3_ := Aside0.mk ((by rw [hg]; exact (below_size (by repeat (first | (with_reducible first | exact HB.out | apply below_alloc | apply pw_below_drewN | apply below_drew1) | exact HB.out))) : w.heap.size ≤ gb103)); clear HB; have HB := n0_; have BK103 := n1_; have GW103 := n2_; have GE103 := n3_; clear n0_ n1_ n2_ n3_; clear hb hbox hg; have hcz9_0 : w8.cell? ⟨gb103, 0, none⟩ = some (.int .i64 0) := (blk_cell BK103.out 0).trans rfl; have hcz9_1 : w8.cell? ⟨gb103, 1, none⟩ = some (.string (⟨#[]⟩ : ByteArray)) := (blk_cell BK103.out 1).trans rfl; have hfz9_0 := blk_frozen BK103.out 0; have hfz9_1 := blk_frozen BK103.out 1) | ((with_reducible refine gate_callee (f := 19) rfl ?_); refine goesL_ (some 15) rfl rfl Tryd.func19 (by kernel_rfl) rfl #[.agg #[.int .i64 ((rd_T27 l0 x10_1).f0), .string ((rd_T27 l0 x10_1).f1)]] rfl (by (try simp only [List.map_toArray, List.map_cons, List.map_nil]); first | done | rfl | (simp only [List.length_drop, List.length_take]; rfl)) ?_; (with_reducible refine (laws_zzFits5.calls ((rd_T27 l0 x10_1).f0) ((rd_T27 l0 x10_1).f1) true _ A6.out).mono ?_); rintro e w10 ⟨rfl, hb⟩; refine ⟨_, rfl, ?_⟩; have n0_ := Aside0.mk (blk_below (g := gb103) (o := .cells #[.int .i64 ((rd_T27 l0 x10_1).f0), .string ((rd_T27 l0 x10_1).f1)] 27 (0, 0)) (by (with_reducible repeat (first | refine blk_drewN ?_ _ | refine blk_drew ?_ | refine blk_alloc ?_ _)); refine blk_put (cs := #[.int .i64 ((rd_T27 l0 x10_1).f0), .string (⟨#[]⟩ : ByteArray)]) ?_ 1 _ rfl; (with_reducible repeat (first | refine blk_drewN ?_ _ | refine blk_drew ?_ | refine blk_alloc ?_ _)); refine blk_put (cs := #[.int .i64 0, .string (⟨#[]⟩ : ByteArray)]) ?_ 0 _ rfl; (with_reducible repeat (first | refine blk_drewN ?_ _ | refine blk_drew ?_ | refine blk_alloc ?_ _)); exact BK103.out) hb); have n1_ := Aside0.mk (below_step (by repeat (first | (with_reducible first | exact HB.out | apply below_alloc | apply pw_below_drewN | apply below_drew1 | refine below_set ?_ GE103.out) | exact HB.out)) hb); clear BK103; clear HB; have BK103 := n0_; have HB := n1_; clear n0_ n1_; (try clear hb); (try clear hb2); (try clear hk); (try clear hi)))
                go_roundg k1
                case measure => have := HK1.out; omega
                case rel => exact ⟨(wrap64 (x10_1 + 1)), (by first | rfl | (simp; done) | (simp [*]; done)), H', ⟨by have := HK1.out; omega⟩, ⟨by repeat (first | (with_reducible first | exact HB.out | apply below_alloc | apply pw_below_drewN | apply below_drew1 | refine below_set ?_ GE103.out) | exact HB.out)⟩⟩
              · replace c7 := Bool.eq_false_iff.mpr c7
                subst c7
                have H1 : (some false) = some r := by rw [if_neg (show ¬ (false = true) by decide)] at H; exact H
                clear H
                have H := H1
                clear H1
                obtain rfl := Option.some.inj H
                have p102 : 0 ≤ (x10_1 : Int) := of_decide_eq_true (by first | (with_reducible assumption) | assumption)
                have q102 : x10_1 < (l0.length : Int) := of_decide_eq_true (by first | (with_reducible assumption) | assumption)
                obtain ⟨ad102, e102, hx102_0, hx102_1⟩ := at_T27 HR0.out x10_1 p102 q102
                cases e102
                replace hx102_0 := (HB.out.cell (World.block_lt_of_cell? w _ hx102_0)).trans hx102_0
                replace hx102_1 := (HB.out.cell (World.block_lt_of_cell? w _ hx102_1)).trans hx102_1
                replace p102 := eq_true p102
                replace q102 := eq_true q102
                go_wp2_with (first | ((with_reducible refine gate_dst (N := 4) rfl ?_); refine box_event ?hg (N := 4) ?hd (cs := #[.int .i64 0, .string (⟨#[]⟩ : ByteArray)]) (t := 27) ?hr ?_; (case hd => rfl); (case hg => rfl); (case hr => first | (go_simp; done) | (go_simp; rfl)); intro gb103 hg w11 hbox hb; have n0_ := Aside0.mk (below_step (by repeat (first | (with_reducible first | exact HB.out | apply below_alloc | apply pw_below_drewN | apply below_drew1) | exact HB.out)) hb); have n1_ := Aside0.mk (hbox); have n2_ := Aside0.mk ((by rw [hg]; exact (below_size (by repeat (first | (with_reducible first | exact HB.out | apply below_alloc | apply pw_below_drewN | apply below_drew1) | exact HB.out))) : w.heap.size ≤ gb103)); have n3_ := Aside0.mk ((by rw [hg]; exact (below_size (by repeat (first | (with_reducible first | exact HB.out | apply below_alloc | apply pw_below_drewN | apply below_drew1) | exact HB.out))) : w.heap.size ≤ gb103)); clear HB; have HB := n0_; have BK103 := n1_; have GW103 := n2_; have GE103 := n3_; clear n0_ n1_ n2_ n3_; clear hb hbox hg; have hcz12_0 : w11.cell? ⟨gb103, 0, none⟩ = some (.int .i64 0) := (blk_cell BK103.out 0).trans rfl; have hcz12_1 : w11.cell? ⟨gb103, 1, none⟩ = some (.string (⟨#[]⟩ : ByteArray)) := (blk_cell BK103.out 1).trans rfl; have hfz12_0 := blk_frozen BK103.out 0; have hfz12_1 := blk_frozen BK103.out 1) | ((with_reducible refine gate_callee (f := 19) rfl ?_); refine goesL_ (some 15) rfl rfl Tryd.func19 (by kernel_rfl) rfl #[.agg #[.int .i64 ((rd_T27 l0 x10_1).f0), .string ((rd_T27 l0 x10_1).f1)]] rfl (by (try simp only [List.map_toArray, List.map_cons, List.map_nil]); first | done | rfl | (simp only [List.length_drop, List.length_take]; rfl)) ?_; (with_reducible refine (laws_zzFits5.calls ((rd_T27 l0 x10_1).f0) ((rd_T27 l0 x10_1).f1) false _ A6.out).mono ?_); rintro e w13 ⟨rfl, hb⟩; refine ⟨_, rfl, ?_⟩; have n0_ := Aside0.mk (blk_below (g := gb103) (o := .cells #[.int .i64 ((rd_T27 l0 x10_1).f0), .string ((rd_T27 l0 x10_1).f1)] 27 (0, 0)) (by (with_reducible repeat (first | refine blk_drewN ?_ _ | refine blk_drew ?_ | refine blk_alloc ?_ _)); refine blk_put (cs := #[.int .i64 ((rd_T27 l0 x10_1).f0), .string (⟨#[]⟩ : ByteArray)]) ?_ 1 _ rfl; (with_reducible repeat (first | refine blk_drewN ?_ _ | refine blk_drew ?_ | refine blk_alloc ?_ _)); refine blk_put (cs := #[.int .i64 0, .string (⟨#[]⟩ : ByteArray)]) ?_ 0 _ rfl; (with_reducible repeat (first | refine blk_drewN ?_ _ | refine blk_drew ?_ | refine blk_alloc ?_ _)); exact BK103.out) hb); have n1_ := Aside0.mk (below_step (by repeat (first | (with_reducible first | exact HB.out | apply below_alloc | apply pw_below_drewN | apply below_drew1 | refine below_set ?_ GE103.out) | exact HB.out)) hb); clear BK103; clear HB; have BK103 := n0_; have HB := n1_; clear n0_ n1_; (try clear hb); (try clear hb2); (try clear hk); (try clear hi)))
                go_ret
                exact ⟨by first | rfl | (simp [errW_none, errW_some] <;> rfl) | (simp [*, errW_none, errW_some] <;> rfl), by repeat (first | (with_reducible first | exact HB.out | apply below_alloc | apply pw_below_drewN | apply below_drew1 | refine below_set ?_ GE103.out) | exact HB.out)⟩
            · rw [if_neg c5] at H
              exact absurd H (by simp)
          · rw [if_neg c4] at H
            exact absurd H (by simp)
        · rw [if_neg c3] at H
          have c3b0 : decide (x10_1 < (l0.length : Int)) = false := decide_eq_false c3
          clear c3
          obtain rfl := Option.some.inj H
          go_wp2
          go_ret
          exact ⟨by first | rfl | (simp [errW_none, errW_some] <;> rfl) | (simp [*, errW_none, errW_some] <;> rfl), by repeat (first | (with_reducible first | exact HB.out | apply below_alloc | apply pw_below_drewN | apply below_drew1) | exact HB.out)⟩
def wf_S27 (x : S27) : Prop := (IntKind.i64.min ≤ x.f0 ∧ x.f0 ≤ IntKind.i64.max) ∧ (x.f1.size ≤ maxLen)
def laws_zzFits4.Pure : Prop := ∀ (l0 : List (S27)), (l0.length ≤ 9223372036854775807 ∧ ∀ x ∈ l0, wf_S27 x) → ∃ k, laws_zzFits4.f k l0 = some true

/-! ### laws_cutting: function 7 -/
def laws_cutting.l0 : Nat → List (S29) → List (S29) → Int → Int → Option (Bool)
  | 0, _, _, _, _ => none
  | k + 1, x0, x5, x6, x7 => if x7 < x6 then (if 0 ≤ x7 then (if x7 < (x5.length : Int) then (if ((rd_T29 x5 x7).f1) < 1 then (some false) else (if ((rd_T29 x5 x7).f1) > 4000 then (some false) else (if ((rd_T29 x5 x7).f0) = 0 then (some false) else (laws_cutting.l0 k x0 x5 x6 (wrap64 (x7 + 1)))))) else (none)) else (none)) else (some (decide ((x0.length : Int) ≤ 100)))
def laws_cutting.f (k : Nat) (l0 : List (S29)) : Option (Bool) := laws_cutting.l0 k l0 l0 (l0.length : Int) 0
theorem laws_cutting.mono_l : ∀ k, (∀ y0 y1 y2 y3, LeO (laws_cutting.l0 k y0 y1 y2 y3) (laws_cutting.l0 (k + 1) y0 y1 y2 y3))
  | 0 => fun _ _ _ _ r h => by simp [laws_cutting.l0] at h
  | k + 1 => by
    have ih0 := laws_cutting.mono_l k
    · intro y0 y1 y2 y3
      unfold laws_cutting.l0
      repeat' first
      | (with_reducible exact ih0 _ _ _ _)
      | (with_reducible exact LeO.refl _)
      | (with_reducible exact LeO.none _)
      | (with_reducible refine LeO.ite ?_ ?_)
      | (with_reducible refine LeO.bind ?_ (fun _ => ?_))
      | exact ih0 _ _ _ _
      | exact LeO.none _
      | refine LeO.ite ?_ ?_
      | refine LeO.bind ?_ (fun _ => ?_)
theorem laws_cutting.mono : ∀ a0 k, LeO (laws_cutting.f k a0) (laws_cutting.f (k + 1) a0) := by
  intro a0 k
  have ih0 := laws_cutting.mono_l k
  unfold laws_cutting.f
  repeat' first
      | (with_reducible exact ih0 _ _ _ _)
      | (with_reducible exact LeO.refl _)
      | (with_reducible exact LeO.none _)
      | (with_reducible refine LeO.ite ?_ ?_)
      | (with_reducible refine LeO.bind ?_ (fun _ => ?_))
      | exact ih0 _ _ _ _
      | exact LeO.none _
      | refine LeO.ite ?_ ?_
      | refine LeO.bind ?_ (fun _ => ?_)
set_option maxHeartbeats 8000000 in
set_option maxRecDepth 100000 in
theorem laws_cutting.calls (k : Nat) (A0 : Option Addr) (c0 : Nat) (l0 : List (S29)) (r : Bool) (w : World) (hr0 : Kd.C k29 w A0 l0.length l0) (hc0 : l0.length ≤ c0) (h : laws_cutting.f k l0 = some r) :
    Calls Tryd.prog 7 #[.slice A0 l0.length c0] w fun e w' => e = .returned (.bool r) ∧ Below w.heap.size w w' := by
  have hu29 := Tryd.underlying29
  have HR0 := Aside0.mk hr0
  have HC0 := Aside0.mk hc0
  clear hr0 hc0
  have HB := Aside0.mk (Below.refl w.heap.size w)
  have H : (laws_cutting.l0 k l0 l0 (l0.length : Int) 0) = some r := h
  clear h
  have H' := Aside0.mk H
  clear H
  go_enter Tryd.func7, Tryd.ntmps7
  go_wp2
  go_loopg [7] k (fun kq v7 w' => ∃ (x7_1 : Int), v7 = .int .i64 x7_1 ∧ Aside0 (laws_cutting.l0 kq l0 l0 (l0.length : Int) x7_1 = some r) ∧ Aside0 (kq ≤ k) ∧ Aside0 (Below w.heap.size w w'))
  case atStart => exact ⟨(0), (by first | rfl | (simp; done) | (simp [*]; done)), H', ⟨Nat.le_refl _⟩, ⟨by repeat (first | (with_reducible first | exact HB.out | apply below_alloc | apply pw_below_drewN | apply below_drew1) | exact HB.out)⟩⟩
  case round =>
    clear H'
    obtain ⟨x7_1, rfl, HA, HK1, HB⟩ := hrel
    cases gk with
    | zero => exact absurd HA.out (by simp [laws_cutting.l0])
    | succ k1 =>
      have H := HA.out
      clear HA
      simp only [laws_cutting.l0] at H
      by_cases c2 : x7_1 < (l0.length : Int)
      · rw [if_pos c2] at H
        have c2b0 : decide (x7_1 < (l0.length : Int)) = true := decide_eq_true c2
        clear c2
        by_cases c3 : 0 ≤ x7_1
        · rw [if_pos c3] at H
          have c3b0 : decide (0 ≤ x7_1) = true := decide_eq_true c3
          clear c3
          by_cases c4 : x7_1 < (l0.length : Int)
          · rw [if_pos c4] at H
            have c4b0 : decide (x7_1 < (l0.length : Int)) = true := decide_eq_true c4
            clear c4
            by_cases c5 : ((rd_T29 l0 x7_1).f1) < 1
            · rw [if_pos c5] at H
              have c5b0 : decide (((rd_T29 l0 x7_1).f1) < 1) = true := decide_eq_true c5
              clear c5
              obtain rfl := Option.some.inj H
              have p105 : 0 ≤ (x7_1 : Int) := of_decide_eq_true (by first | (with_reducible assumption) | assumption)
              have q105 : x7_1 < (l0.length : Int) := of_decide_eq_true (by first | (with_reducible assumption) | assumption)
              obtain ⟨ad105, e105, hx105_0, hx105_1⟩ := at_T29 HR0.out x7_1 p105 q105
              cases e105
              replace hx105_0 := (HB.out.cell (World.block_lt_of_cell? w _ hx105_0)).trans hx105_0
              replace hx105_1 := (HB.out.cell (World.block_lt_of_cell? w _ hx105_1)).trans hx105_1
              replace p105 := eq_true p105
              replace q105 := eq_true q105
              go_wp2_with (first | ((with_reducible refine gate_dst (N := 4) rfl ?_); refine box_event ?hg (N := 4) ?hd (cs := #[.int .i64 0, .int .i64 0]) (t := 29) ?hr ?_; (case hd => rfl); (case hg => rfl); (case hr => first | (go_simp; done) | (go_simp; rfl)); intro gb106 hg w6 hbox hb; have n0_ := Aside0.mk (below_step (by repeat (first | (with_reducible first | exact HB.out | apply below_alloc | apply pw_below_drewN | apply below_drew1) | exact HB.out)) hb); have n1_ := Aside0.mk (hbox); have n2_ := Aside0.mk ((by rw [hg]; exact (below_size (by repeat (first | (with_reducible first | exact HB.out | apply below_alloc | apply pw_below_drewN | apply below_drew1) | exact HB.out))) : w.heap.size ≤ gb106)); have n3_ := Aside0.mk ((by rw [hg]; exact (below_size (by repeat (first | (with_reducible first | exact HB.out | apply below_alloc | apply pw_below_drewN | apply below_drew1) | exact HB.out))) : w.heap.size ≤ gb106)); clear HB; have HB := n0_; have BK106 := n1_; have GW106 := n2_; have GE106 := n3_; clear n0_ n1_ n2_ n3_; clear hb hbox hg; have hcz7_0 : w6.cell? ⟨gb106, 0, none⟩ = some (.int .i64 0) := (blk_cell BK106.out 0).trans rfl; have hcz7_1 : w6.cell? ⟨gb106, 1, none⟩ = some (.int .i64 0) := (blk_cell BK106.out 1).trans rfl; have hfz7_0 := blk_frozen BK106.out 0; have hfz7_1 := blk_frozen BK106.out 1))
              go_ret
              exact ⟨by first | rfl | (simp [errW_none, errW_some] <;> rfl) | (simp [*, errW_none, errW_some] <;> rfl), by repeat (first | (with_reducible first | exact HB.out | apply below_alloc | apply pw_below_drewN | apply below_drew1 | refine below_set ?_ GE106.out) | exact HB.out)⟩
            · rw [if_neg c5] at H
              have c5b0 : decide (((rd_T29 l0 x7_1).f1) < 1) = false := decide_eq_false c5
              clear c5
              by_cases c8 : ((rd_T29 l0 x7_1).f1) > 4000
              · rw [if_pos c8] at H
                have c8b0 : decide (4000 < ((rd_T29 l0 x7_1).f1)) = true := decide_eq_true c8
                clear c8
                obtain rfl := Option.some.inj H
                have p105 : 0 ≤ (x7_1 : Int) := of_decide_eq_true (by first | (with_reducible assumption) | assumption)
                have q105 : x7_1 < (l0.length : Int) := of_decide_eq_true (by first | (with_reducible assumption) | assumption)
                obtain ⟨ad105, e105, hx105_0, hx105_1⟩ := at_T29 HR0.out x7_1 p105 q105
                cases e105
                replace hx105_0 := (HB.out.cell (World.block_lt_of_cell? w _ hx105_0)).trans hx105_0
                replace hx105_1 := (HB.out.cell (World.block_lt_of_cell? w _ hx105_1)).trans hx105_1
                replace p105 := eq_true p105
                replace q105 := eq_true q105
                go_wp2_with (first | ((with_reducible refine gate_dst (N := 4) rfl ?_); refine box_event ?hg (N := 4) ?hd (cs := #[.int .i64 0, .int .i64 0]) (t := 29) ?hr ?_; (case hd => rfl); (case hg => rfl); (case hr => first | (go_simp; done) | (go_simp; rfl)); intro gb106 hg w9 hbox hb; have n0_ := Aside0.mk (below_step (by repeat (first | (with_reducible first | exact HB.out | apply below_alloc | apply pw_below_drewN | apply below_drew1) | exact HB.out)) hb); have n1_ := Aside0.mk (hbox); have n2_ := Aside0.mk ((by rw [hg]; exact (below_size (by repeat (first | (with_reducible first | exact HB.out | apply below_alloc | apply pw_below_drewN | apply below_drew1) | exact HB.out))) : w.heap.size ≤ gb106)); have n3_ := Aside0.mk ((by rw [hg]; exact (below_size (by repeat (first | (with_reducible first | exact HB.out | apply below_alloc | apply pw_below_drewN | apply below_drew1) | exact HB.out))) : w.heap.size ≤ gb106)); clear HB; have HB := n0_; have BK106 := n1_; have GW106 := n2_; have GE106 := n3_; clear n0_ n1_ n2_ n3_; clear hb hbox hg; have hcz10_0 : w9.cell? ⟨gb106, 0, none⟩ = some (.int .i64 0) := (blk_cell BK106.out 0).trans rfl; have hcz10_1 : w9.cell? ⟨gb106, 1, none⟩ = some (.int .i64 0) := (blk_cell BK106.out 1).trans rfl; have hfz10_0 := blk_frozen BK106.out 0; have hfz10_1 := blk_frozen BK106.out 1))
                go_ret
                exact ⟨by first | rfl | (simp [errW_none, errW_some] <;> rfl) | (simp [*, errW_none, errW_some] <;> rfl), by repeat (first | (with_reducible first | exact HB.out | apply below_alloc | apply pw_below_drewN | apply below_drew1 | refine below_set ?_ GE106.out) | exact HB.out)⟩
              · rw [if_neg c8] at H
                have c8b0 : decide (4000 < ((rd_T29 l0 x7_1).f1)) = false := decide_eq_false c8
                clear c8
                by_cases c11 : ((rd_T29 l0 x7_1).f0) = 0
                · rw [if_pos c11] at H
                  have c11b0 : (((rd_T29 l0 x7_1).f0) == 0) = true := beq_iff_eq.mpr c11
                  have c11b1 : (((rd_T29 l0 x7_1).f0) != 0) = false := bne_eq_false_iff_eq.mpr c11
                  clear c11
                  obtain rfl := Option.some.inj H
                  have p105 : 0 ≤ (x7_1 : Int) := of_decide_eq_true (by first | (with_reducible assumption) | assumption)
                  have q105 : x7_1 < (l0.length : Int) := of_decide_eq_true (by first | (with_reducible assumption) | assumption)
                  obtain ⟨ad105, e105, hx105_0, hx105_1⟩ := at_T29 HR0.out x7_1 p105 q105
                  cases e105
                  replace hx105_0 := (HB.out.cell (World.block_lt_of_cell? w _ hx105_0)).trans hx105_0
                  replace hx105_1 := (HB.out.cell (World.block_lt_of_cell? w _ hx105_1)).trans hx105_1
                  replace p105 := eq_true p105
                  replace q105 := eq_true q105
                  go_wp2_with (first | ((with_reducible refine gate_dst (N := 4) rfl ?_); refine box_event ?hg (N := 4) ?hd (cs := #[.int .i64 0, .int .i64 0]) (t := 29) ?hr ?_; (case hd => rfl); (case hg => rfl); (case hr => first | (go_simp; done) | (go_simp; rfl)); intro gb106 hg w12 hbox hb; have n0_ := Aside0.mk (below_step (by repeat (first | (with_reducible first | exact HB.out | apply below_alloc | apply pw_below_drewN | apply below_drew1) | exact HB.out)) hb); have n1_ := Aside0.mk (hbox); have n2_ := Aside0.mk ((by rw [hg]; exact (below_size (by repeat (first | (with_reducible first | exact HB.out | apply below_alloc | apply pw_below_drewN | apply below_drew1) | exact HB.out))) : w.heap.size ≤ gb106)); have n3_ := Aside0.mk ((by rw [hg]; exact (below_size (by repeat (first | (with_reducible first | exact HB.out | apply below_alloc | apply pw_below_drewN | apply below_drew1) | exact HB.out))) : w.heap.size ≤ gb106)); clear HB; have HB := n0_; have BK106 := n1_; have GW106 := n2_; have GE106 := n3_; clear n0_ n1_ n2_ n3_; clear hb hbox hg; have hcz13_0 : w12.cell? ⟨gb106, 0, none⟩ = some (.int .i64 0) := (blk_cell BK106.out 0).trans rfl; have hcz13_1 : w12.cell? ⟨gb106, 1, none⟩ = some (.int .i64 0) := (blk_cell BK106.out 1).trans rfl; have hfz13_0 := blk_frozen BK106.out 0; have hfz13_1 := blk_frozen BK106.out 1))
                  go_ret
                  exact ⟨by first | rfl | (simp [errW_none, errW_some] <;> rfl) | (simp [*, errW_none, errW_some] <;> rfl), by repeat (first | (with_reducible first | exact HB.out | apply below_alloc | apply pw_below_drewN | apply below_drew1 | refine below_set ?_ GE106.out) | exact HB.out)⟩
                · rw [if_neg c11] at H
                  have c11b0 : (((rd_T29 l0 x7_1).f0) == 0) = false := beq_eq_false_iff_ne.mpr c11
                  have c11b1 : (((rd_T29 l0 x7_1).f0) != 0) = true := bne_iff_ne.mpr c11
                  have H' := Aside0.mk H
                  clear H
                  have p105 : 0 ≤ (x7_1 : Int) := of_decide_eq_true (by first | (with_reducible assumption) | assumption)
                  have q105 : x7_1 < (l0.length : Int) := of_decide_eq_true (by first | (with_reducible assumption) | assumption)
                  obtain ⟨ad105, e105, hx105_0, hx105_1⟩ := at_T29 HR0.out x7_1 p105 q105
                  cases e105
                  replace hx105_0 := (HB.out.cell (World.block_lt_of_cell? w _ hx105_0)).trans hx105_0
                  replace hx105_1 := (HB.out.cell (World.block_lt_of_cell? w _ hx105_1)).trans hx105_1
                  replace p105 := eq_true p105
                  replace q105 := eq_true q105
                  go_wp2_with (first | ((with_reducible refine gate_dst (N := 4) rfl ?_); refine box_event ?hg (N := 4) ?hd (cs := #[.int .i64 0, .int .i64 0]) (t := 29) ?hr ?_; (case hd => rfl); (case hg => rfl); (case hr => first | (go_simp; done) | (go_simp; rfl)); intro gb106 hg w14 hbox hb; have n0_ := Aside0.mk (below_step (by repeat (first | (with_reducible first | exact HB.out | apply below_alloc | apply pw_below_drewN | apply below_drew1) | exact HB.out)) hb); have n1_ := Aside0.mk (hbox); have n2_ := Aside0.mk ((by rw [hg]; exact (below_size (by repeat (first | (with_reducible first | exact HB.out | apply below_alloc | apply pw_below_drewN | apply below_drew1) | exact HB.out))) : w.heap.size ≤ gb106)); have n3_ := Aside0.mk ((by rw [hg]; exact (below_size (by repeat (first | (with_reducible first | exact HB.out | apply below_alloc | apply pw_below_drewN | apply below_drew1) | exact HB.out))) : w.heap.size ≤ gb106)); clear HB; have HB := n0_; have BK106 := n1_; have GW106 := n2_; have GE106 := n3_; clear n0_ n1_ n2_ n3_; clear hb hbox hg; have hcz15_0 : w14.cell? ⟨gb106, 0, none⟩ = some (.int .i64 0) := (blk_cell BK106.out 0).trans rfl; have hcz15_1 : w14.cell? ⟨gb106, 1, none⟩ = some (.int .i64 0) := (blk_cell BK106.out 1).trans rfl; have hfz15_0 := blk_frozen BK106.out 0; have hfz15_1 := blk_frozen BK106.out 1))
                  go_roundg k1
                  case measure => have := HK1.out; omega
                  case rel => exact ⟨(wrap64 (x7_1 + 1)), (by first | rfl | (simp; done) | (simp [*]; done)), H', ⟨by have := HK1.out; omega⟩, ⟨by repeat (first | (with_reducible first | exact HB.out | apply below_alloc | apply pw_below_drewN | apply below_drew1 | refine below_set ?_ GE106.out) | exact HB.out)⟩⟩
          · rw [if_neg c4] at H
            exact absurd H (by simp)
        · rw [if_neg c3] at H
          exact absurd H (by simp)
      · rw [if_neg c2] at H
        have c2b0 : decide (x7_1 < (l0.length : Int)) = false := decide_eq_false c2
        clear c2
        obtain rfl := Option.some.inj H
        go_wp2
        go_ret
        exact ⟨by first | rfl | (simp [errW_none, errW_some] <;> rfl) | (simp [*, errW_none, errW_some] <;> rfl), by repeat (first | (with_reducible first | exact HB.out | apply below_alloc | apply pw_below_drewN | apply below_drew1) | exact HB.out)⟩
def wf_S29 (x : S29) : Prop := (IntKind.i64.min ≤ x.f0 ∧ x.f0 ≤ IntKind.i64.max) ∧ (IntKind.i64.min ≤ x.f1 ∧ x.f1 ≤ IntKind.i64.max)
def laws_cutting.Pure : Prop := ∀ (l0 : List (S29)), (l0.length ≤ 9223372036854775807 ∧ ∀ x ∈ l0, wf_S29 x) → ∃ k, laws_cutting.f k l0 = some true

/-! ### laws_small: function 8 -/
def laws_small.l0 : Nat → List (S27) → Int → List (S27) → Int → Int → Option (Bool)
  | 0, _, _, _, _, _ => none
  | k + 1, x0, x3, x6, x7, x8 => if x8 < x7 then (if 0 ≤ x8 then (if x8 < (x6.length : Int) then (if ((rd_T27 x6 x8).f0) = 0 then (some false) else (if (wrap64 (x3 + (((rd_T27 x6 x8).f1).size : Int))) > 4000 then (some false) else (laws_small.l0 k x0 (wrap64 (x3 + (((rd_T27 x6 x8).f1).size : Int))) x6 x7 (wrap64 (x8 + 1))))) else (none)) else (none)) else (some (decide ((x0.length : Int) ≤ 400)))
def laws_small.f (k : Nat) (l0 : List (S27)) : Option (Bool) := laws_small.l0 k l0 0 l0 (l0.length : Int) 0
theorem laws_small.mono_l : ∀ k, (∀ y0 y1 y2 y3 y4, LeO (laws_small.l0 k y0 y1 y2 y3 y4) (laws_small.l0 (k + 1) y0 y1 y2 y3 y4))
  | 0 => fun _ _ _ _ _ r h => by simp [laws_small.l0] at h
  | k + 1 => by
    have ih0 := laws_small.mono_l k
    · intro y0 y1 y2 y3 y4
      unfold laws_small.l0
      repeat' first
      | (with_reducible exact ih0 _ _ _ _ _)
      | (with_reducible exact LeO.refl _)
      | (with_reducible exact LeO.none _)
      | (with_reducible refine LeO.ite ?_ ?_)
      | (with_reducible refine LeO.bind ?_ (fun _ => ?_))
      | exact ih0 _ _ _ _ _
      | exact LeO.none _
      | refine LeO.ite ?_ ?_
      | refine LeO.bind ?_ (fun _ => ?_)
theorem laws_small.mono : ∀ a0 k, LeO (laws_small.f k a0) (laws_small.f (k + 1) a0) := by
  intro a0 k
  have ih0 := laws_small.mono_l k
  unfold laws_small.f
  repeat' first
      | (with_reducible exact ih0 _ _ _ _ _)
      | (with_reducible exact LeO.refl _)
      | (with_reducible exact LeO.none _)
      | (with_reducible refine LeO.ite ?_ ?_)
      | (with_reducible refine LeO.bind ?_ (fun _ => ?_))
      | exact ih0 _ _ _ _ _
      | exact LeO.none _
      | refine LeO.ite ?_ ?_
      | refine LeO.bind ?_ (fun _ => ?_)
set_option maxHeartbeats 8000000 in
set_option maxRecDepth 100000 in
theorem laws_small.calls (k : Nat) (A0 : Option Addr) (c0 : Nat) (l0 : List (S27)) (r : Bool) (w : World) (hr0 : Kd.C k27 w A0 l0.length l0) (hc0 : l0.length ≤ c0) (h : laws_small.f k l0 = some r) :
    Calls Tryd.prog 8 #[.slice A0 l0.length c0] w fun e w' => e = .returned (.bool r) ∧ Below w.heap.size w w' := by
  have hu27 := Tryd.underlying27
  have HR0 := Aside0.mk hr0
  have HC0 := Aside0.mk hc0
  clear hr0 hc0
  have HB := Aside0.mk (Below.refl w.heap.size w)
  have H : (laws_small.l0 k l0 0 l0 (l0.length : Int) 0) = some r := h
  clear h
  have H' := Aside0.mk H
  clear H
  go_enter Tryd.func8, Tryd.ntmps8
  go_wp2
  go_loopg [3, 8] k (fun kq v3 v8 w' => ∃ (x3_1 : Int) (x8_1 : Int), v3 = .int .i64 x3_1 ∧ v8 = .int .i64 x8_1 ∧ Aside0 (laws_small.l0 kq l0 x3_1 l0 (l0.length : Int) x8_1 = some r) ∧ Aside0 (kq ≤ k) ∧ Aside0 (Below w.heap.size w w'))
  case atStart => exact ⟨(0), (0), (by first | rfl | (simp; done) | (simp [*]; done)), (by first | rfl | (simp; done) | (simp [*]; done)), H', ⟨Nat.le_refl _⟩, ⟨by repeat (first | (with_reducible first | exact HB.out | apply below_alloc | apply pw_below_drewN | apply below_drew1) | exact HB.out)⟩⟩
  case round =>
    clear H'
    obtain ⟨x3_1, x8_1, rfl, rfl, HA, HK1, HB⟩ := hrel
    cases gk with
    | zero => exact absurd HA.out (by simp [laws_small.l0])
    | succ k1 =>
      have H := HA.out
      clear HA
      simp only [laws_small.l0] at H
      by_cases c2 : x8_1 < (l0.length : Int)
      · rw [if_pos c2] at H
        have c2b0 : decide (x8_1 < (l0.length : Int)) = true := decide_eq_true c2
        clear c2
        by_cases c3 : 0 ≤ x8_1
        · rw [if_pos c3] at H
          have c3b0 : decide (0 ≤ x8_1) = true := decide_eq_true c3
          clear c3
          by_cases c4 : x8_1 < (l0.length : Int)
          · rw [if_pos c4] at H
            have c4b0 : decide (x8_1 < (l0.length : Int)) = true := decide_eq_true c4
            clear c4
            by_cases c5 : ((rd_T27 l0 x8_1).f0) = 0
            · rw [if_pos c5] at H
              have c5b0 : (((rd_T27 l0 x8_1).f0) == 0) = true := beq_iff_eq.mpr c5
              have c5b1 : (((rd_T27 l0 x8_1).f0) != 0) = false := bne_eq_false_iff_eq.mpr c5
              clear c5
              obtain rfl := Option.some.inj H
              have p107 : 0 ≤ (x8_1 : Int) := of_decide_eq_true (by first | (with_reducible assumption) | assumption)
              have q107 : x8_1 < (l0.length : Int) := of_decide_eq_true (by first | (with_reducible assumption) | assumption)
              obtain ⟨ad107, e107, hx107_0, hx107_1⟩ := at_T27 HR0.out x8_1 p107 q107
              cases e107
              replace hx107_0 := (HB.out.cell (World.block_lt_of_cell? w _ hx107_0)).trans hx107_0
              replace hx107_1 := (HB.out.cell (World.block_lt_of_cell? w _ hx107_1)).trans hx107_1
              replace p107 := eq_true p107
              replace q107 := eq_true q107
              go_wp2_with (first | ((with_reducible refine gate_dst (N := 5) rfl ?_); refine box_event ?hg (N := 5) ?hd (cs := #[.int .i64 0, .string (⟨#[]⟩ : ByteArray)]) (t := 27) ?hr ?_; (case hd => rfl); (case hg => rfl); (case hr => first | (go_simp; done) | (go_simp; rfl)); intro gb108 hg w6 hbox hb; have n0_ := Aside0.mk (below_step (by repeat (first | (with_reducible first | exact HB.out | apply below_alloc | apply pw_below_drewN | apply below_drew1) | exact HB.out)) hb); have n1_ := Aside0.mk (hbox); have n2_ := Aside0.mk ((by rw [hg]; exact (below_size (by repeat (first | (with_reducible first | exact HB.out | apply below_alloc | apply pw_below_drewN | apply below_drew1) | exact HB.out))) : w.heap.size ≤ gb108)); have n3_ := Aside0.mk ((by rw [hg]; exact (below_size (by repeat (first | (with_reducible first | exact HB.out | apply below_alloc | apply pw_below_drewN | apply below_drew1) | exact HB.out))) : w.heap.size ≤ gb108)); clear HB; have HB := n0_; have BK108 := n1_; have GW108 := n2_; have GE108 := n3_; clear n0_ n1_ n2_ n3_; clear hb hbox hg; have hcz7_0 : w6.cell? ⟨gb108, 0, none⟩ = some (.int .i64 0) := (blk_cell BK108.out 0).trans rfl; have hcz7_1 : w6.cell? ⟨gb108, 1, none⟩ = some (.string (⟨#[]⟩ : ByteArray)) := (blk_cell BK108.out 1).trans rfl; have hfz7_0 := blk_frozen BK108.out 0; have hfz7_1 := blk_frozen BK108.out 1))
              go_ret
              exact ⟨by first | rfl | (simp [errW_none, errW_some] <;> rfl) | (simp [*, errW_none, errW_some] <;> rfl), by repeat (first | (with_reducible first | exact HB.out | apply below_alloc | apply pw_below_drewN | apply below_drew1 | refine below_set ?_ GE108.out) | exact HB.out)⟩
            · rw [if_neg c5] at H
              have c5b0 : (((rd_T27 l0 x8_1).f0) == 0) = false := beq_eq_false_iff_ne.mpr c5
              have c5b1 : (((rd_T27 l0 x8_1).f0) != 0) = true := bne_iff_ne.mpr c5
              by_cases c8 : (wrap64 (x3_1 + (((rd_T27 l0 x8_1).f1).size : Int))) > 4000
              · rw [if_pos c8] at H
                have c8b0 : decide (4000 < (wrap64 (x3_1 + (((rd_T27 l0 x8_1).f1).size : Int)))) = true := decide_eq_true c8
                clear c8
                obtain rfl := Option.some.inj H
                have p107 : 0 ≤ (x8_1 : Int) := of_decide_eq_true (by first | (with_reducible assumption) | assumption)
                have q107 : x8_1 < (l0.length : Int) := of_decide_eq_true (by first | (with_reducible assumption) | assumption)
                obtain ⟨ad107, e107, hx107_0, hx107_1⟩ := at_T27 HR0.out x8_1 p107 q107
                cases e107
                replace hx107_0 := (HB.out.cell (World.block_lt_of_cell? w _ hx107_0)).trans hx107_0
                replace hx107_1 := (HB.out.cell (World.block_lt_of_cell? w _ hx107_1)).trans hx107_1
                replace p107 := eq_true p107
                replace q107 := eq_true q107
                go_wp2_with (first | ((with_reducible refine gate_dst (N := 5) rfl ?_); refine box_event ?hg (N := 5) ?hd (cs := #[.int .i64 0, .string (⟨#[]⟩ : ByteArray)]) (t := 27) ?hr ?_; (case hd => rfl); (case hg => rfl); (case hr => first | (go_simp; done) | (go_simp; rfl)); intro gb108 hg w9 hbox hb; have n0_ := Aside0.mk (below_step (by repeat (first | (with_reducible first | exact HB.out | apply below_alloc | apply pw_below_drewN | apply below_drew1) | exact HB.out)) hb); have n1_ := Aside0.mk (hbox); have n2_ := Aside0.mk ((by rw [hg]; exact (below_size (by repeat (first | (with_reducible first | exact HB.out | apply below_alloc | apply pw_below_drewN | apply below_drew1) | exact HB.out))) : w.heap.size ≤ gb108)); have n3_ := Aside0.mk ((by rw [hg]; exact (below_size (by repeat (first | (with_reducible first | exact HB.out | apply below_alloc | apply pw_below_drewN | apply below_drew1) | exact HB.out))) : w.heap.size ≤ gb108)); clear HB; have HB := n0_; have BK108 := n1_; have GW108 := n2_; have GE108 := n3_; clear n0_ n1_ n2_ n3_; clear hb hbox hg; have hcz10_0 : w9.cell? ⟨gb108, 0, none⟩ = some (.int .i64 0) := (blk_cell BK108.out 0).trans rfl; have hcz10_1 : w9.cell? ⟨gb108, 1, none⟩ = some (.string (⟨#[]⟩ : ByteArray)) := (blk_cell BK108.out 1).trans rfl; have hfz10_0 := blk_frozen BK108.out 0; have hfz10_1 := blk_frozen BK108.out 1))
                go_ret
                exact ⟨by first | rfl | (simp [errW_none, errW_some] <;> rfl) | (simp [*, errW_none, errW_some] <;> rfl), by repeat (first | (with_reducible first | exact HB.out | apply below_alloc | apply pw_below_drewN | apply below_drew1 | refine below_set ?_ GE108.out) | exact HB.out)⟩
              · rw [if_neg c8] at H
                have c8b0 : decide (4000 < (wrap64 (x3_1 + (((rd_T27 l0 x8_1).f1).size : Int)))) = false := decide_eq_false c8
                clear c8
                have H' := Aside0.mk H
                clear H
                have p107 : 0 ≤ (x8_1 : Int) := of_decide_eq_true (by first | (with_reducible assumption) | assumption)
                have q107 : x8_1 < (l0.length : Int) := of_decide_eq_true (by first | (with_reducible assumption) | assumption)
                obtain ⟨ad107, e107, hx107_0, hx107_1⟩ := at_T27 HR0.out x8_1 p107 q107
                cases e107
                replace hx107_0 := (HB.out.cell (World.block_lt_of_cell? w _ hx107_0)).trans hx107_0
                replace hx107_1 := (HB.out.cell (World.block_lt_of_cell? w _ hx107_1)).trans hx107_1
                replace p107 := eq_true p107
                replace q107 := eq_true q107
                go_wp2_with (first | ((with_reducible refine gate_dst (N := 5) rfl ?_); refine box_event ?hg (N := 5) ?hd (cs := #[.int .i64 0, .string (⟨#[]⟩ : ByteArray)]) (t := 27) ?hr ?_; (case hd => rfl); (case hg => rfl); (case hr => first | (go_simp; done) | (go_simp; rfl)); intro gb108 hg w11 hbox hb; have n0_ := Aside0.mk (below_step (by repeat (first | (with_reducible first | exact HB.out | apply below_alloc | apply pw_below_drewN | apply below_drew1) | exact HB.out)) hb); have n1_ := Aside0.mk (hbox); have n2_ := Aside0.mk ((by rw [hg]; exact (below_size (by repeat (first | (with_reducible first | exact HB.out | apply below_alloc | apply pw_below_drewN | apply below_drew1) | exact HB.out))) : w.heap.size ≤ gb108)); have n3_ := Aside0.mk ((by rw [hg]; exact (below_size (by repeat (first | (with_reducible first | exact HB.out | apply below_alloc | apply pw_below_drewN | apply below_drew1) | exact HB.out))) : w.heap.size ≤ gb108)); clear HB; have HB := n0_; have BK108 := n1_; have GW108 := n2_; have GE108 := n3_; clear n0_ n1_ n2_ n3_; clear hb hbox hg; have hcz12_0 : w11.cell? ⟨gb108, 0, none⟩ = some (.int .i64 0) := (blk_cell BK108.out 0).trans rfl; have hcz12_1 : w11.cell? ⟨gb108, 1, none⟩ = some (.string (⟨#[]⟩ : ByteArray)) := (blk_cell BK108.out 1).trans rfl; have hfz12_0 := blk_frozen BK108.out 0; have hfz12_1 := blk_frozen BK108.out 1))
                go_roundg k1
                case measure => have := HK1.out; omega
                case rel => exact ⟨(wrap64 (x3_1 + (((rd_T27 l0 x8_1).f1).size : Int))), (wrap64 (x8_1 + 1)), (by first | rfl | (simp; done) | (simp [*]; done)), (by first | rfl | (simp; done) | (simp [*]; done)), H', ⟨by have := HK1.out; omega⟩, ⟨by repeat (first | (with_reducible first | exact HB.out | apply below_alloc | apply pw_below_drewN | apply below_drew1 | refine below_set ?_ GE108.out) | exact HB.out)⟩⟩
          · rw [if_neg c4] at H
            exact absurd H (by simp)
        · rw [if_neg c3] at H
          exact absurd H (by simp)
      · rw [if_neg c2] at H
        have c2b0 : decide (x8_1 < (l0.length : Int)) = false := decide_eq_false c2
        clear c2
        obtain rfl := Option.some.inj H
        go_wp2
        go_ret
        exact ⟨by first | rfl | (simp [errW_none, errW_some] <;> rfl) | (simp [*, errW_none, errW_some] <;> rfl), by repeat (first | (with_reducible first | exact HB.out | apply below_alloc | apply pw_below_drewN | apply below_drew1) | exact HB.out)⟩
def laws_small.Pure : Prop := ∀ (l0 : List (S27)), (l0.length ≤ 9223372036854775807 ∧ ∀ x ∈ l0, wf_S27 x) → ∃ k, laws_small.f k l0 = some true

/-! ### laws_hollow: function 9 -/
def laws_hollow.l0 : Nat → List (S27) → Int → Int → Option (Bool)
  | 0, _, _, _ => none
  | k + 1, x5, x6, x7 => if x7 < x6 then (if 0 ≤ x7 then (if x7 < (x5.length : Int) then (if ((rd_T27 x5 x7).f1).toList = ([] : List UInt8) then (some true) else (laws_hollow.l0 k x5 x6 (wrap64 (x7 + 1)))) else (none)) else (none)) else (some false)
def laws_hollow.f (k : Nat) (l0 : List (S27)) : Option (Bool) := laws_hollow.l0 k l0 (l0.length : Int) 0
theorem laws_hollow.mono_l : ∀ k, (∀ y0 y1 y2, LeO (laws_hollow.l0 k y0 y1 y2) (laws_hollow.l0 (k + 1) y0 y1 y2))
  | 0 => fun _ _ _ r h => by simp [laws_hollow.l0] at h
  | k + 1 => by
    have ih0 := laws_hollow.mono_l k
    · intro y0 y1 y2
      unfold laws_hollow.l0
      repeat' first
      | (with_reducible exact ih0 _ _ _)
      | (with_reducible exact LeO.refl _)
      | (with_reducible exact LeO.none _)
      | (with_reducible refine LeO.ite ?_ ?_)
      | (with_reducible refine LeO.bind ?_ (fun _ => ?_))
      | exact ih0 _ _ _
      | exact LeO.none _
      | refine LeO.ite ?_ ?_
      | refine LeO.bind ?_ (fun _ => ?_)
theorem laws_hollow.mono : ∀ a0 k, LeO (laws_hollow.f k a0) (laws_hollow.f (k + 1) a0) := by
  intro a0 k
  have ih0 := laws_hollow.mono_l k
  unfold laws_hollow.f
  repeat' first
      | (with_reducible exact ih0 _ _ _)
      | (with_reducible exact LeO.refl _)
      | (with_reducible exact LeO.none _)
      | (with_reducible refine LeO.ite ?_ ?_)
      | (with_reducible refine LeO.bind ?_ (fun _ => ?_))
      | exact ih0 _ _ _
      | exact LeO.none _
      | refine LeO.ite ?_ ?_
      | refine LeO.bind ?_ (fun _ => ?_)
set_option maxHeartbeats 8000000 in
set_option maxRecDepth 100000 in
theorem laws_hollow.calls (k : Nat) (A0 : Option Addr) (c0 : Nat) (l0 : List (S27)) (r : Bool) (w : World) (hr0 : Kd.C k27 w A0 l0.length l0) (hc0 : l0.length ≤ c0) (h : laws_hollow.f k l0 = some r) :
    Calls Tryd.prog 9 #[.slice A0 l0.length c0] w fun e w' => e = .returned (.bool r) ∧ Below w.heap.size w w' := by
  have hu27 := Tryd.underlying27
  have HR0 := Aside0.mk hr0
  have HC0 := Aside0.mk hc0
  clear hr0 hc0
  have HB := Aside0.mk (Below.refl w.heap.size w)
  have H : (laws_hollow.l0 k l0 (l0.length : Int) 0) = some r := h
  clear h
  have H' := Aside0.mk H
  clear H
  go_enter Tryd.func9, Tryd.ntmps9
  go_wp2
  go_loopg [7] k (fun kq v7 w' => ∃ (x7_1 : Int), v7 = .int .i64 x7_1 ∧ Aside0 (laws_hollow.l0 kq l0 (l0.length : Int) x7_1 = some r) ∧ Aside0 (kq ≤ k) ∧ Aside0 (Below w.heap.size w w'))
  case atStart => exact ⟨(0), (by first | rfl | (simp; done) | (simp [*]; done)), H', ⟨Nat.le_refl _⟩, ⟨by repeat (first | (with_reducible first | exact HB.out | apply below_alloc | apply pw_below_drewN | apply below_drew1) | exact HB.out)⟩⟩
  case round =>
    clear H'
    obtain ⟨x7_1, rfl, HA, HK1, HB⟩ := hrel
    cases gk with
    | zero => exact absurd HA.out (by simp [laws_hollow.l0])
    | succ k1 =>
      have H := HA.out
      clear HA
      simp only [laws_hollow.l0] at H
      by_cases c2 : x7_1 < (l0.length : Int)
      · rw [if_pos c2] at H
        have c2b0 : decide (x7_1 < (l0.length : Int)) = true := decide_eq_true c2
        clear c2
        by_cases c3 : 0 ≤ x7_1
        · rw [if_pos c3] at H
          have c3b0 : decide (0 ≤ x7_1) = true := decide_eq_true c3
          clear c3
          by_cases c4 : x7_1 < (l0.length : Int)
          · rw [if_pos c4] at H
            have c4b0 : decide (x7_1 < (l0.length : Int)) = true := decide_eq_true c4
            clear c4
            by_cases c5 : ((rd_T27 l0 x7_1).f1).toList = ([] : List UInt8)
            · rw [if_pos c5] at H
              have c5b0 : (((rd_T27 l0 x7_1).f1).toList == ([] : List UInt8)) = true := beq_iff_eq.mpr c5
              have c5b1 : (((rd_T27 l0 x7_1).f1).toList != ([] : List UInt8)) = false := bne_eq_false_iff_eq.mpr c5
              clear c5
              obtain rfl := Option.some.inj H
              have p109 : 0 ≤ (x7_1 : Int) := of_decide_eq_true (by first | (with_reducible assumption) | assumption)
              have q109 : x7_1 < (l0.length : Int) := of_decide_eq_true (by first | (with_reducible assumption) | assumption)
              obtain ⟨ad109, e109, hx109_0, hx109_1⟩ := at_T27 HR0.out x7_1 p109 q109
              cases e109
              replace hx109_0 := (HB.out.cell (World.block_lt_of_cell? w _ hx109_0)).trans hx109_0
              replace hx109_1 := (HB.out.cell (World.block_lt_of_cell? w _ hx109_1)).trans hx109_1
              replace p109 := eq_true p109
              replace q109 := eq_true q109
              go_wp2_with (first | ((with_reducible refine gate_dst (N := 4) rfl ?_); refine box_event ?hg (N := 4) ?hd (cs := #[.int .i64 0, .string (⟨#[]⟩ : ByteArray)]) (t := 27) ?hr ?_; (case hd => rfl); (case hg => rfl); (case hr => first | (go_simp; done) | (go_simp; rfl)); intro gb110 hg w6 hbox hb; have n0_ := Aside0.mk (below_step (by repeat (first | (with_reducible first | exact HB.out | apply below_alloc | apply pw_below_drewN | apply below_drew1) | exact HB.out)) hb); have n1_ := Aside0.mk (hbox); have n2_ := Aside0.mk ((by rw [hg]; exact (below_size (by repeat (first | (with_reducible first | exact HB.out | apply below_alloc | apply pw_below_drewN | apply below_drew1) | exact HB.out))) : w.heap.size ≤ gb110)); have n3_ := Aside0.mk ((by rw [hg]; exact (below_size (by repeat (first | (with_reducible first | exact HB.out | apply below_alloc | apply pw_below_drewN | apply below_drew1) | exact HB.out))) : w.heap.size ≤ gb110)); clear HB; have HB := n0_; have BK110 := n1_; have GW110 := n2_; have GE110 := n3_; clear n0_ n1_ n2_ n3_; clear hb hbox hg; have hcz7_0 : w6.cell? ⟨gb110, 0, none⟩ = some (.int .i64 0) := (blk_cell BK110.out 0).trans rfl; have hcz7_1 : w6.cell? ⟨gb110, 1, none⟩ = some (.string (⟨#[]⟩ : ByteArray)) := (blk_cell BK110.out 1).trans rfl; have hfz7_0 := blk_frozen BK110.out 0; have hfz7_1 := blk_frozen BK110.out 1))
              go_ret
              exact ⟨by first | rfl | (simp [errW_none, errW_some] <;> rfl) | (simp [*, errW_none, errW_some] <;> rfl), by repeat (first | (with_reducible first | exact HB.out | apply below_alloc | apply pw_below_drewN | apply below_drew1 | refine below_set ?_ GE110.out) | exact HB.out)⟩
            · rw [if_neg c5] at H
              have c5b0 : (((rd_T27 l0 x7_1).f1).toList == ([] : List UInt8)) = false := beq_eq_false_iff_ne.mpr c5
              have c5b1 : (((rd_T27 l0 x7_1).f1).toList != ([] : List UInt8)) = true := bne_iff_ne.mpr c5
              have H' := Aside0.mk H
              clear H
              have p109 : 0 ≤ (x7_1 : Int) := of_decide_eq_true (by first | (with_reducible assumption) | assumption)
              have q109 : x7_1 < (l0.length : Int) := of_decide_eq_true (by first | (with_reducible assumption) | assumption)
              obtain ⟨ad109, e109, hx109_0, hx109_1⟩ := at_T27 HR0.out x7_1 p109 q109
              cases e109
              replace hx109_0 := (HB.out.cell (World.block_lt_of_cell? w _ hx109_0)).trans hx109_0
              replace hx109_1 := (HB.out.cell (World.block_lt_of_cell? w _ hx109_1)).trans hx109_1
              replace p109 := eq_true p109
              replace q109 := eq_true q109
              go_wp2_with (first | ((with_reducible refine gate_dst (N := 4) rfl ?_); refine box_event ?hg (N := 4) ?hd (cs := #[.int .i64 0, .string (⟨#[]⟩ : ByteArray)]) (t := 27) ?hr ?_; (case hd => rfl); (case hg => rfl); (case hr => first | (go_simp; done) | (go_simp; rfl)); intro gb110 hg w8 hbox hb; have n0_ := Aside0.mk (below_step (by repeat (first | (with_reducible first | exact HB.out | apply below_alloc | apply pw_below_drewN | apply below_drew1) | exact HB.out)) hb); have n1_ := Aside0.mk (hbox); have n2_ := Aside0.mk ((by rw [hg]; exact (below_size (by repeat (first | (with_reducible first | exact HB.out | apply below_alloc | apply pw_below_drewN | apply below_drew1) | exact HB.out))) : w.heap.size ≤ gb110)); have n3_ := Aside0.mk ((by rw [hg]; exact (below_size (by repeat (first | (with_reducible first | exact HB.out | apply below_alloc | apply pw_below_drewN | apply below_drew1) | exact HB.out))) : w.heap.size ≤ gb110)); clear HB; have HB := n0_; have BK110 := n1_; have GW110 := n2_; have GE110 := n3_; clear n0_ n1_ n2_ n3_; clear hb hbox hg; have hcz9_0 : w8.cell? ⟨gb110, 0, none⟩ = some (.int .i64 0) := (blk_cell BK110.out 0).trans rfl; have hcz9_1 : w8.cell? ⟨gb110, 1, none⟩ = some (.string (⟨#[]⟩ : ByteArray)) := (blk_cell BK110.out 1).trans rfl; have hfz9_0 := blk_frozen BK110.out 0; have hfz9_1 := blk_frozen BK110.out 1))
              go_roundg k1
              case measure => have := HK1.out; omega
              case rel => exact ⟨(wrap64 (x7_1 + 1)), (by first | rfl | (simp; done) | (simp [*]; done)), H', ⟨by have := HK1.out; omega⟩, ⟨by repeat (first | (with_reducible first | exact HB.out | apply below_alloc | apply pw_below_drewN | apply below_drew1 | refine below_set ?_ GE110.out) | exact HB.out)⟩⟩
          · rw [if_neg c4] at H
            exact absurd H (by simp)
        · rw [if_neg c3] at H
          exact absurd H (by simp)
      · rw [if_neg c2] at H
        have c2b0 : decide (x7_1 < (l0.length : Int)) = false := decide_eq_false c2
        clear c2
        obtain rfl := Option.some.inj H
        go_wp2
        go_ret
        exact ⟨by first | rfl | (simp [errW_none, errW_some] <;> rfl) | (simp [*, errW_none, errW_some] <;> rfl), by repeat (first | (with_reducible first | exact HB.out | apply below_alloc | apply pw_below_drewN | apply below_drew1) | exact HB.out)⟩
def laws_hollow.Pure : Prop := ∀ (l0 : List (S27)), (l0.length ≤ 9223372036854775807 ∧ ∀ x ∈ l0, wf_S27 x) → ∃ k, laws_hollow.f k l0 = some true

end Go.Proofs.YtmldahejeobohaaDoor.K
