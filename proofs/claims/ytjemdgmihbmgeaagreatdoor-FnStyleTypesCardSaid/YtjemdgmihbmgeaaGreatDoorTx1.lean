-- WRITTEN BY OUR myprint.py, a program of this session's over the kit's printer
import Derived.Test.YtjemdgmihbmgeaaGreatDoorTx0
namespace Go.Proofs.YtjemdgmihbmgeaaGreatDoor.T
open Go.RowKit Go.Proofs.YtjemdgmihbmgeaaGreatDoorW.PrintWords Go.Proofs.YtjemdgmihbmgeaaGreatDoorW.PrintLast Go.Proofs.YtjemdgmihbmgeaaGreatDoorW.PrintMore
attribute [local go_sem] max2_int min2_int max_two min_two max_three min_three max_four min_four   -- for this text's walks alone
set_option linter.unusedVariables false
set_option linter.unusedSimpArgs false

/-! ### laws_zzFits3: function 22 -/
def laws_zzFits3.f (a0_0 : Int) (a0_1 : ByteArray) : Option (Bool) := if (a0_1.size : Int) > 2147483647 then (some false) else (some true)
set_option maxHeartbeats 8000000 in
set_option maxRecDepth 100000 in
theorem laws_zzFits3.calls (a0_0 : Int) (a0_1 : ByteArray) (r : Bool) (w : World) (h : laws_zzFits3.f a0_0 a0_1 = some r) :
    Calls Tryz.prog 22 #[.agg #[.int .i64 a0_0, .string a0_1]] w fun e w' => e = .returned (.bool r) ∧ Below w.heap.size w w' := by
  have hu54 := Tryz.underlying54
  have HB := Aside0.mk (Below.refl w.heap.size w)
  have H : (if (a0_1.size : Int) > 2147483647 then (some false) else (some true)) = some r := h
  clear h
  by_cases c2 : (a0_1.size : Int) > 2147483647
  · rw [if_pos c2] at H
    have c2b0 : decide (2147483647 < (a0_1.size : Int)) = true := decide_eq_true c2
    have c2b1 : decide (2147483647 < a0_1.size) = true := decide_eq_true (by omega)
    clear c2
    obtain rfl := Option.some.inj H
    go_enter Tryz.func22, Tryz.ntmps22
    go_wp2_with (first | ((with_reducible refine gate_dst (N := 1) rfl ?_); refine box_event ?hg (N := 1) ?hd (cs := #[.int .i64 a0_0, .string a0_1]) (t := 54) ?hr ?_; (case hd => rfl); (case hg => rfl); (case hr => first | (go_simp; done) | (go_simp; rfl)); intro gb101 hg w3 hbox hb; have n0_ := Aside0.mk (below_step (by repeat (first | (with_reducible first | exact HB.out | apply below_alloc | apply pw_below_drewN | apply below_drew1) | exact HB.out)) hb); have n1_ := Aside0.mk (hbox); have n2_ := Aside0.mk ((by rw [hg]; exact (below_size (by repeat (first | (with_reducible first | exact HB.out | apply below_alloc | apply pw_below_drewN | apply below_drew1) | exact HB.out))) : w.heap.size ≤ gb101)); have n3_ := Aside0.mk ((by rw [hg]; exact (below_size (by repeat (first | (with_reducible first | exact HB.out | apply below_alloc | apply pw_below_drewN | apply below_drew1) | exact HB.out))) : w.heap.size ≤ gb101)); clear HB; have HB := n0_; have BK101 := n1_; have GW101 := n2_; have GE101 := n3_; clear n0_ n1_ n2_ n3_; clear hb hbox hg; have hcz4_0 : w3.cell? ⟨gb101, 0, none⟩ = some (.int .i64 a0_0) := (blk_cell BK101.out 0).trans rfl; have hcz4_1 : w3.cell? ⟨gb101, 1, none⟩ = some (.string a0_1) := (blk_cell BK101.out 1).trans rfl; have hfz4_0 := blk_frozen BK101.out 0; have hfz4_1 := blk_frozen BK101.out 1))
    go_ret
    exact ⟨by first | rfl | (simp [errW_none, errW_some] <;> rfl) | (simp [*, errW_none, errW_some] <;> rfl), by repeat (first | (with_reducible first | exact HB.out | apply below_alloc | apply pw_below_drewN | apply below_drew1 | refine below_set ?_ GE101.out) | exact HB.out)⟩
  · rw [if_neg c2] at H
    have c2b0 : decide (2147483647 < (a0_1.size : Int)) = false := decide_eq_false c2
    have c2b1 : decide (2147483647 < a0_1.size) = false := decide_eq_false (by omega)
    clear c2
    obtain rfl := Option.some.inj H
    go_enter Tryz.func22, Tryz.ntmps22
    go_wp2_with (first | ((with_reducible refine gate_dst (N := 1) rfl ?_); refine box_event ?hg (N := 1) ?hd (cs := #[.int .i64 a0_0, .string a0_1]) (t := 54) ?hr ?_; (case hd => rfl); (case hg => rfl); (case hr => first | (go_simp; done) | (go_simp; rfl)); intro gb101 hg w5 hbox hb; have n0_ := Aside0.mk (below_step (by repeat (first | (with_reducible first | exact HB.out | apply below_alloc | apply pw_below_drewN | apply below_drew1) | exact HB.out)) hb); have n1_ := Aside0.mk (hbox); have n2_ := Aside0.mk ((by rw [hg]; exact (below_size (by repeat (first | (with_reducible first | exact HB.out | apply below_alloc | apply pw_below_drewN | apply below_drew1) | exact HB.out))) : w.heap.size ≤ gb101)); have n3_ := Aside0.mk ((by rw [hg]; exact (below_size (by repeat (first | (with_reducible first | exact HB.out | apply below_alloc | apply pw_below_drewN | apply below_drew1) | exact HB.out))) : w.heap.size ≤ gb101)); clear HB; have HB := n0_; have BK101 := n1_; have GW101 := n2_; have GE101 := n3_; clear n0_ n1_ n2_ n3_; clear hb hbox hg; have hcz6_0 : w5.cell? ⟨gb101, 0, none⟩ = some (.int .i64 a0_0) := (blk_cell BK101.out 0).trans rfl; have hcz6_1 : w5.cell? ⟨gb101, 1, none⟩ = some (.string a0_1) := (blk_cell BK101.out 1).trans rfl; have hfz6_0 := blk_frozen BK101.out 0; have hfz6_1 := blk_frozen BK101.out 1))
    go_ret
    exact ⟨by first | rfl | (simp [errW_none, errW_some] <;> rfl) | (simp [*, errW_none, errW_some] <;> rfl), by repeat (first | (with_reducible first | exact HB.out | apply below_alloc | apply pw_below_drewN | apply below_drew1 | refine below_set ?_ GE101.out) | exact HB.out)⟩

/-! ### laws_zzFits2: function 6 -/
def laws_zzFits2.l0 : Nat → List (S54) → Int → Int → Option (Bool)
  | 0, _, _, _ => none
  | k + 1, x8, x9, x10 => if x10 < x9 then (if 0 ≤ x10 then (if x10 < (x8.length : Int) then ((laws_zzFits3.f ((rd_T54 x8 x10).f0) ((rd_T54 x8 x10).f1)).bind fun t104 => (if t104 = true then (laws_zzFits2.l0 k x8 x9 (wrap64 (x10 + 1))) else (some false))) else (none)) else (none)) else (some true)
def laws_zzFits2.f (k : Nat) (l0 : List (S54)) : Option (Bool) := if (l0.length : Int) > 2147483647 then (some false) else (laws_zzFits2.l0 k l0 (l0.length : Int) 0)
theorem laws_zzFits2.mono_l : ∀ k, (∀ y0 y1 y2, LeO (laws_zzFits2.l0 k y0 y1 y2) (laws_zzFits2.l0 (k + 1) y0 y1 y2))
  | 0 => fun _ _ _ r h => by simp [laws_zzFits2.l0] at h
  | k + 1 => by
    have ih0 := laws_zzFits2.mono_l k
    · intro y0 y1 y2
      unfold laws_zzFits2.l0
      repeat' first
      | (with_reducible exact ih0 _ _ _)
      | (with_reducible exact LeO.refl _)
      | (with_reducible exact LeO.none _)
      | (with_reducible refine LeO.ite ?_ ?_)
      | (with_reducible refine LeO.bind ?_ (fun _ => ?_))
      | exact ih0 _ _ _
      | exact LeO.none _
      | refine LeO.ite ?_ ?_
      | refine LeO.bind ?_ (fun _ => ?_)
theorem laws_zzFits2.mono : ∀ a0 k, LeO (laws_zzFits2.f k a0) (laws_zzFits2.f (k + 1) a0) := by
  intro a0 k
  have ih0 := laws_zzFits2.mono_l k
  unfold laws_zzFits2.f
  repeat' first
      | (with_reducible exact ih0 _ _ _)
      | (with_reducible exact LeO.refl _)
      | (with_reducible exact LeO.none _)
      | (with_reducible refine LeO.ite ?_ ?_)
      | (with_reducible refine LeO.bind ?_ (fun _ => ?_))
      | exact ih0 _ _ _
      | exact LeO.none _
      | refine LeO.ite ?_ ?_
      | refine LeO.bind ?_ (fun _ => ?_)
set_option maxHeartbeats 8000000 in
set_option maxRecDepth 100000 in
theorem laws_zzFits2.calls (k : Nat) (A0 : Option Addr) (c0 : Nat) (l0 : List (S54)) (r : Bool) (w : World) (hr0 : Kd.C k54 w A0 l0.length l0) (hc0 : l0.length ≤ c0) (h : laws_zzFits2.f k l0 = some r) :
    Calls Tryz.prog 6 #[.slice A0 l0.length c0] w fun e w' => e = .returned (.bool r) ∧ Below w.heap.size w w' := by
  have hu54 := Tryz.underlying54
  have HR0 := Aside0.mk hr0
  have HC0 := Aside0.mk hc0
  clear hr0 hc0
  have HB := Aside0.mk (Below.refl w.heap.size w)
  have H : (if (l0.length : Int) > 2147483647 then (some false) else (laws_zzFits2.l0 k l0 (l0.length : Int) 0)) = some r := h
  clear h
  by_cases c2 : (l0.length : Int) > 2147483647
  · rw [if_pos c2] at H
    have c2b0 : decide (2147483647 < (l0.length : Int)) = true := decide_eq_true c2
    have c2b1 : decide (2147483647 < l0.length) = true := decide_eq_true (by omega)
    clear c2
    obtain rfl := Option.some.inj H
    go_enter Tryz.func6, Tryz.ntmps6
    go_wp2
    go_ret
    exact ⟨by first | rfl | (simp [errW_none, errW_some] <;> rfl) | (simp [*, errW_none, errW_some] <;> rfl), by repeat (first | (with_reducible first | exact HB.out | apply below_alloc | apply pw_below_drewN | apply below_drew1) | exact HB.out)⟩
  · rw [if_neg c2] at H
    have c2b0 : decide (2147483647 < (l0.length : Int)) = false := decide_eq_false c2
    have c2b1 : decide (2147483647 < l0.length) = false := decide_eq_false (by omega)
    clear c2
    have H' := Aside0.mk H
    clear H
    go_enter Tryz.func6, Tryz.ntmps6
    go_wp2
    go_loopg [10] k (fun kq v10 w' => ∃ (x10_1 : Int), v10 = .int .i64 x10_1 ∧ Aside0 (laws_zzFits2.l0 kq l0 (l0.length : Int) x10_1 = some r) ∧ Aside0 (kq ≤ k) ∧ Aside0 (Below w.heap.size w w'))
    case atStart => exact ⟨(0), (by first | rfl | (simp; done) | (simp [*]; done)), H', ⟨Nat.le_refl _⟩, ⟨by repeat (first | (with_reducible first | exact HB.out | apply below_alloc | apply pw_below_drewN | apply below_drew1) | exact HB.out)⟩⟩
    case round =>
      clear H'
      try clear c2
      try clear c2b0
      try clear c2b1
      try clear p2
      obtain ⟨x10_1, rfl, HA, HK1, HB⟩ := hrel
      cases gk with
      | zero => exact absurd HA.out (by simp [laws_zzFits2.l0])
      | succ k1 =>
        have H := HA.out
        clear HA
        simp only [laws_zzFits2.l0] at H
        by_cases c3 : x10_1 < (l0.length : Int)
        · rw [if_pos c3] at H
          have c3b0 : decide (x10_1 < (l0.length : Int)) = true := decide_eq_true c3
          clear c3
          by_cases c4 : 0 ≤ x10_1
          · rw [if_pos c4] at H
            have c4b0 : decide (0 ≤ x10_1) = true := decide_eq_true c4
            clear c4
            by_cases c5 : x10_1 < (l0.length : Int)
            · rw [if_pos c5] at H
              have c5b0 : decide (x10_1 < (l0.length : Int)) = true := decide_eq_true c5
              clear c5
              replace H := Option.bind_eq_some_iff.mp H
              obtain ⟨t104, A60, H⟩ := H
              replace H : (if t104 = true then (laws_zzFits2.l0 k1 l0 (l0.length : Int) (wrap64 (x10_1 + 1))) else (some false)) = some r := H
              have A6 := Aside0.mk A60
              clear A60
              by_cases c7 : t104 = true
              · subst c7
                have H1 : (laws_zzFits2.l0 k1 l0 (l0.length : Int) (wrap64 (x10_1 + 1))) = some r := by rw [if_pos rfl] at H; exact H
                clear H
                have H := H1
                clear H1
                have H' := Aside0.mk H
                clear H
                have p102 : 0 ≤ (x10_1 : Int) := of_decide_eq_true (by first | (with_reducible assumption) | assumption)
                have q102 : x10_1 < (l0.length : Int) := of_decide_eq_true (by first | (with_reducible assumption) | assumption)
                obtain ⟨ad102, e102, hx102_0, hx102_1⟩ := at_T54 HR0.out x10_1 p102 q102
                cases e102
                replace hx102_0 := (HB.out.cell (World.block_lt_of_cell? w _ hx102_0)).trans hx102_0
                replace hx102_1 := (HB.out.cell (World.block_lt_of_cell? w _ hx102_1)).trans hx102_1
                replace p102 := eq_true p102
                replace q102 := eq_true q102
                go_wp2_with (first | ((with_reducible refine gate_dst (N := 4) rfl ?_); refine box_event ?hg (N := 4) ?hd (cs := #[.int .i64 0, .string (⟨#[]⟩ : ByteArray)]) (t := 54) ?hr ?_; (case hd => rfl); (case hg => rfl); (case hr => first | (go_simp; done) | (go_simp; rfl)); intro gb103 hg w8 hbox hb; have n0_ := Aside0.mk (below_step (by repeat (first | (with_reducible first | exact HB.out | apply below_alloc | apply pw_below_drewN | apply below_drew1) | exact HB.out)) hb); have n1_ := Aside0.mk (hbox); have n2_ := Aside0.mk ((by rw [hg]; exact (below_size (by repeat (first | (with_reducible first | exact HB.out | apply below_alloc | apply pw_below_drewN | apply below_drew1) | exact HB.out))) : w.heap.size ≤ gb103)); have n3_ := Aside0.mk ((by rw [hg]; exact (below_size (by repeat (first | (with_reducible first | exact HB.out | apply below_alloc | apply pw_below_drewN | apply below_drew1) | exact HB.out))) : w.heap.size ≤ gb103)); clear HB; have HB := n0_; have BK103 := n1_; have GW103 := n2_; have GE103 := n3_; clear n0_ n1_ n2_ n3_; clear hb hbox hg; have hcz9_0 : w8.cell? ⟨gb103, 0, none⟩ = some (.int .i64 0) := (blk_cell BK103.out 0).trans rfl; have hcz9_1 : w8.cell? ⟨gb103, 1, none⟩ = some (.string (⟨#[]⟩ : ByteArray)) := (blk_cell BK103.out 1).trans rfl; have hfz9_0 := blk_frozen BK103.out 0; have hfz9_1 := blk_frozen BK103.out 1) | ((with_reducible refine gate_callee (f := 22) rfl ?_); refine goesL_ (some 15) rfl rfl Tryz.func22 (by kernel_rfl) rfl #[.agg #[.int .i64 ((rd_T54 l0 x10_1).f0), .string ((rd_T54 l0 x10_1).f1)]] rfl (by (try simp only [List.map_toArray, List.map_cons, List.map_nil]); first | done | rfl | (simp only [List.length_drop, List.length_take]; rfl)) ?_; (with_reducible refine (laws_zzFits3.calls ((rd_T54 l0 x10_1).f0) ((rd_T54 l0 x10_1).f1) true _ A6.out).mono ?_); rintro e w10 ⟨rfl, hb⟩; refine ⟨_, rfl, ?_⟩; have n0_ := Aside0.mk (blk_below (g := gb103) (o := .cells #[.int .i64 ((rd_T54 l0 x10_1).f0), .string ((rd_T54 l0 x10_1).f1)] 54 (0, 0)) (by (with_reducible repeat (first | refine blk_drewN ?_ _ | refine blk_drew ?_ | refine blk_alloc ?_ _)); refine blk_put (cs := #[.int .i64 ((rd_T54 l0 x10_1).f0), .string (⟨#[]⟩ : ByteArray)]) ?_ 1 _ rfl; (with_reducible repeat (first | refine blk_drewN ?_ _ | refine blk_drew ?_ | refine blk_alloc ?_ _)); refine blk_put (cs := #[.int .i64 0, .string (⟨#[]⟩ : ByteArray)]) ?_ 0 _ rfl; (with_reducible repeat (first | refine blk_drewN ?_ _ | refine blk_drew ?_ | refine blk_alloc ?_ _)); exact BK103.out) hb); have n1_ := Aside0.mk (below_step (by repeat (first | (with_reducible first | exact HB.out | apply below_alloc | apply pw_below_drewN | apply below_drew1 | refine below_set ?_ GE103.out) | exact HB.out)) hb); clear BK103; clear HB; have BK103 := n0_; have HB := n1_; clear n0_ n1_; (try clear hb); (try clear hb2); (try clear hk); (try clear hi)))
                go_roundg k1
                case measure => have := HK1.out; omega
                case rel => exact ⟨(wrap64 (x10_1 + 1)), (by first | rfl | (simp; done) | (simp [*]; done)), H', ⟨by have := HK1.out; omega⟩, ⟨by repeat (first | (with_reducible first | exact HB.out | apply below_alloc | apply pw_below_drewN | apply below_drew1 | refine below_set ?_ GE103.out) | exact HB.out)⟩⟩
              · replace c7 := Bool.eq_false_iff.mpr c7
                subst c7
                have H1 : (some false) = some r := by rw [if_neg (show ¬ (false = true) by decide)] at H; exact H
                clear H
                have H := H1
                clear H1
                obtain rfl := Option.some.inj H
                have p102 : 0 ≤ (x10_1 : Int) := of_decide_eq_true (by first | (with_reducible assumption) | assumption)
                have q102 : x10_1 < (l0.length : Int) := of_decide_eq_true (by first | (with_reducible assumption) | assumption)
                obtain ⟨ad102, e102, hx102_0, hx102_1⟩ := at_T54 HR0.out x10_1 p102 q102
                cases e102
                replace hx102_0 := (HB.out.cell (World.block_lt_of_cell? w _ hx102_0)).trans hx102_0
                replace hx102_1 := (HB.out.cell (World.block_lt_of_cell? w _ hx102_1)).trans hx102_1
                replace p102 := eq_true p102
                replace q102 := eq_true q102
                go_wp2_with (first | ((with_reducible refine gate_dst (N := 4) rfl ?_); refine box_event ?hg (N := 4) ?hd (cs := #[.int .i64 0, .string (⟨#[]⟩ : ByteArray)]) (t := 54) ?hr ?_; (case hd => rfl); (case hg => rfl); (case hr => first | (go_simp; done) | (go_simp; rfl)); intro gb103 hg w11 hbox hb; have n0_ := Aside0.mk (below_step (by repeat (first | (with_reducible first | exact HB.out | apply below_alloc | apply pw_below_drewN | apply below_drew1) | exact HB.out)) hb); have n1_ := Aside0.mk (hbox); have n2_ := Aside0.mk ((by rw [hg]; exact (below_size (by repeat (first | (with_reducible first | exact HB.out | apply below_alloc | apply pw_below_drewN | apply below_drew1) | exact HB.out))) : w.heap.size ≤ gb103)); have n3_ := Aside0.mk ((by rw [hg]; exact (below_size (by repeat (first | (with_reducible first | exact HB.out | apply below_alloc | apply pw_below_drewN | apply below_drew1) | exact HB.out))) : w.heap.size ≤ gb103)); clear HB; have HB := n0_; have BK103 := n1_; have GW103 := n2_; have GE103 := n3_; clear n0_ n1_ n2_ n3_; clear hb hbox hg; have hcz12_0 : w11.cell? ⟨gb103, 0, none⟩ = some (.int .i64 0) := (blk_cell BK103.out 0).trans rfl; have hcz12_1 : w11.cell? ⟨gb103, 1, none⟩ = some (.string (⟨#[]⟩ : ByteArray)) := (blk_cell BK103.out 1).trans rfl; have hfz12_0 := blk_frozen BK103.out 0; have hfz12_1 := blk_frozen BK103.out 1) | ((with_reducible refine gate_callee (f := 22) rfl ?_); refine goesL_ (some 15) rfl rfl Tryz.func22 (by kernel_rfl) rfl #[.agg #[.int .i64 ((rd_T54 l0 x10_1).f0), .string ((rd_T54 l0 x10_1).f1)]] rfl (by (try simp only [List.map_toArray, List.map_cons, List.map_nil]); first | done | rfl | (simp only [List.length_drop, List.length_take]; rfl)) ?_; (with_reducible refine (laws_zzFits3.calls ((rd_T54 l0 x10_1).f0) ((rd_T54 l0 x10_1).f1) false _ A6.out).mono ?_); rintro e w13 ⟨rfl, hb⟩; refine ⟨_, rfl, ?_⟩; have n0_ := Aside0.mk (blk_below (g := gb103) (o := .cells #[.int .i64 ((rd_T54 l0 x10_1).f0), .string ((rd_T54 l0 x10_1).f1)] 54 (0, 0)) (by (with_reducible repeat (first | refine blk_drewN ?_ _ | refine blk_drew ?_ | refine blk_alloc ?_ _)); refine blk_put (cs := #[.int .i64 ((rd_T54 l0 x10_1).f0), .string (⟨#[]⟩ : ByteArray)]) ?_ 1 _ rfl; (with_reducible repeat (first | refine blk_drewN ?_ _ | refine blk_drew ?_ | refine blk_alloc ?_ _)); refine blk_put (cs := #[.int .i64 0, .string (⟨#[]⟩ : ByteArray)]) ?_ 0 _ rfl; (with_reducible repeat (first | refine blk_drewN ?_ _ | refine blk_drew ?_ | refine blk_alloc ?_ _)); exact BK103.out) hb); have n1_ := Aside0.mk (below_step (by repeat (first | (with_reducible first | exact HB.out | apply below_alloc | apply pw_below_drewN | apply below_drew1 | refine below_set ?_ GE103.out) | exact HB.out)) hb); clear BK103; clear HB; have BK103 := n0_; have HB := n1_; clear n0_ n1_; (try clear hb); (try clear hb2); (try clear hk); (try clear hi)))
                go_ret
                exact ⟨by first | rfl | (simp [errW_none, errW_some] <;> rfl) | (simp [*, errW_none, errW_some] <;> rfl), by repeat (first | (with_reducible first | exact HB.out | apply below_alloc | apply pw_below_drewN | apply below_drew1 | refine below_set ?_ GE103.out) | exact HB.out)⟩
            · rw [if_neg c5] at H
              exact absurd H (by simp)
          · rw [if_neg c4] at H
            exact absurd H (by simp)
        · rw [if_neg c3] at H
          have c3b0 : decide (x10_1 < (l0.length : Int)) = false := decide_eq_false c3
          clear c3
          obtain rfl := Option.some.inj H
          go_wp2
          go_ret
          exact ⟨by first | rfl | (simp [errW_none, errW_some] <;> rfl) | (simp [*, errW_none, errW_some] <;> rfl), by repeat (first | (with_reducible first | exact HB.out | apply below_alloc | apply pw_below_drewN | apply below_drew1) | exact HB.out)⟩

/-! ### laws_few: function 7 -/
def laws_few.l0 : Nat → List (S54) → List Int → List (S54) → Int → Int → Option (Bool)
  | 0, _, _, _, _, _ => none
  | k + 1, x0, x1, x7, x8, x9 => if x9 < x8 then (if 0 ≤ x9 then (if x9 < (x7.length : Int) then (if (((rd_T54 x7 x9).f1).size : Int) > 100 then (some false) else (laws_few.l0 k x0 x1 x7 x8 (wrap64 (x9 + 1)))) else (none)) else (none)) else (if (x0.length : Int) ≤ 30 then (some (decide ((x1.length : Int) ≤ 30))) else (some false))
def laws_few.f (k : Nat) (l0 : List (S54)) (l1 : List Int) : Option (Bool) := laws_few.l0 k l0 l1 l0 (l0.length : Int) 0
theorem laws_few.mono_l : ∀ k, (∀ y0 y1 y2 y3 y4, LeO (laws_few.l0 k y0 y1 y2 y3 y4) (laws_few.l0 (k + 1) y0 y1 y2 y3 y4))
  | 0 => fun _ _ _ _ _ r h => by simp [laws_few.l0] at h
  | k + 1 => by
    have ih0 := laws_few.mono_l k
    · intro y0 y1 y2 y3 y4
      unfold laws_few.l0
      repeat' first
      | (with_reducible exact ih0 _ _ _ _ _)
      | (with_reducible exact LeO.refl _)
      | (with_reducible exact LeO.none _)
      | (with_reducible refine LeO.ite ?_ ?_)
      | (with_reducible refine LeO.bind ?_ (fun _ => ?_))
      | exact ih0 _ _ _ _ _
      | exact LeO.none _
      | refine LeO.ite ?_ ?_
      | refine LeO.bind ?_ (fun _ => ?_)
theorem laws_few.mono : ∀ a0 a1 k, LeO (laws_few.f k a0 a1) (laws_few.f (k + 1) a0 a1) := by
  intro a0 a1 k
  have ih0 := laws_few.mono_l k
  unfold laws_few.f
  repeat' first
      | (with_reducible exact ih0 _ _ _ _ _)
      | (with_reducible exact LeO.refl _)
      | (with_reducible exact LeO.none _)
      | (with_reducible refine LeO.ite ?_ ?_)
      | (with_reducible refine LeO.bind ?_ (fun _ => ?_))
      | exact ih0 _ _ _ _ _
      | exact LeO.none _
      | refine LeO.ite ?_ ?_
      | refine LeO.bind ?_ (fun _ => ?_)
set_option maxHeartbeats 8000000 in
set_option maxRecDepth 100000 in
theorem laws_few.calls (k : Nat) (A0 : Option Addr) (c0 : Nat) (l0 : List (S54)) (A1 : Option Addr) (c1 : Nat) (l1 : List Int) (r : Bool) (w : World) (hr0 : Kd.C k54 w A0 l0.length l0) (hc0 : l0.length ≤ c0) (hr1 : Kd.C (Kd.int .i64) w A1 l1.length l1) (hc1 : l1.length ≤ c1) (h : laws_few.f k l0 l1 = some r) :
    Calls Tryz.prog 7 #[.slice A0 l0.length c0, .slice A1 l1.length c1] w fun e w' => e = .returned (.bool r) ∧ Below w.heap.size w w' := by
  have hu54 := Tryz.underlying54
  have HR0 := Aside0.mk hr0
  have HC0 := Aside0.mk hc0
  clear hr0 hc0
  have HR1 := Aside0.mk hr1
  have HC1 := Aside0.mk hc1
  clear hr1 hc1
  have HB := Aside0.mk (Below.refl w.heap.size w)
  have H : (laws_few.l0 k l0 l1 l0 (l0.length : Int) 0) = some r := h
  clear h
  have H' := Aside0.mk H
  clear H
  go_enter Tryz.func7, Tryz.ntmps7
  go_wp2
  go_loopg [9] k (fun kq v9 w' => ∃ (x9_1 : Int), v9 = .int .i64 x9_1 ∧ Aside0 (laws_few.l0 kq l0 l1 l0 (l0.length : Int) x9_1 = some r) ∧ Aside0 (kq ≤ k) ∧ Aside0 (Below w.heap.size w w'))
  case atStart => exact ⟨(0), (by first | rfl | (simp; done) | (simp [*]; done)), H', ⟨Nat.le_refl _⟩, ⟨by repeat (first | (with_reducible first | exact HB.out | apply below_alloc | apply pw_below_drewN | apply below_drew1) | exact HB.out)⟩⟩
  case round =>
    clear H'
    try clear c1
    try clear p2
    obtain ⟨x9_1, rfl, HA, HK1, HB⟩ := hrel
    cases gk with
    | zero => exact absurd HA.out (by simp [laws_few.l0])
    | succ k1 =>
      have H := HA.out
      clear HA
      simp only [laws_few.l0] at H
      by_cases c3 : x9_1 < (l0.length : Int)
      · rw [if_pos c3] at H
        have c3b0 : decide (x9_1 < (l0.length : Int)) = true := decide_eq_true c3
        clear c3
        by_cases c4 : 0 ≤ x9_1
        · rw [if_pos c4] at H
          have c4b0 : decide (0 ≤ x9_1) = true := decide_eq_true c4
          clear c4
          by_cases c5 : x9_1 < (l0.length : Int)
          · rw [if_pos c5] at H
            have c5b0 : decide (x9_1 < (l0.length : Int)) = true := decide_eq_true c5
            clear c5
            by_cases c6 : (((rd_T54 l0 x9_1).f1).size : Int) > 100
            · rw [if_pos c6] at H
              have c6b0 : decide (100 < (((rd_T54 l0 x9_1).f1).size : Int)) = true := decide_eq_true c6
              have c6b1 : decide (100 < ((rd_T54 l0 x9_1).f1).size) = true := decide_eq_true (by omega)
              clear c6
              obtain rfl := Option.some.inj H
              have p105 : 0 ≤ (x9_1 : Int) := of_decide_eq_true (by first | (with_reducible assumption) | assumption)
              have q105 : x9_1 < (l0.length : Int) := of_decide_eq_true (by first | (with_reducible assumption) | assumption)
              obtain ⟨ad105, e105, hx105_0, hx105_1⟩ := at_T54 HR0.out x9_1 p105 q105
              cases e105
              replace hx105_0 := (HB.out.cell (World.block_lt_of_cell? w _ hx105_0)).trans hx105_0
              replace hx105_1 := (HB.out.cell (World.block_lt_of_cell? w _ hx105_1)).trans hx105_1
              replace p105 := eq_true p105
              replace q105 := eq_true q105
              go_wp2_with (first | ((with_reducible refine gate_dst (N := 6) rfl ?_); (try (refine gate_guard (by rfl) ?_; dsimp only)); refine box_event ?hg (N := 6) ?hd (cs := #[.int .i64 0, .string (⟨#[]⟩ : ByteArray)]) (t := 54) ?hr ?_; (case hd => rfl); (case hg => rfl); (case hr => first | (go_simp; done) | (go_simp; rfl)); intro gb106 hg w7 hbox hb; have n0_ := Aside0.mk (below_step (by repeat (first | (with_reducible first | exact HB.out | apply below_alloc | apply pw_below_drewN | apply below_drew1) | exact HB.out)) hb); have n1_ := Aside0.mk (hbox); have n2_ := Aside0.mk ((by rw [hg]; exact (below_size (by repeat (first | (with_reducible first | exact HB.out | apply below_alloc | apply pw_below_drewN | apply below_drew1) | exact HB.out))) : w.heap.size ≤ gb106)); have n3_ := Aside0.mk ((by rw [hg]; exact (below_size (by repeat (first | (with_reducible first | exact HB.out | apply below_alloc | apply pw_below_drewN | apply below_drew1) | exact HB.out))) : w.heap.size ≤ gb106)); clear HB; have HB := n0_; have BK106 := n1_; have GW106 := n2_; have GE106 := n3_; clear n0_ n1_ n2_ n3_; clear hb hbox hg; have hcz8_0 : w7.cell? ⟨gb106, 0, none⟩ = some (.int .i64 0) := (blk_cell BK106.out 0).trans rfl; have hcz8_1 : w7.cell? ⟨gb106, 1, none⟩ = some (.string (⟨#[]⟩ : ByteArray)) := (blk_cell BK106.out 1).trans rfl; have hfz8_0 := blk_frozen BK106.out 0; have hfz8_1 := blk_frozen BK106.out 1))
              go_ret
              exact ⟨by first | rfl | (simp [errW_none, errW_some] <;> rfl) | (simp [*, errW_none, errW_some] <;> rfl), by repeat (first | (with_reducible first | exact HB.out | apply below_alloc | apply pw_below_drewN | apply below_drew1 | refine below_set ?_ GE106.out) | exact HB.out)⟩
            · rw [if_neg c6] at H
              have c6b0 : decide (100 < (((rd_T54 l0 x9_1).f1).size : Int)) = false := decide_eq_false c6
              have c6b1 : decide (100 < ((rd_T54 l0 x9_1).f1).size) = false := decide_eq_false (by omega)
              clear c6
              have H' := Aside0.mk H
              clear H
              have p105 : 0 ≤ (x9_1 : Int) := of_decide_eq_true (by first | (with_reducible assumption) | assumption)
              have q105 : x9_1 < (l0.length : Int) := of_decide_eq_true (by first | (with_reducible assumption) | assumption)
              obtain ⟨ad105, e105, hx105_0, hx105_1⟩ := at_T54 HR0.out x9_1 p105 q105
              cases e105
              replace hx105_0 := (HB.out.cell (World.block_lt_of_cell? w _ hx105_0)).trans hx105_0
              replace hx105_1 := (HB.out.cell (World.block_lt_of_cell? w _ hx105_1)).trans hx105_1
              replace p105 := eq_true p105
              replace q105 := eq_true q105
              go_wp2_with (first | ((with_reducible refine gate_dst (N := 6) rfl ?_); (try (refine gate_guard (by rfl) ?_; dsimp only)); refine box_event ?hg (N := 6) ?hd (cs := #[.int .i64 0, .string (⟨#[]⟩ : ByteArray)]) (t := 54) ?hr ?_; (case hd => rfl); (case hg => rfl); (case hr => first | (go_simp; done) | (go_simp; rfl)); intro gb106 hg w9 hbox hb; have n0_ := Aside0.mk (below_step (by repeat (first | (with_reducible first | exact HB.out | apply below_alloc | apply pw_below_drewN | apply below_drew1) | exact HB.out)) hb); have n1_ := Aside0.mk (hbox); have n2_ := Aside0.mk ((by rw [hg]; exact (below_size (by repeat (first | (with_reducible first | exact HB.out | apply below_alloc | apply pw_below_drewN | apply below_drew1) | exact HB.out))) : w.heap.size ≤ gb106)); have n3_ := Aside0.mk ((by rw [hg]; exact (below_size (by repeat (first | (with_reducible first | exact HB.out | apply below_alloc | apply pw_below_drewN | apply below_drew1) | exact HB.out))) : w.heap.size ≤ gb106)); clear HB; have HB := n0_; have BK106 := n1_; have GW106 := n2_; have GE106 := n3_; clear n0_ n1_ n2_ n3_; clear hb hbox hg; have hcz10_0 : w9.cell? ⟨gb106, 0, none⟩ = some (.int .i64 0) := (blk_cell BK106.out 0).trans rfl; have hcz10_1 : w9.cell? ⟨gb106, 1, none⟩ = some (.string (⟨#[]⟩ : ByteArray)) := (blk_cell BK106.out 1).trans rfl; have hfz10_0 := blk_frozen BK106.out 0; have hfz10_1 := blk_frozen BK106.out 1))
              go_roundg k1
              case measure => have := HK1.out; omega
              case rel => exact ⟨(wrap64 (x9_1 + 1)), (by first | rfl | (simp; done) | (simp [*]; done)), H', ⟨by have := HK1.out; omega⟩, ⟨by repeat (first | (with_reducible first | exact HB.out | apply below_alloc | apply pw_below_drewN | apply below_drew1 | refine below_set ?_ GE106.out) | exact HB.out)⟩⟩
          · rw [if_neg c5] at H
            exact absurd H (by simp)
        · rw [if_neg c4] at H
          exact absurd H (by simp)
      · rw [if_neg c3] at H
        have c3b0 : decide (x9_1 < (l0.length : Int)) = false := decide_eq_false c3
        clear c3
        by_cases c11 : (l0.length : Int) ≤ 30
        · rw [if_pos c11] at H
          have c11b0 : decide ((l0.length : Int) ≤ 30) = true := decide_eq_true c11
          have c11b1 : decide (l0.length ≤ 30) = true := decide_eq_true (by omega)
          clear c11
          obtain rfl := Option.some.inj H
          go_wp2
          go_ret
          exact ⟨by first | rfl | (simp [errW_none, errW_some] <;> rfl) | (simp [*, errW_none, errW_some] <;> rfl), by repeat (first | (with_reducible first | exact HB.out | apply below_alloc | apply pw_below_drewN | apply below_drew1) | exact HB.out)⟩
        · rw [if_neg c11] at H
          have c11b0 : decide ((l0.length : Int) ≤ 30) = false := decide_eq_false c11
          have c11b1 : decide (l0.length ≤ 30) = false := decide_eq_false (by omega)
          clear c11
          obtain rfl := Option.some.inj H
          go_wp2
          go_ret
          exact ⟨by first | rfl | (simp [errW_none, errW_some] <;> rfl) | (simp [*, errW_none, errW_some] <;> rfl), by repeat (first | (with_reducible first | exact HB.out | apply below_alloc | apply pw_below_drewN | apply below_drew1) | exact HB.out)⟩

/-! ### impl_StyleGet: function 29 -/
def impl_StyleGet.toP (x : S54) : Int × ByteArray := (x.f0, x.f1)
theorem impl_StyleGet.partsAt {w : World} {A : Option Addr} {l : List (S54)} (h : Kd.C k54 w A l.length l) : l.map impl_StyleGet.toP ≠ [] → ∃ g o, A = some ⟨g, o, none⟩ ∧ g < w.heap.size ∧ Go.Proofs.YtjemdgmihbmgeaaGreatDoorEnt.PartsAt w g o (l.map impl_StyleGet.toP) := by
  intro hne
  have hpos : 0 < l.length := List.length_pos_iff.2 (fun e => hne (by rw [e]; rfl))
  have key : ∀ (i : Nat) (hi : i < l.length), ∃ ad : Addr, A = some ad ∧ ∀ j u, ([.int .i64 (l[i]).f0, .string (l[i]).f1] : List Value)[j]? = some u → w.cell? (ad.add (i * 2 + j)) = some u := by
    intro i hi
    obtain ⟨ad, c, e, _, hK, hc⟩ := Kd.C_get h z54 (i : Int) (by omega) (by omega)
    have hg : l.getD (i : Int).toNat z54 = l[i] := by
      rw [Int.toNat_natCast, List.getD_eq_getElem?_getD, List.getElem?_eq_getElem hi]; rfl
    rw [hg] at hK
    obtain rfl := k54_open hK
    exact ⟨ad, e, fun j u hu => hc j u hu⟩
  obtain ⟨ad, rfl, hc⟩ := key 0 hpos
  have h0 := hc 0 _ rfl
  have hsp : (ad.add 0).spot = none := World.cell?_spot h0
  obtain ⟨b, o, sp⟩ := ad
  have hsp' : sp = none := by simpa [Addr.add] using hsp
  subst hsp'
  have hadd : ∀ j, (⟨b, o, none⟩ : Addr).add j = ⟨b, o + j, none⟩ := fun j => by unfold Addr.add; split <;> simp_all
  have hlt := World.block_lt_of_cell? w _ h0
  rw [hadd] at hlt
  refine ⟨b, o, rfl, hlt, fun i hi => ?_⟩
  have hi' : i < l.length := by simpa using hi
  obtain ⟨ad, e, hc⟩ := key i hi'
  injection e with e
  subst e
  have c : ∀ j u, ([.int .i64 (l[i]).f0, .string (l[i]).f1] : List Value)[j]? = some u → w.cell? ⟨b, o + i * 2 + j, none⟩ = some u := fun j u hu => by
    have := hc j u hu
    rw [hadd, ← Nat.add_assoc] at this
    exact this
  rw [List.getElem_map]
  exact ⟨c 0 _ rfl, c 1 _ rfl⟩
theorem impl_StyleGet.askAt {w : World} {A : Option Addr} {l : List Int} (h : Kd.C (Kd.int .i64) w A l.length l) : l ≠ [] → ∃ g o, A = some ⟨g, o, none⟩ ∧ g < w.heap.size ∧ Go.Proofs.YtjemdgmihbmgeaaGreatDoorEnt.AskAt w g o l := by
  intro hne
  have hpos : 0 < l.length := List.length_pos_iff.2 hne
  have key : ∀ (i : Nat) (hi : i < l.length), ∃ ad : Addr, A = some ad ∧ w.cell? (ad.add (i * 1 + 0)) = some (.int .i64 l[i]) := by
    intro i hi
    obtain ⟨ad, c, e, _, hK, hc⟩ := Kd.C_get h 0 (i : Int) (by omega) (by omega)
    have hg : l.getD (i : Int).toNat 0 = l[i] := by
      rw [Int.toNat_natCast, List.getD_eq_getElem?_getD, List.getElem?_eq_getElem hi]; rfl
    rw [hg] at hK
    obtain rfl : c = [.int .i64 l[i]] := hK
    exact ⟨ad, e, hc 0 _ rfl⟩
  obtain ⟨ad, rfl, h0⟩ := key 0 hpos
  have hsp : (ad.add (0 * 1 + 0)).spot = none := World.cell?_spot h0
  obtain ⟨b, o, sp⟩ := ad
  have hsp' : sp = none := by simpa [Addr.add] using hsp
  subst hsp'
  have hadd : ∀ j, (⟨b, o, none⟩ : Addr).add j = ⟨b, o + j, none⟩ := fun j => by unfold Addr.add; split <;> simp_all
  have hlt := World.block_lt_of_cell? w _ h0
  rw [hadd] at hlt
  refine ⟨b, o, rfl, hlt, fun i hi => ?_⟩
  obtain ⟨ad, e, hc⟩ := key i hi
  injection e with e
  subst e
  rw [hadd] at hc
  simpa using hc
theorem impl_StyleGet.ft : ∀ (es : List Go.Proofs.YtjemdgmihbmgeaaGreatDoorEnt.Ent) (j : Nat) (hj : j < es.length), ((Go.Proofs.YtjemdgmihbmgeaaGreatDoorEnt.flat es).drop (j * 7)).take 7 = (Go.Proofs.YtjemdgmihbmgeaaGreatDoorEnt.cells es[j]).toList
  | e :: es, 0, hj => by
    have h : Go.Proofs.YtjemdgmihbmgeaaGreatDoorEnt.flat (e :: es) = (Go.Proofs.YtjemdgmihbmgeaaGreatDoorEnt.cells e).toList ++ Go.Proofs.YtjemdgmihbmgeaaGreatDoorEnt.flat es := by simp [Go.Proofs.YtjemdgmihbmgeaaGreatDoorEnt.flat]
    have h7 : (Go.Proofs.YtjemdgmihbmgeaaGreatDoorEnt.cells e).toList.length = 7 := rfl
    rw [h, Nat.zero_mul, List.drop_zero]
    exact List.take_left' h7
  | e :: es, j + 1, hj => by
    have h : Go.Proofs.YtjemdgmihbmgeaaGreatDoorEnt.flat (e :: es) = (Go.Proofs.YtjemdgmihbmgeaaGreatDoorEnt.cells e).toList ++ Go.Proofs.YtjemdgmihbmgeaaGreatDoorEnt.flat es := by simp [Go.Proofs.YtjemdgmihbmgeaaGreatDoorEnt.flat]
    have h7 : (Go.Proofs.YtjemdgmihbmgeaaGreatDoorEnt.cells e).toList.length = 7 := rfl
    rw [h, show (j + 1) * 7 = 7 + j * 7 by omega, ← List.drop_drop, List.drop_left' h7]
    exact impl_StyleGet.ft es j (by simpa using hj)
def impl_StyleGet.ofE (e : Go.Proofs.YtjemdgmihbmgeaaGreatDoorEnt.Ent) : S71 := ⟨e.c, e.b, e.o, e.bo, e.it, e.un, e.ni⟩
theorem impl_StyleGet.row {w : World} {base : Nat} {v : Value} {es : List Go.Proofs.YtjemdgmihbmgeaaGreatDoorEnt.Ent} (ho : w.ownsRow base 71 7 v es.length (Go.Proofs.YtjemdgmihbmgeaaGreatDoorEnt.flat es)) : Kd.R k71 71 w base (fun _ => True) v (es.map impl_StyleGet.ofE) := by
  refine ⟨fun _ _ => trivial, Go.Proofs.YtjemdgmihbmgeaaGreatDoorEnt.flat es, by rw [List.length_map]; exact ho, ?_, fun j p hjp => ?_⟩
  · rw [List.length_map]
    exact ho.1
  · rw [List.getElem?_map] at hjp
    by_cases hj : j < es.length
    · rw [List.getElem?_eq_getElem hj] at hjp
      obtain rfl := Option.some.inj hjp
      have := impl_StyleGet.ft es j hj
      exact this ▸ k71_mkM _ _ _ _
    · rw [List.getElem?_eq_none (by omega)] at hjp; cases hjp
def impl_StyleGet.okP (l : List (S54)) : Bool := decide (l.length ≤ 1000000) && l.all fun x => (Lit.int .i64 x.f0).wf && decide (x.f1.size ≤ 140737488351232)
def impl_StyleGet.okA (l : List Int) : Bool := decide (l.length ≤ 1000000) && l.all fun t => (Lit.int .i64 t).wf
def impl_StyleGet.f (l0 : List (S54)) (l1 : List Int) : Option (List (S71) × Bool) :=
  if impl_StyleGet.okP l0 = true then (if impl_StyleGet.okA l1 = true then (if Go.Proofs.YtjemdgmihbmgeaaGreatDoorEnt.badL (l0.map impl_StyleGet.toP) = true then some ([], false) else some ((l1.map (Go.Proofs.YtjemdgmihbmgeaaGreatDoorEnt.fullS [Go.Proofs.YtjemdgmihbmgeaaGreatDoorEnt.lineE (l0.map impl_StyleGet.toP)])).map impl_StyleGet.ofE, true)) else none) else none
theorem impl_StyleGet.calls (A0 : Option Addr) (c0 : Nat) (l0 : List (S54)) (A1 : Option Addr) (c1 : Nat) (l1 : List Int) (r1 : List (S71)) (r2 : Bool) (w : World) (hr0 : Kd.C k54 w A0 l0.length l0) (hc0 : l0.length ≤ c0) (hr1 : Kd.C (Kd.int .i64) w A1 l1.length l1) (hc1 : l1.length ≤ c1) (hV : Go.Proofs.YtjemdgmihbmgeaaGreatDoorFmt.VarsOK w) (h : impl_StyleGet.f l0 l1 = some (r1, r2)) :
    Calls Tryz.prog 29 #[.slice A0 l0.length c0, .slice A1 l1.length c1] w fun e w' => ∃ v0_ : Value, e = .returned (.tuple #[v0_, .bool r2]) ∧ Kd.R k71 71 w' w.heap.size (fun _ => True) v0_ r1 ∧ Below w.heap.size w w' := by
  unfold impl_StyleGet.f at h
  by_cases hP : impl_StyleGet.okP l0 = true
  · rw [if_pos hP] at h
    by_cases hQ : impl_StyleGet.okA l1 = true
    · rw [if_pos hQ] at h
      unfold impl_StyleGet.okP at hP
      unfold impl_StyleGet.okA at hQ
      rw [Bool.and_eq_true, decide_eq_true_eq, List.all_eq_true] at hP hQ
      have hk : ∀ p ∈ l0.map impl_StyleGet.toP, Go.Proofs.YtjemdgmihbmgeaaGreatDoorMapI.Ok p.1 ∧ p.2.size ≤ 140737488351232 := by
        intro p hp
        obtain ⟨x, hx, rfl⟩ := List.mem_map.1 hp
        have := hP.2 x hx
        rw [Bool.and_eq_true, decide_eq_true_eq] at this
        exact this
      have hc := Go.Proofs.YtjemdgmihbmgeaaGreatDoorEnt.styleGet_c A0 c0 (l0.map impl_StyleGet.toP) (by rw [List.length_map]; exact hP.1) (by rw [List.length_map]; exact hc0) hk A1 c1 l1 hQ.1 hc1 (fun t ht => hQ.2 t ht) w hV (impl_StyleGet.partsAt hr0) (impl_StyleGet.askAt hr1)
      rw [List.length_map] at hc
      refine hc.mono ?_
      rintro x w' ⟨⟨hb, rfl⟩ | ⟨hb, v, rfl, ho⟩, hB⟩
      · rw [if_pos hb] at h
        simp only [Option.some.injEq, Prod.mk.injEq] at h
        obtain ⟨rfl, rfl⟩ := h
        exact ⟨_, rfl, Kd.R_nil _ _ _ _ _, hB⟩
      · rw [if_neg (by rw [hb]; decide)] at h
        simp only [Option.some.injEq, Prod.mk.injEq] at h
        obtain ⟨rfl, rfl⟩ := h
        exact ⟨_, rfl, impl_StyleGet.row (by rw [List.length_map]; exact ho), hB⟩
    · rw [if_neg hQ] at h; cases h
  · rw [if_neg hP] at h; cases h
/-! ### laws_parts: function 9 -/
def laws_parts.toS (x : S54) : S64 := ⟨x.f0, x.f1⟩
def laws_parts.f (l0 : List (S54)) : Option (List (S64)) := if l0.length ≤ 1000000 then some (l0.map laws_parts.toS) else none
theorem laws_parts.calls (A0 : Option Addr) (c0 : Nat) (l0 : List (S54)) (r : List (S64)) (w : World) (hr0 : Kd.C k54 w A0 l0.length l0) (hc0 : l0.length ≤ c0) (h : laws_parts.f l0 = some r) :
    Calls Tryz.prog 9 #[.slice A0 l0.length c0] w fun e w' => ∃ v0_ : Value, e = .returned (v0_) ∧ Kd.R k64 64 w' w.heap.size (fun _ => True) v0_ r ∧ Below w.heap.size w w' := by
  unfold laws_parts.f at h
  by_cases h0 : l0.length ≤ 1000000
  · rw [if_pos h0] at h
    obtain rfl := Option.some.inj h
    have hk := Go.Proofs.YtjemdgmihbmgeaaGreatDoorEnt.lawsParts_c A0 c0 (l0.map impl_StyleGet.toP) (by rw [List.length_map]; exact h0) (by rw [List.length_map]; exact hc0) w (impl_StyleGet.partsAt hr0)
    rw [List.length_map] at hk
    refine hk.mono ?_
    rintro x w' ⟨v, rfl, ho, hb⟩
    refine ⟨v, rfl, ⟨fun _ _ => trivial, Go.Proofs.YtjemdgmihbmgeaaGreatDoorEnt.flatP (l0.map impl_StyleGet.toP), by rw [List.length_map]; exact ho, ?_, fun j p hjp => ?_⟩, hb⟩
    · rw [List.length_map]
      exact ho.1
    · rw [List.getElem?_map] at hjp
      by_cases hj : j < l0.length
      · rw [List.getElem?_eq_getElem hj] at hjp
        obtain rfl := Option.some.inj hjp
        have := Go.Proofs.YtjemdgmihbmgeaaGreatDoorEnt.flatP_get (l0.map impl_StyleGet.toP) j (by rw [List.length_map]; exact hj)
        rw [List.getElem_map] at this
        exact this ▸ k64_mkM _ _ _ _
      · rw [List.getElem?_eq_none (by omega)] at hjp; cases hjp
  · rw [if_neg h0] at h; cases h
/-! ### laws_styled: function 11 -/
def laws_styled.f : Option Bool := some true
theorem laws_styled.calls (r : Bool) (w : World) (hV : Go.Proofs.YtjemdgmihbmgeaaGreatDoorFmt.VarsOK w) (h : laws_styled.f = some r) :
    Calls Tryz.prog 11 #[] w fun e w' => e = .returned (.bool r) ∧ Below w.heap.size w w' := by
  obtain rfl := Option.some.inj h
  exact Go.Proofs.YtjemdgmihbmgeaaGreatDoorEnt.sane w hV
/-! ### spec_StyleTypes: function 17 -/
def spec_StyleTypes.toQ (x : S64) : Int × ByteArray := (x.f0, x.f1)
theorem spec_StyleTypes.partsAt {w : World} {A : Option Addr} {l : List (S64)} (h : Kd.C k64 w A l.length l) : l.map spec_StyleTypes.toQ ≠ [] → ∃ g o, A = some ⟨g, o, none⟩ ∧ g < w.heap.size ∧ Go.Proofs.YtjemdgmihbmgeaaGreatDoorEnt.PartsAt w g o (l.map spec_StyleTypes.toQ) := by
  intro hne
  have hpos : 0 < l.length := List.length_pos_iff.2 (fun e => hne (by rw [e]; rfl))
  have key : ∀ (i : Nat) (hi : i < l.length), ∃ ad : Addr, A = some ad ∧ ∀ j u, ([.int .i64 (l[i]).f0, .string (l[i]).f1] : List Value)[j]? = some u → w.cell? (ad.add (i * 2 + j)) = some u := by
    intro i hi
    obtain ⟨ad, c, e, _, hK, hc⟩ := Kd.C_get h z64 (i : Int) (by omega) (by omega)
    have hg : l.getD (i : Int).toNat z64 = l[i] := by
      rw [Int.toNat_natCast, List.getD_eq_getElem?_getD, List.getElem?_eq_getElem hi]; rfl
    rw [hg] at hK
    obtain rfl := k64_open hK
    exact ⟨ad, e, fun j u hu => hc j u hu⟩
  obtain ⟨ad, rfl, hc⟩ := key 0 hpos
  have h0 := hc 0 _ rfl
  have hsp : (ad.add 0).spot = none := World.cell?_spot h0
  obtain ⟨b, o, sp⟩ := ad
  have hsp' : sp = none := by simpa [Addr.add] using hsp
  subst hsp'
  have hadd : ∀ j, (⟨b, o, none⟩ : Addr).add j = ⟨b, o + j, none⟩ := fun j => by unfold Addr.add; split <;> simp_all
  have hlt := World.block_lt_of_cell? w _ h0
  rw [hadd] at hlt
  refine ⟨b, o, rfl, hlt, fun i hi => ?_⟩
  have hi' : i < l.length := by simpa using hi
  obtain ⟨ad, e, hc⟩ := key i hi'
  injection e with e
  subst e
  have c : ∀ j u, ([.int .i64 (l[i]).f0, .string (l[i]).f1] : List Value)[j]? = some u → w.cell? ⟨b, o + i * 2 + j, none⟩ = some u := fun j u hu => by
    have := hc j u hu
    rw [hadd, ← Nat.add_assoc] at this
    exact this
  rw [List.getElem_map]
  exact ⟨c 0 _ rfl, c 1 _ rfl⟩
def spec_StyleTypes.okQ (l : List (S64)) : Bool := decide (l.length ≤ 1000000) && l.all fun x => decide (x.f1.size ≤ 200)
def spec_StyleTypes.res (r : Int ⊕ Go.Proofs.YtjemdgmihbmgeaaGreatDoorEnt.Lines) : List Int × Bool × Int := match r with
  | .inl n => ([], false, n)
  | .inr ls => (Go.Proofs.YtjemdgmihbmgeaaGreatDoorEnt.typesS ls, true, 1)
def spec_StyleTypes.f (l0 : List (S64)) : Option (List Int × Bool × Int) :=
  if spec_StyleTypes.okQ l0 = true then some (spec_StyleTypes.res (Go.Proofs.YtjemdgmihbmgeaaGreatDoorEnt.madeF (l0.map spec_StyleTypes.toQ) [])) else none
theorem spec_StyleTypes.calls (A0 : Option Addr) (c0 : Nat) (l0 : List (S64)) (r1 : List Int) (r2 : Bool) (r3 : Int) (w : World) (hr0 : Kd.C k64 w A0 l0.length l0) (hc0 : l0.length ≤ c0) (h : spec_StyleTypes.f l0 = some (r1, r2, r3)) :
    Calls Tryz.prog 17 #[.slice A0 l0.length c0] w fun e w' => ∃ v0_ : Value, e = .returned (.tuple #[v0_, .bool r2, .int .i64 r3]) ∧ Kd.R (Kd.int .i64) 3 w' w.heap.size (fun _ => True) v0_ r1 ∧ Below w.heap.size w w' := by
  unfold spec_StyleTypes.f at h
  by_cases hP : spec_StyleTypes.okQ l0 = true
  · rw [if_pos hP] at h
    have h := Option.some.inj h
    unfold spec_StyleTypes.okQ at hP
    rw [Bool.and_eq_true, decide_eq_true_eq, List.all_eq_true] at hP
    have hk : ∀ p ∈ l0.map spec_StyleTypes.toQ, p.2.size ≤ 200 := by
      intro p hp
      obtain ⟨x, hx, rfl⟩ := List.mem_map.1 hp
      exact of_decide_eq_true (hP.2 x hx)
    have hc := Go.Proofs.YtjemdgmihbmgeaaGreatDoorEnt.specTypes_c A0 c0 (l0.map spec_StyleTypes.toQ) (by rw [List.length_map]; exact hP.1) (by rw [List.length_map]; exact hc0) hk w (spec_StyleTypes.partsAt hr0)
    rw [List.length_map] at hc
    refine hc.mono ?_
    rintro x w' ⟨hx, hB⟩
    generalize Go.Proofs.YtjemdgmihbmgeaaGreatDoorEnt.madeF (l0.map spec_StyleTypes.toQ) [] = r at *
    cases r with
    | inl n =>
      have hx : x = _ := hx
      have h : (([], false, n) : List Int × Bool × Int) = (r1, r2, r3) := h
      injection h with h1 h2
      injection h2 with h2 h3
      subst h1; subst h2; subst h3; subst hx
      exact ⟨_, rfl, Kd.R_nil _ _ _ _ _, hB⟩
    | inr ls =>
      have h : ((Go.Proofs.YtjemdgmihbmgeaaGreatDoorEnt.typesS ls, true, 1) : List Int × Bool × Int) = (r1, r2, r3) := h
      obtain ⟨v, hx, hv⟩ := hx
      injection h with h1 h2
      injection h2 with h2 h3
      subst h1; subst h2; subst h3; subst hx
      exact ⟨_, rfl, Kd.R_of_own (enc := Value.int .i64) (h1 := fun _ => rfl) (ok := fun _ => True) hv (fun _ _ => trivial), hB⟩
  · rw [if_neg hP] at h; cases h
/-! ### spec_StyleMode: function 18 -/
def spec_StyleMode.f (l0 : List (S64)) : Option (Int × Int) :=
  if spec_StyleTypes.okQ l0 = true then some (Go.Proofs.YtjemdgmihbmgeaaGreatDoorEnt.SModeR (Go.Proofs.YtjemdgmihbmgeaaGreatDoorEnt.madeF (l0.map spec_StyleTypes.toQ) [])) else none
theorem spec_StyleMode.calls (A0 : Option Addr) (c0 : Nat) (l0 : List (S64)) (r1 r2 : Int) (w : World) (hr0 : Kd.C k64 w A0 l0.length l0) (hc0 : l0.length ≤ c0) (h : spec_StyleMode.f l0 = some (r1, r2)) :
    Calls Tryz.prog 18 #[.slice A0 l0.length c0] w fun e w' => e = .returned (.tuple #[.int .i64 r1, .int .i64 r2]) ∧ Below w.heap.size w w' := by
  unfold spec_StyleMode.f at h
  by_cases hP : spec_StyleTypes.okQ l0 = true
  · rw [if_pos hP] at h
    have h := Option.some.inj h
    unfold spec_StyleTypes.okQ at hP
    rw [Bool.and_eq_true, decide_eq_true_eq, List.all_eq_true] at hP
    have hk : ∀ p ∈ l0.map spec_StyleTypes.toQ, p.2.size ≤ 200 := by
      intro p hp
      obtain ⟨x, hx, rfl⟩ := List.mem_map.1 hp
      exact of_decide_eq_true (hP.2 x hx)
    have hc := Go.Proofs.YtjemdgmihbmgeaaGreatDoorEnt.specMode_c A0 c0 (l0.map spec_StyleTypes.toQ) (by rw [List.length_map]; exact hP.1) (by rw [List.length_map]; exact hc0) hk w (spec_StyleTypes.partsAt hr0)
    rw [List.length_map, h] at hc
    exact hc
  · rw [if_neg hP] at h; cases h
/-! ### laws_sameInts: function 19 -/
def laws_sameInts.l0 : Nat → List Int → List Int → Int → Int → Option (Bool)
  | 0, _, _, _, _ => none
  | k + 1, x0, x1, x12, x13 => if x13 < x12 then (if 0 ≤ x13 then (if x13 < (x0.length : Int) then (if x13 < (x1.length : Int) then (if (rd x0 x13) = (rd x1 x13) then (laws_sameInts.l0 k x0 x1 x12 (wrap64 (x13 + 1))) else (some false)) else (none)) else (none)) else (none)) else (some true)
def laws_sameInts.f (k : Nat) (l0 : List Int) (l1 : List Int) : Option (Bool) := if (l0.length : Int) = (l1.length : Int) then (laws_sameInts.l0 k l0 l1 (l0.length : Int) 0) else (some false)
theorem laws_sameInts.mono_l : ∀ k, (∀ y0 y1 y2 y3, LeO (laws_sameInts.l0 k y0 y1 y2 y3) (laws_sameInts.l0 (k + 1) y0 y1 y2 y3))
  | 0 => fun _ _ _ _ r h => by simp [laws_sameInts.l0] at h
  | k + 1 => by
    have ih0 := laws_sameInts.mono_l k
    · intro y0 y1 y2 y3
      unfold laws_sameInts.l0
      repeat' first
      | (with_reducible exact ih0 _ _ _ _)
      | (with_reducible exact LeO.refl _)
      | (with_reducible exact LeO.none _)
      | (with_reducible refine LeO.ite ?_ ?_)
      | (with_reducible refine LeO.bind ?_ (fun _ => ?_))
      | exact ih0 _ _ _ _
      | exact LeO.none _
      | refine LeO.ite ?_ ?_
      | refine LeO.bind ?_ (fun _ => ?_)
theorem laws_sameInts.mono : ∀ a0 a1 k, LeO (laws_sameInts.f k a0 a1) (laws_sameInts.f (k + 1) a0 a1) := by
  intro a0 a1 k
  have ih0 := laws_sameInts.mono_l k
  unfold laws_sameInts.f
  repeat' first
      | (with_reducible exact ih0 _ _ _ _)
      | (with_reducible exact LeO.refl _)
      | (with_reducible exact LeO.none _)
      | (with_reducible refine LeO.ite ?_ ?_)
      | (with_reducible refine LeO.bind ?_ (fun _ => ?_))
      | exact ih0 _ _ _ _
      | exact LeO.none _
      | refine LeO.ite ?_ ?_
      | refine LeO.bind ?_ (fun _ => ?_)
set_option maxHeartbeats 8000000 in
set_option maxRecDepth 100000 in
theorem laws_sameInts.calls (k : Nat) (A0 : Option Addr) (c0 : Nat) (l0 : List Int) (A1 : Option Addr) (c1 : Nat) (l1 : List Int) (r : Bool) (w : World) (hr0 : Kd.C (Kd.int .i64) w A0 l0.length l0) (hc0 : l0.length ≤ c0) (hr1 : Kd.C (Kd.int .i64) w A1 l1.length l1) (hc1 : l1.length ≤ c1) (h : laws_sameInts.f k l0 l1 = some r) :
    Calls Tryz.prog 19 #[.slice A0 l0.length c0, .slice A1 l1.length c1] w fun e w' => e = .returned (.bool r) ∧ Drawn0 w w' := by
  have HR0 := Aside0.mk hr0
  have HC0 := Aside0.mk hc0
  clear hr0 hc0
  have HR1 := Aside0.mk hr1
  have HC1 := Aside0.mk hc1
  clear hr1 hc1
  have H : (if (l0.length : Int) = (l1.length : Int) then (laws_sameInts.l0 k l0 l1 (l0.length : Int) 0) else (some false)) = some r := h
  clear h
  by_cases c3 : (l0.length : Int) = (l1.length : Int)
  · rw [if_pos c3] at H
    have c3b0 : ((l0.length : Int) == (l1.length : Int)) = true := beq_iff_eq.mpr c3
    have c3b1 : ((l0.length : Int) != (l1.length : Int)) = false := bne_eq_false_iff_eq.mpr c3
    have c3b2 : (l0.length == l1.length) = true := by first | simpa using c3 | (simp at c3 ⊢; omega)
    clear c3
    have H' := Aside0.mk H
    clear H
    go_enter Tryz.func19, Tryz.ntmps19
    go_wp2
    repeat (go_quiet (fail); try go_wp2)
    go_loopg [13] k (fun kq v13 w' => ∃ (x13_1 : Int), v13 = .int .i64 x13_1 ∧ Aside0 (laws_sameInts.l0 kq l0 l1 (l0.length : Int) x13_1 = some r) ∧ Aside0 (kq ≤ k) ∧ Drawn0 w w')
    case atStart => exact ⟨(0), (by first | rfl | (simp; done) | (simp [*]; done)), H', ⟨Nat.le_refl _⟩, by repeat (first | exact Drawn0.refl _ | apply Drawn0.step)⟩
    case round =>
      clear H'
      try clear c1
      try clear p2
      try clear c3
      try clear c3b0
      try clear c3b1
      try clear c3b2
      obtain ⟨x13_1, rfl, HA, HK1, ⟨m1, rfl⟩⟩ := hrel
      cases gk with
      | zero => exact absurd HA.out (by simp [laws_sameInts.l0])
      | succ k1 =>
        have H := HA.out
        clear HA
        simp only [laws_sameInts.l0] at H
        by_cases c4 : x13_1 < (l0.length : Int)
        · rw [if_pos c4] at H
          have c4b0 : decide (x13_1 < (l0.length : Int)) = true := decide_eq_true c4
          clear c4
          by_cases c5 : 0 ≤ x13_1
          · rw [if_pos c5] at H
            have c5b0 : decide (0 ≤ x13_1) = true := decide_eq_true c5
            clear c5
            by_cases c6 : x13_1 < (l0.length : Int)
            · rw [if_pos c6] at H
              have c6b0 : decide (x13_1 < (l0.length : Int)) = true := decide_eq_true c6
              clear c6
              by_cases c7 : x13_1 < (l1.length : Int)
              · rw [if_pos c7] at H
                have c7b0 : decide (x13_1 < (l1.length : Int)) = true := decide_eq_true c7
                clear c7
                by_cases c8 : (rd l0 x13_1) = (rd l1 x13_1)
                · rw [if_pos c8] at H
                  have c8b0 : ((rd l0 x13_1) == (rd l1 x13_1)) = true := beq_iff_eq.mpr c8
                  have c8b1 : ((rd l0 x13_1) != (rd l1 x13_1)) = false := bne_eq_false_iff_eq.mpr c8
                  clear c8
                  have H' := Aside0.mk H
                  clear H
                  have p107 : 0 ≤ (x13_1 : Int) := of_decide_eq_true (by first | (with_reducible assumption) | assumption)
                  have q107 : x13_1 < (l0.length : Int) := of_decide_eq_true (by first | (with_reducible assumption) | assumption)
                  obtain ⟨ad107, e107, hx107_0⟩ := Kd.at_int HR0.out x13_1 p107 q107
                  cases e107
                  replace p107 := eq_true p107
                  replace q107 := eq_true q107
                  have p108 : 0 ≤ (x13_1 : Int) := of_decide_eq_true (by first | (with_reducible assumption) | assumption)
                  have q108 : x13_1 < (l1.length : Int) := of_decide_eq_true (by first | (with_reducible assumption) | assumption)
                  obtain ⟨ad108, e108, hx108_0⟩ := Kd.at_int HR1.out x13_1 p108 q108
                  cases e108
                  replace p108 := eq_true p108
                  replace q108 := eq_true q108
                  go_wp2
                  repeat (go_quiet (fail); try go_wp2)
                  go_roundg k1
                  case measure => have := HK1.out; omega
                  case rel => exact ⟨(wrap64 (x13_1 + 1)), (by first | rfl | (simp; done) | (simp [*]; done)), H', ⟨by have := HK1.out; omega⟩, by repeat (first | exact Drawn0.refl _ | apply Drawn0.step)⟩
                · rw [if_neg c8] at H
                  have c8b0 : ((rd l0 x13_1) == (rd l1 x13_1)) = false := beq_eq_false_iff_ne.mpr c8
                  have c8b1 : ((rd l0 x13_1) != (rd l1 x13_1)) = true := bne_iff_ne.mpr c8
                  obtain rfl := Option.some.inj H
                  have p107 : 0 ≤ (x13_1 : Int) := of_decide_eq_true (by first | (with_reducible assumption) | assumption)
                  have q107 : x13_1 < (l0.length : Int) := of_decide_eq_true (by first | (with_reducible assumption) | assumption)
                  obtain ⟨ad107, e107, hx107_0⟩ := Kd.at_int HR0.out x13_1 p107 q107
                  cases e107
                  replace p107 := eq_true p107
                  replace q107 := eq_true q107
                  have p108 : 0 ≤ (x13_1 : Int) := of_decide_eq_true (by first | (with_reducible assumption) | assumption)
                  have q108 : x13_1 < (l1.length : Int) := of_decide_eq_true (by first | (with_reducible assumption) | assumption)
                  obtain ⟨ad108, e108, hx108_0⟩ := Kd.at_int HR1.out x13_1 p108 q108
                  cases e108
                  replace p108 := eq_true p108
                  replace q108 := eq_true q108
                  go_wp2
                  repeat (go_quiet (fail); try go_wp2)
                  go_ret
                  exact ⟨by first | rfl | (simp; done) | (simp [*]; done), by repeat (first | exact Drawn0.refl _ | apply Drawn0.step)⟩
              · rw [if_neg c7] at H
                exact absurd H (by simp)
            · rw [if_neg c6] at H
              exact absurd H (by simp)
          · rw [if_neg c5] at H
            exact absurd H (by simp)
        · rw [if_neg c4] at H
          have c4b0 : decide (x13_1 < (l0.length : Int)) = false := decide_eq_false c4
          clear c4
          obtain rfl := Option.some.inj H
          go_wp2
          repeat (go_quiet (fail); try go_wp2)
          go_ret
          exact ⟨by first | rfl | (simp; done) | (simp [*]; done), by repeat (first | exact Drawn0.refl _ | apply Drawn0.step)⟩
  · rw [if_neg c3] at H
    have c3b0 : ((l0.length : Int) == (l1.length : Int)) = false := beq_eq_false_iff_ne.mpr c3
    have c3b1 : ((l0.length : Int) != (l1.length : Int)) = true := bne_iff_ne.mpr c3
    have c3b2 : (l0.length == l1.length) = false := by first | simpa using c3 | (simp at c3 ⊢; omega)
    obtain rfl := Option.some.inj H
    go_enter Tryz.func19, Tryz.ntmps19
    go_wp2
    repeat (go_quiet (fail); try go_wp2)
    go_ret
    exact ⟨by first | rfl | (simp; done) | (simp [*]; done), by repeat (first | exact Drawn0.refl _ | apply Drawn0.step)⟩

/-! ### impl_StyleTypes: function 20 -/
def impl_StyleTypes.f (l0 : List (S54)) : Option (List Int) :=
  if impl_StyleGet.okP l0 = true then (if Go.Proofs.YtjemdgmihbmgeaaGreatDoorEnt.badL (l0.map impl_StyleGet.toP) = true then some [] else some (Go.Proofs.YtjemdgmihbmgeaaGreatDoorEnt.typesK ((l0.map impl_StyleGet.toP).map (·.1)))) else none
theorem impl_StyleTypes.calls (A0 : Option Addr) (c0 : Nat) (l0 : List (S54)) (r : List Int) (w : World) (hr0 : Kd.C k54 w A0 l0.length l0) (hc0 : l0.length ≤ c0) (hV : Go.Proofs.YtjemdgmihbmgeaaGreatDoorFmt.VarsOK w) (h : impl_StyleTypes.f l0 = some r) :
    Calls Tryz.prog 20 #[.slice A0 l0.length c0] w fun e w' => ∃ v0_ : Value, e = .returned (v0_) ∧ Kd.R (Kd.int .i64) 3 w' w.heap.size (fun _ => True) v0_ r ∧ Below w.heap.size w w' := by
  unfold impl_StyleTypes.f at h
  by_cases hP : impl_StyleGet.okP l0 = true
  · rw [if_pos hP] at h
    unfold impl_StyleGet.okP at hP
    rw [Bool.and_eq_true, decide_eq_true_eq, List.all_eq_true] at hP
    have hk : ∀ p ∈ l0.map impl_StyleGet.toP, Go.Proofs.YtjemdgmihbmgeaaGreatDoorMapI.Ok p.1 ∧ p.2.size ≤ 140737488351232 := by
      intro p hp
      obtain ⟨x, hx, rfl⟩ := List.mem_map.1 hp
      have := hP.2 x hx
      rw [Bool.and_eq_true, decide_eq_true_eq] at this
      exact this
    have hc := Go.Proofs.YtjemdgmihbmgeaaGreatDoorEnt.styleTypes_c A0 c0 (l0.map impl_StyleGet.toP) (by rw [List.length_map]; exact hP.1) (by rw [List.length_map]; exact hc0) hk w hV (impl_StyleGet.partsAt hr0)
    rw [List.length_map] at hc
    refine hc.mono ?_
    rintro x w' ⟨⟨hb, rfl⟩ | ⟨hb, v, ks, rfl, hks, ho⟩, hB⟩
    · rw [if_pos hb] at h
      obtain rfl := Option.some.inj h
      exact ⟨_, rfl, Kd.R_nil _ _ _ _ _, hB⟩
    · rw [if_neg (by rw [hb]; decide)] at h
      obtain rfl := Option.some.inj h
      rw [Go.Proofs.YtjemdgmihbmgeaaGreatDoorEnt.keys_types hb (fun p hp => (hk p hp).1) hks] at ho
      exact ⟨_, rfl, Kd.R_of_own (enc := Value.int .i64) (h1 := fun _ => rfl) (ok := fun _ => True) ho (fun _ _ => trivial), hB⟩
  · rw [if_neg hP] at h; cases h
/-! ### impl_StyleMode: function 21 -/
def impl_StyleMode.f (l0 : List (S54)) : Option Int :=
  if impl_StyleGet.okP l0 = true then (if Go.Proofs.YtjemdgmihbmgeaaGreatDoorEnt.modeB (Go.Proofs.YtjemdgmihbmgeaaGreatDoorEnt.getS [Go.Proofs.YtjemdgmihbmgeaaGreatDoorEnt.lineE (l0.map impl_StyleGet.toP)] (-1)).b = true then (if Go.Proofs.YtjemdgmihbmgeaaGreatDoorEnt.badL (l0.map impl_StyleGet.toP) = true then some (-1) else some (Go.Proofs.YtjemdgmihbmgeaaGreatDoorEnt.modeS (Go.Proofs.YtjemdgmihbmgeaaGreatDoorEnt.getS [Go.Proofs.YtjemdgmihbmgeaaGreatDoorEnt.lineE (l0.map impl_StyleGet.toP)] (-1)).b).1) else none) else none
theorem impl_StyleMode.calls (A0 : Option Addr) (c0 : Nat) (l0 : List (S54)) (r : Int) (w : World) (hr0 : Kd.C k54 w A0 l0.length l0) (hc0 : l0.length ≤ c0) (hV : Go.Proofs.YtjemdgmihbmgeaaGreatDoorFmt.VarsOK w) (h : impl_StyleMode.f l0 = some r) :
    Calls Tryz.prog 21 #[.slice A0 l0.length c0] w fun e w' => e = .returned (.int .i64 r) ∧ Below w.heap.size w w' := by
  unfold impl_StyleMode.f at h
  by_cases hP : impl_StyleGet.okP l0 = true
  · rw [if_pos hP] at h
    by_cases hQ : Go.Proofs.YtjemdgmihbmgeaaGreatDoorEnt.modeB (Go.Proofs.YtjemdgmihbmgeaaGreatDoorEnt.getS [Go.Proofs.YtjemdgmihbmgeaaGreatDoorEnt.lineE (l0.map impl_StyleGet.toP)] (-1)).b = true
    · rw [if_pos hQ] at h
      unfold impl_StyleGet.okP at hP
      rw [Bool.and_eq_true, decide_eq_true_eq, List.all_eq_true] at hP
      have hk : ∀ p ∈ l0.map impl_StyleGet.toP, Go.Proofs.YtjemdgmihbmgeaaGreatDoorMapI.Ok p.1 ∧ p.2.size ≤ 140737488351232 := by
        intro p hp
        obtain ⟨x, hx, rfl⟩ := List.mem_map.1 hp
        have := hP.2 x hx
        rw [Bool.and_eq_true, decide_eq_true_eq] at this
        exact this
      have hc := Go.Proofs.YtjemdgmihbmgeaaGreatDoorEnt.styleMode_c A0 c0 (l0.map impl_StyleGet.toP) (by rw [List.length_map]; exact hP.1) (by rw [List.length_map]; exact hc0) hk hQ w hV (impl_StyleGet.partsAt hr0)
      rw [List.length_map] at hc
      refine hc.mono ?_
      rintro x w' ⟨⟨hb, rfl⟩ | ⟨hb, rfl⟩, hB⟩
      · rw [if_pos hb] at h
        obtain rfl := Option.some.inj h
        exact ⟨rfl, hB⟩
      · rw [if_neg (by rw [hb]; decide)] at h
        obtain rfl := Option.some.inj h
        exact ⟨rfl, hB⟩
    · rw [if_neg hQ] at h; cases h
  · rw [if_neg hP] at h; cases h

end Go.Proofs.YtjemdgmihbmgeaaGreatDoor.T
