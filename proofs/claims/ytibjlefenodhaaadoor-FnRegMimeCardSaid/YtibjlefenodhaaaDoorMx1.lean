-- WRITTEN BY OUR myprint.py, a program of this session's over the kit's printer
import Derived.Test.YtibjlefenodhaaaDoorMx0
namespace Go.Proofs.YtibjlefenodhaaaDoor.M
open Go.RowKit Go.Proofs.YtibjlefenodhaaaDoorW.PrintWords Go.Proofs.YtibjlefenodhaaaDoorW.PrintLast Go.Proofs.YtibjlefenodhaaaDoorW.PrintMore
attribute [local go_sem] max2_int min2_int max_two min_two max_three min_three max_four min_four   -- for this text's walks alone
set_option linter.unusedVariables false
set_option linter.unusedSimpArgs false

/-! ### laws_zzFits15: function 24 -/
def laws_zzFits15.l0 : Nat → List ByteArray → Int → Int → Option (Bool)
  | 0, _, _, _ => none
  | k + 1, x8, x9, x10 => if x10 < x9 then (if 0 ≤ x10 then (if x10 < (x8.length : Int) then (if ((rdOf ByteArray.empty x8 x10).size : Int) > 2147483647 then (some false) else (laws_zzFits15.l0 k x8 x9 (wrap64 (x10 + 1)))) else (none)) else (none)) else (some true)
def laws_zzFits15.f (k : Nat) (l0 : List ByteArray) : Option (Bool) := if (l0.length : Int) > 2147483647 then (some false) else (laws_zzFits15.l0 k l0 (l0.length : Int) 0)
theorem laws_zzFits15.mono_l : ∀ k, (∀ y0 y1 y2, LeO (laws_zzFits15.l0 k y0 y1 y2) (laws_zzFits15.l0 (k + 1) y0 y1 y2))
  | 0 => fun _ _ _ r h => by simp [laws_zzFits15.l0] at h
  | k + 1 => by
    have ih0 := laws_zzFits15.mono_l k
    · intro y0 y1 y2
      unfold laws_zzFits15.l0
      repeat' first
      | (with_reducible exact ih0 _ _ _)
      | (with_reducible exact LeO.refl _)
      | (with_reducible exact LeO.none _)
      | (with_reducible refine LeO.ite ?_ ?_)
      | (with_reducible refine LeO.bind ?_ (fun _ => ?_))
      | exact ih0 _ _ _
      | exact LeO.none _
      | refine LeO.ite ?_ ?_
      | refine LeO.bind ?_ (fun _ => ?_)
theorem laws_zzFits15.mono : ∀ a0 k, LeO (laws_zzFits15.f k a0) (laws_zzFits15.f (k + 1) a0) := by
  intro a0 k
  have ih0 := laws_zzFits15.mono_l k
  unfold laws_zzFits15.f
  repeat' first
      | (with_reducible exact ih0 _ _ _)
      | (with_reducible exact LeO.refl _)
      | (with_reducible exact LeO.none _)
      | (with_reducible refine LeO.ite ?_ ?_)
      | (with_reducible refine LeO.bind ?_ (fun _ => ?_))
      | exact ih0 _ _ _
      | exact LeO.none _
      | refine LeO.ite ?_ ?_
      | refine LeO.bind ?_ (fun _ => ?_)
set_option maxHeartbeats 8000000 in
set_option maxRecDepth 100000 in
theorem laws_zzFits15.calls (k : Nat) (A0 : Option Addr) (c0 : Nat) (l0 : List ByteArray) (r : Bool) (w : World) (hr0 : Kd.C Kd.string w A0 l0.length l0) (hc0 : l0.length ≤ c0) (h : laws_zzFits15.f k l0 = some r) :
    Calls Tryd.prog 24 #[.slice A0 l0.length c0] w fun e w' => e = .returned (.bool r) ∧ Drawn0 w w' := by
  have HR0 := Aside0.mk hr0
  have HC0 := Aside0.mk hc0
  clear hr0 hc0
  have H : (if (l0.length : Int) > 2147483647 then (some false) else (laws_zzFits15.l0 k l0 (l0.length : Int) 0)) = some r := h
  clear h
  by_cases c2 : (l0.length : Int) > 2147483647
  · rw [if_pos c2] at H
    have c2b0 : decide (2147483647 < (l0.length : Int)) = true := decide_eq_true c2
    have c2b1 : decide (2147483647 < l0.length) = true := decide_eq_true (by omega)
    clear c2
    obtain rfl := Option.some.inj H
    go_enter Tryd.func24, Tryd.ntmps24
    go_wp2
    go_ret
    exact ⟨by first | rfl | (simp; done) | (simp [*]; done), by repeat (first | exact Drawn0.refl _ | apply Drawn0.step)⟩
  · rw [if_neg c2] at H
    have c2b0 : decide (2147483647 < (l0.length : Int)) = false := decide_eq_false c2
    have c2b1 : decide (2147483647 < l0.length) = false := decide_eq_false (by omega)
    clear c2
    have H' := Aside0.mk H
    clear H
    go_enter Tryd.func24, Tryd.ntmps24
    go_wp2
    go_loopg [10] k (fun kq v10 w' => ∃ (x10_1 : Int), v10 = .int .i64 x10_1 ∧ Aside0 (laws_zzFits15.l0 kq l0 (l0.length : Int) x10_1 = some r) ∧ Aside0 (kq ≤ k) ∧ Drawn0 w w')
    case atStart => exact ⟨(0), (by first | rfl | (simp; done) | (simp [*]; done)), H', ⟨Nat.le_refl _⟩, by repeat (first | exact Drawn0.refl _ | apply Drawn0.step)⟩
    case round =>
      clear H'
      try clear c2
      try clear c2b0
      try clear c2b1
      try clear p2
      obtain ⟨x10_1, rfl, HA, HK1, ⟨m1, rfl⟩⟩ := hrel
      cases gk with
      | zero => exact absurd HA.out (by simp [laws_zzFits15.l0])
      | succ k1 =>
        have H := HA.out
        clear HA
        simp only [laws_zzFits15.l0] at H
        by_cases c3 : x10_1 < (l0.length : Int)
        · rw [if_pos c3] at H
          have c3b0 : decide (x10_1 < (l0.length : Int)) = true := decide_eq_true c3
          clear c3
          by_cases c4 : 0 ≤ x10_1
          · rw [if_pos c4] at H
            have c4b0 : decide (0 ≤ x10_1) = true := decide_eq_true c4
            clear c4
            by_cases c5 : x10_1 < (l0.length : Int)
            · rw [if_pos c5] at H
              have c5b0 : decide (x10_1 < (l0.length : Int)) = true := decide_eq_true c5
              clear c5
              by_cases c6 : ((rdOf ByteArray.empty l0 x10_1).size : Int) > 2147483647
              · rw [if_pos c6] at H
                have c6b0 : decide (2147483647 < ((rdOf ByteArray.empty l0 x10_1).size : Int)) = true := decide_eq_true c6
                have c6b1 : decide (2147483647 < (rdOf ByteArray.empty l0 x10_1).size) = true := decide_eq_true (by omega)
                clear c6
                obtain rfl := Option.some.inj H
                have p101 : 0 ≤ (x10_1 : Int) := of_decide_eq_true (by first | (with_reducible assumption) | assumption)
                have q101 : x10_1 < (l0.length : Int) := of_decide_eq_true (by first | (with_reducible assumption) | assumption)
                obtain ⟨ad101, e101, hx101_0⟩ := Kd.at_string HR0.out x10_1 p101 q101
                cases e101
                replace p101 := eq_true p101
                replace q101 := eq_true q101
                go_wp2
                go_ret
                exact ⟨by first | rfl | (simp; done) | (simp [*]; done), by repeat (first | exact Drawn0.refl _ | apply Drawn0.step)⟩
              · rw [if_neg c6] at H
                have c6b0 : decide (2147483647 < ((rdOf ByteArray.empty l0 x10_1).size : Int)) = false := decide_eq_false c6
                have c6b1 : decide (2147483647 < (rdOf ByteArray.empty l0 x10_1).size) = false := decide_eq_false (by omega)
                clear c6
                have H' := Aside0.mk H
                clear H
                have p101 : 0 ≤ (x10_1 : Int) := of_decide_eq_true (by first | (with_reducible assumption) | assumption)
                have q101 : x10_1 < (l0.length : Int) := of_decide_eq_true (by first | (with_reducible assumption) | assumption)
                obtain ⟨ad101, e101, hx101_0⟩ := Kd.at_string HR0.out x10_1 p101 q101
                cases e101
                replace p101 := eq_true p101
                replace q101 := eq_true q101
                go_wp2
                go_roundg k1
                case measure => have := HK1.out; omega
                case rel => exact ⟨(wrap64 (x10_1 + 1)), (by first | rfl | (simp; done) | (simp [*]; done)), H', ⟨by have := HK1.out; omega⟩, by repeat (first | exact Drawn0.refl _ | apply Drawn0.step)⟩
            · rw [if_neg c5] at H
              exact absurd H (by simp)
          · rw [if_neg c4] at H
            exact absurd H (by simp)
        · rw [if_neg c3] at H
          have c3b0 : decide (x10_1 < (l0.length : Int)) = false := decide_eq_false c3
          clear c3
          obtain rfl := Option.some.inj H
          go_wp2
          go_ret
          exact ⟨by first | rfl | (simp; done) | (simp [*]; done), by repeat (first | exact Drawn0.refl _ | apply Drawn0.step)⟩

/-! ### laws_zzFits19: function 16 -/
def laws_zzFits19.f (k : Nat) (a0_0 : ByteArray) (l0_1 : List ByteArray) (l0_2 : List ByteArray) (l0_3 : List ByteArray) (l0_4 : List ByteArray) (a0_5 : Int) : Option (Bool) := if (a0_0.size : Int) > 2147483647 then (some false) else ((laws_zzFits15.f k l0_1).bind fun t103 => (if t103 = true then ((laws_zzFits15.f k l0_2).bind fun t104 => (if t104 = true then ((laws_zzFits15.f k l0_3).bind fun t105 => (if t105 = true then ((laws_zzFits15.f k l0_4).bind fun t106 => (if t106 = true then (some true) else (some false))) else (some false))) else (some false))) else (some false)))
theorem laws_zzFits19.mono : ∀ a0 a1 a2 a3 a4 a5 k, LeO (laws_zzFits19.f k a0 a1 a2 a3 a4 a5) (laws_zzFits19.f (k + 1) a0 a1 a2 a3 a4 a5) := by
  intro a0 a1 a2 a3 a4 a5 k
  unfold laws_zzFits19.f
  repeat' first
      | (with_reducible exact laws_zzFits15.mono _ _)
      | (with_reducible exact LeO.refl _)
      | (with_reducible exact LeO.none _)
      | (with_reducible refine LeO.ite ?_ ?_)
      | (with_reducible refine LeO.bind ?_ (fun _ => ?_))
      | exact laws_zzFits15.mono _ _
      | exact LeO.none _
      | refine LeO.ite ?_ ?_
      | refine LeO.bind ?_ (fun _ => ?_)
set_option maxHeartbeats 8000000 in
set_option maxRecDepth 100000 in
theorem laws_zzFits19.calls (k : Nat) (a0_0 : ByteArray) (A0_1 : Option Addr) (c0_1 : Nat) (l0_1 : List ByteArray) (A0_2 : Option Addr) (c0_2 : Nat) (l0_2 : List ByteArray) (A0_3 : Option Addr) (c0_3 : Nat) (l0_3 : List ByteArray) (A0_4 : Option Addr) (c0_4 : Nat) (l0_4 : List ByteArray) (a0_5 : Int) (r : Bool) (w : World) (hr0_1 : Kd.C Kd.string w A0_1 l0_1.length l0_1) (hc0_1 : l0_1.length ≤ c0_1) (hr0_2 : Kd.C Kd.string w A0_2 l0_2.length l0_2) (hc0_2 : l0_2.length ≤ c0_2) (hr0_3 : Kd.C Kd.string w A0_3 l0_3.length l0_3) (hc0_3 : l0_3.length ≤ c0_3) (hr0_4 : Kd.C Kd.string w A0_4 l0_4.length l0_4) (hc0_4 : l0_4.length ≤ c0_4) (h : laws_zzFits19.f k a0_0 l0_1 l0_2 l0_3 l0_4 a0_5 = some r) :
    Calls Tryd.prog 16 #[.agg #[.string a0_0, .slice A0_1 l0_1.length c0_1, .slice A0_2 l0_2.length c0_2, .slice A0_3 l0_3.length c0_3, .slice A0_4 l0_4.length c0_4, .int .u64 a0_5]] w fun e w' => e = .returned (.bool r) ∧ Below w.heap.size w w' := by
  have hu28 := Tryd.underlying28
  have HR0_1 := Aside0.mk hr0_1
  have HC0_1 := Aside0.mk hc0_1
  clear hr0_1 hc0_1
  have HR0_2 := Aside0.mk hr0_2
  have HC0_2 := Aside0.mk hc0_2
  clear hr0_2 hc0_2
  have HR0_3 := Aside0.mk hr0_3
  have HC0_3 := Aside0.mk hc0_3
  clear hr0_3 hc0_3
  have HR0_4 := Aside0.mk hr0_4
  have HC0_4 := Aside0.mk hc0_4
  clear hr0_4 hc0_4
  have HB := Aside0.mk (Below.refl w.heap.size w)
  have H : (if (a0_0.size : Int) > 2147483647 then (some false) else ((laws_zzFits15.f k l0_1).bind fun t103 => (if t103 = true then ((laws_zzFits15.f k l0_2).bind fun t104 => (if t104 = true then ((laws_zzFits15.f k l0_3).bind fun t105 => (if t105 = true then ((laws_zzFits15.f k l0_4).bind fun t106 => (if t106 = true then (some true) else (some false))) else (some false))) else (some false))) else (some false)))) = some r := h
  clear h
  by_cases c2 : (a0_0.size : Int) > 2147483647
  · rw [if_pos c2] at H
    have c2b0 : decide (2147483647 < (a0_0.size : Int)) = true := decide_eq_true c2
    have c2b1 : decide (2147483647 < a0_0.size) = true := decide_eq_true (by omega)
    clear c2
    obtain rfl := Option.some.inj H
    go_enter Tryd.func16, Tryd.ntmps16
    go_wp2_with (first | ((with_reducible refine gate_dst (N := 1) rfl ?_); refine box_event ?hg (N := 1) ?hd (cs := #[.string a0_0, .slice A0_1 l0_1.length c0_1, .slice A0_2 l0_2.length c0_2, .slice A0_3 l0_3.length c0_3, .slice A0_4 l0_4.length c0_4, .int .u64 a0_5]) (t := 28) ?hr ?_; (case hd => rfl); (case hg => rfl); (case hr => first | (go_simp; done) | (go_simp; rfl)); intro gb102 hg w3 hbox hb; have n0_ := Aside0.mk (below_step (by repeat (first | (with_reducible first | exact HB.out | apply below_alloc | apply pw_below_drewN | apply below_drew1) | exact HB.out)) hb); have n1_ := Aside0.mk (hbox); have n2_ := Aside0.mk ((by rw [hg]; exact (below_size (by repeat (first | (with_reducible first | exact HB.out | apply below_alloc | apply pw_below_drewN | apply below_drew1) | exact HB.out))) : w.heap.size ≤ gb102)); have n3_ := Aside0.mk ((by rw [hg]; exact (below_size (by repeat (first | (with_reducible first | exact HB.out | apply below_alloc | apply pw_below_drewN | apply below_drew1) | exact HB.out))) : w.heap.size ≤ gb102)); clear HB; have HB := n0_; have BK102 := n1_; have GW102 := n2_; have GE102 := n3_; clear n0_ n1_ n2_ n3_; clear hb hbox hg; have hcz4_0 : w3.cell? ⟨gb102, 0, none⟩ = some (.string a0_0) := (blk_cell BK102.out 0).trans rfl; have hcz4_1 : w3.cell? ⟨gb102, 1, none⟩ = some (.slice A0_1 l0_1.length c0_1) := (blk_cell BK102.out 1).trans rfl; have hcz4_2 : w3.cell? ⟨gb102, 2, none⟩ = some (.slice A0_2 l0_2.length c0_2) := (blk_cell BK102.out 2).trans rfl; have hcz4_3 : w3.cell? ⟨gb102, 3, none⟩ = some (.slice A0_3 l0_3.length c0_3) := (blk_cell BK102.out 3).trans rfl; have hcz4_4 : w3.cell? ⟨gb102, 4, none⟩ = some (.slice A0_4 l0_4.length c0_4) := (blk_cell BK102.out 4).trans rfl; have hcz4_5 : w3.cell? ⟨gb102, 5, none⟩ = some (.int .u64 a0_5) := (blk_cell BK102.out 5).trans rfl; have hfz4_0 := blk_frozen BK102.out 0; have hfz4_1 := blk_frozen BK102.out 1; have hfz4_2 := blk_frozen BK102.out 2; have hfz4_3 := blk_frozen BK102.out 3; have hfz4_4 := blk_frozen BK102.out 4; have hfz4_5 := blk_frozen BK102.out 5))
    go_ret
    exact ⟨by first | rfl | (simp [errW_none, errW_some] <;> rfl) | (simp [*, errW_none, errW_some] <;> rfl), by repeat (first | (with_reducible first | exact HB.out | apply below_alloc | apply pw_below_drewN | apply below_drew1 | refine below_set ?_ GE102.out) | exact HB.out)⟩
  · rw [if_neg c2] at H
    have c2b0 : decide (2147483647 < (a0_0.size : Int)) = false := decide_eq_false c2
    have c2b1 : decide (2147483647 < a0_0.size) = false := decide_eq_false (by omega)
    clear c2
    replace H := Option.bind_eq_some_iff.mp H
    obtain ⟨t103, A50, H⟩ := H
    replace H : (if t103 = true then ((laws_zzFits15.f k l0_2).bind fun t104 => (if t104 = true then ((laws_zzFits15.f k l0_3).bind fun t105 => (if t105 = true then ((laws_zzFits15.f k l0_4).bind fun t106 => (if t106 = true then (some true) else (some false))) else (some false))) else (some false))) else (some false)) = some r := H
    have A5 := Aside0.mk A50
    clear A50
    by_cases c6 : t103 = true
    · subst c6
      have H1 : ((laws_zzFits15.f k l0_2).bind fun t104 => (if t104 = true then ((laws_zzFits15.f k l0_3).bind fun t105 => (if t105 = true then ((laws_zzFits15.f k l0_4).bind fun t106 => (if t106 = true then (some true) else (some false))) else (some false))) else (some false))) = some r := by rw [if_pos rfl] at H; exact H
      clear H
      have H := H1
      clear H1
      replace H := Option.bind_eq_some_iff.mp H
      obtain ⟨t104, A70, H⟩ := H
      replace H : (if t104 = true then ((laws_zzFits15.f k l0_3).bind fun t105 => (if t105 = true then ((laws_zzFits15.f k l0_4).bind fun t106 => (if t106 = true then (some true) else (some false))) else (some false))) else (some false)) = some r := H
      have A7 := Aside0.mk A70
      clear A70
      by_cases c8 : t104 = true
      · subst c8
        have H1 : ((laws_zzFits15.f k l0_3).bind fun t105 => (if t105 = true then ((laws_zzFits15.f k l0_4).bind fun t106 => (if t106 = true then (some true) else (some false))) else (some false))) = some r := by rw [if_pos rfl] at H; exact H
        clear H
        have H := H1
        clear H1
        replace H := Option.bind_eq_some_iff.mp H
        obtain ⟨t105, A90, H⟩ := H
        replace H : (if t105 = true then ((laws_zzFits15.f k l0_4).bind fun t106 => (if t106 = true then (some true) else (some false))) else (some false)) = some r := H
        have A9 := Aside0.mk A90
        clear A90
        by_cases c10 : t105 = true
        · subst c10
          have H1 : ((laws_zzFits15.f k l0_4).bind fun t106 => (if t106 = true then (some true) else (some false))) = some r := by rw [if_pos rfl] at H; exact H
          clear H
          have H := H1
          clear H1
          replace H := Option.bind_eq_some_iff.mp H
          obtain ⟨t106, A110, H⟩ := H
          replace H : (if t106 = true then (some true) else (some false)) = some r := H
          have A11 := Aside0.mk A110
          clear A110
          by_cases c12 : t106 = true
          · subst c12
            have H1 : (some true) = some r := by rw [if_pos rfl] at H; exact H
            clear H
            have H := H1
            clear H1
            obtain rfl := Option.some.inj H
            go_enter Tryd.func16, Tryd.ntmps16
            go_wp2_with (first | ((with_reducible refine gate_dst (N := 1) rfl ?_); refine box_event ?hg (N := 1) ?hd (cs := #[.string a0_0, .slice A0_1 l0_1.length c0_1, .slice A0_2 l0_2.length c0_2, .slice A0_3 l0_3.length c0_3, .slice A0_4 l0_4.length c0_4, .int .u64 a0_5]) (t := 28) ?hr ?_; (case hd => rfl); (case hg => rfl); (case hr => first | (go_simp; done) | (go_simp; rfl)); intro gb102 hg w13 hbox hb; have n0_ := Aside0.mk (below_step (by repeat (first | (with_reducible first | exact HB.out | apply below_alloc | apply pw_below_drewN | apply below_drew1) | exact HB.out)) hb); have n1_ := Aside0.mk (hbox); have n2_ := Aside0.mk ((by rw [hg]; exact (below_size (by repeat (first | (with_reducible first | exact HB.out | apply below_alloc | apply pw_below_drewN | apply below_drew1) | exact HB.out))) : w.heap.size ≤ gb102)); have n3_ := Aside0.mk ((by rw [hg]; exact (below_size (by repeat (first | (with_reducible first | exact HB.out | apply below_alloc | apply pw_below_drewN | apply below_drew1) | exact HB.out))) : w.heap.size ≤ gb102)); clear HB; have HB := n0_; have BK102 := n1_; have GW102 := n2_; have GE102 := n3_; clear n0_ n1_ n2_ n3_; clear hb hbox hg; have hcz14_0 : w13.cell? ⟨gb102, 0, none⟩ = some (.string a0_0) := (blk_cell BK102.out 0).trans rfl; have hcz14_1 : w13.cell? ⟨gb102, 1, none⟩ = some (.slice A0_1 l0_1.length c0_1) := (blk_cell BK102.out 1).trans rfl; have hcz14_2 : w13.cell? ⟨gb102, 2, none⟩ = some (.slice A0_2 l0_2.length c0_2) := (blk_cell BK102.out 2).trans rfl; have hcz14_3 : w13.cell? ⟨gb102, 3, none⟩ = some (.slice A0_3 l0_3.length c0_3) := (blk_cell BK102.out 3).trans rfl; have hcz14_4 : w13.cell? ⟨gb102, 4, none⟩ = some (.slice A0_4 l0_4.length c0_4) := (blk_cell BK102.out 4).trans rfl; have hcz14_5 : w13.cell? ⟨gb102, 5, none⟩ = some (.int .u64 a0_5) := (blk_cell BK102.out 5).trans rfl; have hfz14_0 := blk_frozen BK102.out 0; have hfz14_1 := blk_frozen BK102.out 1; have hfz14_2 := blk_frozen BK102.out 2; have hfz14_3 := blk_frozen BK102.out 3; have hfz14_4 := blk_frozen BK102.out 4; have hfz14_5 := blk_frozen BK102.out 5) | ((with_reducible refine gate_callee (f := 24) rfl ?_); refine goesL_ (some 9) rfl rfl Tryd.func24 (by kernel_rfl) rfl #[.slice A0_1 l0_1.length c0_1] rfl (by (try simp only [List.map_toArray, List.map_cons, List.map_nil]); first | done | rfl | (simp only [List.length_drop, List.length_take]; rfl)) ?_; (with_reducible refine (laws_zzFits15.calls k _ _ l0_1 true _ ?side1 ?side2 A5.out).mono ?_); (case side1 => repeat (first | exact (Kd.C_below HR0_1.out HB.out) | (with_reducible refine Kd.C_alloc ?_ _) | (with_reducible refine Kd.C_drewN ?_ _) | (with_reducible refine Kd.C_drew ?_))); (case side2 => exact HC0_1.out); rintro e w' ⟨rfl, ⟨nd, rfl⟩⟩; refine ⟨_, rfl, ?_⟩) | ((with_reducible refine gate_callee (f := 24) rfl ?_); refine goesL_ (some 13) rfl rfl Tryd.func24 (by kernel_rfl) rfl #[.slice A0_2 l0_2.length c0_2] rfl (by (try simp only [List.map_toArray, List.map_cons, List.map_nil]); first | done | rfl | (simp only [List.length_drop, List.length_take]; rfl)) ?_; (with_reducible refine (laws_zzFits15.calls k _ _ l0_2 true _ ?side1 ?side2 A7.out).mono ?_); (case side1 => repeat (first | exact (Kd.C_below HR0_2.out (by repeat (first | (with_reducible first | exact HB.out | apply below_alloc | apply pw_below_drewN | apply below_drew1 | refine below_set ?_ GE102.out) | exact HB.out))) | (with_reducible refine Kd.C_alloc ?_ _) | (with_reducible refine Kd.C_drewN ?_ _) | (with_reducible refine Kd.C_drew ?_))); (case side2 => exact HC0_2.out); rintro e w' ⟨rfl, ⟨nd, rfl⟩⟩; refine ⟨_, rfl, ?_⟩) | ((with_reducible refine gate_callee (f := 24) rfl ?_); refine goesL_ (some 17) rfl rfl Tryd.func24 (by kernel_rfl) rfl #[.slice A0_3 l0_3.length c0_3] rfl (by (try simp only [List.map_toArray, List.map_cons, List.map_nil]); first | done | rfl | (simp only [List.length_drop, List.length_take]; rfl)) ?_; (with_reducible refine (laws_zzFits15.calls k _ _ l0_3 true _ ?side1 ?side2 A9.out).mono ?_); (case side1 => repeat (first | exact (Kd.C_below HR0_3.out (by repeat (first | (with_reducible first | exact HB.out | apply below_alloc | apply pw_below_drewN | apply below_drew1 | refine below_set ?_ GE102.out) | exact HB.out))) | (with_reducible refine Kd.C_alloc ?_ _) | (with_reducible refine Kd.C_drewN ?_ _) | (with_reducible refine Kd.C_drew ?_))); (case side2 => exact HC0_3.out); rintro e w' ⟨rfl, ⟨nd, rfl⟩⟩; refine ⟨_, rfl, ?_⟩) | ((with_reducible refine gate_callee (f := 24) rfl ?_); refine goesL_ (some 21) rfl rfl Tryd.func24 (by kernel_rfl) rfl #[.slice A0_4 l0_4.length c0_4] rfl (by (try simp only [List.map_toArray, List.map_cons, List.map_nil]); first | done | rfl | (simp only [List.length_drop, List.length_take]; rfl)) ?_; (with_reducible refine (laws_zzFits15.calls k _ _ l0_4 true _ ?side1 ?side2 A11.out).mono ?_); (case side1 => repeat (first | exact (Kd.C_below HR0_4.out (by repeat (first | (with_reducible first | exact HB.out | apply below_alloc | apply pw_below_drewN | apply below_drew1 | refine below_set ?_ GE102.out) | exact HB.out))) | (with_reducible refine Kd.C_alloc ?_ _) | (with_reducible refine Kd.C_drewN ?_ _) | (with_reducible refine Kd.C_drew ?_))); (case side2 => exact HC0_4.out); rintro e w' ⟨rfl, ⟨nd, rfl⟩⟩; refine ⟨_, rfl, ?_⟩))
            go_ret
            exact ⟨by first | rfl | (simp [errW_none, errW_some] <;> rfl) | (simp [*, errW_none, errW_some] <;> rfl), by repeat (first | (with_reducible first | exact HB.out | apply below_alloc | apply pw_below_drewN | apply below_drew1 | refine below_set ?_ GE102.out) | exact HB.out)⟩
          · replace c12 := Bool.eq_false_iff.mpr c12
            subst c12
            have H1 : (some false) = some r := by rw [if_neg (show ¬ (false = true) by decide)] at H; exact H
            clear H
            have H := H1
            clear H1
            obtain rfl := Option.some.inj H
            go_enter Tryd.func16, Tryd.ntmps16
            go_wp2_with (first | ((with_reducible refine gate_dst (N := 1) rfl ?_); refine box_event ?hg (N := 1) ?hd (cs := #[.string a0_0, .slice A0_1 l0_1.length c0_1, .slice A0_2 l0_2.length c0_2, .slice A0_3 l0_3.length c0_3, .slice A0_4 l0_4.length c0_4, .int .u64 a0_5]) (t := 28) ?hr ?_; (case hd => rfl); (case hg => rfl); (case hr => first | (go_simp; done) | (go_simp; rfl)); intro gb102 hg w15 hbox hb; have n0_ := Aside0.mk (below_step (by repeat (first | (with_reducible first | exact HB.out | apply below_alloc | apply pw_below_drewN | apply below_drew1) | exact HB.out)) hb); have n1_ := Aside0.mk (hbox); have n2_ := Aside0.mk ((by rw [hg]; exact (below_size (by repeat (first | (with_reducible first | exact HB.out | apply below_alloc | apply pw_below_drewN | apply below_drew1) | exact HB.out))) : w.heap.size ≤ gb102)); have n3_ := Aside0.mk ((by rw [hg]; exact (below_size (by repeat (first | (with_reducible first | exact HB.out | apply below_alloc | apply pw_below_drewN | apply below_drew1) | exact HB.out))) : w.heap.size ≤ gb102)); clear HB; have HB := n0_; have BK102 := n1_; have GW102 := n2_; have GE102 := n3_; clear n0_ n1_ n2_ n3_; clear hb hbox hg; have hcz16_0 : w15.cell? ⟨gb102, 0, none⟩ = some (.string a0_0) := (blk_cell BK102.out 0).trans rfl; have hcz16_1 : w15.cell? ⟨gb102, 1, none⟩ = some (.slice A0_1 l0_1.length c0_1) := (blk_cell BK102.out 1).trans rfl; have hcz16_2 : w15.cell? ⟨gb102, 2, none⟩ = some (.slice A0_2 l0_2.length c0_2) := (blk_cell BK102.out 2).trans rfl; have hcz16_3 : w15.cell? ⟨gb102, 3, none⟩ = some (.slice A0_3 l0_3.length c0_3) := (blk_cell BK102.out 3).trans rfl; have hcz16_4 : w15.cell? ⟨gb102, 4, none⟩ = some (.slice A0_4 l0_4.length c0_4) := (blk_cell BK102.out 4).trans rfl; have hcz16_5 : w15.cell? ⟨gb102, 5, none⟩ = some (.int .u64 a0_5) := (blk_cell BK102.out 5).trans rfl; have hfz16_0 := blk_frozen BK102.out 0; have hfz16_1 := blk_frozen BK102.out 1; have hfz16_2 := blk_frozen BK102.out 2; have hfz16_3 := blk_frozen BK102.out 3; have hfz16_4 := blk_frozen BK102.out 4; have hfz16_5 := blk_frozen BK102.out 5) | ((with_reducible refine gate_callee (f := 24) rfl ?_); refine goesL_ (some 9) rfl rfl Tryd.func24 (by kernel_rfl) rfl #[.slice A0_1 l0_1.length c0_1] rfl (by (try simp only [List.map_toArray, List.map_cons, List.map_nil]); first | done | rfl | (simp only [List.length_drop, List.length_take]; rfl)) ?_; (with_reducible refine (laws_zzFits15.calls k _ _ l0_1 true _ ?side1 ?side2 A5.out).mono ?_); (case side1 => repeat (first | exact (Kd.C_below HR0_1.out HB.out) | (with_reducible refine Kd.C_alloc ?_ _) | (with_reducible refine Kd.C_drewN ?_ _) | (with_reducible refine Kd.C_drew ?_))); (case side2 => exact HC0_1.out); rintro e w' ⟨rfl, ⟨nd, rfl⟩⟩; refine ⟨_, rfl, ?_⟩) | ((with_reducible refine gate_callee (f := 24) rfl ?_); refine goesL_ (some 13) rfl rfl Tryd.func24 (by kernel_rfl) rfl #[.slice A0_2 l0_2.length c0_2] rfl (by (try simp only [List.map_toArray, List.map_cons, List.map_nil]); first | done | rfl | (simp only [List.length_drop, List.length_take]; rfl)) ?_; (with_reducible refine (laws_zzFits15.calls k _ _ l0_2 true _ ?side1 ?side2 A7.out).mono ?_); (case side1 => repeat (first | exact (Kd.C_below HR0_2.out (by repeat (first | (with_reducible first | exact HB.out | apply below_alloc | apply pw_below_drewN | apply below_drew1 | refine below_set ?_ GE102.out) | exact HB.out))) | (with_reducible refine Kd.C_alloc ?_ _) | (with_reducible refine Kd.C_drewN ?_ _) | (with_reducible refine Kd.C_drew ?_))); (case side2 => exact HC0_2.out); rintro e w' ⟨rfl, ⟨nd, rfl⟩⟩; refine ⟨_, rfl, ?_⟩) | ((with_reducible refine gate_callee (f := 24) rfl ?_); refine goesL_ (some 17) rfl rfl Tryd.func24 (by kernel_rfl) rfl #[.slice A0_3 l0_3.length c0_3] rfl (by (try simp only [List.map_toArray, List.map_cons, List.map_nil]); first | done | rfl | (simp only [List.length_drop, List.length_take]; rfl)) ?_; (with_reducible refine (laws_zzFits15.calls k _ _ l0_3 true _ ?side1 ?side2 A9.out).mono ?_); (case side1 => repeat (first | exact (Kd.C_below HR0_3.out (by repeat (first | (with_reducible first | exact HB.out | apply below_alloc | apply pw_below_drewN | apply below_drew1 | refine below_set ?_ GE102.out) | exact HB.out))) | (with_reducible refine Kd.C_alloc ?_ _) | (with_reducible refine Kd.C_drewN ?_ _) | (with_reducible refine Kd.C_drew ?_))); (case side2 => exact HC0_3.out); rintro e w' ⟨rfl, ⟨nd, rfl⟩⟩; refine ⟨_, rfl, ?_⟩) | ((with_reducible refine gate_callee (f := 24) rfl ?_); refine goesL_ (some 21) rfl rfl Tryd.func24 (by kernel_rfl) rfl #[.slice A0_4 l0_4.length c0_4] rfl (by (try simp only [List.map_toArray, List.map_cons, List.map_nil]); first | done | rfl | (simp only [List.length_drop, List.length_take]; rfl)) ?_; (with_reducible refine (laws_zzFits15.calls k _ _ l0_4 false _ ?side1 ?side2 A11.out).mono ?_); (case side1 => repeat (first | exact (Kd.C_below HR0_4.out (by repeat (first | (with_reducible first | exact HB.out | apply below_alloc | apply pw_below_drewN | apply below_drew1 | refine below_set ?_ GE102.out) | exact HB.out))) | (with_reducible refine Kd.C_alloc ?_ _) | (with_reducible refine Kd.C_drewN ?_ _) | (with_reducible refine Kd.C_drew ?_))); (case side2 => exact HC0_4.out); rintro e w' ⟨rfl, ⟨nd, rfl⟩⟩; refine ⟨_, rfl, ?_⟩))
            go_ret
            exact ⟨by first | rfl | (simp [errW_none, errW_some] <;> rfl) | (simp [*, errW_none, errW_some] <;> rfl), by repeat (first | (with_reducible first | exact HB.out | apply below_alloc | apply pw_below_drewN | apply below_drew1 | refine below_set ?_ GE102.out) | exact HB.out)⟩
        · replace c10 := Bool.eq_false_iff.mpr c10
          subst c10
          have H1 : (some false) = some r := by rw [if_neg (show ¬ (false = true) by decide)] at H; exact H
          clear H
          have H := H1
          clear H1
          obtain rfl := Option.some.inj H
          go_enter Tryd.func16, Tryd.ntmps16
          go_wp2_with (first | ((with_reducible refine gate_dst (N := 1) rfl ?_); refine box_event ?hg (N := 1) ?hd (cs := #[.string a0_0, .slice A0_1 l0_1.length c0_1, .slice A0_2 l0_2.length c0_2, .slice A0_3 l0_3.length c0_3, .slice A0_4 l0_4.length c0_4, .int .u64 a0_5]) (t := 28) ?hr ?_; (case hd => rfl); (case hg => rfl); (case hr => first | (go_simp; done) | (go_simp; rfl)); intro gb102 hg w17 hbox hb; have n0_ := Aside0.mk (below_step (by repeat (first | (with_reducible first | exact HB.out | apply below_alloc | apply pw_below_drewN | apply below_drew1) | exact HB.out)) hb); have n1_ := Aside0.mk (hbox); have n2_ := Aside0.mk ((by rw [hg]; exact (below_size (by repeat (first | (with_reducible first | exact HB.out | apply below_alloc | apply pw_below_drewN | apply below_drew1) | exact HB.out))) : w.heap.size ≤ gb102)); have n3_ := Aside0.mk ((by rw [hg]; exact (below_size (by repeat (first | (with_reducible first | exact HB.out | apply below_alloc | apply pw_below_drewN | apply below_drew1) | exact HB.out))) : w.heap.size ≤ gb102)); clear HB; have HB := n0_; have BK102 := n1_; have GW102 := n2_; have GE102 := n3_; clear n0_ n1_ n2_ n3_; clear hb hbox hg; have hcz18_0 : w17.cell? ⟨gb102, 0, none⟩ = some (.string a0_0) := (blk_cell BK102.out 0).trans rfl; have hcz18_1 : w17.cell? ⟨gb102, 1, none⟩ = some (.slice A0_1 l0_1.length c0_1) := (blk_cell BK102.out 1).trans rfl; have hcz18_2 : w17.cell? ⟨gb102, 2, none⟩ = some (.slice A0_2 l0_2.length c0_2) := (blk_cell BK102.out 2).trans rfl; have hcz18_3 : w17.cell? ⟨gb102, 3, none⟩ = some (.slice A0_3 l0_3.length c0_3) := (blk_cell BK102.out 3).trans rfl; have hcz18_4 : w17.cell? ⟨gb102, 4, none⟩ = some (.slice A0_4 l0_4.length c0_4) := (blk_cell BK102.out 4).trans rfl; have hcz18_5 : w17.cell? ⟨gb102, 5, none⟩ = some (.int .u64 a0_5) := (blk_cell BK102.out 5).trans rfl; have hfz18_0 := blk_frozen BK102.out 0; have hfz18_1 := blk_frozen BK102.out 1; have hfz18_2 := blk_frozen BK102.out 2; have hfz18_3 := blk_frozen BK102.out 3; have hfz18_4 := blk_frozen BK102.out 4; have hfz18_5 := blk_frozen BK102.out 5) | ((with_reducible refine gate_callee (f := 24) rfl ?_); refine goesL_ (some 9) rfl rfl Tryd.func24 (by kernel_rfl) rfl #[.slice A0_1 l0_1.length c0_1] rfl (by (try simp only [List.map_toArray, List.map_cons, List.map_nil]); first | done | rfl | (simp only [List.length_drop, List.length_take]; rfl)) ?_; (with_reducible refine (laws_zzFits15.calls k _ _ l0_1 true _ ?side1 ?side2 A5.out).mono ?_); (case side1 => repeat (first | exact (Kd.C_below HR0_1.out HB.out) | (with_reducible refine Kd.C_alloc ?_ _) | (with_reducible refine Kd.C_drewN ?_ _) | (with_reducible refine Kd.C_drew ?_))); (case side2 => exact HC0_1.out); rintro e w' ⟨rfl, ⟨nd, rfl⟩⟩; refine ⟨_, rfl, ?_⟩) | ((with_reducible refine gate_callee (f := 24) rfl ?_); refine goesL_ (some 13) rfl rfl Tryd.func24 (by kernel_rfl) rfl #[.slice A0_2 l0_2.length c0_2] rfl (by (try simp only [List.map_toArray, List.map_cons, List.map_nil]); first | done | rfl | (simp only [List.length_drop, List.length_take]; rfl)) ?_; (with_reducible refine (laws_zzFits15.calls k _ _ l0_2 true _ ?side1 ?side2 A7.out).mono ?_); (case side1 => repeat (first | exact (Kd.C_below HR0_2.out (by repeat (first | (with_reducible first | exact HB.out | apply below_alloc | apply pw_below_drewN | apply below_drew1 | refine below_set ?_ GE102.out) | exact HB.out))) | (with_reducible refine Kd.C_alloc ?_ _) | (with_reducible refine Kd.C_drewN ?_ _) | (with_reducible refine Kd.C_drew ?_))); (case side2 => exact HC0_2.out); rintro e w' ⟨rfl, ⟨nd, rfl⟩⟩; refine ⟨_, rfl, ?_⟩) | ((with_reducible refine gate_callee (f := 24) rfl ?_); refine goesL_ (some 17) rfl rfl Tryd.func24 (by kernel_rfl) rfl #[.slice A0_3 l0_3.length c0_3] rfl (by (try simp only [List.map_toArray, List.map_cons, List.map_nil]); first | done | rfl | (simp only [List.length_drop, List.length_take]; rfl)) ?_; (with_reducible refine (laws_zzFits15.calls k _ _ l0_3 false _ ?side1 ?side2 A9.out).mono ?_); (case side1 => repeat (first | exact (Kd.C_below HR0_3.out (by repeat (first | (with_reducible first | exact HB.out | apply below_alloc | apply pw_below_drewN | apply below_drew1 | refine below_set ?_ GE102.out) | exact HB.out))) | (with_reducible refine Kd.C_alloc ?_ _) | (with_reducible refine Kd.C_drewN ?_ _) | (with_reducible refine Kd.C_drew ?_))); (case side2 => exact HC0_3.out); rintro e w' ⟨rfl, ⟨nd, rfl⟩⟩; refine ⟨_, rfl, ?_⟩))
          go_ret
          exact ⟨by first | rfl | (simp [errW_none, errW_some] <;> rfl) | (simp [*, errW_none, errW_some] <;> rfl), by repeat (first | (with_reducible first | exact HB.out | apply below_alloc | apply pw_below_drewN | apply below_drew1 | refine below_set ?_ GE102.out) | exact HB.out)⟩
      · replace c8 := Bool.eq_false_iff.mpr c8
        subst c8
        have H1 : (some false) = some r := by rw [if_neg (show ¬ (false = true) by decide)] at H; exact H
        clear H
        have H := H1
        clear H1
        obtain rfl := Option.some.inj H
        go_enter Tryd.func16, Tryd.ntmps16
        go_wp2_with (first | ((with_reducible refine gate_dst (N := 1) rfl ?_); refine box_event ?hg (N := 1) ?hd (cs := #[.string a0_0, .slice A0_1 l0_1.length c0_1, .slice A0_2 l0_2.length c0_2, .slice A0_3 l0_3.length c0_3, .slice A0_4 l0_4.length c0_4, .int .u64 a0_5]) (t := 28) ?hr ?_; (case hd => rfl); (case hg => rfl); (case hr => first | (go_simp; done) | (go_simp; rfl)); intro gb102 hg w19 hbox hb; have n0_ := Aside0.mk (below_step (by repeat (first | (with_reducible first | exact HB.out | apply below_alloc | apply pw_below_drewN | apply below_drew1) | exact HB.out)) hb); have n1_ := Aside0.mk (hbox); have n2_ := Aside0.mk ((by rw [hg]; exact (below_size (by repeat (first | (with_reducible first | exact HB.out | apply below_alloc | apply pw_below_drewN | apply below_drew1) | exact HB.out))) : w.heap.size ≤ gb102)); have n3_ := Aside0.mk ((by rw [hg]; exact (below_size (by repeat (first | (with_reducible first | exact HB.out | apply below_alloc | apply pw_below_drewN | apply below_drew1) | exact HB.out))) : w.heap.size ≤ gb102)); clear HB; have HB := n0_; have BK102 := n1_; have GW102 := n2_; have GE102 := n3_; clear n0_ n1_ n2_ n3_; clear hb hbox hg; have hcz20_0 : w19.cell? ⟨gb102, 0, none⟩ = some (.string a0_0) := (blk_cell BK102.out 0).trans rfl; have hcz20_1 : w19.cell? ⟨gb102, 1, none⟩ = some (.slice A0_1 l0_1.length c0_1) := (blk_cell BK102.out 1).trans rfl; have hcz20_2 : w19.cell? ⟨gb102, 2, none⟩ = some (.slice A0_2 l0_2.length c0_2) := (blk_cell BK102.out 2).trans rfl; have hcz20_3 : w19.cell? ⟨gb102, 3, none⟩ = some (.slice A0_3 l0_3.length c0_3) := (blk_cell BK102.out 3).trans rfl; have hcz20_4 : w19.cell? ⟨gb102, 4, none⟩ = some (.slice A0_4 l0_4.length c0_4) := (blk_cell BK102.out 4).trans rfl; have hcz20_5 : w19.cell? ⟨gb102, 5, none⟩ = some (.int .u64 a0_5) := (blk_cell BK102.out 5).trans rfl; have hfz20_0 := blk_frozen BK102.out 0; have hfz20_1 := blk_frozen BK102.out 1; have hfz20_2 := blk_frozen BK102.out 2; have hfz20_3 := blk_frozen BK102.out 3; have hfz20_4 := blk_frozen BK102.out 4; have hfz20_5 := blk_frozen BK102.out 5) | ((with_reducible refine gate_callee (f := 24) rfl ?_); refine goesL_ (some 9) rfl rfl Tryd.func24 (by kernel_rfl) rfl #[.slice A0_1 l0_1.length c0_1] rfl (by (try simp only [List.map_toArray, List.map_cons, List.map_nil]); first | done | rfl | (simp only [List.length_drop, List.length_take]; rfl)) ?_; (with_reducible refine (laws_zzFits15.calls k _ _ l0_1 true _ ?side1 ?side2 A5.out).mono ?_); (case side1 => repeat (first | exact (Kd.C_below HR0_1.out HB.out) | (with_reducible refine Kd.C_alloc ?_ _) | (with_reducible refine Kd.C_drewN ?_ _) | (with_reducible refine Kd.C_drew ?_))); (case side2 => exact HC0_1.out); rintro e w' ⟨rfl, ⟨nd, rfl⟩⟩; refine ⟨_, rfl, ?_⟩) | ((with_reducible refine gate_callee (f := 24) rfl ?_); refine goesL_ (some 13) rfl rfl Tryd.func24 (by kernel_rfl) rfl #[.slice A0_2 l0_2.length c0_2] rfl (by (try simp only [List.map_toArray, List.map_cons, List.map_nil]); first | done | rfl | (simp only [List.length_drop, List.length_take]; rfl)) ?_; (with_reducible refine (laws_zzFits15.calls k _ _ l0_2 false _ ?side1 ?side2 A7.out).mono ?_); (case side1 => repeat (first | exact (Kd.C_below HR0_2.out (by repeat (first | (with_reducible first | exact HB.out | apply below_alloc | apply pw_below_drewN | apply below_drew1 | refine below_set ?_ GE102.out) | exact HB.out))) | (with_reducible refine Kd.C_alloc ?_ _) | (with_reducible refine Kd.C_drewN ?_ _) | (with_reducible refine Kd.C_drew ?_))); (case side2 => exact HC0_2.out); rintro e w' ⟨rfl, ⟨nd, rfl⟩⟩; refine ⟨_, rfl, ?_⟩))
        go_ret
        exact ⟨by first | rfl | (simp [errW_none, errW_some] <;> rfl) | (simp [*, errW_none, errW_some] <;> rfl), by repeat (first | (with_reducible first | exact HB.out | apply below_alloc | apply pw_below_drewN | apply below_drew1 | refine below_set ?_ GE102.out) | exact HB.out)⟩
    · replace c6 := Bool.eq_false_iff.mpr c6
      subst c6
      have H1 : (some false) = some r := by rw [if_neg (show ¬ (false = true) by decide)] at H; exact H
      clear H
      have H := H1
      clear H1
      obtain rfl := Option.some.inj H
      go_enter Tryd.func16, Tryd.ntmps16
      go_wp2_with (first | ((with_reducible refine gate_dst (N := 1) rfl ?_); refine box_event ?hg (N := 1) ?hd (cs := #[.string a0_0, .slice A0_1 l0_1.length c0_1, .slice A0_2 l0_2.length c0_2, .slice A0_3 l0_3.length c0_3, .slice A0_4 l0_4.length c0_4, .int .u64 a0_5]) (t := 28) ?hr ?_; (case hd => rfl); (case hg => rfl); (case hr => first | (go_simp; done) | (go_simp; rfl)); intro gb102 hg w21 hbox hb; have n0_ := Aside0.mk (below_step (by repeat (first | (with_reducible first | exact HB.out | apply below_alloc | apply pw_below_drewN | apply below_drew1) | exact HB.out)) hb); have n1_ := Aside0.mk (hbox); have n2_ := Aside0.mk ((by rw [hg]; exact (below_size (by repeat (first | (with_reducible first | exact HB.out | apply below_alloc | apply pw_below_drewN | apply below_drew1) | exact HB.out))) : w.heap.size ≤ gb102)); have n3_ := Aside0.mk ((by rw [hg]; exact (below_size (by repeat (first | (with_reducible first | exact HB.out | apply below_alloc | apply pw_below_drewN | apply below_drew1) | exact HB.out))) : w.heap.size ≤ gb102)); clear HB; have HB := n0_; have BK102 := n1_; have GW102 := n2_; have GE102 := n3_; clear n0_ n1_ n2_ n3_; clear hb hbox hg; have hcz22_0 : w21.cell? ⟨gb102, 0, none⟩ = some (.string a0_0) := (blk_cell BK102.out 0).trans rfl; have hcz22_1 : w21.cell? ⟨gb102, 1, none⟩ = some (.slice A0_1 l0_1.length c0_1) := (blk_cell BK102.out 1).trans rfl; have hcz22_2 : w21.cell? ⟨gb102, 2, none⟩ = some (.slice A0_2 l0_2.length c0_2) := (blk_cell BK102.out 2).trans rfl; have hcz22_3 : w21.cell? ⟨gb102, 3, none⟩ = some (.slice A0_3 l0_3.length c0_3) := (blk_cell BK102.out 3).trans rfl; have hcz22_4 : w21.cell? ⟨gb102, 4, none⟩ = some (.slice A0_4 l0_4.length c0_4) := (blk_cell BK102.out 4).trans rfl; have hcz22_5 : w21.cell? ⟨gb102, 5, none⟩ = some (.int .u64 a0_5) := (blk_cell BK102.out 5).trans rfl; have hfz22_0 := blk_frozen BK102.out 0; have hfz22_1 := blk_frozen BK102.out 1; have hfz22_2 := blk_frozen BK102.out 2; have hfz22_3 := blk_frozen BK102.out 3; have hfz22_4 := blk_frozen BK102.out 4; have hfz22_5 := blk_frozen BK102.out 5) | ((with_reducible refine gate_callee (f := 24) rfl ?_); refine goesL_ (some 9) rfl rfl Tryd.func24 (by kernel_rfl) rfl #[.slice A0_1 l0_1.length c0_1] rfl (by (try simp only [List.map_toArray, List.map_cons, List.map_nil]); first | done | rfl | (simp only [List.length_drop, List.length_take]; rfl)) ?_; (with_reducible refine (laws_zzFits15.calls k _ _ l0_1 false _ ?side1 ?side2 A5.out).mono ?_); (case side1 => repeat (first | exact (Kd.C_below HR0_1.out HB.out) | (with_reducible refine Kd.C_alloc ?_ _) | (with_reducible refine Kd.C_drewN ?_ _) | (with_reducible refine Kd.C_drew ?_))); (case side2 => exact HC0_1.out); rintro e w' ⟨rfl, ⟨nd, rfl⟩⟩; refine ⟨_, rfl, ?_⟩))
      go_ret
      exact ⟨by first | rfl | (simp [errW_none, errW_some] <;> rfl) | (simp [*, errW_none, errW_some] <;> rfl), by repeat (first | (with_reducible first | exact HB.out | apply below_alloc | apply pw_below_drewN | apply below_drew1 | refine below_set ?_ GE102.out) | exact HB.out)⟩

/-! ### laws_zzFits18: function 6 -/
def laws_zzFits18.l0 : Nat → List (S28) → Int → Int → Option (Bool)
  | 0, _, _, _ => none
  | k + 1, x8, x9, x10 => if x10 < x9 then (if 0 ≤ x10 then (if x10 < (x8.length : Int) then ((laws_zzFits19.f k ((rd_T28 x8 x10).f0) ((rd_T28 x8 x10).f1) ((rd_T28 x8 x10).f2) ((rd_T28 x8 x10).f3) ((rd_T28 x8 x10).f4) ((rd_T28 x8 x10).f5)).bind fun t109 => (if t109 = true then (laws_zzFits18.l0 k x8 x9 (wrap64 (x10 + 1))) else (some false))) else (none)) else (none)) else (some true)
def laws_zzFits18.f (k : Nat) (l0 : List (S28)) : Option (Bool) := if (l0.length : Int) > 2147483647 then (some false) else (laws_zzFits18.l0 k l0 (l0.length : Int) 0)
theorem laws_zzFits18.mono_l : ∀ k, (∀ y0 y1 y2, LeO (laws_zzFits18.l0 k y0 y1 y2) (laws_zzFits18.l0 (k + 1) y0 y1 y2))
  | 0 => fun _ _ _ r h => by simp [laws_zzFits18.l0] at h
  | k + 1 => by
    have ih0 := laws_zzFits18.mono_l k
    · intro y0 y1 y2
      unfold laws_zzFits18.l0
      repeat' first
      | (with_reducible exact ih0 _ _ _)
      | (with_reducible exact laws_zzFits19.mono _ _ _ _ _ _ _)
      | (with_reducible exact LeO.refl _)
      | (with_reducible exact LeO.none _)
      | (with_reducible refine LeO.ite ?_ ?_)
      | (with_reducible refine LeO.bind ?_ (fun _ => ?_))
      | exact ih0 _ _ _
      | exact laws_zzFits19.mono _ _ _ _ _ _ _
      | exact LeO.none _
      | refine LeO.ite ?_ ?_
      | refine LeO.bind ?_ (fun _ => ?_)
theorem laws_zzFits18.mono : ∀ a0 k, LeO (laws_zzFits18.f k a0) (laws_zzFits18.f (k + 1) a0) := by
  intro a0 k
  have ih0 := laws_zzFits18.mono_l k
  unfold laws_zzFits18.f
  repeat' first
      | (with_reducible exact ih0 _ _ _)
      | (with_reducible exact laws_zzFits19.mono _ _ _ _ _ _ _)
      | (with_reducible exact LeO.refl _)
      | (with_reducible exact LeO.none _)
      | (with_reducible refine LeO.ite ?_ ?_)
      | (with_reducible refine LeO.bind ?_ (fun _ => ?_))
      | exact ih0 _ _ _
      | exact laws_zzFits19.mono _ _ _ _ _ _ _
      | exact LeO.none _
      | refine LeO.ite ?_ ?_
      | refine LeO.bind ?_ (fun _ => ?_)
set_option maxHeartbeats 8000000 in
set_option maxRecDepth 100000 in
theorem laws_zzFits18.calls (k : Nat) (A0 : Option Addr) (c0 : Nat) (l0 : List (S28)) (r : Bool) (w : World) (hr0 : Kd.C k28 w A0 l0.length l0) (hc0 : l0.length ≤ c0) (h : laws_zzFits18.f k l0 = some r) :
    Calls Tryd.prog 6 #[.slice A0 l0.length c0] w fun e w' => e = .returned (.bool r) ∧ Below w.heap.size w w' := by
  have hu28 := Tryd.underlying28
  have HR0 := Aside0.mk hr0
  have HC0 := Aside0.mk hc0
  clear hr0 hc0
  have HB := Aside0.mk (Below.refl w.heap.size w)
  have H : (if (l0.length : Int) > 2147483647 then (some false) else (laws_zzFits18.l0 k l0 (l0.length : Int) 0)) = some r := h
  clear h
  by_cases c2 : (l0.length : Int) > 2147483647
  · rw [if_pos c2] at H
    have c2b0 : decide (2147483647 < (l0.length : Int)) = true := decide_eq_true c2
    have c2b1 : decide (2147483647 < l0.length) = true := decide_eq_true (by omega)
    clear c2
    obtain rfl := Option.some.inj H
    go_enter Tryd.func6, Tryd.ntmps6
    go_wp2
    go_ret
    exact ⟨by first | rfl | (simp [errW_none, errW_some] <;> rfl) | (simp [*, errW_none, errW_some] <;> rfl), by repeat (first | (with_reducible first | exact HB.out | apply below_alloc | apply pw_below_drewN | apply below_drew1) | exact HB.out)⟩
  · rw [if_neg c2] at H
    have c2b0 : decide (2147483647 < (l0.length : Int)) = false := decide_eq_false c2
    have c2b1 : decide (2147483647 < l0.length) = false := decide_eq_false (by omega)
    clear c2
    have H' := Aside0.mk H
    clear H
    go_enter Tryd.func6, Tryd.ntmps6
    go_wp2
    go_loopg [10] k (fun kq v10 w' => ∃ (x10_1 : Int), v10 = .int .i64 x10_1 ∧ Aside0 (laws_zzFits18.l0 kq l0 (l0.length : Int) x10_1 = some r) ∧ Aside0 (kq ≤ k) ∧ Aside0 (Below w.heap.size w w'))
    case atStart => exact ⟨(0), (by first | rfl | (simp; done) | (simp [*]; done)), H', ⟨Nat.le_refl _⟩, ⟨by repeat (first | (with_reducible first | exact HB.out | apply below_alloc | apply pw_below_drewN | apply below_drew1) | exact HB.out)⟩⟩
    case round =>
      clear H'
      try clear c2
      try clear c2b0
      try clear c2b1
      try clear p2
      obtain ⟨x10_1, rfl, HA, HK1, HB⟩ := hrel
      cases gk with
      | zero => exact absurd HA.out (by simp [laws_zzFits18.l0])
      | succ k1 =>
        have H := HA.out
        clear HA
        simp only [laws_zzFits18.l0] at H
        by_cases c3 : x10_1 < (l0.length : Int)
        · rw [if_pos c3] at H
          have c3b0 : decide (x10_1 < (l0.length : Int)) = true := decide_eq_true c3
          clear c3
          by_cases c4 : 0 ≤ x10_1
          · rw [if_pos c4] at H
            have c4b0 : decide (0 ≤ x10_1) = true := decide_eq_true c4
            clear c4
            by_cases c5 : x10_1 < (l0.length : Int)
            · rw [if_pos c5] at H
              have c5b0 : decide (x10_1 < (l0.length : Int)) = true := decide_eq_true c5
              clear c5
              replace H := Option.bind_eq_some_iff.mp H
              obtain ⟨t109, A60, H⟩ := H
              replace H : (if t109 = true then (laws_zzFits18.l0 k1 l0 (l0.length : Int) (wrap64 (x10_1 + 1))) else (some false)) = some r := H
              have A6 := Aside0.mk A60
              clear A60
              by_cases c7 : t109 = true
              · subst c7
                have H1 : (laws_zzFits18.l0 k1 l0 (l0.length : Int) (wrap64 (x10_1 + 1))) = some r := by rw [if_pos rfl] at H; exact H
                clear H
                have H := H1
                clear H1
                have H' := Aside0.mk H
                clear H
                have p107 : 0 ≤ (x10_1 : Int) := of_decide_eq_true (by first | (with_reducible assumption) | assumption)
                have q107 : x10_1 < (l0.length : Int) := of_decide_eq_true (by first | (with_reducible assumption) | assumption)
                obtain ⟨ad107, A107_1, c107_1, A107_2, c107_2, A107_3, c107_3, A107_4, c107_4, e107, hx107_0, hx107_1, hx107_2, hx107_3, hx107_4, hx107_5, hl107_1, hi107_1, hl107_2, hi107_2, hl107_3, hi107_3, hl107_4, hi107_4⟩ := at_T28 HR0.out x10_1 p107 q107
                cases e107
                replace hx107_0 := (HB.out.cell (World.block_lt_of_cell? w _ hx107_0)).trans hx107_0
                replace hx107_1 := (HB.out.cell (World.block_lt_of_cell? w _ hx107_1)).trans hx107_1
                replace hx107_2 := (HB.out.cell (World.block_lt_of_cell? w _ hx107_2)).trans hx107_2
                replace hx107_3 := (HB.out.cell (World.block_lt_of_cell? w _ hx107_3)).trans hx107_3
                replace hx107_4 := (HB.out.cell (World.block_lt_of_cell? w _ hx107_4)).trans hx107_4
                replace hx107_5 := (HB.out.cell (World.block_lt_of_cell? w _ hx107_5)).trans hx107_5
                have HR107_1 := Aside0.mk hi107_1
                have HC107_1 := Aside0.mk hl107_1
                clear hi107_1 hl107_1
                have HR107_2 := Aside0.mk hi107_2
                have HC107_2 := Aside0.mk hl107_2
                clear hi107_2 hl107_2
                have HR107_3 := Aside0.mk hi107_3
                have HC107_3 := Aside0.mk hl107_3
                clear hi107_3 hl107_3
                have HR107_4 := Aside0.mk hi107_4
                have HC107_4 := Aside0.mk hl107_4
                clear hi107_4 hl107_4
                replace p107 := eq_true p107
                replace q107 := eq_true q107
                go_wp2_with (first | ((with_reducible refine gate_dst (N := 4) rfl ?_); refine box_event ?hg (N := 4) ?hd (cs := #[.string (⟨#[]⟩ : ByteArray), .slice none 0 0, .slice none 0 0, .slice none 0 0, .slice none 0 0, .int .u64 0]) (t := 28) ?hr ?_; (case hd => rfl); (case hg => rfl); (case hr => first | (go_simp; done) | (go_simp; rfl)); intro gb108 hg w8 hbox hb; have n0_ := Aside0.mk (below_step (by repeat (first | (with_reducible first | exact HB.out | apply below_alloc | apply pw_below_drewN | apply below_drew1) | exact HB.out)) hb); have n1_ := Aside0.mk (hbox); have n2_ := Aside0.mk ((by rw [hg]; exact (below_size (by repeat (first | (with_reducible first | exact HB.out | apply below_alloc | apply pw_below_drewN | apply below_drew1) | exact HB.out))) : w.heap.size ≤ gb108)); have n3_ := Aside0.mk ((by rw [hg]; exact (below_size (by repeat (first | (with_reducible first | exact HB.out | apply below_alloc | apply pw_below_drewN | apply below_drew1) | exact HB.out))) : w.heap.size ≤ gb108)); clear HB; have HB := n0_; have BK108 := n1_; have GW108 := n2_; have GE108 := n3_; clear n0_ n1_ n2_ n3_; clear hb hbox hg; have hcz9_0 : w8.cell? ⟨gb108, 0, none⟩ = some (.string (⟨#[]⟩ : ByteArray)) := (blk_cell BK108.out 0).trans rfl; have hcz9_1 : w8.cell? ⟨gb108, 1, none⟩ = some (.slice none 0 0) := (blk_cell BK108.out 1).trans rfl; have hcz9_2 : w8.cell? ⟨gb108, 2, none⟩ = some (.slice none 0 0) := (blk_cell BK108.out 2).trans rfl; have hcz9_3 : w8.cell? ⟨gb108, 3, none⟩ = some (.slice none 0 0) := (blk_cell BK108.out 3).trans rfl; have hcz9_4 : w8.cell? ⟨gb108, 4, none⟩ = some (.slice none 0 0) := (blk_cell BK108.out 4).trans rfl; have hcz9_5 : w8.cell? ⟨gb108, 5, none⟩ = some (.int .u64 0) := (blk_cell BK108.out 5).trans rfl; have hfz9_0 := blk_frozen BK108.out 0; have hfz9_1 := blk_frozen BK108.out 1; have hfz9_2 := blk_frozen BK108.out 2; have hfz9_3 := blk_frozen BK108.out 3; have hfz9_4 := blk_frozen BK108.out 4; have hfz9_5 := blk_frozen BK108.out 5) | ((with_reducible refine gate_callee (f := 16) rfl ?_); refine goesL_ (some 15) rfl rfl Tryd.func16 (by kernel_rfl) rfl #[.agg #[.string ((rd_T28 l0 x10_1).f0), .slice A107_1 ((rd_T28 l0 x10_1).f1).length c107_1, .slice A107_2 ((rd_T28 l0 x10_1).f2).length c107_2, .slice A107_3 ((rd_T28 l0 x10_1).f3).length c107_3, .slice A107_4 ((rd_T28 l0 x10_1).f4).length c107_4, .int .u64 ((rd_T28 l0 x10_1).f5)]] rfl (by (try simp only [List.map_toArray, List.map_cons, List.map_nil]); first | done | rfl | (simp only [List.length_drop, List.length_take]; rfl)) ?_; (with_reducible refine (laws_zzFits19.calls k1 ((rd_T28 l0 x10_1).f0) _ _ ((rd_T28 l0 x10_1).f1) _ _ ((rd_T28 l0 x10_1).f2) _ _ ((rd_T28 l0 x10_1).f3) _ _ ((rd_T28 l0 x10_1).f4) ((rd_T28 l0 x10_1).f5) true _ ?side1 ?side2 ?side3 ?side4 ?side5 ?side6 ?side7 ?side8 A6.out).mono ?_); (case side1 => exact Kd.C_below HR107_1.out (by repeat (first | (with_reducible first | exact HB.out | apply below_alloc | apply pw_below_drewN | apply below_drew1 | refine below_set ?_ GE108.out) | exact HB.out))); (case side2 => exact HC107_1.out); (case side3 => exact Kd.C_below HR107_2.out (by repeat (first | (with_reducible first | exact HB.out | apply below_alloc | apply pw_below_drewN | apply below_drew1 | refine below_set ?_ GE108.out) | exact HB.out))); (case side4 => exact HC107_2.out); (case side5 => exact Kd.C_below HR107_3.out (by repeat (first | (with_reducible first | exact HB.out | apply below_alloc | apply pw_below_drewN | apply below_drew1 | refine below_set ?_ GE108.out) | exact HB.out))); (case side6 => exact HC107_3.out); (case side7 => exact Kd.C_below HR107_4.out (by repeat (first | (with_reducible first | exact HB.out | apply below_alloc | apply pw_below_drewN | apply below_drew1 | refine below_set ?_ GE108.out) | exact HB.out))); (case side8 => exact HC107_4.out); rintro e w10 ⟨rfl, hb⟩; refine ⟨_, rfl, ?_⟩; have n0_ := Aside0.mk (blk_below (g := gb108) (o := .cells #[.string ((rd_T28 l0 x10_1).f0), .slice A107_1 ((rd_T28 l0 x10_1).f1).length c107_1, .slice A107_2 ((rd_T28 l0 x10_1).f2).length c107_2, .slice A107_3 ((rd_T28 l0 x10_1).f3).length c107_3, .slice A107_4 ((rd_T28 l0 x10_1).f4).length c107_4, .int .u64 ((rd_T28 l0 x10_1).f5)] 28 (0, 0)) (by (with_reducible repeat (first | refine blk_drewN ?_ _ | refine blk_drew ?_ | refine blk_alloc ?_ _)); refine blk_put (cs := #[.string ((rd_T28 l0 x10_1).f0), .slice A107_1 ((rd_T28 l0 x10_1).f1).length c107_1, .slice A107_2 ((rd_T28 l0 x10_1).f2).length c107_2, .slice A107_3 ((rd_T28 l0 x10_1).f3).length c107_3, .slice A107_4 ((rd_T28 l0 x10_1).f4).length c107_4, .int .u64 0]) ?_ 5 _ rfl; (with_reducible repeat (first | refine blk_drewN ?_ _ | refine blk_drew ?_ | refine blk_alloc ?_ _)); refine blk_put (cs := #[.string ((rd_T28 l0 x10_1).f0), .slice A107_1 ((rd_T28 l0 x10_1).f1).length c107_1, .slice A107_2 ((rd_T28 l0 x10_1).f2).length c107_2, .slice A107_3 ((rd_T28 l0 x10_1).f3).length c107_3, .slice none 0 0, .int .u64 0]) ?_ 4 _ rfl; (with_reducible repeat (first | refine blk_drewN ?_ _ | refine blk_drew ?_ | refine blk_alloc ?_ _)); refine blk_put (cs := #[.string ((rd_T28 l0 x10_1).f0), .slice A107_1 ((rd_T28 l0 x10_1).f1).length c107_1, .slice A107_2 ((rd_T28 l0 x10_1).f2).length c107_2, .slice none 0 0, .slice none 0 0, .int .u64 0]) ?_ 3 _ rfl; (with_reducible repeat (first | refine blk_drewN ?_ _ | refine blk_drew ?_ | refine blk_alloc ?_ _)); refine blk_put (cs := #[.string ((rd_T28 l0 x10_1).f0), .slice A107_1 ((rd_T28 l0 x10_1).f1).length c107_1, .slice none 0 0, .slice none 0 0, .slice none 0 0, .int .u64 0]) ?_ 2 _ rfl; (with_reducible repeat (first | refine blk_drewN ?_ _ | refine blk_drew ?_ | refine blk_alloc ?_ _)); refine blk_put (cs := #[.string ((rd_T28 l0 x10_1).f0), .slice none 0 0, .slice none 0 0, .slice none 0 0, .slice none 0 0, .int .u64 0]) ?_ 1 _ rfl; (with_reducible repeat (first | refine blk_drewN ?_ _ | refine blk_drew ?_ | refine blk_alloc ?_ _)); refine blk_put (cs := #[.string (⟨#[]⟩ : ByteArray), .slice none 0 0, .slice none 0 0, .slice none 0 0, .slice none 0 0, .int .u64 0]) ?_ 0 _ rfl; (with_reducible repeat (first | refine blk_drewN ?_ _ | refine blk_drew ?_ | refine blk_alloc ?_ _)); exact BK108.out) hb); have n1_ := Aside0.mk (below_step (by repeat (first | (with_reducible first | exact HB.out | apply below_alloc | apply pw_below_drewN | apply below_drew1 | refine below_set ?_ GE108.out) | exact HB.out)) hb); clear BK108; clear HB; have BK108 := n0_; have HB := n1_; clear n0_ n1_; (try clear hb); (try clear hb2); (try clear hk); (try clear hi)))
                go_roundg k1
                case measure => have := HK1.out; omega
                case rel => exact ⟨(wrap64 (x10_1 + 1)), (by first | rfl | (simp; done) | (simp [*]; done)), H', ⟨by have := HK1.out; omega⟩, ⟨by repeat (first | (with_reducible first | exact HB.out | apply below_alloc | apply pw_below_drewN | apply below_drew1 | refine below_set ?_ GE108.out) | exact HB.out)⟩⟩
              · replace c7 := Bool.eq_false_iff.mpr c7
                subst c7
                have H1 : (some false) = some r := by rw [if_neg (show ¬ (false = true) by decide)] at H; exact H
                clear H
                have H := H1
                clear H1
                obtain rfl := Option.some.inj H
                have p107 : 0 ≤ (x10_1 : Int) := of_decide_eq_true (by first | (with_reducible assumption) | assumption)
                have q107 : x10_1 < (l0.length : Int) := of_decide_eq_true (by first | (with_reducible assumption) | assumption)
                obtain ⟨ad107, A107_1, c107_1, A107_2, c107_2, A107_3, c107_3, A107_4, c107_4, e107, hx107_0, hx107_1, hx107_2, hx107_3, hx107_4, hx107_5, hl107_1, hi107_1, hl107_2, hi107_2, hl107_3, hi107_3, hl107_4, hi107_4⟩ := at_T28 HR0.out x10_1 p107 q107
                cases e107
                replace hx107_0 := (HB.out.cell (World.block_lt_of_cell? w _ hx107_0)).trans hx107_0
                replace hx107_1 := (HB.out.cell (World.block_lt_of_cell? w _ hx107_1)).trans hx107_1
                replace hx107_2 := (HB.out.cell (World.block_lt_of_cell? w _ hx107_2)).trans hx107_2
                replace hx107_3 := (HB.out.cell (World.block_lt_of_cell? w _ hx107_3)).trans hx107_3
                replace hx107_4 := (HB.out.cell (World.block_lt_of_cell? w _ hx107_4)).trans hx107_4
                replace hx107_5 := (HB.out.cell (World.block_lt_of_cell? w _ hx107_5)).trans hx107_5
                have HR107_1 := Aside0.mk hi107_1
                have HC107_1 := Aside0.mk hl107_1
                clear hi107_1 hl107_1
                have HR107_2 := Aside0.mk hi107_2
                have HC107_2 := Aside0.mk hl107_2
                clear hi107_2 hl107_2
                have HR107_3 := Aside0.mk hi107_3
                have HC107_3 := Aside0.mk hl107_3
                clear hi107_3 hl107_3
                have HR107_4 := Aside0.mk hi107_4
                have HC107_4 := Aside0.mk hl107_4
                clear hi107_4 hl107_4
                replace p107 := eq_true p107
                replace q107 := eq_true q107
                go_wp2_with (first | ((with_reducible refine gate_dst (N := 4) rfl ?_); refine box_event ?hg (N := 4) ?hd (cs := #[.string (⟨#[]⟩ : ByteArray), .slice none 0 0, .slice none 0 0, .slice none 0 0, .slice none 0 0, .int .u64 0]) (t := 28) ?hr ?_; (case hd => rfl); (case hg => rfl); (case hr => first | (go_simp; done) | (go_simp; rfl)); intro gb108 hg w11 hbox hb; have n0_ := Aside0.mk (below_step (by repeat (first | (with_reducible first | exact HB.out | apply below_alloc | apply pw_below_drewN | apply below_drew1) | exact HB.out)) hb); have n1_ := Aside0.mk (hbox); have n2_ := Aside0.mk ((by rw [hg]; exact (below_size (by repeat (first | (with_reducible first | exact HB.out | apply below_alloc | apply pw_below_drewN | apply below_drew1) | exact HB.out))) : w.heap.size ≤ gb108)); have n3_ := Aside0.mk ((by rw [hg]; exact (below_size (by repeat (first | (with_reducible first | exact HB.out | apply below_alloc | apply pw_below_drewN | apply below_drew1) | exact HB.out))) : w.heap.size ≤ gb108)); clear HB; have HB := n0_; have BK108 := n1_; have GW108 := n2_; have GE108 := n3_; clear n0_ n1_ n2_ n3_; clear hb hbox hg; have hcz12_0 : w11.cell? ⟨gb108, 0, none⟩ = some (.string (⟨#[]⟩ : ByteArray)) := (blk_cell BK108.out 0).trans rfl; have hcz12_1 : w11.cell? ⟨gb108, 1, none⟩ = some (.slice none 0 0) := (blk_cell BK108.out 1).trans rfl; have hcz12_2 : w11.cell? ⟨gb108, 2, none⟩ = some (.slice none 0 0) := (blk_cell BK108.out 2).trans rfl; have hcz12_3 : w11.cell? ⟨gb108, 3, none⟩ = some (.slice none 0 0) := (blk_cell BK108.out 3).trans rfl; have hcz12_4 : w11.cell? ⟨gb108, 4, none⟩ = some (.slice none 0 0) := (blk_cell BK108.out 4).trans rfl; have hcz12_5 : w11.cell? ⟨gb108, 5, none⟩ = some (.int .u64 0) := (blk_cell BK108.out 5).trans rfl; have hfz12_0 := blk_frozen BK108.out 0; have hfz12_1 := blk_frozen BK108.out 1; have hfz12_2 := blk_frozen BK108.out 2; have hfz12_3 := blk_frozen BK108.out 3; have hfz12_4 := blk_frozen BK108.out 4; have hfz12_5 := blk_frozen BK108.out 5) | ((with_reducible refine gate_callee (f := 16) rfl ?_); refine goesL_ (some 15) rfl rfl Tryd.func16 (by kernel_rfl) rfl #[.agg #[.string ((rd_T28 l0 x10_1).f0), .slice A107_1 ((rd_T28 l0 x10_1).f1).length c107_1, .slice A107_2 ((rd_T28 l0 x10_1).f2).length c107_2, .slice A107_3 ((rd_T28 l0 x10_1).f3).length c107_3, .slice A107_4 ((rd_T28 l0 x10_1).f4).length c107_4, .int .u64 ((rd_T28 l0 x10_1).f5)]] rfl (by (try simp only [List.map_toArray, List.map_cons, List.map_nil]); first | done | rfl | (simp only [List.length_drop, List.length_take]; rfl)) ?_; (with_reducible refine (laws_zzFits19.calls k1 ((rd_T28 l0 x10_1).f0) _ _ ((rd_T28 l0 x10_1).f1) _ _ ((rd_T28 l0 x10_1).f2) _ _ ((rd_T28 l0 x10_1).f3) _ _ ((rd_T28 l0 x10_1).f4) ((rd_T28 l0 x10_1).f5) false _ ?side1 ?side2 ?side3 ?side4 ?side5 ?side6 ?side7 ?side8 A6.out).mono ?_); (case side1 => exact Kd.C_below HR107_1.out (by repeat (first | (with_reducible first | exact HB.out | apply below_alloc | apply pw_below_drewN | apply below_drew1 | refine below_set ?_ GE108.out) | exact HB.out))); (case side2 => exact HC107_1.out); (case side3 => exact Kd.C_below HR107_2.out (by repeat (first | (with_reducible first | exact HB.out | apply below_alloc | apply pw_below_drewN | apply below_drew1 | refine below_set ?_ GE108.out) | exact HB.out))); (case side4 => exact HC107_2.out); (case side5 => exact Kd.C_below HR107_3.out (by repeat (first | (with_reducible first | exact HB.out | apply below_alloc | apply pw_below_drewN | apply below_drew1 | refine below_set ?_ GE108.out) | exact HB.out))); (case side6 => exact HC107_3.out); (case side7 => exact Kd.C_below HR107_4.out (by repeat (first | (with_reducible first | exact HB.out | apply below_alloc | apply pw_below_drewN | apply below_drew1 | refine below_set ?_ GE108.out) | exact HB.out))); (case side8 => exact HC107_4.out); rintro e w13 ⟨rfl, hb⟩; refine ⟨_, rfl, ?_⟩; have n0_ := Aside0.mk (blk_below (g := gb108) (o := .cells #[.string ((rd_T28 l0 x10_1).f0), .slice A107_1 ((rd_T28 l0 x10_1).f1).length c107_1, .slice A107_2 ((rd_T28 l0 x10_1).f2).length c107_2, .slice A107_3 ((rd_T28 l0 x10_1).f3).length c107_3, .slice A107_4 ((rd_T28 l0 x10_1).f4).length c107_4, .int .u64 ((rd_T28 l0 x10_1).f5)] 28 (0, 0)) (by (with_reducible repeat (first | refine blk_drewN ?_ _ | refine blk_drew ?_ | refine blk_alloc ?_ _)); refine blk_put (cs := #[.string ((rd_T28 l0 x10_1).f0), .slice A107_1 ((rd_T28 l0 x10_1).f1).length c107_1, .slice A107_2 ((rd_T28 l0 x10_1).f2).length c107_2, .slice A107_3 ((rd_T28 l0 x10_1).f3).length c107_3, .slice A107_4 ((rd_T28 l0 x10_1).f4).length c107_4, .int .u64 0]) ?_ 5 _ rfl; (with_reducible repeat (first | refine blk_drewN ?_ _ | refine blk_drew ?_ | refine blk_alloc ?_ _)); refine blk_put (cs := #[.string ((rd_T28 l0 x10_1).f0), .slice A107_1 ((rd_T28 l0 x10_1).f1).length c107_1, .slice A107_2 ((rd_T28 l0 x10_1).f2).length c107_2, .slice A107_3 ((rd_T28 l0 x10_1).f3).length c107_3, .slice none 0 0, .int .u64 0]) ?_ 4 _ rfl; (with_reducible repeat (first | refine blk_drewN ?_ _ | refine blk_drew ?_ | refine blk_alloc ?_ _)); refine blk_put (cs := #[.string ((rd_T28 l0 x10_1).f0), .slice A107_1 ((rd_T28 l0 x10_1).f1).length c107_1, .slice A107_2 ((rd_T28 l0 x10_1).f2).length c107_2, .slice none 0 0, .slice none 0 0, .int .u64 0]) ?_ 3 _ rfl; (with_reducible repeat (first | refine blk_drewN ?_ _ | refine blk_drew ?_ | refine blk_alloc ?_ _)); refine blk_put (cs := #[.string ((rd_T28 l0 x10_1).f0), .slice A107_1 ((rd_T28 l0 x10_1).f1).length c107_1, .slice none 0 0, .slice none 0 0, .slice none 0 0, .int .u64 0]) ?_ 2 _ rfl; (with_reducible repeat (first | refine blk_drewN ?_ _ | refine blk_drew ?_ | refine blk_alloc ?_ _)); refine blk_put (cs := #[.string ((rd_T28 l0 x10_1).f0), .slice none 0 0, .slice none 0 0, .slice none 0 0, .slice none 0 0, .int .u64 0]) ?_ 1 _ rfl; (with_reducible repeat (first | refine blk_drewN ?_ _ | refine blk_drew ?_ | refine blk_alloc ?_ _)); refine blk_put (cs := #[.string (⟨#[]⟩ : ByteArray), .slice none 0 0, .slice none 0 0, .slice none 0 0, .slice none 0 0, .int .u64 0]) ?_ 0 _ rfl; (with_reducible repeat (first | refine blk_drewN ?_ _ | refine blk_drew ?_ | refine blk_alloc ?_ _)); exact BK108.out) hb); have n1_ := Aside0.mk (below_step (by repeat (first | (with_reducible first | exact HB.out | apply below_alloc | apply pw_below_drewN | apply below_drew1 | refine below_set ?_ GE108.out) | exact HB.out)) hb); clear BK108; clear HB; have BK108 := n0_; have HB := n1_; clear n0_ n1_; (try clear hb); (try clear hb2); (try clear hk); (try clear hi)))
                go_ret
                exact ⟨by first | rfl | (simp [errW_none, errW_some] <;> rfl) | (simp [*, errW_none, errW_some] <;> rfl), by repeat (first | (with_reducible first | exact HB.out | apply below_alloc | apply pw_below_drewN | apply below_drew1 | refine below_set ?_ GE108.out) | exact HB.out)⟩
            · rw [if_neg c5] at H
              exact absurd H (by simp)
          · rw [if_neg c4] at H
            exact absurd H (by simp)
        · rw [if_neg c3] at H
          have c3b0 : decide (x10_1 < (l0.length : Int)) = false := decide_eq_false c3
          clear c3
          obtain rfl := Option.some.inj H
          go_wp2
          go_ret
          exact ⟨by first | rfl | (simp [errW_none, errW_some] <;> rfl) | (simp [*, errW_none, errW_some] <;> rfl), by repeat (first | (with_reducible first | exact HB.out | apply below_alloc | apply pw_below_drewN | apply below_drew1) | exact HB.out)⟩

/-! ### impl_RegGet: function 8 -/
def impl_RegGet.toI (x : S28) : Go.Proofs.YtibjlefenodhaaaDoorReg.I := ⟨x.f0, x.f1, x.f2, x.f3, x.f4, x.f5⟩
theorem impl_RegGet.infos {w : World} {A : Option Addr} {xs : List (S28)} (h : Kd.C k28 w A xs.length xs) : Kd.C Go.Proofs.YtibjlefenodhaaaDoor.T.k28 w A (xs.map impl_RegGet.toI).length (xs.map impl_RegGet.toI) := by
  rw [List.length_map]
  refine Go.Proofs.YtibjlefenodhaaaDoorReg.C_unmap ?_
  rw [List.map_map]
  exact Go.Proofs.YtibjlefenodhaaaDoorReg.C_map h
def impl_RegGet.f (l0 : List (S28)) (a1 : ByteArray) : Option Int := Go.Proofs.YtibjlefenodhaaaDoorReg.rgF (l0.map impl_RegGet.toI) a1
theorem impl_RegGet.calls (A0 : Option Addr) (c0 : Nat) (l0 : List (S28)) (a1 : ByteArray) (r : Int) (w : World) (hr0 : Kd.C k28 w A0 l0.length l0) (hc0 : l0.length ≤ c0) (hV : Go.Proofs.YtibjlefenodhaaaDoorFmt.VarsOK w) (h : impl_RegGet.f l0 a1 = some r) :
    Calls Tryd.prog 8 #[.slice A0 l0.length c0, .string a1] w fun e w' => e = .returned (.int .i64 r) ∧ Below w.heap.size w w' := by
  have hk := Go.Proofs.YtibjlefenodhaaaDoorReg.rgF_calls A0 c0 (l0.map impl_RegGet.toI) a1 r w (impl_RegGet.infos hr0) (by rw [List.length_map]; exact hc0) h
  rw [List.length_map] at hk
  exact hk
/-! ### laws_registered: function 7 -/
def laws_registered.f (l0 : List (S28)) : Option Bool := Go.Proofs.YtibjlefenodhaaaDoorReg.roF (l0.map impl_RegGet.toI)
theorem laws_registered.calls (A0 : Option Addr) (c0 : Nat) (l0 : List (S28)) (r : Bool) (w : World) (hr0 : Kd.C k28 w A0 l0.length l0) (hc0 : l0.length ≤ c0) (h : laws_registered.f l0 = some r) :
    Calls Tryd.prog 7 #[.slice A0 l0.length c0] w fun e w' => e = .returned (.bool r) ∧ Below w.heap.size w w' := by
  have hk := Go.Proofs.YtibjlefenodhaaaDoorReg.roF_calls A0 c0 (l0.map impl_RegGet.toI) r w (impl_RegGet.infos hr0) (by rw [List.length_map]; exact hc0) h
  rw [List.length_map] at hk
  exact hk
/-! ### laws_turned: function 9 -/
def laws_turned.f (a0 : ByteArray) (l1 : List Bool) : Option ByteArray := Go.Proofs.YtibjlefenodhaaaDoorReg.tuF a0 l1
theorem laws_turned.calls (a0 : ByteArray) (A1 : Option Addr) (c1 : Nat) (l1 : List Bool) (r : ByteArray) (w : World) (hr1 : Kd.C Kd.bool w A1 l1.length l1) (hc1 : l1.length ≤ c1) (h : laws_turned.f a0 l1 = some r) :
    Calls Tryd.prog 9 #[.string a0, .slice A1 l1.length c1] w fun e w' => e = .returned (.string r) ∧ Below w.heap.size w w' :=
  Go.Proofs.YtibjlefenodhaaaDoorReg.tuF_calls a0 A1 c1 l1 r w hr1 h

/-! ### laws_found: function 10 -/
def laws_found.f  : Option (Bool) := (some (([(⟨(⟨#[97, 100, 97]⟩ : ByteArray), ([] : List ByteArray), ([] : List ByteArray), ([] : List ByteArray), ([] : List ByteArray), 0⟩ : S28), (⟨(⟨#[98, 97, 115, 105, 99]⟩ : ByteArray), (([(⟨#[98, 97, 115]⟩ : ByteArray)] : List ByteArray)), ([] : List ByteArray), ([] : List ByteArray), ([] : List ByteArray), 0⟩ : S28)] : List (S28)) : List (S28))).bind fun y113 => ((impl_RegGet.f y113 (⟨#[98, 97, 115]⟩ : ByteArray)).bind fun t116 => (if t116 = 1 then ((impl_RegGet.f y113 (⟨#[97, 100, 97]⟩ : ByteArray)).bind fun t117 => (some (t117 == 0))) else (some false)))
set_option maxHeartbeats 8000000 in
set_option maxRecDepth 100000 in
theorem laws_found.calls  (r : Bool) (w : World) (hV : Go.Proofs.YtibjlefenodhaaaDoorFmt.VarsOK w) (h : laws_found.f  = some r) :
    Calls Tryd.prog 10 #[] w fun e w' => e = .returned (.bool r) ∧ Below w.heap.size w w' := by
  have hu28 := Tryd.underlying28
  have HB := Aside0.mk (Below.refl w.heap.size w)
  have HV := Aside0.mk hV
  clear hV
  have H : ((some (([(⟨(⟨#[97, 100, 97]⟩ : ByteArray), ([] : List ByteArray), ([] : List ByteArray), ([] : List ByteArray), ([] : List ByteArray), 0⟩ : S28), (⟨(⟨#[98, 97, 115, 105, 99]⟩ : ByteArray), (([(⟨#[98, 97, 115]⟩ : ByteArray)] : List ByteArray)), ([] : List ByteArray), ([] : List ByteArray), ([] : List ByteArray), 0⟩ : S28)] : List (S28)) : List (S28))).bind fun y113 => ((impl_RegGet.f y113 (⟨#[98, 97, 115]⟩ : ByteArray)).bind fun t116 => (if t116 = 1 then ((impl_RegGet.f y113 (⟨#[97, 100, 97]⟩ : ByteArray)).bind fun t117 => (some (t117 == 0))) else (some false)))) = some r := h
  clear h
  obtain ⟨y110, hy110⟩ : ∃ y_ : List ByteArray, y_ = (([(⟨#[98, 97, 115]⟩ : ByteArray)] : List ByteArray)) := ⟨_, rfl⟩
  replace H : ((some (([(⟨(⟨#[97, 100, 97]⟩ : ByteArray), ([] : List ByteArray), ([] : List ByteArray), ([] : List ByteArray), ([] : List ByteArray), 0⟩ : S28), (⟨(⟨#[98, 97, 115, 105, 99]⟩ : ByteArray), y110, ([] : List ByteArray), ([] : List ByteArray), ([] : List ByteArray), 0⟩ : S28)] : List (S28)) : List (S28))).bind fun y113 => ((impl_RegGet.f y113 (⟨#[98, 97, 115]⟩ : ByteArray)).bind fun t116 => (if t116 = 1 then ((impl_RegGet.f y113 (⟨#[97, 100, 97]⟩ : ByteArray)).bind fun t117 => (some (t117 == 0))) else (some false)))) = some r := by first | (rw [hy110]; with_reducible exact H) | (have H2_ := (Option.bind_some _ _).symm.trans H; rw [hy110]; with_reducible exact H2_) | (have H2_ := (Option.bind_some _ _).symm.trans H; with_reducible exact H2_) | with_reducible exact H | (rw [hy110]; exact H) | exact H
  have Ny110 := Aside0.mk hy110
  clear hy110
  obtain ⟨y113, hy113⟩ : ∃ y_ : List (S28), y_ = (([(⟨(⟨#[97, 100, 97]⟩ : ByteArray), ([] : List ByteArray), ([] : List ByteArray), ([] : List ByteArray), ([] : List ByteArray), 0⟩ : S28), (⟨(⟨#[98, 97, 115, 105, 99]⟩ : ByteArray), y110, ([] : List ByteArray), ([] : List ByteArray), ([] : List ByteArray), 0⟩ : S28)] : List (S28))) := ⟨_, rfl⟩
  replace H : ((impl_RegGet.f y113 (⟨#[98, 97, 115]⟩ : ByteArray)).bind fun t116 => (if t116 = 1 then ((impl_RegGet.f y113 (⟨#[97, 100, 97]⟩ : ByteArray)).bind fun t117 => (some (t117 == 0))) else (some false))) = some r := by first | (rw [hy113]; with_reducible exact H) | (have H2_ := (Option.bind_some _ _).symm.trans H; rw [hy113]; with_reducible exact H2_) | (have H2_ := (Option.bind_some _ _).symm.trans H; with_reducible exact H2_) | with_reducible exact H | (rw [hy113]; exact H) | exact H
  have Ny113 := Aside0.mk hy113
  clear hy113
  replace H := Option.bind_eq_some_iff.mp H
  obtain ⟨t116, A10, H⟩ := H
  replace H : (if t116 = 1 then ((impl_RegGet.f y113 (⟨#[97, 100, 97]⟩ : ByteArray)).bind fun t117 => (some (t117 == 0))) else (some false)) = some r := H
  have A1 := Aside0.mk A10
  clear A10
  by_cases c2 : t116 = 1
  · rw [if_pos c2] at H
    have c2b0 : (t116 == 1) = true := beq_iff_eq.mpr c2
    have c2b1 : (t116 != 1) = false := bne_eq_false_iff_eq.mpr c2
    clear c2
    replace H := Option.bind_eq_some_iff.mp H
    obtain ⟨t117, A30, H⟩ := H
    replace H : (some (t117 == 0)) = some r := H
    have A3 := Aside0.mk A30
    clear A30
    obtain rfl := Option.some.inj H
    go_enter Tryd.func10, Tryd.ntmps10
    go_wp2_with (first | ((with_reducible refine gate_dst (N := 3) rfl ?_); refine Kd.R_lit Kd.string _ 9 ?hg (N := 3) ?hd (xs := ([(⟨#[98, 97, 115]⟩ : ByteArray)] : List ByteArray)) (inner := [.string (⟨#[98, 97, 115]⟩ : ByteArray)]) (ok := fun _ => True) (okp := fun _ => True) ?hr ?hp (fun _ hk => hk) trivial (Below.refl _ _) (Nat.le_refl _) (by simp) ?_; (case hd => rfl); (case hg => rfl); (case hr => first | (go_simp; done) | (go_simp; rfl)); (case hp => exact (Reps.one (show Kd.M Kd.string _ _ _ (⟨#[98, 97, 115]⟩ : ByteArray) [.string (⟨#[98, 97, 115]⟩ : ByteArray)] from rfl) (Reps.none _ _))); intro v111 w4 ho5 hb hg_ hnew_; clear hg_ hnew_; (first | rw [← Ny110.out] at ho5 | (simp only [Int.reduceToNat] at ho5; rw [← Ny110.out] at ho5)); have n0_ := Aside0.mk (Kd.R_lower ho5 (below_size (by repeat (first | (with_reducible first | exact HB.out | apply below_alloc | apply pw_below_drewN | apply below_drew1) | exact HB.out)))); have n1_ := Aside0.mk (below_step (by repeat (first | (with_reducible first | exact HB.out | apply below_alloc | apply pw_below_drewN | apply below_drew1) | exact HB.out)) hb); clear HB; have HO112 := n0_; have HB := n1_; clear n0_ n1_; clear hb ho5; obtain ⟨Ao6, co6, eo6⟩ := Kd.R_slice HO112.out; subst eo6) | ((with_reducible refine gate_dst (N := 5) rfl ?_); refine Kd.N_lit k28 _ 28 ?hg (N' := 5) ?hd (xs := ([(⟨(⟨#[97, 100, 97]⟩ : ByteArray), ([] : List ByteArray), ([] : List ByteArray), ([] : List ByteArray), ([] : List ByteArray), 0⟩ : S28), (⟨(⟨#[98, 97, 115, 105, 99]⟩ : ByteArray), y110, ([] : List ByteArray), ([] : List ByteArray), ([] : List ByteArray), 0⟩ : S28)] : List (S28))) (inner := [.string (⟨#[97, 100, 97]⟩ : ByteArray), .slice none 0 0, .slice none 0 0, .slice none 0 0, .slice none 0 0, .int .u64 0, .string (⟨#[98, 97, 115, 105, 99]⟩ : ByteArray), .slice Ao6 y110.length co6, .slice none 0 0, .slice none 0 0, .slice none 0 0, .int .u64 0]) (ok := (fun _ => True)) (okp := (fun _ => True)) ?hr ?hp (fun _ hk => hk) ((show ∀ k_, w4.heap.size ≤ k_ → (fun _ => True) k_ from fun k_ hk => trivial) _ (Nat.le_refl _)) (Below.refl _ _) (Nat.le_refl _) (by simp) ?_; (case hd => rfl); (case hg => rfl); (case hr => first | (go_simp; done) | (go_simp; rfl)); (case hp => exact (Reps.c6 (show Kd.FK k28 _ _ (⟨(⟨#[97, 100, 97]⟩ : ByteArray), ([] : List ByteArray), ([] : List ByteArray), ([] : List ByteArray), ([] : List ByteArray), 0⟩ : S28) [.string (⟨#[97, 100, 97]⟩ : ByteArray), .slice none 0 0, .slice none 0 0, .slice none 0 0, .slice none 0 0, .int .u64 0] from (k28_mkF _ _ (⟨(⟨#[97, 100, 97]⟩ : ByteArray), ([] : List ByteArray), ([] : List ByteArray), ([] : List ByteArray), ([] : List ByteArray), 0⟩ : S28) (Nat.le_refl _) (Kd.F_nil _ _ _) (Nat.le_refl _) (Kd.F_nil _ _ _) (Nat.le_refl _) (Kd.F_nil _ _ _) (Nat.le_refl _) (Kd.F_nil _ _ _))) (Reps.c6 (show Kd.FK k28 _ _ (⟨(⟨#[98, 97, 115, 105, 99]⟩ : ByteArray), y110, ([] : List ByteArray), ([] : List ByteArray), ([] : List ByteArray), 0⟩ : S28) [.string (⟨#[98, 97, 115, 105, 99]⟩ : ByteArray), .slice Ao6 y110.length co6, .slice none 0 0, .slice none 0 0, .slice none 0 0, .int .u64 0] from (k28_mkF _ _ (⟨(⟨#[98, 97, 115, 105, 99]⟩ : ByteArray), y110, ([] : List ByteArray), ([] : List ByteArray), ([] : List ByteArray), 0⟩ : S28) (Kd.R_reads' (Kd.R_mono (ok' := (fun _ => True)) (HO112.out) (fun k_ hk => trivial))).2.1 (Kd.R_F (Kd.R_mono (ok' := (fun _ => True)) (HO112.out) (fun k_ hk => trivial))) (Nat.le_refl _) (Kd.F_nil _ _ _) (Nat.le_refl _) (Kd.F_nil _ _ _) (Nat.le_refl _) (Kd.F_nil _ _ _))) (Reps.none _ _)))); intro v114 w7 ho8 hb hg_ hnew_; clear hg_ hnew_; (first | rw [← Ny113.out] at ho8 | (simp only [Int.reduceToNat] at ho8; rw [← Ny113.out] at ho8)); have n0_ := Aside0.mk (Kd.N_lower ho8 (below_size (by repeat (first | (with_reducible first | exact HB.out | apply below_alloc | apply pw_below_drewN | apply below_drew1) | exact HB.out)))); have n1_ := Aside0.mk (below_step (by repeat (first | (with_reducible first | exact HB.out | apply below_alloc | apply pw_below_drewN | apply below_drew1) | exact HB.out)) hb); clear HB; clear HO112; have HO115 := n0_; have HB := n1_; clear n0_ n1_; clear hb ho8; obtain ⟨Ao9, co9, eo9⟩ := Kd.N_slice HO115.out; subst eo9) | ((with_reducible refine gate_callee (f := 8) rfl ?_); refine goesL_ (some 7) rfl rfl Tryd.func8 (by kernel_rfl) rfl #[.slice Ao9 y113.length co9, .string (⟨#[98, 97, 115]⟩ : ByteArray)] rfl (by (try simp only [List.map_toArray, List.map_cons, List.map_nil]); first | done | rfl | (simp only [List.length_drop, List.length_take]; rfl)) ?_; (with_reducible refine (impl_RegGet.calls _ _ y113 (⟨#[98, 97, 115]⟩ : ByteArray) t116 _ ?side1 ?side2 ?side3 A1.out).mono ?_); (case side1 => repeat (first | exact (Kd.N_reads' HO115.out).2.2 | (with_reducible refine Kd.C_alloc ?_ _) | (with_reducible refine Kd.C_drewN ?_ _) | (with_reducible refine Kd.C_drew ?_))); (case side2 => exact (Kd.N_reads' HO115.out).2.1); (case side3 => exact Go.Proofs.YtibjlefenodhaaaDoorFmt.VarsOK.below HV.out (by repeat (first | (with_reducible first | exact HB.out | apply below_alloc | apply pw_below_drewN | apply below_drew1) | exact HB.out))); rintro e w10 ⟨rfl, hb⟩; refine ⟨_, rfl, ?_⟩; have n0_ := Aside0.mk (Kd.N_below (by (with_reducible repeat (first | apply Kd.N_alloc | apply Kd.N_drewN | apply Kd.N_drew)); exact HO115.out) hb); have n1_ := Aside0.mk (below_step (by repeat (first | (with_reducible first | exact HB.out | apply below_alloc | apply pw_below_drewN | apply below_drew1) | exact HB.out)) hb); clear HO115; clear HB; have HO115 := n0_; have HB := n1_; clear n0_ n1_; (try clear hb); (try clear hb2); (try clear hk); (try clear hi)) | (go_at_call 8; (with_reducible refine (impl_RegGet.calls _ _ y113 (⟨#[97, 100, 97]⟩ : ByteArray) t117 _ ?side1 ?side2 ?side3 A3.out).mono ?_); (case side1 => repeat (first | exact (Kd.N_reads' HO115.out).2.2 | (with_reducible refine Kd.C_alloc ?_ _) | (with_reducible refine Kd.C_drewN ?_ _) | (with_reducible refine Kd.C_drew ?_))); (case side2 => exact (Kd.N_reads' HO115.out).2.1); (case side3 => exact Go.Proofs.YtibjlefenodhaaaDoorFmt.VarsOK.below HV.out (by repeat (first | (with_reducible first | exact HB.out | apply below_alloc | apply pw_below_drewN | apply below_drew1) | exact HB.out))); rintro e w11 ⟨rfl, hb⟩; have n0_ := Aside0.mk (Kd.N_below (by (with_reducible repeat (first | apply Kd.N_alloc | apply Kd.N_drewN | apply Kd.N_drew)); exact HO115.out) hb); have n1_ := Aside0.mk (below_step (by repeat (first | (with_reducible first | exact HB.out | apply below_alloc | apply pw_below_drewN | apply below_drew1) | exact HB.out)) hb); clear HO115; clear HB; have HO115 := n0_; have HB := n1_; clear n0_ n1_; (try clear hb); (try clear hb2); (try clear hk); (try clear hi)))
    go_ret
    exact ⟨by first | rfl | (simp [errW_none, errW_some] <;> rfl) | (simp [*, errW_none, errW_some] <;> rfl), by repeat (first | (with_reducible first | exact HB.out | apply below_alloc | apply pw_below_drewN | apply below_drew1) | exact HB.out)⟩
  · rw [if_neg c2] at H
    have c2b0 : (t116 == 1) = false := beq_eq_false_iff_ne.mpr c2
    have c2b1 : (t116 != 1) = true := bne_iff_ne.mpr c2
    obtain rfl := Option.some.inj H
    go_enter Tryd.func10, Tryd.ntmps10
    go_wp2_with (first | ((with_reducible refine gate_dst (N := 3) rfl ?_); refine Kd.R_lit Kd.string _ 9 ?hg (N := 3) ?hd (xs := ([(⟨#[98, 97, 115]⟩ : ByteArray)] : List ByteArray)) (inner := [.string (⟨#[98, 97, 115]⟩ : ByteArray)]) (ok := fun _ => True) (okp := fun _ => True) ?hr ?hp (fun _ hk => hk) trivial (Below.refl _ _) (Nat.le_refl _) (by simp) ?_; (case hd => rfl); (case hg => rfl); (case hr => first | (go_simp; done) | (go_simp; rfl)); (case hp => exact (Reps.one (show Kd.M Kd.string _ _ _ (⟨#[98, 97, 115]⟩ : ByteArray) [.string (⟨#[98, 97, 115]⟩ : ByteArray)] from rfl) (Reps.none _ _))); intro v111 w12 ho13 hb hg_ hnew_; clear hg_ hnew_; (first | rw [← Ny110.out] at ho13 | (simp only [Int.reduceToNat] at ho13; rw [← Ny110.out] at ho13)); have n0_ := Aside0.mk (Kd.R_lower ho13 (below_size (by repeat (first | (with_reducible first | exact HB.out | apply below_alloc | apply pw_below_drewN | apply below_drew1) | exact HB.out)))); have n1_ := Aside0.mk (below_step (by repeat (first | (with_reducible first | exact HB.out | apply below_alloc | apply pw_below_drewN | apply below_drew1) | exact HB.out)) hb); clear HB; have HO112 := n0_; have HB := n1_; clear n0_ n1_; clear hb ho13; obtain ⟨Ao14, co14, eo14⟩ := Kd.R_slice HO112.out; subst eo14) | ((with_reducible refine gate_dst (N := 5) rfl ?_); refine Kd.N_lit k28 _ 28 ?hg (N' := 5) ?hd (xs := ([(⟨(⟨#[97, 100, 97]⟩ : ByteArray), ([] : List ByteArray), ([] : List ByteArray), ([] : List ByteArray), ([] : List ByteArray), 0⟩ : S28), (⟨(⟨#[98, 97, 115, 105, 99]⟩ : ByteArray), y110, ([] : List ByteArray), ([] : List ByteArray), ([] : List ByteArray), 0⟩ : S28)] : List (S28))) (inner := [.string (⟨#[97, 100, 97]⟩ : ByteArray), .slice none 0 0, .slice none 0 0, .slice none 0 0, .slice none 0 0, .int .u64 0, .string (⟨#[98, 97, 115, 105, 99]⟩ : ByteArray), .slice Ao14 y110.length co14, .slice none 0 0, .slice none 0 0, .slice none 0 0, .int .u64 0]) (ok := (fun _ => True)) (okp := (fun _ => True)) ?hr ?hp (fun _ hk => hk) ((show ∀ k_, w12.heap.size ≤ k_ → (fun _ => True) k_ from fun k_ hk => trivial) _ (Nat.le_refl _)) (Below.refl _ _) (Nat.le_refl _) (by simp) ?_; (case hd => rfl); (case hg => rfl); (case hr => first | (go_simp; done) | (go_simp; rfl)); (case hp => exact (Reps.c6 (show Kd.FK k28 _ _ (⟨(⟨#[97, 100, 97]⟩ : ByteArray), ([] : List ByteArray), ([] : List ByteArray), ([] : List ByteArray), ([] : List ByteArray), 0⟩ : S28) [.string (⟨#[97, 100, 97]⟩ : ByteArray), .slice none 0 0, .slice none 0 0, .slice none 0 0, .slice none 0 0, .int .u64 0] from (k28_mkF _ _ (⟨(⟨#[97, 100, 97]⟩ : ByteArray), ([] : List ByteArray), ([] : List ByteArray), ([] : List ByteArray), ([] : List ByteArray), 0⟩ : S28) (Nat.le_refl _) (Kd.F_nil _ _ _) (Nat.le_refl _) (Kd.F_nil _ _ _) (Nat.le_refl _) (Kd.F_nil _ _ _) (Nat.le_refl _) (Kd.F_nil _ _ _))) (Reps.c6 (show Kd.FK k28 _ _ (⟨(⟨#[98, 97, 115, 105, 99]⟩ : ByteArray), y110, ([] : List ByteArray), ([] : List ByteArray), ([] : List ByteArray), 0⟩ : S28) [.string (⟨#[98, 97, 115, 105, 99]⟩ : ByteArray), .slice Ao14 y110.length co14, .slice none 0 0, .slice none 0 0, .slice none 0 0, .int .u64 0] from (k28_mkF _ _ (⟨(⟨#[98, 97, 115, 105, 99]⟩ : ByteArray), y110, ([] : List ByteArray), ([] : List ByteArray), ([] : List ByteArray), 0⟩ : S28) (Kd.R_reads' (Kd.R_mono (ok' := (fun _ => True)) (HO112.out) (fun k_ hk => trivial))).2.1 (Kd.R_F (Kd.R_mono (ok' := (fun _ => True)) (HO112.out) (fun k_ hk => trivial))) (Nat.le_refl _) (Kd.F_nil _ _ _) (Nat.le_refl _) (Kd.F_nil _ _ _) (Nat.le_refl _) (Kd.F_nil _ _ _))) (Reps.none _ _)))); intro v114 w15 ho16 hb hg_ hnew_; clear hg_ hnew_; (first | rw [← Ny113.out] at ho16 | (simp only [Int.reduceToNat] at ho16; rw [← Ny113.out] at ho16)); have n0_ := Aside0.mk (Kd.N_lower ho16 (below_size (by repeat (first | (with_reducible first | exact HB.out | apply below_alloc | apply pw_below_drewN | apply below_drew1) | exact HB.out)))); have n1_ := Aside0.mk (below_step (by repeat (first | (with_reducible first | exact HB.out | apply below_alloc | apply pw_below_drewN | apply below_drew1) | exact HB.out)) hb); clear HB; clear HO112; have HO115 := n0_; have HB := n1_; clear n0_ n1_; clear hb ho16; obtain ⟨Ao17, co17, eo17⟩ := Kd.N_slice HO115.out; subst eo17) | ((with_reducible refine gate_callee (f := 8) rfl ?_); refine goesL_ (some 7) rfl rfl Tryd.func8 (by kernel_rfl) rfl #[.slice Ao17 y113.length co17, .string (⟨#[98, 97, 115]⟩ : ByteArray)] rfl (by (try simp only [List.map_toArray, List.map_cons, List.map_nil]); first | done | rfl | (simp only [List.length_drop, List.length_take]; rfl)) ?_; (with_reducible refine (impl_RegGet.calls _ _ y113 (⟨#[98, 97, 115]⟩ : ByteArray) t116 _ ?side1 ?side2 ?side3 A1.out).mono ?_); (case side1 => repeat (first | exact (Kd.N_reads' HO115.out).2.2 | (with_reducible refine Kd.C_alloc ?_ _) | (with_reducible refine Kd.C_drewN ?_ _) | (with_reducible refine Kd.C_drew ?_))); (case side2 => exact (Kd.N_reads' HO115.out).2.1); (case side3 => exact Go.Proofs.YtibjlefenodhaaaDoorFmt.VarsOK.below HV.out (by repeat (first | (with_reducible first | exact HB.out | apply below_alloc | apply pw_below_drewN | apply below_drew1) | exact HB.out))); rintro e w18 ⟨rfl, hb⟩; refine ⟨_, rfl, ?_⟩; have n0_ := Aside0.mk (Kd.N_below (by (with_reducible repeat (first | apply Kd.N_alloc | apply Kd.N_drewN | apply Kd.N_drew)); exact HO115.out) hb); have n1_ := Aside0.mk (below_step (by repeat (first | (with_reducible first | exact HB.out | apply below_alloc | apply pw_below_drewN | apply below_drew1) | exact HB.out)) hb); clear HO115; clear HB; have HO115 := n0_; have HB := n1_; clear n0_ n1_; (try clear hb); (try clear hb2); (try clear hk); (try clear hi)))
    go_ret
    exact ⟨by first | rfl | (simp [errW_none, errW_some] <;> rfl) | (simp [*, errW_none, errW_some] <;> rfl), by repeat (first | (with_reducible first | exact HB.out | apply below_alloc | apply pw_below_drewN | apply below_drew1) | exact HB.out)⟩

end Go.Proofs.YtibjlefenodhaaaDoor.M
