-- WRITTEN BY OUR myprint.py, a program of this session's over the kit's printer
import Derived.Test.YtmldahejeobohaaDoorKx0
namespace Go.Proofs.YtmldahejeobohaaDoor.K
open Go.RowKit Go.Proofs.YtmldahejeobohaaDoorW.PrintWords Go.Proofs.YtmldahejeobohaaDoorW.PrintLast Go.Proofs.YtmldahejeobohaaDoorW.PrintMore
attribute [local go_sem] max2_int min2_int max_two min_two max_three min_three max_four min_four   -- for this text's walks alone
set_option linter.unusedVariables false
set_option linter.unusedSimpArgs false

/-! ### laws_text: function 15 -/
def laws_text.l0 : Nat → List Int → List (S27) → Int → Int → Option (ByteArray)
  | 0, _, _, _, _ => none
  | k + 1, x3, x6, x7, x8 => if x8 < x7 then (if 0 ≤ x8 then (if x8 < (x6.length : Int) then (if x3.length + ((rd_T27 x6 x8).f1).size < 140737488355328 then (laws_text.l0 k (x3 ++ bytesOf ((rd_T27 x6 x8).f1)) x6 x7 (wrap64 (x8 + 1))) else (none)) else (none)) else (none)) else (some (strOfNums x3))
def laws_text.f (k : Nat) (l0 : List (S27)) : Option (ByteArray) := laws_text.l0 k ([] : List Int) l0 (l0.length : Int) 0
theorem laws_text.mono_l : ∀ k, (∀ y0 y1 y2 y3, LeO (laws_text.l0 k y0 y1 y2 y3) (laws_text.l0 (k + 1) y0 y1 y2 y3))
  | 0 => fun _ _ _ _ r h => by simp [laws_text.l0] at h
  | k + 1 => by
    have ih0 := laws_text.mono_l k
    · intro y0 y1 y2 y3
      unfold laws_text.l0
      repeat' first
      | (with_reducible exact ih0 _ _ _ _)
      | (with_reducible exact LeO.refl _)
      | (with_reducible exact LeO.none _)
      | (with_reducible refine LeO.ite ?_ ?_)
      | (with_reducible refine LeO.bind ?_ (fun _ => ?_))
      | exact ih0 _ _ _ _
      | exact LeO.none _
      | refine LeO.ite ?_ ?_
      | refine LeO.bind ?_ (fun _ => ?_)
theorem laws_text.mono : ∀ a0 k, LeO (laws_text.f k a0) (laws_text.f (k + 1) a0) := by
  intro a0 k
  have ih0 := laws_text.mono_l k
  unfold laws_text.f
  repeat' first
      | (with_reducible exact ih0 _ _ _ _)
      | (with_reducible exact LeO.refl _)
      | (with_reducible exact LeO.none _)
      | (with_reducible refine LeO.ite ?_ ?_)
      | (with_reducible refine LeO.bind ?_ (fun _ => ?_))
      | exact ih0 _ _ _ _
      | exact LeO.none _
      | refine LeO.ite ?_ ?_
      | refine LeO.bind ?_ (fun _ => ?_)
set_option maxHeartbeats 8000000 in
set_option maxRecDepth 100000 in
theorem laws_text.calls (k : Nat) (A0 : Option Addr) (c0 : Nat) (l0 : List (S27)) (r : ByteArray) (w : World) (hr0 : Kd.C k27 w A0 l0.length l0) (hc0 : l0.length ≤ c0) (h : laws_text.f k l0 = some r) :
    Calls Tryd.prog 15 #[.slice A0 l0.length c0] w fun e w' => e = .returned (.string r) ∧ Below w.heap.size w w' := by
  have hu27 := Tryd.underlying27
  have HR0 := Aside0.mk hr0
  have HC0 := Aside0.mk hc0
  clear hr0 hc0
  have HB := Aside0.mk (Below.refl w.heap.size w)
  have H : (laws_text.l0 k ([] : List Int) l0 (l0.length : Int) 0) = some r := h
  clear h
  have H' := Aside0.mk H
  clear H
  go_enter Tryd.func15, Tryd.ntmps15
  go_wp2
  go_loopg [3, 8] k (fun kq v3 v8 w' => ∃ (x3_1 : List Int) (x8_1 : Int), v8 = .int .i64 x8_1 ∧ Aside0 (laws_text.l0 kq x3_1 l0 (l0.length : Int) x8_1 = some r) ∧ Aside0 (kq ≤ k) ∧ Aside0 (Kd.R (Kd.int .u8) 5 w' w.heap.size (fun _ => True) v3 x3_1) ∧ Aside0 (Below w.heap.size w w'))
  case atStart => exact ⟨(([] : List Int)), (0), (by first | rfl | (simp; done) | (simp [*]; done)), H', ⟨Nat.le_refl _⟩, ⟨by first | exact Kd.R_nil _ _ _ _ _ | exact Kd.N_nil _ _ _ _ _ | exact Kd.V_nil _ _ _ _ _ | exact Kd.Q_nil _ _ _ _ _ | exact Kd.S_nil _ _ _ _ _⟩, ⟨by repeat (first | (with_reducible first | exact HB.out | apply below_alloc | apply pw_below_drewN | apply below_drew1) | exact HB.out)⟩⟩
  case round =>
    clear H'
    try clear c1
    obtain ⟨x3_1, x8_1, rfl, HA, HK1, HO_3, HB⟩ := hrel
    cases gk with
    | zero => exact absurd HA.out (by simp [laws_text.l0])
    | succ k1 =>
      have H := HA.out
      clear HA
      simp only [laws_text.l0] at H
      by_cases c2 : x8_1 < (l0.length : Int)
      · rw [if_pos c2] at H
        have c2b0 : decide (x8_1 < (l0.length : Int)) = true := decide_eq_true c2
        clear c2
        by_cases c3 : 0 ≤ x8_1
        · rw [if_pos c3] at H
          have c3b0 : decide (0 ≤ x8_1) = true := decide_eq_true c3
          clear c3
          by_cases c4 : x8_1 < (l0.length : Int)
          · rw [if_pos c4] at H
            have c4b0 : decide (x8_1 < (l0.length : Int)) = true := decide_eq_true c4
            clear c4
            by_cases c5 : x3_1.length + ((rd_T27 l0 x8_1).f1).size < 140737488355328
            · rw [if_pos c5] at H
              have LMc5 := Aside0.mk c5
              clear c5
              obtain ⟨y126, hy126⟩ : ∃ y_ : List Int, y_ = (x3_1 ++ bytesOf ((rd_T27 l0 x8_1).f1)) := ⟨_, rfl⟩
              replace H : (laws_text.l0 k1 y126 l0 (l0.length : Int) (wrap64 (x8_1 + 1))) = some r := by first | (rw [hy126]; with_reducible exact H) | (have H2_ := (Option.bind_some _ _).symm.trans H; rw [hy126]; with_reducible exact H2_) | (have H2_ := (Option.bind_some _ _).symm.trans H; with_reducible exact H2_) | with_reducible exact H | (rw [hy126]; exact H) | exact H
              have Ny126 := Aside0.mk hy126
              clear hy126
              have H' := Aside0.mk H
              clear H
              have p124 : 0 ≤ (x8_1 : Int) := of_decide_eq_true (by first | (with_reducible assumption) | assumption)
              have q124 : x8_1 < (l0.length : Int) := of_decide_eq_true (by first | (with_reducible assumption) | assumption)
              obtain ⟨ad124, e124, hx124_0, hx124_1⟩ := at_T27 HR0.out x8_1 p124 q124
              cases e124
              replace hx124_0 := (HB.out.cell (World.block_lt_of_cell? w _ hx124_0)).trans hx124_0
              replace hx124_1 := (HB.out.cell (World.block_lt_of_cell? w _ hx124_1)).trans hx124_1
              replace p124 := eq_true p124
              replace q124 := eq_true q124
              go_wp2_with (first | ((with_reducible refine gate_dst (N := 5) rfl ?_); refine box_event ?hg (N := 5) ?hd (cs := #[.int .i64 0, .string (⟨#[]⟩ : ByteArray)]) (t := 27) ?hr ?_; (case hd => rfl); (case hg => rfl); (case hr => first | (go_simp; done) | (go_simp; rfl)); intro gb125 hg w6 hbox hb; have n0_ := Aside0.mk (Kd.R_below (by (with_reducible repeat (first | apply Kd.R_alloc | apply Kd.R_drewN | apply Kd.R_drew)); exact HO_3.out) hb); have n1_ := Aside0.mk (below_step (by repeat (first | (with_reducible first | exact HB.out | apply below_alloc | apply pw_below_drewN | apply below_drew1) | exact HB.out)) hb); have n2_ := Aside0.mk (hbox); have n3_ := Aside0.mk ((by rw [hg]; exact (below_size (by repeat (first | (with_reducible first | exact HB.out | apply below_alloc | apply pw_below_drewN | apply below_drew1) | exact HB.out))) : w.heap.size ≤ gb125)); have n4_ := Aside0.mk ((by rw [hg]; exact (below_size (by repeat (first | (with_reducible first | exact HB.out | apply below_alloc | apply pw_below_drewN | apply below_drew1) | exact HB.out))) : w.heap.size ≤ gb125)); clear HO_3; clear HB; have HO_3 := n0_; have HB := n1_; have BK125 := n2_; have GW125 := n3_; have GE125 := n4_; clear n0_ n1_ n2_ n3_ n4_; clear hb hbox hg; have hcz7_0 : w6.cell? ⟨gb125, 0, none⟩ = some (.int .i64 0) := (blk_cell BK125.out 0).trans rfl; have hcz7_1 : w6.cell? ⟨gb125, 1, none⟩ = some (.string (⟨#[]⟩ : ByteArray)) := (blk_cell BK125.out 1).trans rfl; have hfz7_0 := blk_frozen BK125.out 0; have hfz7_1 := blk_frozen BK125.out 1) | (at_builtin; refine print_append_str (w0 := w) w.heap.size rfl (.tmp 12) _ 38 9 5 rfl Tryd.underlying38 Tryd.underlying9 info5 u3 x3_1 ((rd_T27 l0 x8_1).f1) rfl rfl ?aO ?aB ?aS ?aL ?_; (case aB => exact (by repeat (first | (with_reducible first | exact HB.out | apply below_alloc | apply pw_below_drewN | apply below_drew1 | refine below_set ?_ GE125.out) | exact HB.out))); (case aO => exact (Kd.own_of_R (by (with_reducible repeat (first | apply Kd.R_alloc | apply Kd.R_drewN | apply Kd.R_drew)); exact Kd.R_mono (Kd.R_far (p := ⟨gb125, 1, none⟩) (Kd.R_far (p := ⟨gb125, 0, none⟩) (Kd.R_types HO_3.out BK125.out (by decide)) (fun _ hk => hk.2) (.int .i64 ((rd_T27 l0 x8_1).f0))) (fun _ hk => hk.2) (.string ((rd_T27 l0 x8_1).f1))) (fun _ hk => trivial)))); (case aS => exact (below_size (by repeat (first | (with_reducible first | exact HB.out | apply below_alloc | apply pw_below_drewN | apply below_drew1 | refine below_set ?_ GE125.out) | exact HB.out)))); (case aL => have := LMc5.out; omega); intro v127 w8 ho0 hb hg; have ho := Kd.R_of_own (h1 := fun _ => rfl) (ok := fun _ => True) ho0 (fun _ _ => trivial); clear ho0; have hat := True.intro; rw [← Ny126.out] at ho; change Kd.R (Kd.int .u8) 5 w8 w.heap.size (fun _ => True) v127 y126 at ho; have n0_ := Aside0.mk (blk_grown (g := gb125) (o := .cells #[.int .i64 ((rd_T27 l0 x8_1).f0), .string ((rd_T27 l0 x8_1).f1)] 27 (0, 0)) (by (with_reducible repeat (first | refine blk_drewN ?_ _ | refine blk_drew ?_ | refine blk_alloc ?_ _)); refine blk_put (cs := #[.int .i64 ((rd_T27 l0 x8_1).f0), .string (⟨#[]⟩ : ByteArray)]) ?_ 1 _ rfl; (with_reducible repeat (first | refine blk_drewN ?_ _ | refine blk_drew ?_ | refine blk_alloc ?_ _)); refine blk_put (cs := #[.int .i64 0, .string (⟨#[]⟩ : ByteArray)]) ?_ 0 _ rfl; (with_reducible repeat (first | refine blk_drewN ?_ _ | refine blk_drew ?_ | refine blk_alloc ?_ _)); exact BK125.out) hg (Kd.R_ne HO_3.out BK125.out (by decide))); have n1_ := Aside0.mk (hb); have n2_ := Aside0.mk (ho); clear BK125; clear HB; clear HO_3; have BK125 := n0_; have HB := n1_; have HO128 := n2_; clear n0_ n1_ n2_; clear ho hb hg hat))
              go_roundg k1
              case measure => have := HK1.out; omega
              case rel => exact ⟨(y126), (wrap64 (x8_1 + 1)), (by first | rfl | (simp; done) | (simp [*]; done)), H', ⟨by have := HK1.out; omega⟩, ⟨by (with_reducible repeat (first | apply Kd.R_alloc | apply Kd.R_drewN | apply Kd.R_drew)); exact HO128.out⟩, ⟨by repeat (first | (with_reducible first | exact HB.out | apply below_alloc | apply pw_below_drewN | apply below_drew1 | refine below_set ?_ GE125.out) | exact HB.out)⟩⟩
            · rw [if_neg c5] at H
              exact absurd H (by simp)
          · rw [if_neg c4] at H
            exact absurd H (by simp)
        · rw [if_neg c3] at H
          exact absurd H (by simp)
      · rw [if_neg c2] at H
        have c2b0 : decide (x8_1 < (l0.length : Int)) = false := decide_eq_false c2
        clear c2
        obtain rfl := Option.some.inj H
        have hcv9 := own_string (P := Tryd.prog) Tryd.underlying38 Tryd.underlying5 Tryd.underlying9 (Kd.own_of_R HO_3.out)
        go_wp2
        go_ret
        exact ⟨by first | rfl | (simp [errW_none, errW_some] <;> rfl) | (simp [*, errW_none, errW_some] <;> rfl), by repeat (first | (with_reducible first | exact HB.out | apply below_alloc | apply pw_below_drewN | apply below_drew1) | exact HB.out)⟩

/-! ### impl_outer: function 29 -/
def impl_outer.l0 : Nat → List (S27) → List (S65) → Int → Int → Option ((List (S27)))
  | 0, _, _, _, _ => none
  | k + 1, x3, x6, x7, x8 => if x8 < x7 then (if 0 ≤ x8 then (if x8 < (x6.length : Int) then (if x3.length < 5864062014805 then (impl_outer.l0 k (x3 ++ [(⟨(rd_T65 x6 x8).f0, (rd_T65 x6 x8).f1⟩ : S27)]) x6 x7 (wrap64 (x8 + 1))) else (none)) else (none)) else (none)) else (some x3)
def impl_outer.f (k : Nat) (l0 : List (S65)) : Option ((List (S27))) := impl_outer.l0 k ([] : List (S27)) l0 (l0.length : Int) 0
theorem impl_outer.mono_l : ∀ k, (∀ y0 y1 y2 y3, LeO (impl_outer.l0 k y0 y1 y2 y3) (impl_outer.l0 (k + 1) y0 y1 y2 y3))
  | 0 => fun _ _ _ _ r h => by simp [impl_outer.l0] at h
  | k + 1 => by
    have ih0 := impl_outer.mono_l k
    · intro y0 y1 y2 y3
      unfold impl_outer.l0
      repeat' first
      | (with_reducible exact ih0 _ _ _ _)
      | (with_reducible exact LeO.refl _)
      | (with_reducible exact LeO.none _)
      | (with_reducible refine LeO.ite ?_ ?_)
      | (with_reducible refine LeO.bind ?_ (fun _ => ?_))
      | exact ih0 _ _ _ _
      | exact LeO.none _
      | refine LeO.ite ?_ ?_
      | refine LeO.bind ?_ (fun _ => ?_)
theorem impl_outer.mono : ∀ a0 k, LeO (impl_outer.f k a0) (impl_outer.f (k + 1) a0) := by
  intro a0 k
  have ih0 := impl_outer.mono_l k
  unfold impl_outer.f
  repeat' first
      | (with_reducible exact ih0 _ _ _ _)
      | (with_reducible exact LeO.refl _)
      | (with_reducible exact LeO.none _)
      | (with_reducible refine LeO.ite ?_ ?_)
      | (with_reducible refine LeO.bind ?_ (fun _ => ?_))
      | exact ih0 _ _ _ _
      | exact LeO.none _
      | refine LeO.ite ?_ ?_
      | refine LeO.bind ?_ (fun _ => ?_)
set_option maxHeartbeats 8000000 in
set_option maxRecDepth 100000 in
theorem impl_outer.calls (k : Nat) (A0 : Option Addr) (c0 : Nat) (l0 : List (S65)) (r : List (S27)) (w : World) (hr0 : Kd.C k65 w A0 l0.length l0) (hc0 : l0.length ≤ c0) (h : impl_outer.f k l0 = some r) :
    Calls Tryd.prog 29 #[.slice A0 l0.length c0] w fun e w' => ∃ v0_ : Value, e = .returned (v0_) ∧ Kd.R k27 27 w' w.heap.size (fun _ => True) v0_ r ∧ Below w.heap.size w w' := by
  have hu65 := Tryd.underlying65
  have hu27 := Tryd.underlying27
  have HR0 := Aside0.mk hr0
  have HC0 := Aside0.mk hc0
  clear hr0 hc0
  have HB := Aside0.mk (Below.refl w.heap.size w)
  have H : (impl_outer.l0 k ([] : List (S27)) l0 (l0.length : Int) 0) = some r := h
  clear h
  have H' := Aside0.mk H
  clear H
  go_enter Tryd.func29, Tryd.ntmps29
  go_wp2
  go_loopg [3, 8] k (fun kq v3 v8 w' => ∃ (x3_1 : List (S27)) (x8_1 : Int), v8 = .int .i64 x8_1 ∧ Aside0 (impl_outer.l0 kq x3_1 l0 (l0.length : Int) x8_1 = some r) ∧ Aside0 (kq ≤ k) ∧ Aside0 (Kd.R k27 27 w' w.heap.size (fun _ => True) v3 x3_1) ∧ Aside0 (Below w.heap.size w w'))
  case atStart => exact ⟨(([] : List (S27))), (0), (by first | rfl | (simp; done) | (simp [*]; done)), H', ⟨Nat.le_refl _⟩, ⟨by first | exact Kd.R_nil _ _ _ _ _ | exact Kd.N_nil _ _ _ _ _ | exact Kd.V_nil _ _ _ _ _ | exact Kd.Q_nil _ _ _ _ _ | exact Kd.S_nil _ _ _ _ _⟩, ⟨by repeat (first | (with_reducible first | exact HB.out | apply below_alloc | apply pw_below_drewN | apply below_drew1) | exact HB.out)⟩⟩
  case round =>
    clear H'
    obtain ⟨x3_1, x8_1, rfl, HA, HK1, HO_3, HB⟩ := hrel
    cases gk with
    | zero => exact absurd HA.out (by simp [impl_outer.l0])
    | succ k1 =>
      have H := HA.out
      clear HA
      simp only [impl_outer.l0] at H
      by_cases c2 : x8_1 < (l0.length : Int)
      · rw [if_pos c2] at H
        have c2b0 : decide (x8_1 < (l0.length : Int)) = true := decide_eq_true c2
        clear c2
        by_cases c3 : 0 ≤ x8_1
        · rw [if_pos c3] at H
          have c3b0 : decide (0 ≤ x8_1) = true := decide_eq_true c3
          clear c3
          by_cases c4 : x8_1 < (l0.length : Int)
          · rw [if_pos c4] at H
            have c4b0 : decide (x8_1 < (l0.length : Int)) = true := decide_eq_true c4
            clear c4
            by_cases c5 : x3_1.length < 5864062014805
            · rw [if_pos c5] at H
              have LMc5 := Aside0.mk c5
              clear c5
              obtain ⟨y131, hy131⟩ : ∃ y_ : List (S27), y_ = (x3_1 ++ [(⟨(rd_T65 l0 x8_1).f0, (rd_T65 l0 x8_1).f1⟩ : S27)]) := ⟨_, rfl⟩
              replace H : (impl_outer.l0 k1 y131 l0 (l0.length : Int) (wrap64 (x8_1 + 1))) = some r := by first | (rw [hy131]; with_reducible exact H) | (have H2_ := (Option.bind_some _ _).symm.trans H; rw [hy131]; with_reducible exact H2_) | (have H2_ := (Option.bind_some _ _).symm.trans H; with_reducible exact H2_) | with_reducible exact H | (rw [hy131]; exact H) | exact H
              have Ny131 := Aside0.mk hy131
              clear hy131
              have H' := Aside0.mk H
              clear H
              have p129 : 0 ≤ (x8_1 : Int) := of_decide_eq_true (by first | (with_reducible assumption) | assumption)
              have q129 : x8_1 < (l0.length : Int) := of_decide_eq_true (by first | (with_reducible assumption) | assumption)
              obtain ⟨ad129, e129, hx129_0, hx129_1⟩ := at_T65 HR0.out x8_1 p129 q129
              cases e129
              replace hx129_0 := (HB.out.cell (World.block_lt_of_cell? w _ hx129_0)).trans hx129_0
              replace hx129_1 := (HB.out.cell (World.block_lt_of_cell? w _ hx129_1)).trans hx129_1
              replace p129 := eq_true p129
              replace q129 := eq_true q129
              go_wp2_with (first | ((with_reducible refine gate_dst (N := 5) rfl ?_); refine box_event ?hg (N := 5) ?hd (cs := #[.int .i64 0, .string (⟨#[]⟩ : ByteArray)]) (t := 65) ?hr ?_; (case hd => rfl); (case hg => rfl); (case hr => first | (go_simp; done) | (go_simp; rfl)); intro gb130 hg w6 hbox hb; have n0_ := Aside0.mk (Kd.R_below (by (with_reducible repeat (first | apply Kd.R_alloc | apply Kd.R_drewN | apply Kd.R_drew)); exact HO_3.out) hb); have n1_ := Aside0.mk (below_step (by repeat (first | (with_reducible first | exact HB.out | apply below_alloc | apply pw_below_drewN | apply below_drew1) | exact HB.out)) hb); have n2_ := Aside0.mk (hbox); have n3_ := Aside0.mk ((by rw [hg]; exact (below_size (by repeat (first | (with_reducible first | exact HB.out | apply below_alloc | apply pw_below_drewN | apply below_drew1) | exact HB.out))) : w.heap.size ≤ gb130)); have n4_ := Aside0.mk ((by rw [hg]; exact (below_size (by repeat (first | (with_reducible first | exact HB.out | apply below_alloc | apply pw_below_drewN | apply below_drew1) | exact HB.out))) : w.heap.size ≤ gb130)); clear HO_3; clear HB; have HO_3 := n0_; have HB := n1_; have BK130 := n2_; have GW130 := n3_; have GE130 := n4_; clear n0_ n1_ n2_ n3_ n4_; clear hb hbox hg; have hcz7_0 : w6.cell? ⟨gb130, 0, none⟩ = some (.int .i64 0) := (blk_cell BK130.out 0).trans rfl; have hcz7_1 : w6.cell? ⟨gb130, 1, none⟩ = some (.string (⟨#[]⟩ : ByteArray)) := (blk_cell BK130.out 1).trans rfl; have hfz7_0 := blk_frozen BK130.out 0; have hfz7_1 := blk_frozen BK130.out 1) | ((with_reducible refine gate_builtin (b := .append) (xs := #[.tmp 12, .tmp 18]) rfl ?_); at_builtin; refine Kd.R_append k27 (w0 := w) w.heap.size rfl (.tmp 12) (.tmp 18) 23 27 (.agg #[(.int .i64 0), (.string ⟨#[]⟩)]) 24 rfl Tryd.underlying23 info27 rfl (by decide) (by omega) u3 x3_1 (⟨(rd_T65 l0 x8_1).f0, (rd_T65 l0 x8_1).f1⟩ : S27) [.int .i64 ((rd_T65 l0 x8_1).f0), .string ((rd_T65 l0 x8_1).f1)] (fun _ => True) (fun _ => False) rfl (by first | (go_simp; done) | (go_simp; rfl)) ?aP (fun _ hk => hk.elim) ?aF ?aO ?aB ?aS ?aL ?_; (case aP => exact k27_mkM _ _ _ (⟨(rd_T65 l0 x8_1).f0, (rd_T65 l0 x8_1).f1⟩ : S27)); (case aB => exact (by repeat (first | (with_reducible first | exact HB.out | apply below_alloc | apply pw_below_drewN | apply below_drew1 | refine below_set ?_ GE130.out) | exact HB.out))); (case aF => exact (fun _ _ => trivial)); (case aO => exact (by (with_reducible repeat (first | apply Kd.R_alloc | apply Kd.R_drewN | apply Kd.R_drew)); exact Kd.R_mono (Kd.R_far (p := ⟨gb130, 1, none⟩) (Kd.R_far (p := ⟨gb130, 0, none⟩) (Kd.R_types HO_3.out BK130.out (by decide)) (fun _ hk => hk.2) (.int .i64 ((rd_T65 l0 x8_1).f0))) (fun _ hk => hk.2) (.string ((rd_T65 l0 x8_1).f1))) (fun _ hk => trivial))); (case aS => exact (below_size (by repeat (first | (with_reducible first | exact HB.out | apply below_alloc | apply pw_below_drewN | apply below_drew1 | refine below_set ?_ GE130.out) | exact HB.out)))); (case aL => have := LMc5.out; omega); intro v132 w8 ho hb hg hat; rw [← Ny131.out] at ho; have n0_ := Aside0.mk (blk_grown (g := gb130) (o := .cells #[.int .i64 ((rd_T65 l0 x8_1).f0), .string ((rd_T65 l0 x8_1).f1)] 65 (0, 0)) (by (with_reducible repeat (first | refine blk_drewN ?_ _ | refine blk_drew ?_ | refine blk_alloc ?_ _)); refine blk_put (cs := #[.int .i64 ((rd_T65 l0 x8_1).f0), .string (⟨#[]⟩ : ByteArray)]) ?_ 1 _ rfl; (with_reducible repeat (first | refine blk_drewN ?_ _ | refine blk_drew ?_ | refine blk_alloc ?_ _)); refine blk_put (cs := #[.int .i64 0, .string (⟨#[]⟩ : ByteArray)]) ?_ 0 _ rfl; (with_reducible repeat (first | refine blk_drewN ?_ _ | refine blk_drew ?_ | refine blk_alloc ?_ _)); exact BK130.out) hg (Kd.R_ne HO_3.out BK130.out (by decide))); have n1_ := Aside0.mk (hb); have n2_ := Aside0.mk (ho); clear BK130; clear HB; clear HO_3; have BK130 := n0_; have HB := n1_; have HO133 := n2_; clear n0_ n1_ n2_; clear ho hb hg hat))
              go_roundg k1
              case measure => have := HK1.out; omega
              case rel => exact ⟨(y131), (wrap64 (x8_1 + 1)), (by first | rfl | (simp; done) | (simp [*]; done)), H', ⟨by have := HK1.out; omega⟩, ⟨by (with_reducible repeat (first | apply Kd.R_alloc | apply Kd.R_drewN | apply Kd.R_drew)); exact HO133.out⟩, ⟨by repeat (first | (with_reducible first | exact HB.out | apply below_alloc | apply pw_below_drewN | apply below_drew1 | refine below_set ?_ GE130.out) | exact HB.out)⟩⟩
            · rw [if_neg c5] at H
              exact absurd H (by simp)
          · rw [if_neg c4] at H
            exact absurd H (by simp)
        · rw [if_neg c3] at H
          exact absurd H (by simp)
      · rw [if_neg c2] at H
        have c2b0 : decide (x8_1 < (l0.length : Int)) = false := decide_eq_false c2
        clear c2
        obtain rfl := Option.some.inj H
        go_wp2
        go_ret
        exact ⟨_, by first | rfl | (simp [errW_none, errW_some] <;> rfl) | (simp [*, errW_none, errW_some] <;> rfl), by (with_reducible repeat (first | apply Kd.R_alloc | apply Kd.R_drewN | apply Kd.R_drew)); exact HO_3.out, by repeat (first | (with_reducible first | exact HB.out | apply below_alloc | apply pw_below_drewN | apply below_drew1) | exact HB.out)⟩

/-! ### impl_inner: function 31 -/
def impl_inner.l0 : Nat → List (S65) → List (S27) → Int → Int → Option ((List (S65)))
  | 0, _, _, _, _ => none
  | k + 1, x3, x6, x7, x8 => if x8 < x7 then (if 0 ≤ x8 then (if x8 < (x6.length : Int) then (if x3.length < 5864062014805 then (impl_inner.l0 k (x3 ++ [(⟨(rd_T27 x6 x8).f0, (rd_T27 x6 x8).f1⟩ : S65)]) x6 x7 (wrap64 (x8 + 1))) else (none)) else (none)) else (none)) else (some x3)
def impl_inner.f (k : Nat) (l0 : List (S27)) : Option ((List (S65))) := impl_inner.l0 k ([] : List (S65)) l0 (l0.length : Int) 0
theorem impl_inner.mono_l : ∀ k, (∀ y0 y1 y2 y3, LeO (impl_inner.l0 k y0 y1 y2 y3) (impl_inner.l0 (k + 1) y0 y1 y2 y3))
  | 0 => fun _ _ _ _ r h => by simp [impl_inner.l0] at h
  | k + 1 => by
    have ih0 := impl_inner.mono_l k
    · intro y0 y1 y2 y3
      unfold impl_inner.l0
      repeat' first
      | (with_reducible exact ih0 _ _ _ _)
      | (with_reducible exact LeO.refl _)
      | (with_reducible exact LeO.none _)
      | (with_reducible refine LeO.ite ?_ ?_)
      | (with_reducible refine LeO.bind ?_ (fun _ => ?_))
      | exact ih0 _ _ _ _
      | exact LeO.none _
      | refine LeO.ite ?_ ?_
      | refine LeO.bind ?_ (fun _ => ?_)
theorem impl_inner.mono : ∀ a0 k, LeO (impl_inner.f k a0) (impl_inner.f (k + 1) a0) := by
  intro a0 k
  have ih0 := impl_inner.mono_l k
  unfold impl_inner.f
  repeat' first
      | (with_reducible exact ih0 _ _ _ _)
      | (with_reducible exact LeO.refl _)
      | (with_reducible exact LeO.none _)
      | (with_reducible refine LeO.ite ?_ ?_)
      | (with_reducible refine LeO.bind ?_ (fun _ => ?_))
      | exact ih0 _ _ _ _
      | exact LeO.none _
      | refine LeO.ite ?_ ?_
      | refine LeO.bind ?_ (fun _ => ?_)
set_option maxHeartbeats 8000000 in
set_option maxRecDepth 100000 in
theorem impl_inner.calls (k : Nat) (A0 : Option Addr) (c0 : Nat) (l0 : List (S27)) (r : List (S65)) (w : World) (hr0 : Kd.C k27 w A0 l0.length l0) (hc0 : l0.length ≤ c0) (h : impl_inner.f k l0 = some r) :
    Calls Tryd.prog 31 #[.slice A0 l0.length c0] w fun e w' => ∃ v0_ : Value, e = .returned (v0_) ∧ Kd.R k65 65 w' w.heap.size (fun _ => True) v0_ r ∧ Below w.heap.size w w' := by
  have hu27 := Tryd.underlying27
  have hu65 := Tryd.underlying65
  have HR0 := Aside0.mk hr0
  have HC0 := Aside0.mk hc0
  clear hr0 hc0
  have HB := Aside0.mk (Below.refl w.heap.size w)
  have H : (impl_inner.l0 k ([] : List (S65)) l0 (l0.length : Int) 0) = some r := h
  clear h
  have H' := Aside0.mk H
  clear H
  go_enter Tryd.func31, Tryd.ntmps31
  go_wp2
  go_loopg [3, 8] k (fun kq v3 v8 w' => ∃ (x3_1 : List (S65)) (x8_1 : Int), v8 = .int .i64 x8_1 ∧ Aside0 (impl_inner.l0 kq x3_1 l0 (l0.length : Int) x8_1 = some r) ∧ Aside0 (kq ≤ k) ∧ Aside0 (Kd.R k65 65 w' w.heap.size (fun _ => True) v3 x3_1) ∧ Aside0 (Below w.heap.size w w'))
  case atStart => exact ⟨(([] : List (S65))), (0), (by first | rfl | (simp; done) | (simp [*]; done)), H', ⟨Nat.le_refl _⟩, ⟨by first | exact Kd.R_nil _ _ _ _ _ | exact Kd.N_nil _ _ _ _ _ | exact Kd.V_nil _ _ _ _ _ | exact Kd.Q_nil _ _ _ _ _ | exact Kd.S_nil _ _ _ _ _⟩, ⟨by repeat (first | (with_reducible first | exact HB.out | apply below_alloc | apply pw_below_drewN | apply below_drew1) | exact HB.out)⟩⟩
  case round =>
    clear H'
    obtain ⟨x3_1, x8_1, rfl, HA, HK1, HO_3, HB⟩ := hrel
    cases gk with
    | zero => exact absurd HA.out (by simp [impl_inner.l0])
    | succ k1 =>
      have H := HA.out
      clear HA
      simp only [impl_inner.l0] at H
      by_cases c2 : x8_1 < (l0.length : Int)
      · rw [if_pos c2] at H
        have c2b0 : decide (x8_1 < (l0.length : Int)) = true := decide_eq_true c2
        clear c2
        by_cases c3 : 0 ≤ x8_1
        · rw [if_pos c3] at H
          have c3b0 : decide (0 ≤ x8_1) = true := decide_eq_true c3
          clear c3
          by_cases c4 : x8_1 < (l0.length : Int)
          · rw [if_pos c4] at H
            have c4b0 : decide (x8_1 < (l0.length : Int)) = true := decide_eq_true c4
            clear c4
            by_cases c5 : x3_1.length < 5864062014805
            · rw [if_pos c5] at H
              have LMc5 := Aside0.mk c5
              clear c5
              obtain ⟨y136, hy136⟩ : ∃ y_ : List (S65), y_ = (x3_1 ++ [(⟨(rd_T27 l0 x8_1).f0, (rd_T27 l0 x8_1).f1⟩ : S65)]) := ⟨_, rfl⟩
              replace H : (impl_inner.l0 k1 y136 l0 (l0.length : Int) (wrap64 (x8_1 + 1))) = some r := by first | (rw [hy136]; with_reducible exact H) | (have H2_ := (Option.bind_some _ _).symm.trans H; rw [hy136]; with_reducible exact H2_) | (have H2_ := (Option.bind_some _ _).symm.trans H; with_reducible exact H2_) | with_reducible exact H | (rw [hy136]; exact H) | exact H
              have Ny136 := Aside0.mk hy136
              clear hy136
              have H' := Aside0.mk H
              clear H
              have p134 : 0 ≤ (x8_1 : Int) := of_decide_eq_true (by first | (with_reducible assumption) | assumption)
              have q134 : x8_1 < (l0.length : Int) := of_decide_eq_true (by first | (with_reducible assumption) | assumption)
              obtain ⟨ad134, e134, hx134_0, hx134_1⟩ := at_T27 HR0.out x8_1 p134 q134
              cases e134
              replace hx134_0 := (HB.out.cell (World.block_lt_of_cell? w _ hx134_0)).trans hx134_0
              replace hx134_1 := (HB.out.cell (World.block_lt_of_cell? w _ hx134_1)).trans hx134_1
              replace p134 := eq_true p134
              replace q134 := eq_true q134
              go_wp2_with (first | ((with_reducible refine gate_dst (N := 5) rfl ?_); refine box_event ?hg (N := 5) ?hd (cs := #[.int .i64 0, .string (⟨#[]⟩ : ByteArray)]) (t := 27) ?hr ?_; (case hd => rfl); (case hg => rfl); (case hr => first | (go_simp; done) | (go_simp; rfl)); intro gb135 hg w6 hbox hb; have n0_ := Aside0.mk (Kd.R_below (by (with_reducible repeat (first | apply Kd.R_alloc | apply Kd.R_drewN | apply Kd.R_drew)); exact HO_3.out) hb); have n1_ := Aside0.mk (below_step (by repeat (first | (with_reducible first | exact HB.out | apply below_alloc | apply pw_below_drewN | apply below_drew1) | exact HB.out)) hb); have n2_ := Aside0.mk (hbox); have n3_ := Aside0.mk ((by rw [hg]; exact (below_size (by repeat (first | (with_reducible first | exact HB.out | apply below_alloc | apply pw_below_drewN | apply below_drew1) | exact HB.out))) : w.heap.size ≤ gb135)); have n4_ := Aside0.mk ((by rw [hg]; exact (below_size (by repeat (first | (with_reducible first | exact HB.out | apply below_alloc | apply pw_below_drewN | apply below_drew1) | exact HB.out))) : w.heap.size ≤ gb135)); clear HO_3; clear HB; have HO_3 := n0_; have HB := n1_; have BK135 := n2_; have GW135 := n3_; have GE135 := n4_; clear n0_ n1_ n2_ n3_ n4_; clear hb hbox hg; have hcz7_0 : w6.cell? ⟨gb135, 0, none⟩ = some (.int .i64 0) := (blk_cell BK135.out 0).trans rfl; have hcz7_1 : w6.cell? ⟨gb135, 1, none⟩ = some (.string (⟨#[]⟩ : ByteArray)) := (blk_cell BK135.out 1).trans rfl; have hfz7_0 := blk_frozen BK135.out 0; have hfz7_1 := blk_frozen BK135.out 1) | ((with_reducible refine gate_builtin (b := .append) (xs := #[.tmp 12, .tmp 18]) rfl ?_); at_builtin; refine Kd.R_append k65 (w0 := w) w.heap.size rfl (.tmp 12) (.tmp 18) 50 65 (.agg #[(.int .i64 0), (.string ⟨#[]⟩)]) 24 rfl Tryd.underlying50 info65 rfl (by decide) (by omega) u3 x3_1 (⟨(rd_T27 l0 x8_1).f0, (rd_T27 l0 x8_1).f1⟩ : S65) [.int .i64 ((rd_T27 l0 x8_1).f0), .string ((rd_T27 l0 x8_1).f1)] (fun _ => True) (fun _ => False) rfl (by first | (go_simp; done) | (go_simp; rfl)) ?aP (fun _ hk => hk.elim) ?aF ?aO ?aB ?aS ?aL ?_; (case aP => exact k65_mkM _ _ _ (⟨(rd_T27 l0 x8_1).f0, (rd_T27 l0 x8_1).f1⟩ : S65)); (case aB => exact (by repeat (first | (with_reducible first | exact HB.out | apply below_alloc | apply pw_below_drewN | apply below_drew1 | refine below_set ?_ GE135.out) | exact HB.out))); (case aF => exact (fun _ _ => trivial)); (case aO => exact (by (with_reducible repeat (first | apply Kd.R_alloc | apply Kd.R_drewN | apply Kd.R_drew)); exact Kd.R_mono (Kd.R_far (p := ⟨gb135, 1, none⟩) (Kd.R_far (p := ⟨gb135, 0, none⟩) (Kd.R_types HO_3.out BK135.out (by decide)) (fun _ hk => hk.2) (.int .i64 ((rd_T27 l0 x8_1).f0))) (fun _ hk => hk.2) (.string ((rd_T27 l0 x8_1).f1))) (fun _ hk => trivial))); (case aS => exact (below_size (by repeat (first | (with_reducible first | exact HB.out | apply below_alloc | apply pw_below_drewN | apply below_drew1 | refine below_set ?_ GE135.out) | exact HB.out)))); (case aL => have := LMc5.out; omega); intro v137 w8 ho hb hg hat; rw [← Ny136.out] at ho; have n0_ := Aside0.mk (blk_grown (g := gb135) (o := .cells #[.int .i64 ((rd_T27 l0 x8_1).f0), .string ((rd_T27 l0 x8_1).f1)] 27 (0, 0)) (by (with_reducible repeat (first | refine blk_drewN ?_ _ | refine blk_drew ?_ | refine blk_alloc ?_ _)); refine blk_put (cs := #[.int .i64 ((rd_T27 l0 x8_1).f0), .string (⟨#[]⟩ : ByteArray)]) ?_ 1 _ rfl; (with_reducible repeat (first | refine blk_drewN ?_ _ | refine blk_drew ?_ | refine blk_alloc ?_ _)); refine blk_put (cs := #[.int .i64 0, .string (⟨#[]⟩ : ByteArray)]) ?_ 0 _ rfl; (with_reducible repeat (first | refine blk_drewN ?_ _ | refine blk_drew ?_ | refine blk_alloc ?_ _)); exact BK135.out) hg (Kd.R_ne HO_3.out BK135.out (by decide))); have n1_ := Aside0.mk (hb); have n2_ := Aside0.mk (ho); clear BK135; clear HB; clear HO_3; have BK135 := n0_; have HB := n1_; have HO138 := n2_; clear n0_ n1_ n2_; clear ho hb hg hat))
              go_roundg k1
              case measure => have := HK1.out; omega
              case rel => exact ⟨(y136), (wrap64 (x8_1 + 1)), (by first | rfl | (simp; done) | (simp [*]; done)), H', ⟨by have := HK1.out; omega⟩, ⟨by (with_reducible repeat (first | apply Kd.R_alloc | apply Kd.R_drewN | apply Kd.R_drew)); exact HO138.out⟩, ⟨by repeat (first | (with_reducible first | exact HB.out | apply below_alloc | apply pw_below_drewN | apply below_drew1 | refine below_set ?_ GE135.out) | exact HB.out)⟩⟩
            · rw [if_neg c5] at H
              exact absurd H (by simp)
          · rw [if_neg c4] at H
            exact absurd H (by simp)
        · rw [if_neg c3] at H
          exact absurd H (by simp)
      · rw [if_neg c2] at H
        have c2b0 : decide (x8_1 < (l0.length : Int)) = false := decide_eq_false c2
        clear c2
        obtain rfl := Option.some.inj H
        go_wp2
        go_ret
        exact ⟨_, by first | rfl | (simp [errW_none, errW_some] <;> rfl) | (simp [*, errW_none, errW_some] <;> rfl), by (with_reducible repeat (first | apply Kd.R_alloc | apply Kd.R_drewN | apply Kd.R_drew)); exact HO_3.out, by repeat (first | (with_reducible first | exact HB.out | apply below_alloc | apply pw_below_drewN | apply below_drew1) | exact HB.out)⟩

/-! ### chroma_zzIndex: function 41 -/
def chroma_zzIndex.l0 : Nat → ByteArray → ByteArray → Int → Option (Int)
  | 0, _, _, _ => none
  | k + 1, x0, x1, x5 => if (wrap64 (x5 + (x1.size : Int))) ≤ (x0.size : Int) then (if 0 ≤ x5 then (if x5 ≤ (wrap64 (x5 + (x1.size : Int))) then (if (x0.extract (x5 : Int).toNat ((wrap64 (x5 + (x1.size : Int))) : Int).toNat).toList = x1.toList then (some x5) else (chroma_zzIndex.l0 k x0 x1 (wrap64 (x5 + 1)))) else (none)) else (none)) else (some (-1))
def chroma_zzIndex.f (k : Nat) (a0 : ByteArray) (a1 : ByteArray) : Option (Int) := chroma_zzIndex.l0 k a0 a1 0
theorem chroma_zzIndex.mono_l : ∀ k, (∀ y0 y1 y2, LeO (chroma_zzIndex.l0 k y0 y1 y2) (chroma_zzIndex.l0 (k + 1) y0 y1 y2))
  | 0 => fun _ _ _ r h => by simp [chroma_zzIndex.l0] at h
  | k + 1 => by
    have ih0 := chroma_zzIndex.mono_l k
    · intro y0 y1 y2
      unfold chroma_zzIndex.l0
      repeat' first
      | (with_reducible exact ih0 _ _ _)
      | (with_reducible exact LeO.refl _)
      | (with_reducible exact LeO.none _)
      | (with_reducible refine LeO.ite ?_ ?_)
      | (with_reducible refine LeO.bind ?_ (fun _ => ?_))
      | exact ih0 _ _ _
      | exact LeO.none _
      | refine LeO.ite ?_ ?_
      | refine LeO.bind ?_ (fun _ => ?_)
theorem chroma_zzIndex.mono : ∀ a0 a1 k, LeO (chroma_zzIndex.f k a0 a1) (chroma_zzIndex.f (k + 1) a0 a1) := by
  intro a0 a1 k
  have ih0 := chroma_zzIndex.mono_l k
  unfold chroma_zzIndex.f
  repeat' first
      | (with_reducible exact ih0 _ _ _)
      | (with_reducible exact LeO.refl _)
      | (with_reducible exact LeO.none _)
      | (with_reducible refine LeO.ite ?_ ?_)
      | (with_reducible refine LeO.bind ?_ (fun _ => ?_))
      | exact ih0 _ _ _
      | exact LeO.none _
      | refine LeO.ite ?_ ?_
      | refine LeO.bind ?_ (fun _ => ?_)
set_option maxHeartbeats 8000000 in
set_option maxRecDepth 100000 in
theorem chroma_zzIndex.calls (k : Nat) (a0 : ByteArray) (a1 : ByteArray) (r : Int) (w : World) (h : chroma_zzIndex.f k a0 a1 = some r) :
    Calls Tryd.prog 41 #[.string a0, .string a1] w fun e w' => e = .returned (.int .i64 r) ∧ Drawn0 w w' := by
  have H : (chroma_zzIndex.l0 k a0 a1 0) = some r := h
  clear h
  have H' := Aside0.mk H
  clear H
  go_enter Tryd.func41, Tryd.ntmps41
  go_wp2
  go_loopg [5] k (fun kq v5 w' => ∃ (x5_1 : Int), v5 = .int .i64 x5_1 ∧ Aside0 (chroma_zzIndex.l0 kq a0 a1 x5_1 = some r) ∧ Aside0 (kq ≤ k) ∧ Drawn0 w w')
  case atStart => exact ⟨(0), (by first | rfl | (simp; done) | (simp [*]; done)), H', ⟨Nat.le_refl _⟩, by repeat (first | exact Drawn0.refl _ | apply Drawn0.step)⟩
  case round =>
    clear H'
    try clear p2
    obtain ⟨x5_1, rfl, HA, HK1, ⟨m1, rfl⟩⟩ := hrel
    cases gk with
    | zero => exact absurd HA.out (by simp [chroma_zzIndex.l0])
    | succ k1 =>
      have H := HA.out
      clear HA
      simp only [chroma_zzIndex.l0] at H
      by_cases c3 : (wrap64 (x5_1 + (a1.size : Int))) ≤ (a0.size : Int)
      · rw [if_pos c3] at H
        have c3b0 : decide ((wrap64 (x5_1 + (a1.size : Int))) ≤ (a0.size : Int)) = true := decide_eq_true c3
        clear c3
        by_cases c4 : 0 ≤ x5_1
        · rw [if_pos c4] at H
          have c4b0 := eq_true c4
          have c4b1 : decide (0 ≤ x5_1) = true := decide_eq_true c4
          clear c4
          by_cases c5 : x5_1 ≤ (wrap64 (x5_1 + (a1.size : Int)))
          · rw [if_pos c5] at H
            have c5b0 := eq_true c5
            have c5b1 : decide (x5_1 ≤ (wrap64 (x5_1 + (a1.size : Int)))) = true := decide_eq_true c5
            have c6b0 := eq_true (of_decide_eq_true (by first | (with_reducible assumption) | assumption) : (wrap64 (x5_1 + (a1.size : Int))) ≤ (a0.size : Int))
            by_cases c7 : (a0.extract (x5_1 : Int).toNat ((wrap64 (x5_1 + (a1.size : Int))) : Int).toNat).toList = a1.toList
            · rw [if_pos c7] at H
              have c7b0 : ((a0.extract (x5_1 : Int).toNat ((wrap64 (x5_1 + (a1.size : Int))) : Int).toNat).toList == a1.toList) = true := beq_iff_eq.mpr c7
              have c7b1 : ((a0.extract (x5_1 : Int).toNat ((wrap64 (x5_1 + (a1.size : Int))) : Int).toNat).toList != a1.toList) = false := bne_eq_false_iff_eq.mpr c7
              clear c7
              obtain rfl := Option.some.inj H
              go_wp2
              go_ret
              exact ⟨by first | rfl | (simp; done) | (simp [*]; done), by repeat (first | exact Drawn0.refl _ | apply Drawn0.step)⟩
            · rw [if_neg c7] at H
              have c7b0 : ((a0.extract (x5_1 : Int).toNat ((wrap64 (x5_1 + (a1.size : Int))) : Int).toNat).toList == a1.toList) = false := beq_eq_false_iff_ne.mpr c7
              have c7b1 : ((a0.extract (x5_1 : Int).toNat ((wrap64 (x5_1 + (a1.size : Int))) : Int).toNat).toList != a1.toList) = true := bne_iff_ne.mpr c7
              have H' := Aside0.mk H
              clear H
              go_wp2
              go_roundg k1
              case measure => have := HK1.out; omega
              case rel => exact ⟨(wrap64 (x5_1 + 1)), (by first | rfl | (simp; done) | (simp [*]; done)), H', ⟨by have := HK1.out; omega⟩, by repeat (first | exact Drawn0.refl _ | apply Drawn0.step)⟩
          · rw [if_neg c5] at H
            exact absurd H (by simp)
        · rw [if_neg c4] at H
          exact absurd H (by simp)
      · rw [if_neg c3] at H
        have c3b0 : decide ((wrap64 (x5_1 + (a1.size : Int))) ≤ (a0.size : Int)) = false := decide_eq_false c3
        clear c3
        obtain rfl := Option.some.inj H
        go_wp2
        go_ret
        exact ⟨by first | rfl | (simp; done) | (simp [*]; done), by repeat (first | exact Drawn0.refl _ | apply Drawn0.step)⟩

/-! ### chroma_zzContains: function 35 -/
def chroma_zzContains.f (k : Nat) (a0 : ByteArray) (a1 : ByteArray) : Option (Bool) := (chroma_zzIndex.f k a0 a1).bind fun t139 => (some (decide (t139 ≥ 0)))
theorem chroma_zzContains.mono : ∀ a0 a1 k, LeO (chroma_zzContains.f k a0 a1) (chroma_zzContains.f (k + 1) a0 a1) := by
  intro a0 a1 k
  unfold chroma_zzContains.f
  repeat' first
      | (with_reducible exact chroma_zzIndex.mono _ _ _)
      | (with_reducible exact LeO.refl _)
      | (with_reducible exact LeO.none _)
      | (with_reducible refine LeO.ite ?_ ?_)
      | (with_reducible refine LeO.bind ?_ (fun _ => ?_))
      | exact chroma_zzIndex.mono _ _ _
      | exact LeO.none _
      | refine LeO.ite ?_ ?_
      | refine LeO.bind ?_ (fun _ => ?_)
set_option maxHeartbeats 8000000 in
set_option maxRecDepth 100000 in
theorem chroma_zzContains.calls (k : Nat) (a0 : ByteArray) (a1 : ByteArray) (r : Bool) (w : World) (h : chroma_zzContains.f k a0 a1 = some r) :
    Calls Tryd.prog 35 #[.string a0, .string a1] w fun e w' => e = .returned (.bool r) ∧ Drawn0 w w' := by
  have H : ((chroma_zzIndex.f k a0 a1).bind fun t139 => (some (decide (t139 ≥ 0)))) = some r := h
  clear h
  replace H := Option.bind_eq_some_iff.mp H
  obtain ⟨t139, A30, H⟩ := H
  replace H : (some (decide (t139 ≥ 0))) = some r := H
  have A3 := Aside0.mk A30
  clear A30
  obtain rfl := Option.some.inj H
  go_enter Tryd.func35, Tryd.ntmps35
  go_wp2_with (first | ((with_reducible refine gate_callee (f := 41) rfl ?_); refine goesL_ (some 7) rfl rfl Tryd.func41 (by kernel_rfl) rfl #[.string a0, .string a1] rfl (by (try simp only [List.map_toArray, List.map_cons, List.map_nil]); first | done | rfl | (simp only [List.length_drop, List.length_take]; rfl)) ?_; (with_reducible refine (chroma_zzIndex.calls k a0 a1 t139 _ A3.out).mono ?_); rintro e w' ⟨rfl, ⟨nd, rfl⟩⟩; refine ⟨_, rfl, ?_⟩))
  go_ret
  exact ⟨by first | rfl | (simp; done) | (simp [*]; done), by repeat (first | exact Drawn0.refl _ | apply Drawn0.step)⟩

/-! ### chroma_zzSplitAfter: function 36 -/
def chroma_zzSplitAfter.f (k : Nat) (a0 : ByteArray) (a1 : ByteArray) : Option (List ByteArray) := (chroma_zzIndex.f k a0 a1).bind fun t140 => (if 0 ≤ (wrap64 (t140 + (a1.size : Int))) then (if (wrap64 (t140 + (a1.size : Int))) ≤ (a0.size : Int) then (some (([a0.extract 0 ((wrap64 (t140 + (a1.size : Int))) : Int).toNat, a0.extract ((wrap64 (t140 + (a1.size : Int))) : Int).toNat a0.size] : List ByteArray))) else (none)) else (none))
theorem chroma_zzSplitAfter.mono : ∀ a0 a1 k, LeO (chroma_zzSplitAfter.f k a0 a1) (chroma_zzSplitAfter.f (k + 1) a0 a1) := by
  intro a0 a1 k
  unfold chroma_zzSplitAfter.f
  repeat' first
      | (with_reducible exact chroma_zzIndex.mono _ _ _)
      | (with_reducible exact LeO.refl _)
      | (with_reducible exact LeO.none _)
      | (with_reducible refine LeO.ite ?_ ?_)
      | (with_reducible refine LeO.bind ?_ (fun _ => ?_))
      | exact chroma_zzIndex.mono _ _ _
      | exact LeO.none _
      | refine LeO.ite ?_ ?_
      | refine LeO.bind ?_ (fun _ => ?_)
def chroma_zzSplitAfter.T2 : Bool × List (List Nat × List Nat) := (true, [([], []), ([], []), ([0, 1], [0, 1]), ([], []), ([], []), ([3, 4], [3, 4]), ([2, 5], [2, 5]), ([6, 0, 1, 2, 3, 4, 5, 6], [6])])
def chroma_zzSplitAfter.B2 : List Nat := [0, 0, 3, 0, 0, 24, 63, 127]
theorem chroma_zzSplitAfter.tab2 : rtab .any (opsOf Tryd.f36 2) = chroma_zzSplitAfter.T2 := by kernel_rfl
theorem chroma_zzSplitAfter.bits2 : waitsOk chroma_zzSplitAfter.T2.2 chroma_zzSplitAfter.B2 = true := by kernel_rfl
set_option maxHeartbeats 8000000 in
set_option maxRecDepth 100000 in
theorem chroma_zzSplitAfter.calls (k : Nat) (a0 : ByteArray) (a1 : ByteArray) (r : List ByteArray) (w : World) (h : chroma_zzSplitAfter.f k a0 a1 = some r) :
    Calls Tryd.prog 36 #[.string a0, .string a1] w fun e w' => ∃ v0_ : Value, e = .returned (v0_) ∧ Kd.R Kd.string 9 w' w.heap.size (fun _ => True) v0_ r ∧ Below w.heap.size w w' := by
  have HB := Aside0.mk (Below.refl w.heap.size w)
  have H : ((chroma_zzIndex.f k a0 a1).bind fun t140 => (if 0 ≤ (wrap64 (t140 + (a1.size : Int))) then (if (wrap64 (t140 + (a1.size : Int))) ≤ (a0.size : Int) then (some (([a0.extract 0 ((wrap64 (t140 + (a1.size : Int))) : Int).toNat, a0.extract ((wrap64 (t140 + (a1.size : Int))) : Int).toNat a0.size] : List ByteArray))) else (none)) else (none))) = some r := h
  clear h
  replace H := Option.bind_eq_some_iff.mp H
  obtain ⟨t140, A30, H⟩ := H
  replace H : (if 0 ≤ (wrap64 (t140 + (a1.size : Int))) then (if (wrap64 (t140 + (a1.size : Int))) ≤ (a0.size : Int) then (some (([a0.extract 0 ((wrap64 (t140 + (a1.size : Int))) : Int).toNat, a0.extract ((wrap64 (t140 + (a1.size : Int))) : Int).toNat a0.size] : List ByteArray))) else (none)) else (none)) = some r := H
  have A3 := Aside0.mk A30
  clear A30
  obtain ⟨ji4, hji4⟩ : ∃ j_ : Int, (wrap64 (t140 + (a1.size : Int))) = j_ := ⟨_, rfl⟩
  replace H : (if 0 ≤ (ji4) then (if (ji4) ≤ (a0.size : Int) then (some (([a0.extract 0 ((ji4) : Int).toNat, a0.extract ((ji4) : Int).toNat a0.size] : List ByteArray))) else (none)) else (none)) = some r := by first | (rw [hji4] at H; exact H) | (simp only [hji4] at H ⊢; exact H)
  (try rw [hji4] at A3)
  have hji4w : (IntKind.i64.wrap (t140 + (a1.size : Int))) = ji4 := (i64_w _).trans hji4
  by_cases c5 : 0 ≤ (ji4)
  · rw [if_pos c5] at H
    have c5b0 := eq_true c5
    have c5b1 : decide (0 ≤ (ji4)) = true := decide_eq_true c5
    clear c5
    by_cases c6 : (ji4) ≤ (a0.size : Int)
    · rw [if_pos c6] at H
      have c6b0 := eq_true c6
      have c6b1 : decide ((ji4) ≤ (a0.size : Int)) = true := decide_eq_true c6
      clear c6
      have c7b0 := eq_true (of_decide_eq_true (by first | (with_reducible assumption) | assumption) : 0 ≤ (ji4))
      have c8b0 := eq_true (of_decide_eq_true (by first | (with_reducible assumption) | assumption) : (ji4) ≤ (a0.size : Int))
      obtain ⟨y141, hy141⟩ : ∃ y_ : List ByteArray, y_ = (([a0.extract 0 ((ji4) : Int).toNat, a0.extract ((ji4) : Int).toNat a0.size] : List ByteArray)) := ⟨_, rfl⟩
      replace H : (some y141) = some r := by first | (rw [hy141]; with_reducible exact H) | (have H2_ := (Option.bind_some _ _).symm.trans H; rw [hy141]; with_reducible exact H2_) | (have H2_ := (Option.bind_some _ _).symm.trans H; with_reducible exact H2_) | with_reducible exact H | (rw [hy141]; exact H) | exact H
      have Ny141 := Aside0.mk hy141
      clear hy141
      obtain rfl := Option.some.inj H
      go_enter Tryd.func36, Tryd.ntmps36
      try go_wp2_with (first | ((with_reducible refine gate_callee (f := 41) rfl ?_); refine goesL_ (some 8) rfl rfl Tryd.func41 (by kernel_rfl) rfl #[.string a0, .string a1] rfl (by (try simp only [List.map_toArray, List.map_cons, List.map_nil]); first | done | rfl | (simp only [List.length_drop, List.length_take]; rfl)) ?_; (with_reducible refine (chroma_zzIndex.calls k a0 a1 t140 _ A3.out).mono ?_); rintro e w' ⟨rfl, ⟨nd, rfl⟩⟩; refine ⟨_, rfl, ?_⟩))
      (try simp only [World.drewN_drewN])
      rw [drewN_self w]; generalize hq_ : World.drewN w _ = w9
      have n0_ : Aside0 (Below w.heap.size w w9) := ⟨by rw [← hq_]; exact (by repeat (first | (with_reducible first | exact HB.out | apply below_alloc | apply pw_below_drewN | apply below_drew1) | exact HB.out))⟩
      clear HB hq_
      have HB := n0_
      clear n0_
      have n0_ := Aside0.mk (below_drew1 HB.out)
      clear HB
      have HB := n0_
      clear n0_
      refine start_ (n := 8) (S := fun w' => True) (ds := []) #[false, false, false, false, false, false, false, false] (by kernel_rfl) rfl rfl trivial (fun hHeld => ?_); refine with_tabW chroma_zzSplitAfter.tab2 chroma_zzSplitAfter.bits2 (fun HT_ HW_ => ?_)
      generalize w9.drew = w10 at HB hHeld ⊢
      refine pure_ (i := 0) (N := some 12) (v := ?_) (a' := ?_) #[true, false, false, false, false, false, false, false] rfl rfl (any_of HT_.out (by kernel_rfl)) (fun _ _ _ h => h) (Or.inl ⟨by rfl, ?_⟩) ?_ ?_
      rotate_left
      · intro w'
        go_simp
        with_reducible rfl
      rotate_left
      · simp only [Act.put, List.setIfInBounds_toArray, List.set_cons_zero, List.set_cons_succ, i64_w, i32_w]
        rfl
      refine pure_ (i := 1) (N := some 13) (v := ?_) (a' := ?_) #[true, true, false, false, false, false, false, false] rfl rfl (any_of HT_.out (by kernel_rfl)) (fun _ _ _ h => h) (Or.inl ⟨by rfl, ?_⟩) ?_ ?_
      rotate_left
      · intro w'
        go_simp
        with_reducible rfl
      rotate_left
      · simp only [Act.put, List.setIfInBounds_toArray, List.set_cons_zero, List.set_cons_succ, i64_w, i32_w]
        rfl
      refine pure_ (i := 2) (N := some 14) (v := ?_) (a' := ?_) #[true, true, true, false, false, false, false, false] rfl rfl (any_of HT_.out (by kernel_rfl)) (fun _ _ _ h => h) (Or.inl ⟨by rfl, ?_⟩) ?_ ?_
      rotate_left
      · intro w'
        go_simp
        with_reducible rfl
      rotate_left
      · simp only [Act.put, List.setIfInBounds_toArray, List.set_cons_zero, List.set_cons_succ, i64_w, i32_w]
        rfl
      refine pure_ (i := 3) (N := some 15) (v := ?_) (a' := ?_) #[true, true, true, true, false, false, false, false] rfl rfl (any_of HT_.out (by kernel_rfl)) (fun _ _ _ h => h) (Or.inl ⟨by rfl, ?_⟩) ?_ ?_
      rotate_left
      · intro w'
        go_simp
        with_reducible rfl
      rotate_left
      · simp only [Act.put, List.setIfInBounds_toArray, List.set_cons_zero, List.set_cons_succ, i64_w, i32_w]
        rfl
      refine pure_ (i := 4) (N := some 16) (v := ?_) (a' := ?_) #[true, true, true, true, true, false, false, false] rfl rfl (any_of HT_.out (by kernel_rfl)) (fun _ _ _ h => h) (Or.inl ⟨by rfl, ?_⟩) ?_ ?_
      rotate_left
      · intro w'
        go_simp
        with_reducible rfl
      rotate_left
      · simp only [Act.put, List.setIfInBounds_toArray, List.set_cons_zero, List.set_cons_succ, i64_w, i32_w]
        rfl
      refine pure_ (i := 5) (N := some 17) (v := ?_) (a' := ?_) #[true, true, true, true, true, true, false, false] rfl rfl (any_of HT_.out (by kernel_rfl)) (fun _ _ _ h => h) (Or.inl ⟨by rfl, ?_⟩) ?_ ?_
      rotate_left
      · intro w'
        go_simp
        with_reducible rfl
      rotate_left
      · simp only [Act.put, List.setIfInBounds_toArray, List.set_cons_zero, List.set_cons_succ, i64_w, i32_w]
        rfl
      refine one_ (i := 6) (N := some 18) #[true, true, true, true, true, true, true, false] rfl rfl (one_of HT_.out (by kernel_rfl)) (by decide) (fun K hK => ?_)
      refine Kd.R_lit_step Kd.string _ 9 ?hg (N := 18) ?hd (xs := ([a0.extract 0 ((ji4) : Int).toNat, a0.extract ((ji4) : Int).toNat a0.size] : List ByteArray)) (inner := [.string (a0.extract 0 ((ji4) : Int).toNat), .string (a0.extract ((ji4) : Int).toNat a0.size)]) (ok := fun _ => True) (okp := fun _ => True) ?hr ?hp (fun _ hk => hk) trivial (Below.refl _ _) (Nat.le_refl _) (by simp) ?_; (case hd => rfl); (case hg => rfl); (case hr => first | (go_simp; done) | (go_simp; rfl)); (case hp => exact (Reps.one (show Kd.M Kd.string _ _ _ (a0.extract 0 ((ji4) : Int).toNat) [.string (a0.extract 0 ((ji4) : Int).toNat)] from rfl) (Reps.one (show Kd.M Kd.string _ _ _ (a0.extract ((ji4) : Int).toNat a0.size) [.string (a0.extract ((ji4) : Int).toNat a0.size)] from rfl) (Reps.none _ _))))
      intro v142 w11 ho12 hb hg_ hnew_
      clear hg_ hnew_
      (first | rw [← Ny141.out] at ho12 | (simp only [Int.reduceToNat] at ho12; rw [← Ny141.out] at ho12))
      have n0_ := Aside0.mk (Kd.R_lower ho12 (below_size (by repeat (first | (with_reducible first | exact HB.out | apply below_alloc | apply pw_below_drewN | apply below_drew1) | exact HB.out))))
      have n1_ := Aside0.mk (below_step (by repeat (first | (with_reducible first | exact HB.out | apply below_alloc | apply pw_below_drewN | apply below_drew1) | exact HB.out)) hb)
      clear HB
      have HO143 := n0_
      have HB := n1_
      clear n0_ n1_
      clear hb ho12
      refine hK.out _ _ trivial (fun hHeld => ?_)
      clear hK K
      refine norm_ (a' := ?_) ?_ ?_
      rotate_left
      · show Act.put _ (some 18) _ = _
        simp only [Act.put, List.setIfInBounds_toArray, List.set_cons_zero, List.set_cons_succ, i64_w, i32_w]
        rfl
      refine pure_ (i := 7) (N := some 4) (v := ?_) (a' := ?_) #[true, true, true, true, true, true, true, true] rfl rfl (any_of HT_.out (by kernel_rfl)) (fun _ _ _ h => h) (Or.inl ⟨by rfl, ?_⟩) ?_ ?_
      rotate_left
      · intro w'
        go_simp
        with_reducible rfl
      rotate_left
      · simp only [Act.put, List.setIfInBounds_toArray, List.set_cons_zero, List.set_cons_succ, i64_w, i32_w]
        rfl
      refine done_ (done_of HT_.out (by kernel_rfl)) ?_
      try go_wp2
      go_ret
      exact ⟨_, by first | rfl | (simp [errW_none, errW_some] <;> rfl) | (simp only [← hji4]; first | rfl | (simp [errW_none, errW_some] <;> rfl)) | (simp [*, errW_none, errW_some] <;> rfl), by (with_reducible repeat (first | apply Kd.R_alloc | apply Kd.R_drewN | apply Kd.R_drew)); exact HO143.out, by repeat (first | (with_reducible first | exact HB.out | apply below_alloc | apply pw_below_drewN | apply below_drew1) | exact HB.out)⟩
    · rw [if_neg c6] at H
      exact absurd H (by simp)
  · rw [if_neg c5] at H
    exact absurd H (by simp)

/-! ### chroma_Token_Clone: function 37 -/
def chroma_Token_Clone.f (s0_0 : Int) (s0_1 : ByteArray) : Option (Int × ByteArray) := some (s0_0, s0_1)
set_option maxHeartbeats 8000000 in
theorem chroma_Token_Clone.calls (g : Nat) (s0_0 : Int) (s0_1 : ByteArray) (r1 : Int) (r2 : ByteArray) (w : World) (hI : w.heap[g]? = some (.cells #[.int .i64 s0_0, .string s0_1] 65 (0, 0))) (h : chroma_Token_Clone.f s0_0 s0_1 = some (r1, r2)) :
    Calls Tryd.prog 37 #[.pointer (some ⟨g, 0, none⟩)] w fun e w' => e = .returned (.agg #[.int .i64 r1, .string r2]) ∧ Below w.heap.size w w' := by
  have hu47 := Tryd.underlying65
  have c0 : w.cell? ⟨g, 0, none⟩ = some (.int .i64 s0_0) := (blk_cell hI 0).trans rfl
  have c1 : w.cell? ⟨g, 1, none⟩ = some (.string s0_1) := (blk_cell hI 1).trans rfl
  have lt : g < w.heap.size := blk_lt hI
  clear hI
  simp only [chroma_Token_Clone.f, Option.some.injEq, Prod.mk.injEq] at h
  obtain ⟨rfl, rfl⟩ := h
  go_enter Tryd.func37, Tryd.ntmps37
  go_wp2
  exact bodyPost_ret (results_cell_row rfl _ _ w.heap.size 65 #[.int .i64 s0_0, .string s0_1] (0, 0) _ rfl (by simpa using heap_alloc_new w _) Tryd.underlying65 rfl (by kernel_rfl)) rfl ⟨rfl, (Below.refl _ _).alloc (Nat.le_refl _) _⟩

end Go.Proofs.YtmldahejeobohaaDoor.K
