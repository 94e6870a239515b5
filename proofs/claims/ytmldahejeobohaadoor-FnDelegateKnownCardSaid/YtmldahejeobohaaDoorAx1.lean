-- WRITTEN BY OUR myprint.py, a program of this session's over the kit's printer
import Derived.Test.YtmldahejeobohaaDoorAx0
namespace Go.Proofs.YtmldahejeobohaaDoor.A
open Go.RowKit Go.Proofs.YtmldahejeobohaaDoorW.PrintWords Go.Proofs.YtmldahejeobohaaDoorW.PrintLast Go.Proofs.YtmldahejeobohaaDoorW.PrintMore
attribute [local go_sem] max2_int min2_int max_two min_two max_three min_three max_four min_four   -- for this text's walks alone
set_option linter.unusedVariables false
set_option linter.unusedSimpArgs false

/-! ### impl_inner: function 31 -/
def impl_inner.l0 : Nat → List (S65) → List (S27) → Int → Int → Option ((List (S65)))
  | 0, _, _, _, _ => none
  | k + 1, x3, x6, x7, x8 => if x8 < x7 then (if 0 ≤ x8 then (if x8 < (x6.length : Int) then (if x3.length < 5864062014805 then (impl_inner.l0 k (x3 ++ [(⟨(rd_T27 x6 x8).f0, (rd_T27 x6 x8).f1⟩ : S65)]) x6 x7 (wrap64 (x8 + 1))) else (none)) else (none)) else (none)) else (some x3)
def impl_inner.f (k : Nat) (l0 : List (S27)) : Option ((List (S65))) := impl_inner.l0 k ([] : List (S65)) l0 (l0.length : Int) 0
theorem impl_inner.mono_l : ∀ k, (∀ y0 y1 y2 y3, LeO (impl_inner.l0 k y0 y1 y2 y3) (impl_inner.l0 (k + 1) y0 y1 y2 y3))
  | 0 => fun _ _ _ _ r h => by simp [impl_inner.l0] at h
  | k + 1 => by
    have ih0 := impl_inner.mono_l k
    · intro y0 y1 y2 y3
      unfold impl_inner.l0
      repeat' first
      | (with_reducible exact ih0 _ _ _ _)
      | (with_reducible exact LeO.refl _)
      | (with_reducible exact LeO.none _)
      | (with_reducible refine LeO.ite ?_ ?_)
      | (with_reducible refine LeO.bind ?_ (fun _ => ?_))
      | exact ih0 _ _ _ _
      | exact LeO.none _
      | refine LeO.ite ?_ ?_
      | refine LeO.bind ?_ (fun _ => ?_)
theorem impl_inner.mono : ∀ a0 k, LeO (impl_inner.f k a0) (impl_inner.f (k + 1) a0) := by
  intro a0 k
  have ih0 := impl_inner.mono_l k
  unfold impl_inner.f
  repeat' first
      | (with_reducible exact ih0 _ _ _ _)
      | (with_reducible exact LeO.refl _)
      | (with_reducible exact LeO.none _)
      | (with_reducible refine LeO.ite ?_ ?_)
      | (with_reducible refine LeO.bind ?_ (fun _ => ?_))
      | exact ih0 _ _ _ _
      | exact LeO.none _
      | refine LeO.ite ?_ ?_
      | refine LeO.bind ?_ (fun _ => ?_)
set_option maxHeartbeats 8000000 in
set_option maxRecDepth 100000 in
theorem impl_inner.calls (k : Nat) (A0 : Option Addr) (c0 : Nat) (l0 : List (S27)) (r : List (S65)) (w : World) (hr0 : Kd.C k27 w A0 l0.length l0) (hc0 : l0.length ≤ c0) (h : impl_inner.f k l0 = some r) :
    Calls Tryd.prog 31 #[.slice A0 l0.length c0] w fun e w' => ∃ v0_ : Value, e = .returned (v0_) ∧ Kd.R k65 65 w' w.heap.size (fun _ => True) v0_ r ∧ Below w.heap.size w w' := by
  have hu27 := Tryd.underlying27
  have hu65 := Tryd.underlying65
  have HR0 := Aside0.mk hr0
  have HC0 := Aside0.mk hc0
  clear hr0 hc0
  have HB := Aside0.mk (Below.refl w.heap.size w)
  have H : (impl_inner.l0 k ([] : List (S65)) l0 (l0.length : Int) 0) = some r := h
  clear h
  have H' := Aside0.mk H
  clear H
  go_enter Tryd.func31, Tryd.ntmps31
  go_wp2
  go_loopg [3, 8] k (fun kq v3 v8 w' => ∃ (x3_1 : List (S65)) (x8_1 : Int), v8 = .int .i64 x8_1 ∧ Aside0 (impl_inner.l0 kq x3_1 l0 (l0.length : Int) x8_1 = some r) ∧ Aside0 (kq ≤ k) ∧ Aside0 (Kd.R k65 65 w' w.heap.size (fun _ => True) v3 x3_1) ∧ Aside0 (Below w.heap.size w w'))
  case atStart => exact ⟨(([] : List (S65))), (0), (by first | rfl | (simp; done) | (simp [*]; done)), H', ⟨Nat.le_refl _⟩, ⟨by first | exact Kd.R_nil _ _ _ _ _ | exact Kd.N_nil _ _ _ _ _ | exact Kd.V_nil _ _ _ _ _ | exact Kd.Q_nil _ _ _ _ _ | exact Kd.S_nil _ _ _ _ _⟩, ⟨by repeat (first | (with_reducible first | exact HB.out | apply below_alloc | apply pw_below_drewN | apply below_drew1) | exact HB.out)⟩⟩
  case round =>
    clear H'
    obtain ⟨x3_1, x8_1, rfl, HA, HK1, HO_3, HB⟩ := hrel
    cases gk with
    | zero => exact absurd HA.out (by simp [impl_inner.l0])
    | succ k1 =>
      have H := HA.out
      clear HA
      simp only [impl_inner.l0] at H
      by_cases c2 : x8_1 < (l0.length : Int)
      · rw [if_pos c2] at H
        have c2b0 : decide (x8_1 < (l0.length : Int)) = true := decide_eq_true c2
        clear c2
        by_cases c3 : 0 ≤ x8_1
        · rw [if_pos c3] at H
          have c3b0 : decide (0 ≤ x8_1) = true := decide_eq_true c3
          clear c3
          by_cases c4 : x8_1 < (l0.length : Int)
          · rw [if_pos c4] at H
            have c4b0 : decide (x8_1 < (l0.length : Int)) = true := decide_eq_true c4
            clear c4
            by_cases c5 : x3_1.length < 5864062014805
            · rw [if_pos c5] at H
              have LMc5 := Aside0.mk c5
              clear c5
              obtain ⟨y103, hy103⟩ : ∃ y_ : List (S65), y_ = (x3_1 ++ [(⟨(rd_T27 l0 x8_1).f0, (rd_T27 l0 x8_1).f1⟩ : S65)]) := ⟨_, rfl⟩
              replace H : (impl_inner.l0 k1 y103 l0 (l0.length : Int) (wrap64 (x8_1 + 1))) = some r := by first | (rw [hy103]; with_reducible exact H) | (have H2_ := (Option.bind_some _ _).symm.trans H; rw [hy103]; with_reducible exact H2_) | (have H2_ := (Option.bind_some _ _).symm.trans H; with_reducible exact H2_) | with_reducible exact H | (rw [hy103]; exact H) | exact H
              have Ny103 := Aside0.mk hy103
              clear hy103
              have H' := Aside0.mk H
              clear H
              have p101 : 0 ≤ (x8_1 : Int) := of_decide_eq_true (by first | (with_reducible assumption) | assumption)
              have q101 : x8_1 < (l0.length : Int) := of_decide_eq_true (by first | (with_reducible assumption) | assumption)
              obtain ⟨ad101, e101, hx101_0, hx101_1⟩ := at_T27 HR0.out x8_1 p101 q101
              cases e101
              replace hx101_0 := (HB.out.cell (World.block_lt_of_cell? w _ hx101_0)).trans hx101_0
              replace hx101_1 := (HB.out.cell (World.block_lt_of_cell? w _ hx101_1)).trans hx101_1
              replace p101 := eq_true p101
              replace q101 := eq_true q101
              go_wp2_with (first | ((with_reducible refine gate_dst (N := 5) rfl ?_); refine box_event ?hg (N := 5) ?hd (cs := #[.int .i64 0, .string (⟨#[]⟩ : ByteArray)]) (t := 27) ?hr ?_; (case hd => rfl); (case hg => rfl); (case hr => first | (go_simp; done) | (go_simp; rfl)); intro gb102 hg w6 hbox hb; have n0_ := Aside0.mk (Kd.R_below (by (with_reducible repeat (first | apply Kd.R_alloc | apply Kd.R_drewN | apply Kd.R_drew)); exact HO_3.out) hb); have n1_ := Aside0.mk (below_step (by repeat (first | (with_reducible first | exact HB.out | apply below_alloc | apply pw_below_drewN | apply below_drew1) | exact HB.out)) hb); have n2_ := Aside0.mk (hbox); have n3_ := Aside0.mk ((by rw [hg]; exact (below_size (by repeat (first | (with_reducible first | exact HB.out | apply below_alloc | apply pw_below_drewN | apply below_drew1) | exact HB.out))) : w.heap.size ≤ gb102)); have n4_ := Aside0.mk ((by rw [hg]; exact (below_size (by repeat (first | (with_reducible first | exact HB.out | apply below_alloc | apply pw_below_drewN | apply below_drew1) | exact HB.out))) : w.heap.size ≤ gb102)); clear HO_3; clear HB; have HO_3 := n0_; have HB := n1_; have BK102 := n2_; have GW102 := n3_; have GE102 := n4_; clear n0_ n1_ n2_ n3_ n4_; clear hb hbox hg; have hcz7_0 : w6.cell? ⟨gb102, 0, none⟩ = some (.int .i64 0) := (blk_cell BK102.out 0).trans rfl; have hcz7_1 : w6.cell? ⟨gb102, 1, none⟩ = some (.string (⟨#[]⟩ : ByteArray)) := (blk_cell BK102.out 1).trans rfl; have hfz7_0 := blk_frozen BK102.out 0; have hfz7_1 := blk_frozen BK102.out 1) | ((with_reducible refine gate_builtin (b := .append) (xs := #[.tmp 12, .tmp 18]) rfl ?_); at_builtin; refine Kd.R_append k65 (w0 := w) w.heap.size rfl (.tmp 12) (.tmp 18) 50 65 (.agg #[(.int .i64 0), (.string ⟨#[]⟩)]) 24 rfl Tryd.underlying50 info65 rfl (by decide) (by omega) u3 x3_1 (⟨(rd_T27 l0 x8_1).f0, (rd_T27 l0 x8_1).f1⟩ : S65) [.int .i64 ((rd_T27 l0 x8_1).f0), .string ((rd_T27 l0 x8_1).f1)] (fun _ => True) (fun _ => False) rfl (by first | (go_simp; done) | (go_simp; rfl)) ?aP (fun _ hk => hk.elim) ?aF ?aO ?aB ?aS ?aL ?_; (case aP => exact k65_mkM _ _ _ (⟨(rd_T27 l0 x8_1).f0, (rd_T27 l0 x8_1).f1⟩ : S65)); (case aB => exact (by repeat (first | (with_reducible first | exact HB.out | apply below_alloc | apply pw_below_drewN | apply below_drew1 | refine below_set ?_ GE102.out) | exact HB.out))); (case aF => exact (fun _ _ => trivial)); (case aO => exact (by (with_reducible repeat (first | apply Kd.R_alloc | apply Kd.R_drewN | apply Kd.R_drew)); exact Kd.R_mono (Kd.R_far (p := ⟨gb102, 1, none⟩) (Kd.R_far (p := ⟨gb102, 0, none⟩) (Kd.R_types HO_3.out BK102.out (by decide)) (fun _ hk => hk.2) (.int .i64 ((rd_T27 l0 x8_1).f0))) (fun _ hk => hk.2) (.string ((rd_T27 l0 x8_1).f1))) (fun _ hk => trivial))); (case aS => exact (below_size (by repeat (first | (with_reducible first | exact HB.out | apply below_alloc | apply pw_below_drewN | apply below_drew1 | refine below_set ?_ GE102.out) | exact HB.out)))); (case aL => have := LMc5.out; omega); intro v104 w8 ho hb hg hat; rw [← Ny103.out] at ho; have n0_ := Aside0.mk (blk_grown (g := gb102) (o := .cells #[.int .i64 ((rd_T27 l0 x8_1).f0), .string ((rd_T27 l0 x8_1).f1)] 27 (0, 0)) (by (with_reducible repeat (first | refine blk_drewN ?_ _ | refine blk_drew ?_ | refine blk_alloc ?_ _)); refine blk_put (cs := #[.int .i64 ((rd_T27 l0 x8_1).f0), .string (⟨#[]⟩ : ByteArray)]) ?_ 1 _ rfl; (with_reducible repeat (first | refine blk_drewN ?_ _ | refine blk_drew ?_ | refine blk_alloc ?_ _)); refine blk_put (cs := #[.int .i64 0, .string (⟨#[]⟩ : ByteArray)]) ?_ 0 _ rfl; (with_reducible repeat (first | refine blk_drewN ?_ _ | refine blk_drew ?_ | refine blk_alloc ?_ _)); exact BK102.out) hg (Kd.R_ne HO_3.out BK102.out (by decide))); have n1_ := Aside0.mk (hb); have n2_ := Aside0.mk (ho); clear BK102; clear HB; clear HO_3; have BK102 := n0_; have HB := n1_; have HO105 := n2_; clear n0_ n1_ n2_; clear ho hb hg hat))
              go_roundg k1
              case measure => have := HK1.out; omega
              case rel => exact ⟨(y103), (wrap64 (x8_1 + 1)), (by first | rfl | (simp; done) | (simp [*]; done)), H', ⟨by have := HK1.out; omega⟩, ⟨by (with_reducible repeat (first | apply Kd.R_alloc | apply Kd.R_drewN | apply Kd.R_drew)); exact HO105.out⟩, ⟨by repeat (first | (with_reducible first | exact HB.out | apply below_alloc | apply pw_below_drewN | apply below_drew1 | refine below_set ?_ GE102.out) | exact HB.out)⟩⟩
            · rw [if_neg c5] at H
              exact absurd H (by simp)
          · rw [if_neg c4] at H
            exact absurd H (by simp)
        · rw [if_neg c3] at H
          exact absurd H (by simp)
      · rw [if_neg c2] at H
        have c2b0 : decide (x8_1 < (l0.length : Int)) = false := decide_eq_false c2
        clear c2
        obtain rfl := Option.some.inj H
        go_wp2
        go_ret
        exact ⟨_, by first | rfl | (simp [errW_none, errW_some] <;> rfl) | (simp [*, errW_none, errW_some] <;> rfl), by (with_reducible repeat (first | apply Kd.R_alloc | apply Kd.R_drewN | apply Kd.R_drew)); exact HO_3.out, by repeat (first | (with_reducible first | exact HB.out | apply below_alloc | apply pw_below_drewN | apply below_drew1) | exact HB.out)⟩

/-! ### impl_outer: function 29 -/
def impl_outer.l0 : Nat → List (S27) → List (S65) → Int → Int → Option ((List (S27)))
  | 0, _, _, _, _ => none
  | k + 1, x3, x6, x7, x8 => if x8 < x7 then (if 0 ≤ x8 then (if x8 < (x6.length : Int) then (if x3.length < 5864062014805 then (impl_outer.l0 k (x3 ++ [(⟨(rd_T65 x6 x8).f0, (rd_T65 x6 x8).f1⟩ : S27)]) x6 x7 (wrap64 (x8 + 1))) else (none)) else (none)) else (none)) else (some x3)
def impl_outer.f (k : Nat) (l0 : List (S65)) : Option ((List (S27))) := impl_outer.l0 k ([] : List (S27)) l0 (l0.length : Int) 0
theorem impl_outer.mono_l : ∀ k, (∀ y0 y1 y2 y3, LeO (impl_outer.l0 k y0 y1 y2 y3) (impl_outer.l0 (k + 1) y0 y1 y2 y3))
  | 0 => fun _ _ _ _ r h => by simp [impl_outer.l0] at h
  | k + 1 => by
    have ih0 := impl_outer.mono_l k
    · intro y0 y1 y2 y3
      unfold impl_outer.l0
      repeat' first
      | (with_reducible exact ih0 _ _ _ _)
      | (with_reducible exact LeO.refl _)
      | (with_reducible exact LeO.none _)
      | (with_reducible refine LeO.ite ?_ ?_)
      | (with_reducible refine LeO.bind ?_ (fun _ => ?_))
      | exact ih0 _ _ _ _
      | exact LeO.none _
      | refine LeO.ite ?_ ?_
      | refine LeO.bind ?_ (fun _ => ?_)
theorem impl_outer.mono : ∀ a0 k, LeO (impl_outer.f k a0) (impl_outer.f (k + 1) a0) := by
  intro a0 k
  have ih0 := impl_outer.mono_l k
  unfold impl_outer.f
  repeat' first
      | (with_reducible exact ih0 _ _ _ _)
      | (with_reducible exact LeO.refl _)
      | (with_reducible exact LeO.none _)
      | (with_reducible refine LeO.ite ?_ ?_)
      | (with_reducible refine LeO.bind ?_ (fun _ => ?_))
      | exact ih0 _ _ _ _
      | exact LeO.none _
      | refine LeO.ite ?_ ?_
      | refine LeO.bind ?_ (fun _ => ?_)
set_option maxHeartbeats 8000000 in
set_option maxRecDepth 100000 in
theorem impl_outer.calls (k : Nat) (A0 : Option Addr) (c0 : Nat) (l0 : List (S65)) (r : List (S27)) (w : World) (hr0 : Kd.C k65 w A0 l0.length l0) (hc0 : l0.length ≤ c0) (h : impl_outer.f k l0 = some r) :
    Calls Tryd.prog 29 #[.slice A0 l0.length c0] w fun e w' => ∃ v0_ : Value, e = .returned (v0_) ∧ Kd.R k27 27 w' w.heap.size (fun _ => True) v0_ r ∧ Below w.heap.size w w' := by
  have hu65 := Tryd.underlying65
  have hu27 := Tryd.underlying27
  have HR0 := Aside0.mk hr0
  have HC0 := Aside0.mk hc0
  clear hr0 hc0
  have HB := Aside0.mk (Below.refl w.heap.size w)
  have H : (impl_outer.l0 k ([] : List (S27)) l0 (l0.length : Int) 0) = some r := h
  clear h
  have H' := Aside0.mk H
  clear H
  go_enter Tryd.func29, Tryd.ntmps29
  go_wp2
  go_loopg [3, 8] k (fun kq v3 v8 w' => ∃ (x3_1 : List (S27)) (x8_1 : Int), v8 = .int .i64 x8_1 ∧ Aside0 (impl_outer.l0 kq x3_1 l0 (l0.length : Int) x8_1 = some r) ∧ Aside0 (kq ≤ k) ∧ Aside0 (Kd.R k27 27 w' w.heap.size (fun _ => True) v3 x3_1) ∧ Aside0 (Below w.heap.size w w'))
  case atStart => exact ⟨(([] : List (S27))), (0), (by first | rfl | (simp; done) | (simp [*]; done)), H', ⟨Nat.le_refl _⟩, ⟨by first | exact Kd.R_nil _ _ _ _ _ | exact Kd.N_nil _ _ _ _ _ | exact Kd.V_nil _ _ _ _ _ | exact Kd.Q_nil _ _ _ _ _ | exact Kd.S_nil _ _ _ _ _⟩, ⟨by repeat (first | (with_reducible first | exact HB.out | apply below_alloc | apply pw_below_drewN | apply below_drew1) | exact HB.out)⟩⟩
  case round =>
    clear H'
    obtain ⟨x3_1, x8_1, rfl, HA, HK1, HO_3, HB⟩ := hrel
    cases gk with
    | zero => exact absurd HA.out (by simp [impl_outer.l0])
    | succ k1 =>
      have H := HA.out
      clear HA
      simp only [impl_outer.l0] at H
      by_cases c2 : x8_1 < (l0.length : Int)
      · rw [if_pos c2] at H
        have c2b0 : decide (x8_1 < (l0.length : Int)) = true := decide_eq_true c2
        clear c2
        by_cases c3 : 0 ≤ x8_1
        · rw [if_pos c3] at H
          have c3b0 : decide (0 ≤ x8_1) = true := decide_eq_true c3
          clear c3
          by_cases c4 : x8_1 < (l0.length : Int)
          · rw [if_pos c4] at H
            have c4b0 : decide (x8_1 < (l0.length : Int)) = true := decide_eq_true c4
            clear c4
            by_cases c5 : x3_1.length < 5864062014805
            · rw [if_pos c5] at H
              have LMc5 := Aside0.mk c5
              clear c5
              obtain ⟨y108, hy108⟩ : ∃ y_ : List (S27), y_ = (x3_1 ++ [(⟨(rd_T65 l0 x8_1).f0, (rd_T65 l0 x8_1).f1⟩ : S27)]) := ⟨_, rfl⟩
              replace H : (impl_outer.l0 k1 y108 l0 (l0.length : Int) (wrap64 (x8_1 + 1))) = some r := by first | (rw [hy108]; with_reducible exact H) | (have H2_ := (Option.bind_some _ _).symm.trans H; rw [hy108]; with_reducible exact H2_) | (have H2_ := (Option.bind_some _ _).symm.trans H; with_reducible exact H2_) | with_reducible exact H | (rw [hy108]; exact H) | exact H
              have Ny108 := Aside0.mk hy108
              clear hy108
              have H' := Aside0.mk H
              clear H
              have p106 : 0 ≤ (x8_1 : Int) := of_decide_eq_true (by first | (with_reducible assumption) | assumption)
              have q106 : x8_1 < (l0.length : Int) := of_decide_eq_true (by first | (with_reducible assumption) | assumption)
              obtain ⟨ad106, e106, hx106_0, hx106_1⟩ := at_T65 HR0.out x8_1 p106 q106
              cases e106
              replace hx106_0 := (HB.out.cell (World.block_lt_of_cell? w _ hx106_0)).trans hx106_0
              replace hx106_1 := (HB.out.cell (World.block_lt_of_cell? w _ hx106_1)).trans hx106_1
              replace p106 := eq_true p106
              replace q106 := eq_true q106
              go_wp2_with (first | ((with_reducible refine gate_dst (N := 5) rfl ?_); refine box_event ?hg (N := 5) ?hd (cs := #[.int .i64 0, .string (⟨#[]⟩ : ByteArray)]) (t := 65) ?hr ?_; (case hd => rfl); (case hg => rfl); (case hr => first | (go_simp; done) | (go_simp; rfl)); intro gb107 hg w6 hbox hb; have n0_ := Aside0.mk (Kd.R_below (by (with_reducible repeat (first | apply Kd.R_alloc | apply Kd.R_drewN | apply Kd.R_drew)); exact HO_3.out) hb); have n1_ := Aside0.mk (below_step (by repeat (first | (with_reducible first | exact HB.out | apply below_alloc | apply pw_below_drewN | apply below_drew1) | exact HB.out)) hb); have n2_ := Aside0.mk (hbox); have n3_ := Aside0.mk ((by rw [hg]; exact (below_size (by repeat (first | (with_reducible first | exact HB.out | apply below_alloc | apply pw_below_drewN | apply below_drew1) | exact HB.out))) : w.heap.size ≤ gb107)); have n4_ := Aside0.mk ((by rw [hg]; exact (below_size (by repeat (first | (with_reducible first | exact HB.out | apply below_alloc | apply pw_below_drewN | apply below_drew1) | exact HB.out))) : w.heap.size ≤ gb107)); clear HO_3; clear HB; have HO_3 := n0_; have HB := n1_; have BK107 := n2_; have GW107 := n3_; have GE107 := n4_; clear n0_ n1_ n2_ n3_ n4_; clear hb hbox hg; have hcz7_0 : w6.cell? ⟨gb107, 0, none⟩ = some (.int .i64 0) := (blk_cell BK107.out 0).trans rfl; have hcz7_1 : w6.cell? ⟨gb107, 1, none⟩ = some (.string (⟨#[]⟩ : ByteArray)) := (blk_cell BK107.out 1).trans rfl; have hfz7_0 := blk_frozen BK107.out 0; have hfz7_1 := blk_frozen BK107.out 1) | ((with_reducible refine gate_builtin (b := .append) (xs := #[.tmp 12, .tmp 18]) rfl ?_); at_builtin; refine Kd.R_append k27 (w0 := w) w.heap.size rfl (.tmp 12) (.tmp 18) 23 27 (.agg #[(.int .i64 0), (.string ⟨#[]⟩)]) 24 rfl Tryd.underlying23 info27 rfl (by decide) (by omega) u3 x3_1 (⟨(rd_T65 l0 x8_1).f0, (rd_T65 l0 x8_1).f1⟩ : S27) [.int .i64 ((rd_T65 l0 x8_1).f0), .string ((rd_T65 l0 x8_1).f1)] (fun _ => True) (fun _ => False) rfl (by first | (go_simp; done) | (go_simp; rfl)) ?aP (fun _ hk => hk.elim) ?aF ?aO ?aB ?aS ?aL ?_; (case aP => exact k27_mkM _ _ _ (⟨(rd_T65 l0 x8_1).f0, (rd_T65 l0 x8_1).f1⟩ : S27)); (case aB => exact (by repeat (first | (with_reducible first | exact HB.out | apply below_alloc | apply pw_below_drewN | apply below_drew1 | refine below_set ?_ GE107.out) | exact HB.out))); (case aF => exact (fun _ _ => trivial)); (case aO => exact (by (with_reducible repeat (first | apply Kd.R_alloc | apply Kd.R_drewN | apply Kd.R_drew)); exact Kd.R_mono (Kd.R_far (p := ⟨gb107, 1, none⟩) (Kd.R_far (p := ⟨gb107, 0, none⟩) (Kd.R_types HO_3.out BK107.out (by decide)) (fun _ hk => hk.2) (.int .i64 ((rd_T65 l0 x8_1).f0))) (fun _ hk => hk.2) (.string ((rd_T65 l0 x8_1).f1))) (fun _ hk => trivial))); (case aS => exact (below_size (by repeat (first | (with_reducible first | exact HB.out | apply below_alloc | apply pw_below_drewN | apply below_drew1 | refine below_set ?_ GE107.out) | exact HB.out)))); (case aL => have := LMc5.out; omega); intro v109 w8 ho hb hg hat; rw [← Ny108.out] at ho; have n0_ := Aside0.mk (blk_grown (g := gb107) (o := .cells #[.int .i64 ((rd_T65 l0 x8_1).f0), .string ((rd_T65 l0 x8_1).f1)] 65 (0, 0)) (by (with_reducible repeat (first | refine blk_drewN ?_ _ | refine blk_drew ?_ | refine blk_alloc ?_ _)); refine blk_put (cs := #[.int .i64 ((rd_T65 l0 x8_1).f0), .string (⟨#[]⟩ : ByteArray)]) ?_ 1 _ rfl; (with_reducible repeat (first | refine blk_drewN ?_ _ | refine blk_drew ?_ | refine blk_alloc ?_ _)); refine blk_put (cs := #[.int .i64 0, .string (⟨#[]⟩ : ByteArray)]) ?_ 0 _ rfl; (with_reducible repeat (first | refine blk_drewN ?_ _ | refine blk_drew ?_ | refine blk_alloc ?_ _)); exact BK107.out) hg (Kd.R_ne HO_3.out BK107.out (by decide))); have n1_ := Aside0.mk (hb); have n2_ := Aside0.mk (ho); clear BK107; clear HB; clear HO_3; have BK107 := n0_; have HB := n1_; have HO110 := n2_; clear n0_ n1_ n2_; clear ho hb hg hat))
              go_roundg k1
              case measure => have := HK1.out; omega
              case rel => exact ⟨(y108), (wrap64 (x8_1 + 1)), (by first | rfl | (simp; done) | (simp [*]; done)), H', ⟨by have := HK1.out; omega⟩, ⟨by (with_reducible repeat (first | apply Kd.R_alloc | apply Kd.R_drewN | apply Kd.R_drew)); exact HO110.out⟩, ⟨by repeat (first | (with_reducible first | exact HB.out | apply below_alloc | apply pw_below_drewN | apply below_drew1 | refine below_set ?_ GE107.out) | exact HB.out)⟩⟩
            · rw [if_neg c5] at H
              exact absurd H (by simp)
          · rw [if_neg c4] at H
            exact absurd H (by simp)
        · rw [if_neg c3] at H
          exact absurd H (by simp)
      · rw [if_neg c2] at H
        have c2b0 : decide (x8_1 < (l0.length : Int)) = false := decide_eq_false c2
        clear c2
        obtain rfl := Option.some.inj H
        go_wp2
        go_ret
        exact ⟨_, by first | rfl | (simp [errW_none, errW_some] <;> rfl) | (simp [*, errW_none, errW_some] <;> rfl), by (with_reducible repeat (first | apply Kd.R_alloc | apply Kd.R_drewN | apply Kd.R_drew)); exact HO_3.out, by repeat (first | (with_reducible first | exact HB.out | apply below_alloc | apply pw_below_drewN | apply below_drew1) | exact HB.out)⟩

/-! ### impl_pieces: function 21 -/
def impl_pieces.l0 : Nat → ByteArray → List (S65) → List (S29) → Int → Int → Option ((List (S65)))
  | 0, _, _, _, _, _ => none
  | k + 1, x1, x5, x9, x10, x11 => if x11 < x10 then (if 0 ≤ x11 then (if x11 < (x9.length : Int) then (if 0 ≤ (mx 0 (mn ((rd_T29 x9 x11).f1) (x1.size : Int))) then (if (mx 0 (mn ((rd_T29 x9 x11).f1) (x1.size : Int))) ≤ (x1.size : Int) then (if x5.length < 5864062014805 then (impl_pieces.l0 k (x1.extract ((mx 0 (mn ((rd_T29 x9 x11).f1) (x1.size : Int))) : Int).toNat x1.size) (x5 ++ [(⟨(rd_T29 x9 x11).f0, x1.extract 0 ((mx 0 (mn ((rd_T29 x9 x11).f1) (x1.size : Int))) : Int).toNat⟩ : S65)]) x9 x10 (wrap64 (x11 + 1))) else (none)) else (none)) else (none)) else (none)) else (none)) else (if (x1.size : Int) > 0 then (if x5.length < 5864062014805 then (some (x5 ++ [(⟨8000, x1⟩ : S65)])) else (none)) else (some x5))
def impl_pieces.f (k : Nat) (l0 : List (S29)) (a1 : ByteArray) : Option ((List (S65))) := impl_pieces.l0 k a1 ([] : List (S65)) l0 (l0.length : Int) 0
theorem impl_pieces.mono_l : ∀ k, (∀ y0 y1 y2 y3 y4, LeO (impl_pieces.l0 k y0 y1 y2 y3 y4) (impl_pieces.l0 (k + 1) y0 y1 y2 y3 y4))
  | 0 => fun _ _ _ _ _ r h => by simp [impl_pieces.l0] at h
  | k + 1 => by
    have ih0 := impl_pieces.mono_l k
    · intro y0 y1 y2 y3 y4
      unfold impl_pieces.l0
      repeat' first
      | (with_reducible exact ih0 _ _ _ _ _)
      | (with_reducible exact LeO.refl _)
      | (with_reducible exact LeO.none _)
      | (with_reducible refine LeO.ite ?_ ?_)
      | (with_reducible refine LeO.bind ?_ (fun _ => ?_))
      | exact ih0 _ _ _ _ _
      | exact LeO.none _
      | refine LeO.ite ?_ ?_
      | refine LeO.bind ?_ (fun _ => ?_)
theorem impl_pieces.mono : ∀ a0 a1 k, LeO (impl_pieces.f k a0 a1) (impl_pieces.f (k + 1) a0 a1) := by
  intro a0 a1 k
  have ih0 := impl_pieces.mono_l k
  unfold impl_pieces.f
  repeat' first
      | (with_reducible exact ih0 _ _ _ _ _)
      | (with_reducible exact LeO.refl _)
      | (with_reducible exact LeO.none _)
      | (with_reducible refine LeO.ite ?_ ?_)
      | (with_reducible refine LeO.bind ?_ (fun _ => ?_))
      | exact ih0 _ _ _ _ _
      | exact LeO.none _
      | refine LeO.ite ?_ ?_
      | refine LeO.bind ?_ (fun _ => ?_)
def impl_pieces.T6 : Bool × List (List Nat × List Nat) := (true, [([], []), ([], []), ([1], [1]), ([], []), ([], []), ([3, 4], [3, 4]), ([2, 5], [2, 5]), ([6], [6]), ([0, 7], [0, 7]), ([8, 8, 0, 1, 2, 3, 4, 5, 6, 7, 8], [0, 8])])
def impl_pieces.B6 : List Nat := [0, 0, 2, 0, 0, 24, 62, 126, 255, 511]
theorem impl_pieces.tab6 : rtab .any (opsOf Tryd.f21 6) = impl_pieces.T6 := by kernel_rfl
theorem impl_pieces.bits6 : waitsOk impl_pieces.T6.2 impl_pieces.B6 = true := by kernel_rfl
set_option maxHeartbeats 8000000 in
set_option maxRecDepth 100000 in
theorem impl_pieces.calls (k : Nat) (A0 : Option Addr) (c0 : Nat) (l0 : List (S29)) (a1 : ByteArray) (r : List (S65)) (w : World) (hr0 : Kd.C k29 w A0 l0.length l0) (hc0 : l0.length ≤ c0) (h : impl_pieces.f k l0 a1 = some r) :
    Calls Tryd.prog 21 #[.slice A0 l0.length c0, .string a1] w fun e w' => ∃ v0_ : Value, e = .returned (v0_) ∧ Kd.R k65 65 w' w.heap.size (fun _ => True) v0_ r ∧ Below w.heap.size w w' := by
  have hu29 := Tryd.underlying29
  have hu65 := Tryd.underlying65
  have HR0 := Aside0.mk hr0
  have HC0 := Aside0.mk hc0
  clear hr0 hc0
  have HB := Aside0.mk (Below.refl w.heap.size w)
  have H : (impl_pieces.l0 k a1 ([] : List (S65)) l0 (l0.length : Int) 0) = some r := h
  clear h
  have H' := Aside0.mk H
  clear H
  go_enter Tryd.func21, Tryd.ntmps21
  go_wp2
  go_loopg [1, 5, 11] k (fun kq v1 v5 v11 w' => ∃ (x1_1 : ByteArray) (x5_1 : List (S65)) (x11_1 : Int), v1 = .string x1_1 ∧ v11 = .int .i64 x11_1 ∧ Aside0 (impl_pieces.l0 kq x1_1 x5_1 l0 (l0.length : Int) x11_1 = some r) ∧ Aside0 (kq ≤ k) ∧ Aside0 (Kd.R k65 65 w' w.heap.size (fun _ => True) v5 x5_1) ∧ Aside0 (Below w.heap.size w w'))
  case atStart => exact ⟨(a1), (([] : List (S65))), (0), (by first | rfl | (simp; done) | (simp [*]; done)), (by first | rfl | (simp; done) | (simp [*]; done)), H', ⟨Nat.le_refl _⟩, ⟨by first | exact Kd.R_nil _ _ _ _ _ | exact Kd.N_nil _ _ _ _ _ | exact Kd.V_nil _ _ _ _ _ | exact Kd.Q_nil _ _ _ _ _ | exact Kd.S_nil _ _ _ _ _⟩, ⟨by repeat (first | (with_reducible first | exact HB.out | apply below_alloc | apply pw_below_drewN | apply below_drew1) | exact HB.out)⟩⟩
  case round =>
    clear H'
    try clear c2
    try clear p2
    obtain ⟨x1_1, x5_1, x11_1, rfl, rfl, HA, HK1, HO_5, HB⟩ := hrel
    cases gk with
    | zero => exact absurd HA.out (by simp [impl_pieces.l0])
    | succ k1 =>
      have H := HA.out
      clear HA
      simp only [impl_pieces.l0] at H
      by_cases c3 : x11_1 < (l0.length : Int)
      · rw [if_pos c3] at H
        have c3b0 : decide (x11_1 < (l0.length : Int)) = true := decide_eq_true c3
        clear c3
        by_cases c4 : 0 ≤ x11_1
        · rw [if_pos c4] at H
          have c4b0 : decide (0 ≤ x11_1) = true := decide_eq_true c4
          clear c4
          by_cases c5 : x11_1 < (l0.length : Int)
          · rw [if_pos c5] at H
            have c5b0 : decide (x11_1 < (l0.length : Int)) = true := decide_eq_true c5
            clear c5
            obtain ⟨ji6, hji6⟩ : ∃ j_ : Int, (mn ((rd_T29 l0 x11_1).f1) (x1_1.size : Int)) = j_ := ⟨_, rfl⟩
            replace H : (if 0 ≤ (mx 0 (ji6)) then (if (mx 0 (ji6)) ≤ (x1_1.size : Int) then (if x5_1.length < 5864062014805 then (impl_pieces.l0 k1 (x1_1.extract ((mx 0 (ji6)) : Int).toNat x1_1.size) (x5_1 ++ [(⟨(rd_T29 l0 x11_1).f0, x1_1.extract 0 ((mx 0 (ji6)) : Int).toNat⟩ : S65)]) l0 (l0.length : Int) (wrap64 (x11_1 + 1))) else (none)) else (none)) else (none)) = some r := by first | (rw [hji6] at H; exact H) | (simp only [hji6] at H ⊢; exact H)
            have hji6_ : (if (x1_1.size : Int) < ((rd_T29 l0 x11_1).f1) then (x1_1.size : Int) else ((rd_T29 l0 x11_1).f1)) = ji6 := hji6
            obtain ⟨ji7, hji7⟩ : ∃ j_ : Int, (mx 0 (ji6)) = j_ := ⟨_, rfl⟩
            replace H : (if 0 ≤ (ji7) then (if (ji7) ≤ (x1_1.size : Int) then (if x5_1.length < 5864062014805 then (impl_pieces.l0 k1 (x1_1.extract ((ji7) : Int).toNat x1_1.size) (x5_1 ++ [(⟨(rd_T29 l0 x11_1).f0, x1_1.extract 0 ((ji7) : Int).toNat⟩ : S65)]) l0 (l0.length : Int) (wrap64 (x11_1 + 1))) else (none)) else (none)) else (none)) = some r := by first | (rw [hji7] at H; exact H) | (simp only [hji7] at H ⊢; exact H)
            have hji7_ : (if 0 < (ji6) then (ji6) else 0) = ji7 := hji7
            by_cases c8 : 0 ≤ (ji7)
            · rw [if_pos c8] at H
              have c8b0 := eq_true c8
              have c8b1 : decide (0 ≤ (ji7)) = true := decide_eq_true c8
              clear c8
              by_cases c9 : (ji7) ≤ (x1_1.size : Int)
              · rw [if_pos c9] at H
                have c9b0 := eq_true c9
                have c9b1 : decide ((ji7) ≤ (x1_1.size : Int)) = true := decide_eq_true c9
                clear c9
                by_cases c10 : x5_1.length < 5864062014805
                · rw [if_pos c10] at H
                  have LMc10 := Aside0.mk c10
                  clear c10
                  obtain ⟨y113, hy113⟩ : ∃ y_ : List (S65), y_ = (x5_1 ++ [(⟨(rd_T29 l0 x11_1).f0, x1_1.extract 0 ((ji7) : Int).toNat⟩ : S65)]) := ⟨_, rfl⟩
                  replace H : (impl_pieces.l0 k1 (x1_1.extract ((ji7) : Int).toNat x1_1.size) y113 l0 (l0.length : Int) (wrap64 (x11_1 + 1))) = some r := by first | (rw [hy113]; with_reducible exact H) | (have H2_ := (Option.bind_some _ _).symm.trans H; rw [hy113]; with_reducible exact H2_) | (have H2_ := (Option.bind_some _ _).symm.trans H; with_reducible exact H2_) | with_reducible exact H | (rw [hy113]; exact H) | exact H
                  have Ny113 := Aside0.mk hy113
                  clear hy113
                  have c11b0 := eq_true (of_decide_eq_true (by first | (with_reducible assumption) | assumption) : 0 ≤ (ji7))
                  have c12b0 := eq_true (of_decide_eq_true (by first | (with_reducible assumption) | assumption) : (ji7) ≤ (x1_1.size : Int))
                  have H' := Aside0.mk H
                  clear H
                  have p111 : 0 ≤ (x11_1 : Int) := of_decide_eq_true (by first | (with_reducible assumption) | assumption)
                  have q111 : x11_1 < (l0.length : Int) := of_decide_eq_true (by first | (with_reducible assumption) | assumption)
                  obtain ⟨ad111, e111, hx111_0, hx111_1⟩ := at_T29 HR0.out x11_1 p111 q111
                  cases e111
                  replace hx111_0 := (HB.out.cell (World.block_lt_of_cell? w _ hx111_0)).trans hx111_0
                  replace hx111_1 := (HB.out.cell (World.block_lt_of_cell? w _ hx111_1)).trans hx111_1
                  replace p111 := eq_true p111
                  replace q111 := eq_true q111
                  try go_wp2_with (first | ((with_reducible refine gate_dst (N := 7) rfl ?_); refine box_event ?hg (N := 7) ?hd (cs := #[.int .i64 0, .int .i64 0]) (t := 29) ?hr ?_; (case hd => rfl); (case hg => rfl); (case hr => first | (go_simp; done) | (go_simp; rfl)); intro gb112 hg w13 hbox hb; have n0_ := Aside0.mk (Kd.R_below (by (with_reducible repeat (first | apply Kd.R_alloc | apply Kd.R_drewN | apply Kd.R_drew)); exact HO_5.out) hb); have n1_ := Aside0.mk (below_step (by repeat (first | (with_reducible first | exact HB.out | apply below_alloc | apply pw_below_drewN | apply below_drew1) | exact HB.out)) hb); have n2_ := Aside0.mk (hbox); have n3_ := Aside0.mk ((by rw [hg]; exact (below_size (by repeat (first | (with_reducible first | exact HB.out | apply below_alloc | apply pw_below_drewN | apply below_drew1) | exact HB.out))) : w.heap.size ≤ gb112)); have n4_ := Aside0.mk ((by rw [hg]; exact (below_size (by repeat (first | (with_reducible first | exact HB.out | apply below_alloc | apply pw_below_drewN | apply below_drew1) | exact HB.out))) : w.heap.size ≤ gb112)); clear HO_5; clear HB; have HO_5 := n0_; have HB := n1_; have BK112 := n2_; have GW112 := n3_; have GE112 := n4_; clear n0_ n1_ n2_ n3_ n4_; clear hb hbox hg; have hcz14_0 : w13.cell? ⟨gb112, 0, none⟩ = some (.int .i64 0) := (blk_cell BK112.out 0).trans rfl; have hcz14_1 : w13.cell? ⟨gb112, 1, none⟩ = some (.int .i64 0) := (blk_cell BK112.out 1).trans rfl; have hfz14_0 := blk_frozen BK112.out 0; have hfz14_1 := blk_frozen BK112.out 1))
                  have n0_ : Aside0 (Kd.R k65 65 ((w13.setCell ⟨gb112, 0, none⟩ (.int .i64 ((rd_T29 l0 x11_1).f0))).setCell ⟨gb112, 1, none⟩ (.int .i64 ((rd_T29 l0 x11_1).f1))) w.heap.size (fun _ => True) u5 x5_1) := ⟨by (with_reducible repeat (first | apply Kd.R_alloc | apply Kd.R_drewN | apply Kd.R_drew)); exact Kd.R_mono (Kd.R_far (p := ⟨gb112, 1, none⟩) (Kd.R_far (p := ⟨gb112, 0, none⟩) (Kd.R_types HO_5.out BK112.out (by decide)) (fun _ hk => hk.2) (.int .i64 ((rd_T29 l0 x11_1).f0))) (fun _ hk => hk.2) (.int .i64 ((rd_T29 l0 x11_1).f1))) (fun _ hk => trivial)⟩
                  have n1_ : Aside0 (((w13.setCell ⟨gb112, 0, none⟩ (.int .i64 ((rd_T29 l0 x11_1).f0))).setCell ⟨gb112, 1, none⟩ (.int .i64 ((rd_T29 l0 x11_1).f1))).heap[gb112]? = some (.cells #[.int .i64 ((rd_T29 l0 x11_1).f0), .int .i64 ((rd_T29 l0 x11_1).f1)] 29 (0, 0))) := ⟨by (with_reducible repeat (first | refine blk_drewN ?_ _ | refine blk_drew ?_ | refine blk_alloc ?_ _)); refine blk_put (cs := #[.int .i64 ((rd_T29 l0 x11_1).f0), .int .i64 0]) ?_ 1 _ rfl; (with_reducible repeat (first | refine blk_drewN ?_ _ | refine blk_drew ?_ | refine blk_alloc ?_ _)); refine blk_put (cs := #[.int .i64 0, .int .i64 0]) ?_ 0 _ rfl; (with_reducible repeat (first | refine blk_drewN ?_ _ | refine blk_drew ?_ | refine blk_alloc ?_ _)); exact BK112.out⟩
                  have n2_ : Aside0 (Below w.heap.size w ((w13.setCell ⟨gb112, 0, none⟩ (.int .i64 ((rd_T29 l0 x11_1).f0))).setCell ⟨gb112, 1, none⟩ (.int .i64 ((rd_T29 l0 x11_1).f1)))) := ⟨by repeat (first | (with_reducible first | exact HB.out | apply below_alloc | apply pw_below_drewN | apply below_drew1 | refine below_set ?_ GE112.out) | exact HB.out)⟩
                  (try clear HO_5)
                  (try clear BK112)
                  (try clear HB)
                  generalize ((w13.setCell ⟨gb112, 0, none⟩ (.int .i64 ((rd_T29 l0 x11_1).f0))).setCell ⟨gb112, 1, none⟩ (.int .i64 ((rd_T29 l0 x11_1).f1))) = w15 at n0_ n1_ n2_ ⊢
                  have HO_5 := n0_
                  have BK112 := n1_
                  have HB := n2_
                  clear n0_ n1_ n2_
                  have n0_ := Aside0.mk (Kd.R_drew HO_5.out)
                  have n1_ := Aside0.mk (blk_drew BK112.out)
                  have n2_ := Aside0.mk (below_drew1 HB.out)
                  clear HO_5
                  clear BK112
                  clear HB
                  have HO_5 := n0_
                  have BK112 := n1_
                  have HB := n2_
                  clear n0_ n1_ n2_
                  refine start_ (n := 10) (S := fun w' => w'.cell? ⟨gb112, 0, none⟩ = some (.int .i64 ((rd_T29 l0 x11_1).f0)) ∧ w'.cell? ⟨gb112, 1, none⟩ = some (.int .i64 ((rd_T29 l0 x11_1).f1))) (ds := []) #[false, false, false, false, false, false, false, false, false, false] (by kernel_rfl) rfl rfl ⟨(blk_cell BK112.out 0).trans rfl, (blk_cell BK112.out 1).trans rfl⟩ (fun hHeld => ?_); refine with_tabW impl_pieces.tab6 impl_pieces.bits6 (fun HT_ HW_ => ?_)
                  generalize w15.drew = w16 at HO_5 BK112 HB hHeld ⊢
                  refine pure_ (i := 0) (N := some 21) (v := ?_) (a' := ?_) #[true, false, false, false, false, false, false, false, false, false] rfl rfl (any_of HT_.out (by kernel_rfl)) (fun _ _ _ h => h) (Or.inl ⟨by rfl, ?_⟩) ?_ ?_
                  rotate_left
                  · intro w'
                    go_simp
                    with_reducible rfl
                  rotate_left
                  · simp only [Act.put, List.setIfInBounds_toArray, List.set_cons_zero, List.set_cons_succ, i64_w, i32_w]
                    rfl
                  refine pure_ (i := 1) (N := some 22) (v := ?_) (a' := ?_) #[true, true, false, false, false, false, false, false, false, false] rfl rfl (any_of HT_.out (by kernel_rfl)) (fun _ _ _ h => h) (Or.inl ⟨by rfl, ?_⟩) ?_ ?_
                  rotate_left
                  · intro w'
                    go_simp
                    with_reducible rfl
                  rotate_left
                  · simp only [Act.put, List.setIfInBounds_toArray, List.set_cons_zero, List.set_cons_succ, i64_w, i32_w]
                    rfl
                  refine pure_ (i := 3) (N := some 24) (v := ?_) (a' := ?_) #[true, true, false, true, false, false, false, false, false, false] rfl rfl (any_of HT_.out (by kernel_rfl)) (fun _ _ _ h => h) (Or.inl ⟨by rfl, ?_⟩) ?_ ?_
                  rotate_left
                  · intro w'
                    go_simp
                    with_reducible rfl
                  rotate_left
                  · simp only [Act.put, List.setIfInBounds_toArray, List.set_cons_zero, List.set_cons_succ, i64_w, i32_w]
                    rfl
                  refine pure_ (i := 4) (N := some 25) (v := ?_) (a' := ?_) #[true, true, false, true, true, false, false, false, false, false] rfl rfl (any_of HT_.out (by kernel_rfl)) (fun _ _ _ h => h) (Or.inl ⟨by rfl, ?_⟩) ?_ ?_
                  rotate_left
                  · intro w'
                    go_simp
                    with_reducible rfl
                  rotate_left
                  · simp only [Act.put, List.setIfInBounds_toArray, List.set_cons_zero, List.set_cons_succ, i64_w, i32_w]
                    rfl
                  refine pure_ (i := 5) (N := some 26) (v := ?_) (a' := ?_) #[true, true, false, true, true, true, false, false, false, false] rfl rfl (any_of HT_.out (by kernel_rfl)) (fun _ _ _ h => h) (Or.inl ⟨by rfl, ?_⟩) ?_ ?_
                  rotate_left
                  · intro w'
                    go_simp
                    with_reducible rfl
                  rotate_left
                  · simp only [Act.put, List.setIfInBounds_toArray, List.set_cons_zero, List.set_cons_succ, i64_w, i32_w]
                    rfl
                  refine take_ (i := 2) (N := some 23) (v := ?_) (a' := ?_) #[true, true, true, true, true, true, false, false, false, false] rfl rfl (take_ofW HT_.out HW_.out (by kernel_rfl)) (fun _ _ _ h => h) (Or.inl ⟨by rfl, ?_⟩) hHeld ?_ ?_
                  rotate_left
                  · rintro w' ⟨s0, s1⟩
                    go_simp
                    with_reducible rfl
                  rotate_left
                  · simp only [Act.put, List.setIfInBounds_toArray, List.set_cons_zero, List.set_cons_succ, i64_w, i32_w]
                    rfl
                  refine pure_ (i := 6) (N := some 27) (v := ?_) (a' := ?_) #[true, true, true, true, true, true, true, false, false, false] rfl rfl (any_of HT_.out (by kernel_rfl)) (fun _ _ _ h => h) (Or.inl ⟨by rfl, ?_⟩) ?_ ?_
                  rotate_left
                  · intro w'
                    go_simp
                    with_reducible rfl
                  rotate_left
                  · simp only [Act.put, List.setIfInBounds_toArray, List.set_cons_zero, List.set_cons_succ, i64_w, i32_w]
                    rfl
                  refine one_ (i := 7) (N := some 28) #[true, true, true, true, true, true, true, true, false, false] rfl rfl (one_of HT_.out (by kernel_rfl)) (by decide) (fun K hK => ?_)
                  refine value_ (w1 := ?_) (v := ?_) (by rfl) rfl ?_ ?_
                  rotate_left 2
                  · go_simp
                    constructor
                    · rfl
                    · rfl
                  refine hK.out _ _ ⟨(blk_cell (blk_alloc BK112.out _) 0).trans rfl, (blk_cell (blk_alloc BK112.out _) 1).trans rfl⟩ (fun hHeld => ?_)
                  clear hK K
                  refine norm_ (a' := ?_) ?_ ?_
                  rotate_left
                  · show Act.put _ (some 28) _ = _
                    simp only [Act.put, List.setIfInBounds_toArray, List.set_cons_zero, List.set_cons_succ, i64_w, i32_w]
                    rfl
                  refine one_ (i := 8) (N := some 29) #[true, true, true, true, true, true, true, true, true, false] rfl rfl (one_of HT_.out (by kernel_rfl)) (by decide) (fun K hK => ?_)
                  refine Kd.R_append_step k65 (w0 := w) w.heap.size (by rfl) (.tmp 21) (.tmp 28) 50 65 (.agg #[(.int .i64 0), (.string ⟨#[]⟩)]) 24 rfl Tryd.underlying50 info65 rfl (by decide) (by omega) u5 x5_1 (⟨(rd_T29 l0 x11_1).f0, x1_1.extract 0 ((ji7) : Int).toNat⟩ : S65) [.int .i64 ((rd_T29 l0 x11_1).f0), .string (x1_1.extract 0 ((ji7) : Int).toNat)] (fun _ => True) (fun _ => False) rfl rfl ?aP (fun _ hk => hk.elim) ?aF ?aO ?aB ?aS ?aL ?_
                  (case aP => exact k65_mkM _ _ _ (⟨(rd_T29 l0 x11_1).f0, x1_1.extract 0 ((ji7) : Int).toNat⟩ : S65))
                  (case aB => exact (by repeat (first | (with_reducible first | exact HB.out | apply below_alloc | apply pw_below_drewN | apply below_drew1 | refine below_set ?_ GE112.out) | exact HB.out)))
                  (case aF => exact (fun _ _ => trivial))
                  (case aO => exact (by (with_reducible repeat (first | apply Kd.R_alloc | apply Kd.R_drewN | apply Kd.R_drew)); exact HO_5.out))
                  (case aS => exact (below_size (by repeat (first | (with_reducible first | exact HB.out | apply below_alloc | apply pw_below_drewN | apply below_drew1 | refine below_set ?_ GE112.out) | exact HB.out))))
                  (case aL => have := LMc10.out; omega)
                  intro v114 w17 ho hb hg hat
                  rw [← Ny113.out] at ho
                  have n0_ := Aside0.mk (blk_grown (g := gb112) (o := .cells #[.int .i64 ((rd_T29 l0 x11_1).f0), .int .i64 ((rd_T29 l0 x11_1).f1)] 29 (0, 0)) (by (with_reducible repeat (first | refine blk_drewN ?_ _ | refine blk_drew ?_ | refine blk_alloc ?_ _)); exact BK112.out) hg (Kd.R_ne HO_5.out BK112.out (by decide)))
                  have n1_ := Aside0.mk (hb)
                  have n2_ := Aside0.mk (ho)
                  clear BK112
                  clear HB
                  clear HO_5
                  have BK112 := n0_
                  have HB := n1_
                  have HO115 := n2_
                  clear n0_ n1_ n2_
                  clear ho hb hg hat
                  refine hK.out _ _ ⟨(blk_cell BK112.out 0).trans rfl, (blk_cell BK112.out 1).trans rfl⟩ (fun hHeld => ?_)
                  clear hK K
                  refine norm_ (a' := ?_) ?_ ?_
                  rotate_left
                  · show Act.put _ (some 29) _ = _
                    simp only [Act.put, List.setIfInBounds_toArray, List.set_cons_zero, List.set_cons_succ, i64_w, i32_w]
                    rfl
                  refine pure_ (i := 9) (N := some 5) (v := ?_) (a' := ?_) #[true, true, true, true, true, true, true, true, true, true] rfl rfl (any_of HT_.out (by kernel_rfl)) (fun _ _ _ h => h) (Or.inl ⟨by rfl, ?_⟩) ?_ ?_
                  rotate_left
                  · intro w'
                    go_simp
                    with_reducible rfl
                  rotate_left
                  · simp only [Act.put, List.setIfInBounds_toArray, List.set_cons_zero, List.set_cons_succ, i64_w, i32_w]
                    rfl
                  refine done_ (done_of HT_.out (by kernel_rfl)) ?_
                  try go_wp2
                  go_roundg k1
                  case measure => have := HK1.out; omega
                  case rel => exact ⟨(x1_1.extract ((ji7) : Int).toNat x1_1.size), (y113), (wrap64 (x11_1 + 1)), (by first | rfl | (simp; done) | (simp only [← hji7] <;> (first | rfl | simp)) | (simp [*]; done)), (by first | rfl | (simp; done) | (simp [*]; done)), H', ⟨by have := HK1.out; omega⟩, ⟨by (with_reducible repeat (first | apply Kd.R_alloc | apply Kd.R_drewN | apply Kd.R_drew)); exact HO115.out⟩, ⟨by repeat (first | (with_reducible first | exact HB.out | apply below_alloc | apply pw_below_drewN | apply below_drew1 | refine below_set ?_ GE112.out) | exact HB.out)⟩⟩
                · rw [if_neg c10] at H
                  exact absurd H (by simp)
              · rw [if_neg c9] at H
                exact absurd H (by simp)
            · rw [if_neg c8] at H
              exact absurd H (by simp)
          · rw [if_neg c5] at H
            exact absurd H (by simp)
        · rw [if_neg c4] at H
          exact absurd H (by simp)
      · rw [if_neg c3] at H
        have c3b0 : decide (x11_1 < (l0.length : Int)) = false := decide_eq_false c3
        clear c3
        by_cases c18 : (x1_1.size : Int) > 0
        · rw [if_pos c18] at H
          have c18b0 : decide (0 < (x1_1.size : Int)) = true := decide_eq_true c18
          have c18b1 : decide (0 < x1_1.size) = true := decide_eq_true (by omega)
          clear c18
          by_cases c19 : x5_1.length < 5864062014805
          · rw [if_pos c19] at H
            have LMc19 := Aside0.mk c19
            clear c19
            obtain ⟨y116, hy116⟩ : ∃ y_ : List (S65), y_ = (x5_1 ++ [(⟨8000, x1_1⟩ : S65)]) := ⟨_, rfl⟩
            replace H : (some y116) = some r := by first | (rw [hy116]; with_reducible exact H) | (have H2_ := (Option.bind_some _ _).symm.trans H; rw [hy116]; with_reducible exact H2_) | (have H2_ := (Option.bind_some _ _).symm.trans H; with_reducible exact H2_) | with_reducible exact H | (rw [hy116]; exact H) | exact H
            have Ny116 := Aside0.mk hy116
            clear hy116
            obtain rfl := Option.some.inj H
            go_wp2_with (first | ((with_reducible refine gate_builtin (b := .append) (xs := #[.tmp 37, .tmp 40]) rfl ?_); at_builtin; refine Kd.R_append k65 (w0 := w) w.heap.size rfl (.tmp 37) (.tmp 40) 50 65 (.agg #[(.int .i64 0), (.string ⟨#[]⟩)]) 24 rfl Tryd.underlying50 info65 rfl (by decide) (by omega) u5 x5_1 (⟨8000, x1_1⟩ : S65) [.int .i64 8000, .string x1_1] (fun _ => True) (fun _ => False) rfl rfl ?aP (fun _ hk => hk.elim) ?aF ?aO ?aB ?aS ?aL ?_; (case aP => exact k65_mkM _ _ _ (⟨8000, x1_1⟩ : S65)); (case aB => exact (by repeat (first | (with_reducible first | exact HB.out | apply below_alloc | apply pw_below_drewN | apply below_drew1) | exact HB.out))); (case aF => exact (fun _ _ => trivial)); (case aO => exact (by (with_reducible repeat (first | apply Kd.R_alloc | apply Kd.R_drewN | apply Kd.R_drew)); exact HO_5.out)); (case aS => exact (below_size (by repeat (first | (with_reducible first | exact HB.out | apply below_alloc | apply pw_below_drewN | apply below_drew1) | exact HB.out)))); (case aL => have := LMc19.out; omega); intro v117 w20 ho hb hg hat; rw [← Ny116.out] at ho; have n0_ := Aside0.mk (hb); have n1_ := Aside0.mk (ho); clear HB; clear HO_5; have HB := n0_; have HO118 := n1_; clear n0_ n1_; clear ho hb hg hat))
            go_ret
            exact ⟨_, by first | rfl | (simp [errW_none, errW_some] <;> rfl) | (simp [*, errW_none, errW_some] <;> rfl), by (with_reducible repeat (first | apply Kd.R_alloc | apply Kd.R_drewN | apply Kd.R_drew)); exact HO118.out, by repeat (first | (with_reducible first | exact HB.out | apply below_alloc | apply pw_below_drewN | apply below_drew1) | exact HB.out)⟩
          · rw [if_neg c19] at H
            exact absurd H (by simp)
        · rw [if_neg c18] at H
          have c18b0 : decide (0 < (x1_1.size : Int)) = false := decide_eq_false c18
          have c18b1 : decide (0 < x1_1.size) = false := decide_eq_false (by omega)
          clear c18
          obtain rfl := Option.some.inj H
          go_wp2
          go_ret
          exact ⟨_, by first | rfl | (simp [errW_none, errW_some] <;> rfl) | (simp [*, errW_none, errW_some] <;> rfl), by (with_reducible repeat (first | apply Kd.R_alloc | apply Kd.R_drewN | apply Kd.R_drew)); exact HO_5.out, by repeat (first | (with_reducible first | exact HB.out | apply below_alloc | apply pw_below_drewN | apply below_drew1) | exact HB.out)⟩

/-! ### strings_Join: function 34 -/
def strings_Join.f (l0 : List ByteArray) (a1 : ByteArray) : Option ByteArray :=
  if l0.length ≤ 140737488355328 then (if (Lib.join (l0.map (·.data.toList)) a1.data.toList).length ≤ 140737488355328 then some ⟨(Lib.join (l0.map (·.data.toList)) a1.data.toList).toArray⟩ else none) else none
theorem strings_Join.calls (A0 : Option Addr) (c0 : Nat) (l0 : List ByteArray) (a1 : ByteArray) (r : ByteArray) (w : World) (hr0 : Kd.C Kd.string w A0 l0.length l0) (hc0 : l0.length ≤ c0) (h : strings_Join.f l0 a1 = some r) :
    Calls Tryd.prog 34 #[.slice A0 l0.length c0, .string a1] w fun e w' => e = .returned (.string r) ∧ Below w.heap.size w w' := by
  unfold strings_Join.f at h
  by_cases h1 : l0.length ≤ 140737488355328
  · rw [if_pos h1] at h
    by_cases h2 : (Lib.join (l0.map (·.data.toList)) a1.data.toList).length ≤ 140737488355328
    · rw [if_pos h2] at h
      obtain rfl := Option.some.inj h
      match l0, hr0, hc0, h1, h2 with
      | [], _, _, _, _ => exact (Tryd.strings_Join_none A0 c0 a1 w).mono fun e w' ⟨he, hw⟩ => ⟨he, hw ▸ Below.refl _ _⟩
      | x :: xs, hr0, hc0, h1, h2 =>
        obtain ⟨ad, rfl, hc⟩ := hr0.2.2 (by simp)
        have hcell : ∀ (j : Nat) p, (x :: xs)[j]? = some p → w.cell? (ad.add j) = some (.string p) := by
          intro j p hp
          obtain ⟨c, _, hcs, hcc⟩ := hc j p hp
          have hcs' : c = [.string p] := hcs
          subst hcs'
          have := hcc 0 _ rfl
          simpa [show (Kd.string).sz = 1 from rfl] using this
        have h0 := hcell 0 x rfl
        have hsp : (ad.add 0).spot = none := World.cell?_spot h0
        obtain ⟨b, o, sp⟩ := ad
        have hsp' : sp = none := by simpa [Addr.add] using hsp
        subst hsp'
        have hadd : ∀ j, (⟨b, o, none⟩ : Addr).add j = ⟨b, o + j, none⟩ := fun j => by unfold Addr.add; split <;> simp_all
        have hlt := World.block_lt_of_cell? w _ h0
        rw [hadd] at hlt
        exact Tryd.strings_Join b o c0 (x :: xs) a1 w (fun j p hp => by have := hcell j p hp; rwa [hadd] at this) hlt h1 hc0 h2
    · rw [if_neg h2] at h; exact absurd h (by simp)
  · rw [if_neg h1] at h; exact absurd h (by simp)

/-! ### chroma_Stringify: function 32 -/
def chroma_Stringify.l0 : Nat → List ByteArray → List (S65) → Int → Int → Option (ByteArray)
  | 0, _, _, _, _ => none
  | k + 1, x3, x7, x8, x9 => if x9 < x8 then (if 0 ≤ x9 then (if x9 < (x7.length : Int) then (if x3.length < 8796093022208 then (chroma_Stringify.l0 k (x3 ++ [(rd_T65 x7 x9).f1]) x7 x8 (wrap64 (x9 + 1))) else (none)) else (none)) else (none)) else ((strings_Join.f x3 (⟨#[]⟩ : ByteArray)).bind fun t127 => (some t127))
def chroma_Stringify.f (k : Nat) (l0 : List (S65)) : Option (ByteArray) := chroma_Stringify.l0 k (([] : List ByteArray)) l0 (l0.length : Int) 0
theorem chroma_Stringify.mono_l : ∀ k, (∀ y0 y1 y2 y3, LeO (chroma_Stringify.l0 k y0 y1 y2 y3) (chroma_Stringify.l0 (k + 1) y0 y1 y2 y3))
  | 0 => fun _ _ _ _ r h => by simp [chroma_Stringify.l0] at h
  | k + 1 => by
    have ih0 := chroma_Stringify.mono_l k
    · intro y0 y1 y2 y3
      unfold chroma_Stringify.l0
      repeat' first
      | (with_reducible exact ih0 _ _ _ _)
      | (with_reducible exact LeO.refl _)
      | (with_reducible exact LeO.none _)
      | (with_reducible refine LeO.ite ?_ ?_)
      | (with_reducible refine LeO.bind ?_ (fun _ => ?_))
      | exact ih0 _ _ _ _
      | exact LeO.none _
      | refine LeO.ite ?_ ?_
      | refine LeO.bind ?_ (fun _ => ?_)
theorem chroma_Stringify.mono : ∀ a0 k, LeO (chroma_Stringify.f k a0) (chroma_Stringify.f (k + 1) a0) := by
  intro a0 k
  have ih0 := chroma_Stringify.mono_l k
  unfold chroma_Stringify.f
  repeat' first
      | (with_reducible exact ih0 _ _ _ _)
      | (with_reducible exact LeO.refl _)
      | (with_reducible exact LeO.none _)
      | (with_reducible refine LeO.ite ?_ ?_)
      | (with_reducible refine LeO.bind ?_ (fun _ => ?_))
      | exact ih0 _ _ _ _
      | exact LeO.none _
      | refine LeO.ite ?_ ?_
      | refine LeO.bind ?_ (fun _ => ?_)
set_option maxHeartbeats 8000000 in
set_option maxRecDepth 100000 in
theorem chroma_Stringify.calls (k : Nat) (A0 : Option Addr) (c0 : Nat) (l0 : List (S65)) (r : ByteArray) (w : World) (hr0 : Kd.C k65 w A0 l0.length l0) (hc0 : l0.length ≤ c0) (h : chroma_Stringify.f k l0 = some r) :
    Calls Tryd.prog 32 #[.slice A0 l0.length c0] w fun e w' => e = .returned (.string r) ∧ Below w.heap.size w w' := by
  have hu65 := Tryd.underlying65
  have HR0 := Aside0.mk hr0
  have HC0 := Aside0.mk hc0
  clear hr0 hc0
  have HB := Aside0.mk (Below.refl w.heap.size w)
  have H : (chroma_Stringify.l0 k (([] : List ByteArray)) l0 (l0.length : Int) 0) = some r := h
  clear h
  obtain ⟨y119, hy119⟩ : ∃ y_ : List ByteArray, y_ = (([] : List ByteArray)) := ⟨_, rfl⟩
  replace H : (chroma_Stringify.l0 k y119 l0 (l0.length : Int) 0) = some r := by first | (rw [hy119]; with_reducible exact H) | (have H2_ := (Option.bind_some _ _).symm.trans H; rw [hy119]; with_reducible exact H2_) | (have H2_ := (Option.bind_some _ _).symm.trans H; with_reducible exact H2_) | with_reducible exact H | (rw [hy119]; exact H) | exact H
  have Ny119 := Aside0.mk hy119
  clear hy119
  have H' := Aside0.mk H
  clear H
  go_enter Tryd.func32, Tryd.ntmps32
  go_wp2_with (first | ((with_reducible refine gate_dst (N := 6) rfl ?_); refine Kd.R_lit Kd.string _ 9 ?hg (N := 6) ?hd (xs := ([] : List ByteArray)) (inner := []) (ok := fun _ => True) (okp := fun _ => True) ?hr ?hp (fun _ hk => hk) trivial (Below.refl _ _) (Nat.le_refl _) (by simp) ?_; (case hd => rfl); (case hg => rfl); (case hr => first | (go_simp; done) | (go_simp; rfl)); (case hp => exact (Reps.none _ _)); intro v120 w2 ho3 hb hg_ hnew_; clear hg_ hnew_; (first | rw [← Ny119.out] at ho3 | (simp only [Int.reduceToNat] at ho3; rw [← Ny119.out] at ho3)); have n0_ := Aside0.mk (Kd.R_lower ho3 (below_size (by repeat (first | (with_reducible first | exact HB.out | apply below_alloc | apply pw_below_drewN | apply below_drew1) | exact HB.out)))); have n1_ := Aside0.mk (below_step (by repeat (first | (with_reducible first | exact HB.out | apply below_alloc | apply pw_below_drewN | apply below_drew1) | exact HB.out)) hb); clear HB; have HO121 := n0_; have HB := n1_; clear n0_ n1_; clear hb ho3))
  go_loopg [3, 9] k (fun kq v3 v9 w' => ∃ (x3_1 : List ByteArray) (x9_1 : Int), v9 = .int .i64 x9_1 ∧ Aside0 (chroma_Stringify.l0 kq x3_1 l0 (l0.length : Int) x9_1 = some r) ∧ Aside0 (kq ≤ k) ∧ Aside0 (Kd.R Kd.string 9 w' w.heap.size (fun _ => True) v3 x3_1) ∧ Aside0 (Below w.heap.size w w'))
  case atStart => exact ⟨(y119), (0), (by first | rfl | (simp; done) | (simp [*]; done)), H', ⟨Nat.le_refl _⟩, ⟨by (with_reducible repeat (first | apply Kd.R_alloc | apply Kd.R_drewN | apply Kd.R_drew)); exact HO121.out⟩, ⟨by repeat (first | (with_reducible first | exact HB.out | apply below_alloc | apply pw_below_drewN | apply below_drew1) | exact HB.out)⟩⟩
  case round =>
    clear H'
    try clear p2
    try clear c3
    obtain ⟨x3_1, x9_1, rfl, HA, HK1, HO_3, HB⟩ := hrel
    cases gk with
    | zero => exact absurd HA.out (by simp [chroma_Stringify.l0])
    | succ k1 =>
      have H := HA.out
      clear HA
      simp only [chroma_Stringify.l0] at H
      by_cases c4 : x9_1 < (l0.length : Int)
      · rw [if_pos c4] at H
        have c4b0 : decide (x9_1 < (l0.length : Int)) = true := decide_eq_true c4
        clear c4
        by_cases c5 : 0 ≤ x9_1
        · rw [if_pos c5] at H
          have c5b0 : decide (0 ≤ x9_1) = true := decide_eq_true c5
          clear c5
          by_cases c6 : x9_1 < (l0.length : Int)
          · rw [if_pos c6] at H
            have c6b0 : decide (x9_1 < (l0.length : Int)) = true := decide_eq_true c6
            clear c6
            by_cases c7 : x3_1.length < 8796093022208
            · rw [if_pos c7] at H
              have LMc7 := Aside0.mk c7
              clear c7
              obtain ⟨y124, hy124⟩ : ∃ y_ : List ByteArray, y_ = (x3_1 ++ [(rd_T65 l0 x9_1).f1]) := ⟨_, rfl⟩
              replace H : (chroma_Stringify.l0 k1 y124 l0 (l0.length : Int) (wrap64 (x9_1 + 1))) = some r := by first | (rw [hy124]; with_reducible exact H) | (have H2_ := (Option.bind_some _ _).symm.trans H; rw [hy124]; with_reducible exact H2_) | (have H2_ := (Option.bind_some _ _).symm.trans H; with_reducible exact H2_) | with_reducible exact H | (rw [hy124]; exact H) | exact H
              have Ny124 := Aside0.mk hy124
              clear hy124
              have H' := Aside0.mk H
              clear H
              have p122 : 0 ≤ (x9_1 : Int) := of_decide_eq_true (by first | (with_reducible assumption) | assumption)
              have q122 : x9_1 < (l0.length : Int) := of_decide_eq_true (by first | (with_reducible assumption) | assumption)
              obtain ⟨ad122, e122, hx122_0, hx122_1⟩ := at_T65 HR0.out x9_1 p122 q122
              cases e122
              replace hx122_0 := (HB.out.cell (World.block_lt_of_cell? w _ hx122_0)).trans hx122_0
              replace hx122_1 := (HB.out.cell (World.block_lt_of_cell? w _ hx122_1)).trans hx122_1
              replace p122 := eq_true p122
              replace q122 := eq_true q122
              go_wp2_with (first | ((with_reducible refine gate_dst (N := 5) rfl ?_); refine box_event ?hg (N := 5) ?hd (cs := #[.int .i64 0, .string (⟨#[]⟩ : ByteArray)]) (t := 65) ?hr ?_; (case hd => rfl); (case hg => rfl); (case hr => first | (go_simp; done) | (go_simp; rfl)); intro gb123 hg w8 hbox hb; have n0_ := Aside0.mk (Kd.R_below (by (with_reducible repeat (first | apply Kd.R_alloc | apply Kd.R_drewN | apply Kd.R_drew)); exact HO_3.out) hb); have n1_ := Aside0.mk (below_step (by repeat (first | (with_reducible first | exact HB.out | apply below_alloc | apply pw_below_drewN | apply below_drew1) | exact HB.out)) hb); have n2_ := Aside0.mk (hbox); have n3_ := Aside0.mk ((by rw [hg]; exact (below_size (by repeat (first | (with_reducible first | exact HB.out | apply below_alloc | apply pw_below_drewN | apply below_drew1) | exact HB.out))) : w.heap.size ≤ gb123)); have n4_ := Aside0.mk ((by rw [hg]; exact (below_size (by repeat (first | (with_reducible first | exact HB.out | apply below_alloc | apply pw_below_drewN | apply below_drew1) | exact HB.out))) : w.heap.size ≤ gb123)); clear HO_3; clear HB; have HO_3 := n0_; have HB := n1_; have BK123 := n2_; have GW123 := n3_; have GE123 := n4_; clear n0_ n1_ n2_ n3_ n4_; clear hb hbox hg; have hcz9_0 : w8.cell? ⟨gb123, 0, none⟩ = some (.int .i64 0) := (blk_cell BK123.out 0).trans rfl; have hcz9_1 : w8.cell? ⟨gb123, 1, none⟩ = some (.string (⟨#[]⟩ : ByteArray)) := (blk_cell BK123.out 1).trans rfl; have hfz9_0 := blk_frozen BK123.out 0; have hfz9_1 := blk_frozen BK123.out 1) | ((with_reducible refine gate_builtin (b := .append) (xs := #[.tmp 13, .tmp 16]) rfl ?_); at_builtin; refine Kd.R_append Kd.string (w0 := w) w.heap.size rfl (.tmp 13) (.tmp 16) 45 9 (.string ⟨#[]⟩) 16 rfl Tryd.underlying45 info9 rfl (by decide) (by omega) u3 x3_1 ((rd_T65 l0 x9_1).f1) [.string ((rd_T65 l0 x9_1).f1)] (fun _ => True) (fun _ => False) rfl (by first | (go_simp; done) | (go_simp; rfl)) ?aP (fun _ hk => hk.elim) ?aF ?aO ?aB ?aS ?aL ?_; (case aP => exact rfl); (case aB => exact (by repeat (first | (with_reducible first | exact HB.out | apply below_alloc | apply pw_below_drewN | apply below_drew1 | refine below_set ?_ GE123.out) | exact HB.out))); (case aF => exact (fun _ _ => trivial)); (case aO => exact (by (with_reducible repeat (first | apply Kd.R_alloc | apply Kd.R_drewN | apply Kd.R_drew)); exact Kd.R_mono (Kd.R_far (p := ⟨gb123, 1, none⟩) (Kd.R_far (p := ⟨gb123, 0, none⟩) (Kd.R_types HO_3.out BK123.out (by decide)) (fun _ hk => hk.2) (.int .i64 ((rd_T65 l0 x9_1).f0))) (fun _ hk => hk.2) (.string ((rd_T65 l0 x9_1).f1))) (fun _ hk => trivial))); (case aS => exact (below_size (by repeat (first | (with_reducible first | exact HB.out | apply below_alloc | apply pw_below_drewN | apply below_drew1 | refine below_set ?_ GE123.out) | exact HB.out)))); (case aL => have := LMc7.out; omega); intro v125 w10 ho hb hg hat; rw [← Ny124.out] at ho; have n0_ := Aside0.mk (blk_grown (g := gb123) (o := .cells #[.int .i64 ((rd_T65 l0 x9_1).f0), .string ((rd_T65 l0 x9_1).f1)] 65 (0, 0)) (by (with_reducible repeat (first | refine blk_drewN ?_ _ | refine blk_drew ?_ | refine blk_alloc ?_ _)); refine blk_put (cs := #[.int .i64 ((rd_T65 l0 x9_1).f0), .string (⟨#[]⟩ : ByteArray)]) ?_ 1 _ rfl; (with_reducible repeat (first | refine blk_drewN ?_ _ | refine blk_drew ?_ | refine blk_alloc ?_ _)); refine blk_put (cs := #[.int .i64 0, .string (⟨#[]⟩ : ByteArray)]) ?_ 0 _ rfl; (with_reducible repeat (first | refine blk_drewN ?_ _ | refine blk_drew ?_ | refine blk_alloc ?_ _)); exact BK123.out) hg (Kd.R_ne HO_3.out BK123.out (by decide))); have n1_ := Aside0.mk (hb); have n2_ := Aside0.mk (ho); clear BK123; clear HB; clear HO_3; have BK123 := n0_; have HB := n1_; have HO126 := n2_; clear n0_ n1_ n2_; clear ho hb hg hat))
              go_roundg k1
              case measure => have := HK1.out; omega
              case rel => exact ⟨(y124), (wrap64 (x9_1 + 1)), (by first | rfl | (simp; done) | (simp [*]; done)), H', ⟨by have := HK1.out; omega⟩, ⟨by (with_reducible repeat (first | apply Kd.R_alloc | apply Kd.R_drewN | apply Kd.R_drew)); exact HO126.out⟩, ⟨by repeat (first | (with_reducible first | exact HB.out | apply below_alloc | apply pw_below_drewN | apply below_drew1 | refine below_set ?_ GE123.out) | exact HB.out)⟩⟩
            · rw [if_neg c7] at H
              exact absurd H (by simp)
          · rw [if_neg c6] at H
            exact absurd H (by simp)
        · rw [if_neg c5] at H
          exact absurd H (by simp)
      · rw [if_neg c4] at H
        have c4b0 : decide (x9_1 < (l0.length : Int)) = false := decide_eq_false c4
        clear c4
        replace H := Option.bind_eq_some_iff.mp H
        obtain ⟨t127, A110, H⟩ := H
        replace H : (some t127) = some r := H
        have A11 := Aside0.mk A110
        clear A110
        obtain rfl := Option.some.inj H
        obtain ⟨Ao12, co12, eo12⟩ := Kd.R_slice HO_3.out
        subst eo12
        go_wp2_with (first | ((with_reducible refine gate_callee (f := 34) rfl ?_); refine goesL_ (some 20) rfl rfl Tryd.func34 (by kernel_rfl) rfl #[.slice Ao12 x3_1.length co12, .string (⟨#[]⟩ : ByteArray)] rfl (by (try simp only [List.map_toArray, List.map_cons, List.map_nil]); first | done | rfl | (simp only [List.length_drop, List.length_take]; rfl)) ?_; (with_reducible refine (strings_Join.calls _ _ x3_1 (⟨#[]⟩ : ByteArray) t127 _ ?side1 ?side2 A11.out).mono ?_); (case side1 => repeat (first | exact (Kd.R_reads' HO_3.out).2.2 | (with_reducible refine Kd.C_alloc ?_ _) | (with_reducible refine Kd.C_drewN ?_ _) | (with_reducible refine Kd.C_drew ?_))); (case side2 => exact (Kd.R_reads' HO_3.out).2.1); rintro e w13 ⟨rfl, hb⟩; refine ⟨_, rfl, ?_⟩; have n0_ := Aside0.mk (Kd.R_below (by (with_reducible repeat (first | apply Kd.R_alloc | apply Kd.R_drewN | apply Kd.R_drew)); exact HO_3.out) hb); have n1_ := Aside0.mk (below_step (by repeat (first | (with_reducible first | exact HB.out | apply below_alloc | apply pw_below_drewN | apply below_drew1) | exact HB.out)) hb); clear HO_3; clear HB; have HO_3 := n0_; have HB := n1_; clear n0_ n1_; (try clear hb); (try clear hb2); (try clear hk); (try clear hi)))
        go_ret
        exact ⟨by first | rfl | (simp [errW_none, errW_some] <;> rfl) | (simp [*, errW_none, errW_some] <;> rfl), by repeat (first | (with_reducible first | exact HB.out | apply below_alloc | apply pw_below_drewN | apply below_drew1) | exact HB.out)⟩

/-! ### impl_Stringify: function 25 -/
def impl_Stringify.f (k : Nat) (l0 : List (S27)) : Option (ByteArray) := (impl_inner.f k l0).bind fun t128 => ((chroma_Stringify.f k t128).bind fun t131 => (some t131))
theorem impl_Stringify.mono : ∀ a0 k, LeO (impl_Stringify.f k a0) (impl_Stringify.f (k + 1) a0) := by
  intro a0 k
  unfold impl_Stringify.f
  repeat' first
      | (with_reducible exact chroma_Stringify.mono _ _)
      | (with_reducible exact impl_inner.mono _ _)
      | (with_reducible exact LeO.refl _)
      | (with_reducible exact LeO.none _)
      | (with_reducible refine LeO.ite ?_ ?_)
      | (with_reducible refine LeO.bind ?_ (fun _ => ?_))
      | exact chroma_Stringify.mono _ _
      | exact impl_inner.mono _ _
      | exact LeO.none _
      | refine LeO.ite ?_ ?_
      | refine LeO.bind ?_ (fun _ => ?_)
set_option maxHeartbeats 8000000 in
set_option maxRecDepth 100000 in
theorem impl_Stringify.calls (k : Nat) (A0 : Option Addr) (c0 : Nat) (l0 : List (S27)) (r : ByteArray) (w : World) (hr0 : Kd.C k27 w A0 l0.length l0) (hc0 : l0.length ≤ c0) (h : impl_Stringify.f k l0 = some r) :
    Calls Tryd.prog 25 #[.slice A0 l0.length c0] w fun e w' => e = .returned (.string r) ∧ Below w.heap.size w w' := by
  have HR0 := Aside0.mk hr0
  have HC0 := Aside0.mk hc0
  clear hr0 hc0
  have HB := Aside0.mk (Below.refl w.heap.size w)
  have H : ((impl_inner.f k l0).bind fun t128 => ((chroma_Stringify.f k t128).bind fun t131 => (some t131))) = some r := h
  clear h
  replace H := Option.bind_eq_some_iff.mp H
  obtain ⟨t128, A20, H⟩ := H
  replace H : ((chroma_Stringify.f k t128).bind fun t131 => (some t131)) = some r := H
  have A2 := Aside0.mk A20
  clear A20
  replace H := Option.bind_eq_some_iff.mp H
  obtain ⟨t131, A30, H⟩ := H
  replace H : (some t131) = some r := H
  have A3 := Aside0.mk A30
  clear A30
  obtain rfl := Option.some.inj H
  go_enter Tryd.func25, Tryd.ntmps25
  go_wp2_with (first | ((with_reducible refine gate_callee (f := 31) rfl ?_); refine goesL_ (some 4) rfl rfl Tryd.func31 (by kernel_rfl) rfl #[.slice A0 l0.length c0] rfl (by (try simp only [List.map_toArray, List.map_cons, List.map_nil]); first | done | rfl | (simp only [List.length_drop, List.length_take]; rfl)) ?_; (with_reducible refine (impl_inner.calls k _ _ l0 t128 _ ?side1 ?side2 A2.out).mono ?_); (case side1 => repeat (first | exact HR0.out | (with_reducible refine Kd.C_alloc ?_ _) | (with_reducible refine Kd.C_drewN ?_ _) | (with_reducible refine Kd.C_drew ?_))); (case side2 => exact HC0.out); rintro e w4 ⟨v129, rfl, ho0, hb⟩; refine ⟨_, rfl, ?_⟩; have n0_ := Aside0.mk (Kd.R_lower ho0 (below_size (by repeat (first | (with_reducible first | exact HB.out | apply below_alloc | apply pw_below_drewN | apply below_drew1) | exact HB.out)))); have n1_ := Aside0.mk (below_step (by repeat (first | (with_reducible first | exact HB.out | apply below_alloc | apply pw_below_drewN | apply below_drew1) | exact HB.out)) hb); clear HB; have HO130 := n0_; have HB := n1_; clear n0_ n1_; (try clear hb); (try clear hb2); (try clear hk); (try clear hi); (try clear ho0); obtain ⟨Ao5, co5, eo5⟩ := Kd.R_slice HO130.out; subst eo5) | ((with_reducible refine gate_callee (f := 32) rfl ?_); refine goesL_ (some 5) rfl rfl Tryd.func32 (by kernel_rfl) rfl #[.slice Ao5 t128.length co5] rfl (by (try simp only [List.map_toArray, List.map_cons, List.map_nil]); first | done | rfl | (simp only [List.length_drop, List.length_take]; rfl)) ?_; (with_reducible refine (chroma_Stringify.calls k _ _ t128 t131 _ ?side1 ?side2 A3.out).mono ?_); (case side1 => repeat (first | exact (Kd.R_reads' HO130.out).2.2 | (with_reducible refine Kd.C_alloc ?_ _) | (with_reducible refine Kd.C_drewN ?_ _) | (with_reducible refine Kd.C_drew ?_))); (case side2 => exact (Kd.R_reads' HO130.out).2.1); rintro e w6 ⟨rfl, hb⟩; refine ⟨_, rfl, ?_⟩; have n0_ := Aside0.mk (Kd.R_below (by (with_reducible repeat (first | apply Kd.R_alloc | apply Kd.R_drewN | apply Kd.R_drew)); exact HO130.out) hb); have n1_ := Aside0.mk (below_step (by repeat (first | (with_reducible first | exact HB.out | apply below_alloc | apply pw_below_drewN | apply below_drew1) | exact HB.out)) hb); clear HO130; clear HB; have HO130 := n0_; have HB := n1_; clear n0_ n1_; (try clear hb); (try clear hb2); (try clear hk); (try clear hi)))
  go_ret
  exact ⟨by first | rfl | (simp [errW_none, errW_some] <;> rfl) | (simp [*, errW_none, errW_some] <;> rfl), by repeat (first | (with_reducible first | exact HB.out | apply below_alloc | apply pw_below_drewN | apply below_drew1) | exact HB.out)⟩

/-! ### laws_zzFits5: function 19 -/
def laws_zzFits5.f (a0_0 : Int) (a0_1 : ByteArray) : Option (Bool) := if (a0_1.size : Int) > 2147483647 then (some false) else (some true)
set_option maxHeartbeats 8000000 in
set_option maxRecDepth 100000 in
theorem laws_zzFits5.calls (a0_0 : Int) (a0_1 : ByteArray) (r : Bool) (w : World) (h : laws_zzFits5.f a0_0 a0_1 = some r) :
    Calls Tryd.prog 19 #[.agg #[.int .i64 a0_0, .string a0_1]] w fun e w' => e = .returned (.bool r) ∧ Below w.heap.size w w' := by
  have hu27 := Tryd.underlying27
  have HB := Aside0.mk (Below.refl w.heap.size w)
  have H : (if (a0_1.size : Int) > 2147483647 then (some false) else (some true)) = some r := h
  clear h
  by_cases c2 : (a0_1.size : Int) > 2147483647
  · rw [if_pos c2] at H
    have c2b0 : decide (2147483647 < (a0_1.size : Int)) = true := decide_eq_true c2
    have c2b1 : decide (2147483647 < a0_1.size) = true := decide_eq_true (by omega)
    clear c2
    obtain rfl := Option.some.inj H
    go_enter Tryd.func19, Tryd.ntmps19
    go_wp2_with (first | ((with_reducible refine gate_dst (N := 1) rfl ?_); refine box_event ?hg (N := 1) ?hd (cs := #[.int .i64 a0_0, .string a0_1]) (t := 27) ?hr ?_; (case hd => rfl); (case hg => rfl); (case hr => first | (go_simp; done) | (go_simp; rfl)); intro gb132 hg w3 hbox hb; have n0_ := Aside0.mk (below_step (by repeat (first | (with_reducible first | exact HB.out | apply below_alloc | apply pw_below_drewN | apply below_drew1) | exact HB.out)) hb); have n1_ := Aside0.mk (hbox); have n2_ := Aside0.mk ((by rw [hg]; exact (below_size (by repeat (first | (with_reducible first | exact HB.out | apply below_alloc | apply pw_below_drewN | apply below_drew1) | exact HB.out))) : w.heap.size ≤ gb132)); have n3_ := Aside0.mk ((by rw [hg]; exact (below_size (by repeat (first | (with_reducible first | exact HB.out | apply below_alloc | apply pw_below_drewN | apply below_drew1) | exact HB.out))) : w.heap.size ≤ gb132)); clear HB; have HB := n0_; have BK132 := n1_; have GW132 := n2_; have GE132 := n3_; clear n0_ n1_ n2_ n3_; clear hb hbox hg; have hcz4_0 : w3.cell? ⟨gb132, 0, none⟩ = some (.int .i64 a0_0) := (blk_cell BK132.out 0).trans rfl; have hcz4_1 : w3.cell? ⟨gb132, 1, none⟩ = some (.string a0_1) := (blk_cell BK132.out 1).trans rfl; have hfz4_0 := blk_frozen BK132.out 0; have hfz4_1 := blk_frozen BK132.out 1))
    go_ret
    exact ⟨by first | rfl | (simp [errW_none, errW_some] <;> rfl) | (simp [*, errW_none, errW_some] <;> rfl), by repeat (first | (with_reducible first | exact HB.out | apply below_alloc | apply pw_below_drewN | apply below_drew1 | refine below_set ?_ GE132.out) | exact HB.out)⟩
  · rw [if_neg c2] at H
    have c2b0 : decide (2147483647 < (a0_1.size : Int)) = false := decide_eq_false c2
    have c2b1 : decide (2147483647 < a0_1.size) = false := decide_eq_false (by omega)
    clear c2
    obtain rfl := Option.some.inj H
    go_enter Tryd.func19, Tryd.ntmps19
    go_wp2_with (first | ((with_reducible refine gate_dst (N := 1) rfl ?_); refine box_event ?hg (N := 1) ?hd (cs := #[.int .i64 a0_0, .string a0_1]) (t := 27) ?hr ?_; (case hd => rfl); (case hg => rfl); (case hr => first | (go_simp; done) | (go_simp; rfl)); intro gb132 hg w5 hbox hb; have n0_ := Aside0.mk (below_step (by repeat (first | (with_reducible first | exact HB.out | apply below_alloc | apply pw_below_drewN | apply below_drew1) | exact HB.out)) hb); have n1_ := Aside0.mk (hbox); have n2_ := Aside0.mk ((by rw [hg]; exact (below_size (by repeat (first | (with_reducible first | exact HB.out | apply below_alloc | apply pw_below_drewN | apply below_drew1) | exact HB.out))) : w.heap.size ≤ gb132)); have n3_ := Aside0.mk ((by rw [hg]; exact (below_size (by repeat (first | (with_reducible first | exact HB.out | apply below_alloc | apply pw_below_drewN | apply below_drew1) | exact HB.out))) : w.heap.size ≤ gb132)); clear HB; have HB := n0_; have BK132 := n1_; have GW132 := n2_; have GE132 := n3_; clear n0_ n1_ n2_ n3_; clear hb hbox hg; have hcz6_0 : w5.cell? ⟨gb132, 0, none⟩ = some (.int .i64 a0_0) := (blk_cell BK132.out 0).trans rfl; have hcz6_1 : w5.cell? ⟨gb132, 1, none⟩ = some (.string a0_1) := (blk_cell BK132.out 1).trans rfl; have hfz6_0 := blk_frozen BK132.out 0; have hfz6_1 := blk_frozen BK132.out 1))
    go_ret
    exact ⟨by first | rfl | (simp [errW_none, errW_some] <;> rfl) | (simp [*, errW_none, errW_some] <;> rfl), by repeat (first | (with_reducible first | exact HB.out | apply below_alloc | apply pw_below_drewN | apply below_drew1 | refine below_set ?_ GE132.out) | exact HB.out)⟩
def wf_S27 (x : S27) : Prop := (IntKind.i64.min ≤ x.f0 ∧ x.f0 ≤ IntKind.i64.max) ∧ (x.f1.size ≤ maxLen)
def laws_zzFits5.Pure : Prop := ∀ (a0_0 : Int) (a0_1 : ByteArray), wf_S27 (⟨a0_0, a0_1⟩ : S27) → laws_zzFits5.f a0_0 a0_1 = some true

end Go.Proofs.YtmldahejeobohaaDoor.A
