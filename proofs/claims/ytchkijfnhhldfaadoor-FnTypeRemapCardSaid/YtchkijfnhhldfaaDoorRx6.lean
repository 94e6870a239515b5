-- WRITTEN BY OUR myprint.py, a program of this session's over the kit's printer
import Derived.Test.YtchkijfnhhldfaaDoorRx0
import Derived.Test.YtchkijfnhhldfaaDoorRx3
import Derived.Test.YtchkijfnhhldfaaDoorRx5
namespace Go.Proofs.YtchkijfnhhldfaaDoor.R
open Go.RowKit Go.Proofs.YtchkijfnhhldfaaDoorW.PrintWords Go.Proofs.YtchkijfnhhldfaaDoorW.PrintLast Go.Proofs.YtchkijfnhhldfaaDoorW.PrintMore
attribute [local go_sem] max2_int min2_int max_two min_two max_three min_three max_four min_four   -- for this text's walks alone
set_option linter.unusedVariables false
set_option linter.unusedSimpArgs false

/-! ### chroma_SplitTokensIntoLines: function 24 -/
mutual
def chroma_SplitTokensIntoLines.l0 : Nat → List (List (S62)) → List (S62) → List (S62) → Int → Int → Option ((List (List (S62))))
  | 0, _, _, _, _, _ => none
  | k + 1, x2, x3, x9, x10, x11 => if x11 < x10 then (if 0 ≤ x11 then (if x11 < (x9.length : Int) then (chroma_SplitTokensIntoLines.l1 k x2 x3 x9 x10 x11 ((rd_T62 x9 x11).f0) ((rd_T62 x9 x11).f1)) else (none)) else (none)) else (if (x3.length : Int) > 0 then (if x2.length < 5864062014805 then (chroma_SplitTokensIntoLines.j2 k (x2 ++ [x3])) else (none)) else (chroma_SplitTokensIntoLines.j2 k x2))
def chroma_SplitTokensIntoLines.l1 : Nat → List (List (S62)) → List (S62) → List (S62) → Int → Int → Int → ByteArray → Option ((List (List (S62))))
  | 0, _, _, _, _, _, _, _ => none
  | k + 1, x2, x3, x9, x10, x11, x132000, x132001 => (chroma_zzContains.f k x132001 (⟨#[10]⟩ : ByteArray)).bind fun t132 => (if t132 = true then ((chroma_zzSplitAfter.f k x132001 (⟨#[10]⟩ : ByteArray)).bind fun t136 => (if 1 < (t136.length : Int) then ((chroma_Token_Clone.f x132000 (rdOf ByteArray.empty t136 1)).bind fun bt140 => (if 0 < (t136.length : Int) then (if x3.length < 5864062014805 then (if x2.length < 5864062014805 then ((some (x2 ++ [(x3 ++ [(⟨bt140.1, rdOf ByteArray.empty t136 0⟩ : S62)])] : List (List (S62)))).bind fun y147 => (if ((rdOf ByteArray.empty t136 1).size : Int) = 0 then (chroma_SplitTokensIntoLines.l0 k y147 ([] : List (S62)) x9 x10 (wrap64 (x11 + 1))) else (chroma_SplitTokensIntoLines.l1 k y147 ([] : List (S62)) x9 x10 x11 x132000 (rdOf ByteArray.empty t136 1)))) else (none)) else (none)) else (none))) else (none))) else (if x3.length < 5864062014805 then (chroma_SplitTokensIntoLines.l0 k x2 (x3 ++ [(⟨x132000, x132001⟩ : S62)]) x9 x10 (wrap64 (x11 + 1))) else (none)))
def chroma_SplitTokensIntoLines.j2 : Nat → List (List (S62)) → Option ((List (List (S62))))
  | 0, _ => none
  | k + 1, x2 => if (x2.length : Int) > 0 then (if 0 ≤ (wrap64 ((x2.length : Int) - 1)) then (if (wrap64 ((x2.length : Int) - 1)) < (x2.length : Int) then (if ((rd_L8 x2 (wrap64 ((x2.length : Int) - 1))).length : Int) = 1 then (if 0 < ((rd_L8 x2 (wrap64 ((x2.length : Int) - 1))).length : Int) then (if ((rd_T62 (rd_L8 x2 (wrap64 ((x2.length : Int) - 1))) 0).f1).toList = ([] : List UInt8) then (if (wrap64 ((x2.length : Int) - 1)) ≤ (x2.length : Int) then (some (x2.take ((wrap64 ((x2.length : Int) - 1)) : Int).toNat)) else (none)) else (some x2)) else (none)) else (some x2)) else (none)) else (none)) else (some x2)
end
def chroma_SplitTokensIntoLines.f (k : Nat) (l0 : List (S62)) : Option ((List (List (S62)))) := chroma_SplitTokensIntoLines.l0 k ([] : List (List (S62))) ([] : List (S62)) l0 (l0.length : Int) 0
theorem chroma_SplitTokensIntoLines.mono_l : ∀ k, (∀ y0 y1 y2 y3 y4, LeO (chroma_SplitTokensIntoLines.l0 k y0 y1 y2 y3 y4) (chroma_SplitTokensIntoLines.l0 (k + 1) y0 y1 y2 y3 y4)) ∧ (∀ y0 y1 y2 y3 y4 y5 y6, LeO (chroma_SplitTokensIntoLines.l1 k y0 y1 y2 y3 y4 y5 y6) (chroma_SplitTokensIntoLines.l1 (k + 1) y0 y1 y2 y3 y4 y5 y6)) ∧ (∀ y0, LeO (chroma_SplitTokensIntoLines.j2 k y0) (chroma_SplitTokensIntoLines.j2 (k + 1) y0))
  | 0 => ⟨fun _ _ _ _ _ r h => by simp [chroma_SplitTokensIntoLines.l0] at h, fun _ _ _ _ _ _ _ r h => by simp [chroma_SplitTokensIntoLines.l1] at h, fun _ r h => by simp [chroma_SplitTokensIntoLines.j2] at h⟩
  | k + 1 => by
    obtain ⟨ih0, ih1, ih2⟩ := chroma_SplitTokensIntoLines.mono_l k
    refine ⟨?_, ?_, ?_⟩
    · intro y0 y1 y2 y3 y4
      unfold chroma_SplitTokensIntoLines.l0
      repeat' first
      | (with_reducible exact ih0 _ _ _ _ _)
      | (with_reducible exact ih1 _ _ _ _ _ _ _)
      | (with_reducible exact ih2 _)
      | (with_reducible exact chroma_zzContains.mono _ _ _)
      | (with_reducible exact chroma_zzSplitAfter.mono _ _ _)
      | (with_reducible exact LeO.refl _)
      | (with_reducible exact LeO.none _)
      | (with_reducible refine LeO.ite ?_ ?_)
      | (with_reducible refine LeO.bind ?_ (fun _ => ?_))
      | exact ih0 _ _ _ _ _
      | exact ih1 _ _ _ _ _ _ _
      | exact ih2 _
      | exact chroma_zzContains.mono _ _ _
      | exact chroma_zzSplitAfter.mono _ _ _
      | exact LeO.none _
      | refine LeO.ite ?_ ?_
      | refine LeO.bind ?_ (fun _ => ?_)
    · intro y0 y1 y2 y3 y4 y5 y6
      unfold chroma_SplitTokensIntoLines.l1
      repeat' first
      | (with_reducible exact ih0 _ _ _ _ _)
      | (with_reducible exact ih1 _ _ _ _ _ _ _)
      | (with_reducible exact ih2 _)
      | (with_reducible exact chroma_zzContains.mono _ _ _)
      | (with_reducible exact chroma_zzSplitAfter.mono _ _ _)
      | (with_reducible exact LeO.refl _)
      | (with_reducible exact LeO.none _)
      | (with_reducible refine LeO.ite ?_ ?_)
      | (with_reducible refine LeO.bind ?_ (fun _ => ?_))
      | exact ih0 _ _ _ _ _
      | exact ih1 _ _ _ _ _ _ _
      | exact ih2 _
      | exact chroma_zzContains.mono _ _ _
      | exact chroma_zzSplitAfter.mono _ _ _
      | exact LeO.none _
      | refine LeO.ite ?_ ?_
      | refine LeO.bind ?_ (fun _ => ?_)
    · intro y0
      unfold chroma_SplitTokensIntoLines.j2
      repeat' first
      | (with_reducible exact ih0 _ _ _ _ _)
      | (with_reducible exact ih1 _ _ _ _ _ _ _)
      | (with_reducible exact ih2 _)
      | (with_reducible exact chroma_zzContains.mono _ _ _)
      | (with_reducible exact chroma_zzSplitAfter.mono _ _ _)
      | (with_reducible exact LeO.refl _)
      | (with_reducible exact LeO.none _)
      | (with_reducible refine LeO.ite ?_ ?_)
      | (with_reducible refine LeO.bind ?_ (fun _ => ?_))
      | exact ih0 _ _ _ _ _
      | exact ih1 _ _ _ _ _ _ _
      | exact ih2 _
      | exact chroma_zzContains.mono _ _ _
      | exact chroma_zzSplitAfter.mono _ _ _
      | exact LeO.none _
      | refine LeO.ite ?_ ?_
      | refine LeO.bind ?_ (fun _ => ?_)
theorem chroma_SplitTokensIntoLines.mono : ∀ a0 k, LeO (chroma_SplitTokensIntoLines.f k a0) (chroma_SplitTokensIntoLines.f (k + 1) a0) := by
  intro a0 k
  obtain ⟨ih0, ih1, ih2⟩ := chroma_SplitTokensIntoLines.mono_l k
  unfold chroma_SplitTokensIntoLines.f
  repeat' first
      | (with_reducible exact ih0 _ _ _ _ _)
      | (with_reducible exact ih1 _ _ _ _ _ _ _)
      | (with_reducible exact ih2 _)
      | (with_reducible exact chroma_zzContains.mono _ _ _)
      | (with_reducible exact chroma_zzSplitAfter.mono _ _ _)
      | (with_reducible exact LeO.refl _)
      | (with_reducible exact LeO.none _)
      | (with_reducible refine LeO.ite ?_ ?_)
      | (with_reducible refine LeO.bind ?_ (fun _ => ?_))
      | exact ih0 _ _ _ _ _
      | exact ih1 _ _ _ _ _ _ _
      | exact ih2 _
      | exact chroma_zzContains.mono _ _ _
      | exact chroma_zzSplitAfter.mono _ _ _
      | exact LeO.none _
      | refine LeO.ite ?_ ?_
      | refine LeO.bind ?_ (fun _ => ?_)
set_option maxHeartbeats 8000000 in
set_option maxRecDepth 100000 in
theorem chroma_SplitTokensIntoLines.calls (k : Nat) (A0 : Option Addr) (c0 : Nat) (l0 : List (S62)) (r : List (List (S62))) (w : World) (hr0 : Kd.C k62 w A0 l0.length l0) (hc0 : l0.length ≤ c0) (h : chroma_SplitTokensIntoLines.f k l0 = some r) :
    Calls Tryd.prog 24 #[.slice A0 l0.length c0] w fun e w' => ∃ v0_ : Value, e = .returned (v0_) ∧ Kd.S (Kd.slice 62 k62) 51 w' w.heap.size (fun _ => True) v0_ r ∧ Below w.heap.size w w' := by
  have hu62 := Tryd.underlying62
  have HR0 := Aside0.mk hr0
  have HC0 := Aside0.mk hc0
  clear hr0 hc0
  have HB := Aside0.mk (Below.refl w.heap.size w)
  have H : (chroma_SplitTokensIntoLines.l0 k ([] : List (List (S62))) ([] : List (S62)) l0 (l0.length : Int) 0) = some r := h
  clear h
  have H' := Aside0.mk H
  clear H
  go_enter Tryd.func24, Tryd.ntmps24
  repeat (go_wp2; go_step3)
  go_wp2
  go_loopg [2, 3, 11] k (fun kq v2 v3 v11 w' => ∃ (x2_1 : List (List (S62))) (x3_1 : List (S62)) (x11_1 : Int), v11 = .int .i64 x11_1 ∧ Aside0 (chroma_SplitTokensIntoLines.l0 kq x2_1 x3_1 l0 (l0.length : Int) x11_1 = some r) ∧ Aside0 (kq ≤ k) ∧ Aside0 (Kd.S (Kd.slice 62 k62) 51 w' w.heap.size (fun k_ => some k_ ≠ (v3 : Value).ownBlock) v2 x2_1) ∧ Aside0 (Kd.R k62 62 w' w.heap.size (fun _ => True) v3 x3_1) ∧ Aside0 (Below w.heap.size w w'))
  case atStart => exact ⟨(([] : List (List (S62)))), (([] : List (S62))), (0), (by first | rfl | (simp; done) | (simp [*]; done)), H', ⟨Nat.le_refl _⟩, ⟨by first | exact Kd.S_nil _ _ _ _ _ | exact Kd.N_nil _ _ _ _ _ | exact Kd.V_nil _ _ _ _ _ | exact Kd.Q_nil _ _ _ _ _ | exact Kd.R_nil _ _ _ _ _⟩, ⟨by first | exact Kd.R_nil _ _ _ _ _ | exact Kd.N_nil _ _ _ _ _ | exact Kd.V_nil _ _ _ _ _ | exact Kd.Q_nil _ _ _ _ _ | exact Kd.S_nil _ _ _ _ _⟩, ⟨by repeat (first | (with_reducible first | exact HB.out | apply below_alloc | apply pw_below_drewN | apply below_drew1) | exact HB.out)⟩⟩
  case round =>
    clear H'
    obtain ⟨x2_1, x3_1, x11_1, rfl, HA, HK1, HO_2, HO_3, HB⟩ := hrel
    cases gk with
    | zero => exact absurd HA.out (by simp [chroma_SplitTokensIntoLines.l0])
    | succ k1 =>
      have H := HA.out
      clear HA
      simp only [chroma_SplitTokensIntoLines.l0] at H
      by_cases c2 : x11_1 < (l0.length : Int)
      · rw [if_pos c2] at H
        have c2b0 : decide (x11_1 < (l0.length : Int)) = true := decide_eq_true c2
        clear c2
        by_cases c3 : 0 ≤ x11_1
        · rw [if_pos c3] at H
          have c3b0 : decide (0 ≤ x11_1) = true := decide_eq_true c3
          clear c3
          by_cases c4 : x11_1 < (l0.length : Int)
          · rw [if_pos c4] at H
            have c4b0 : decide (x11_1 < (l0.length : Int)) = true := decide_eq_true c4
            clear c4
            have H' := Aside0.mk H
            clear H
            have p130 : 0 ≤ (x11_1 : Int) := of_decide_eq_true (by first | (with_reducible assumption) | assumption)
            have q130 : x11_1 < (l0.length : Int) := of_decide_eq_true (by first | (with_reducible assumption) | assumption)
            obtain ⟨ad130, e130, hx130_0, hx130_1⟩ := at_T62 HR0.out x11_1 p130 q130
            cases e130
            replace hx130_0 := (HB.out.cell (World.block_lt_of_cell? w _ hx130_0)).trans hx130_0
            replace hx130_1 := (HB.out.cell (World.block_lt_of_cell? w _ hx130_1)).trans hx130_1
            replace p130 := eq_true p130
            replace q130 := eq_true q130
            go_wp2_with (first | ((with_reducible refine gate_dst (N := 5) rfl ?_); refine box_event ?hg (N := 5) ?hd (cs := #[.int .i64 0, .string (⟨#[]⟩ : ByteArray)]) (t := 62) ?hr ?_; (case hd => rfl); (case hg => rfl); (case hr => first | (go_simp; done) | (go_simp; rfl)); intro gb131 hg w5 hbox hb; have n0_ := Aside0.mk (Kd.S_below (Kd.S_elderB (by (with_reducible repeat (first | apply Kd.S_alloc | apply Kd.S_drewN | apply Kd.S_drew)); exact HO_2.out) gb131 (Nat.le_of_eq hg.symm)) hb); have n1_ := Aside0.mk (Kd.R_below (Kd.R_elderB (by (with_reducible repeat (first | apply Kd.R_alloc | apply Kd.R_drewN | apply Kd.R_drew)); exact HO_3.out) gb131 (Nat.le_of_eq hg.symm)) hb); have n2_ := Aside0.mk (below_step (by repeat (first | (with_reducible first | exact HB.out | apply below_alloc | apply pw_below_drewN | apply below_drew1) | exact HB.out)) hb); have n3_ := Aside0.mk (hbox); have n4_ := Aside0.mk ((by rw [hg]; exact (below_size (by repeat (first | (with_reducible first | exact HB.out | apply below_alloc | apply pw_below_drewN | apply below_drew1) | exact HB.out))) : w.heap.size ≤ gb131)); have n5_ := Aside0.mk ((by rw [hg]; exact (below_size (by repeat (first | (with_reducible first | exact HB.out | apply below_alloc | apply pw_below_drewN | apply below_drew1) | exact HB.out))) : w.heap.size ≤ gb131)); clear HO_2; clear HO_3; clear HB; have HO_2 := n0_; have HO_3 := n1_; have HB := n2_; have BK131 := n3_; have GW131 := n4_; have GE131 := n5_; clear n0_ n1_ n2_ n3_ n4_ n5_; clear hb hbox hg; have hcz6_0 : w5.cell? ⟨gb131, 0, none⟩ = some (.int .i64 0) := (blk_cell BK131.out 0).trans rfl; have hcz6_1 : w5.cell? ⟨gb131, 1, none⟩ = some (.string (⟨#[]⟩ : ByteArray)) := (blk_cell BK131.out 1).trans rfl; have hfz6_0 := blk_frozen BK131.out 0; have hfz6_1 := blk_frozen BK131.out 1))
            go_loopg [2, 3] k1 (fun kq v2 v3 w' => ∃ (x2_2 : List (List (S62))) (x3_2 : List (S62)) (x132001_2 : ByteArray), Aside0 (chroma_SplitTokensIntoLines.l1 kq x2_2 x3_2 l0 (l0.length : Int) x11_1 ((rd_T62 l0 x11_1).f0) x132001_2 = some r) ∧ Aside0 (kq ≤ k1) ∧ Aside0 (Kd.S (Kd.slice 62 k62) 51 w' w.heap.size (fun k_ => some k_ ≠ (v3 : Value).ownBlock ∧ k_ ≠ gb131) v2 x2_2) ∧ Aside0 (Kd.R k62 62 w' w.heap.size (fun k_ => k_ ≠ gb131) v3 x3_2) ∧ Aside0 (w'.heap[gb131]? = some (.cells #[.int .i64 ((rd_T62 l0 x11_1).f0), .string x132001_2] 62 (0, 0))) ∧ Aside0 (Below w.heap.size w w'))
            case atStart => exact ⟨(x2_1), (x3_1), ((rd_T62 l0 x11_1).f1), H', ⟨Nat.le_refl _⟩, ⟨by (with_reducible repeat (first | apply Kd.S_alloc | apply Kd.S_drewN | apply Kd.S_drew)); exact Kd.S_mono (Kd.S_far (p := ⟨gb131, 1, none⟩) (Kd.S_far (p := ⟨gb131, 0, none⟩) (Kd.S_mono HO_2.out (fun k_ hk => (⟨hk, hk.2⟩ : _ ∧ k_ ≠ gb131))) (fun _ hk => hk.2) (.int .i64 ((rd_T62 l0 x11_1).f0))) (fun _ hk => hk.2) (.string ((rd_T62 l0 x11_1).f1))) (fun _ hk => ⟨hk.1.1, hk.1.2⟩)⟩, ⟨by (with_reducible repeat (first | apply Kd.R_alloc | apply Kd.R_drewN | apply Kd.R_drew)); exact Kd.R_mono (Kd.R_far (p := ⟨gb131, 1, none⟩) (Kd.R_far (p := ⟨gb131, 0, none⟩) (Kd.R_mono HO_3.out (fun k_ hk => (⟨hk, hk.2⟩ : _ ∧ k_ ≠ gb131))) (fun _ hk => hk.2) (.int .i64 ((rd_T62 l0 x11_1).f0))) (fun _ hk => hk.2) (.string ((rd_T62 l0 x11_1).f1))) (fun _ hk => hk.1.2)⟩, ⟨by (with_reducible repeat (first | refine blk_drewN ?_ _ | refine blk_drew ?_ | refine blk_alloc ?_ _)); refine blk_put (cs := #[.int .i64 ((rd_T62 l0 x11_1).f0), .string (⟨#[]⟩ : ByteArray)]) ?_ 1 _ rfl; (with_reducible repeat (first | refine blk_drewN ?_ _ | refine blk_drew ?_ | refine blk_alloc ?_ _)); refine blk_put (cs := #[.int .i64 0, .string (⟨#[]⟩ : ByteArray)]) ?_ 0 _ rfl; (with_reducible repeat (first | refine blk_drewN ?_ _ | refine blk_drew ?_ | refine blk_alloc ?_ _)); exact BK131.out⟩, ⟨by repeat (first | (with_reducible first | exact HB.out | apply below_alloc | apply pw_below_drewN | apply below_drew1 | refine below_set ?_ GE131.out) | exact HB.out)⟩⟩
            case round =>
              clear H'
              try clear p1
              try clear q1
              try clear hx1
              try clear c2
              try clear c2b0
              try clear p2
              try clear c3
              try clear c3b0
              try clear p3
              try clear c4
              try clear c4b0
              try clear hcz6_0
              try clear hcz6_1
              try clear hfz6_0
              try clear hfz6_1
              try clear hx130_0
              try clear hx130_1
              try clear p130
              try clear q130
              obtain ⟨x2_2, x3_2, x132001_2, HA, HK2, HO_2, HO_3, BK131, HB⟩ := hrel
              cases gk with
              | zero => exact absurd HA.out (by simp [chroma_SplitTokensIntoLines.l1])
              | succ k2 =>
                have H := HA.out
                clear HA
                simp only [chroma_SplitTokensIntoLines.l1] at H
                replace H := Option.bind_eq_some_iff.mp H
                obtain ⟨t132, A70, H⟩ := H
                replace H : (if t132 = true then ((chroma_zzSplitAfter.f k2 x132001_2 (⟨#[10]⟩ : ByteArray)).bind fun t136 => (if 1 < (t136.length : Int) then ((chroma_Token_Clone.f ((rd_T62 l0 x11_1).f0) (rdOf ByteArray.empty t136 1)).bind fun bt140 => (if 0 < (t136.length : Int) then (if x3_2.length < 5864062014805 then (if x2_2.length < 5864062014805 then ((some (x2_2 ++ [(x3_2 ++ [(⟨bt140.1, rdOf ByteArray.empty t136 0⟩ : S62)])] : List (List (S62)))).bind fun y147 => (if ((rdOf ByteArray.empty t136 1).size : Int) = 0 then (chroma_SplitTokensIntoLines.l0 k2 y147 ([] : List (S62)) l0 (l0.length : Int) (wrap64 (x11_1 + 1))) else (chroma_SplitTokensIntoLines.l1 k2 y147 ([] : List (S62)) l0 (l0.length : Int) x11_1 ((rd_T62 l0 x11_1).f0) (rdOf ByteArray.empty t136 1)))) else (none)) else (none)) else (none))) else (none))) else (if x3_2.length < 5864062014805 then (chroma_SplitTokensIntoLines.l0 k2 x2_2 (x3_2 ++ [(⟨((rd_T62 l0 x11_1).f0), x132001_2⟩ : S62)]) l0 (l0.length : Int) (wrap64 (x11_1 + 1))) else (none))) = some r := H
                have A7 := Aside0.mk A70
                clear A70
                by_cases c8 : t132 = true
                · subst c8
                  have H1 : ((chroma_zzSplitAfter.f k2 x132001_2 (⟨#[10]⟩ : ByteArray)).bind fun t136 => (if 1 < (t136.length : Int) then ((chroma_Token_Clone.f ((rd_T62 l0 x11_1).f0) (rdOf ByteArray.empty t136 1)).bind fun bt140 => (if 0 < (t136.length : Int) then (if x3_2.length < 5864062014805 then (if x2_2.length < 5864062014805 then ((some (x2_2 ++ [(x3_2 ++ [(⟨bt140.1, rdOf ByteArray.empty t136 0⟩ : S62)])] : List (List (S62)))).bind fun y147 => (if ((rdOf ByteArray.empty t136 1).size : Int) = 0 then (chroma_SplitTokensIntoLines.l0 k2 y147 ([] : List (S62)) l0 (l0.length : Int) (wrap64 (x11_1 + 1))) else (chroma_SplitTokensIntoLines.l1 k2 y147 ([] : List (S62)) l0 (l0.length : Int) x11_1 ((rd_T62 l0 x11_1).f0) (rdOf ByteArray.empty t136 1)))) else (none)) else (none)) else (none))) else (none))) = some r := by rw [if_pos rfl] at H; exact H
                  clear H
                  have H := H1
                  clear H1
                  replace H := Option.bind_eq_some_iff.mp H
                  obtain ⟨t136, A90, H⟩ := H
                  replace H : (if 1 < (t136.length : Int) then ((chroma_Token_Clone.f ((rd_T62 l0 x11_1).f0) (rdOf ByteArray.empty t136 1)).bind fun bt140 => (if 0 < (t136.length : Int) then (if x3_2.length < 5864062014805 then (if x2_2.length < 5864062014805 then ((some (x2_2 ++ [(x3_2 ++ [(⟨bt140.1, rdOf ByteArray.empty t136 0⟩ : S62)])] : List (List (S62)))).bind fun y147 => (if ((rdOf ByteArray.empty t136 1).size : Int) = 0 then (chroma_SplitTokensIntoLines.l0 k2 y147 ([] : List (S62)) l0 (l0.length : Int) (wrap64 (x11_1 + 1))) else (chroma_SplitTokensIntoLines.l1 k2 y147 ([] : List (S62)) l0 (l0.length : Int) x11_1 ((rd_T62 l0 x11_1).f0) (rdOf ByteArray.empty t136 1)))) else (none)) else (none)) else (none))) else (none)) = some r := H
                  have A9 := Aside0.mk A90
                  clear A90
                  by_cases c10 : 1 < (t136.length : Int)
                  · rw [if_pos c10] at H
                    have c10b0 : decide (1 < (t136.length : Int)) = true := decide_eq_true c10
                    have c10b1 : decide (1 < t136.length) = true := decide_eq_true (by omega)
                    clear c10
                    replace H := Option.bind_eq_some_iff.mp H
                    obtain ⟨⟨t140, t141⟩, A110, H⟩ := H
                    replace H : (if 0 < (t136.length : Int) then (if x3_2.length < 5864062014805 then (if x2_2.length < 5864062014805 then ((some (x2_2 ++ [(x3_2 ++ [(⟨t140, rdOf ByteArray.empty t136 0⟩ : S62)])] : List (List (S62)))).bind fun y147 => (if ((rdOf ByteArray.empty t136 1).size : Int) = 0 then (chroma_SplitTokensIntoLines.l0 k2 y147 ([] : List (S62)) l0 (l0.length : Int) (wrap64 (x11_1 + 1))) else (chroma_SplitTokensIntoLines.l1 k2 y147 ([] : List (S62)) l0 (l0.length : Int) x11_1 ((rd_T62 l0 x11_1).f0) (rdOf ByteArray.empty t136 1)))) else (none)) else (none)) else (none)) = some r := H
                    have A11 := Aside0.mk A110
                    clear A110
                    by_cases c12 : 0 < (t136.length : Int)
                    · rw [if_pos c12] at H
                      have c12b0 : decide (0 < (t136.length : Int)) = true := decide_eq_true c12
                      have c12b1 : decide (0 < t136.length) = true := decide_eq_true (by omega)
                      clear c12
                      by_cases c13 : x3_2.length < 5864062014805
                      · rw [if_pos c13] at H
                        have LMc13 := Aside0.mk c13
                        clear c13
                        obtain ⟨y144, hy144⟩ : ∃ y_ : List (S62), y_ = (x3_2 ++ [(⟨t140, rdOf ByteArray.empty t136 0⟩ : S62)]) := ⟨_, rfl⟩
                        replace H : (if x2_2.length < 5864062014805 then ((some (x2_2 ++ [y144] : List (List (S62)))).bind fun y147 => (if ((rdOf ByteArray.empty t136 1).size : Int) = 0 then (chroma_SplitTokensIntoLines.l0 k2 y147 ([] : List (S62)) l0 (l0.length : Int) (wrap64 (x11_1 + 1))) else (chroma_SplitTokensIntoLines.l1 k2 y147 ([] : List (S62)) l0 (l0.length : Int) x11_1 ((rd_T62 l0 x11_1).f0) (rdOf ByteArray.empty t136 1)))) else (none)) = some r := by first | (rw [hy144]; with_reducible exact H) | (have H2_ := (Option.bind_some _ _).symm.trans H; rw [hy144]; with_reducible exact H2_) | (have H2_ := (Option.bind_some _ _).symm.trans H; with_reducible exact H2_) | with_reducible exact H | (rw [hy144]; exact H) | exact H
                        have Ny144 := Aside0.mk hy144
                        clear hy144
                        by_cases c14 : x2_2.length < 5864062014805
                        · rw [if_pos c14] at H
                          have LMc14 := Aside0.mk c14
                          clear c14
                          obtain ⟨y147, hy147⟩ : ∃ y_ : List (List (S62)), y_ = (x2_2 ++ [y144]) := ⟨_, rfl⟩
                          replace H : (if ((rdOf ByteArray.empty t136 1).size : Int) = 0 then (chroma_SplitTokensIntoLines.l0 k2 y147 ([] : List (S62)) l0 (l0.length : Int) (wrap64 (x11_1 + 1))) else (chroma_SplitTokensIntoLines.l1 k2 y147 ([] : List (S62)) l0 (l0.length : Int) x11_1 ((rd_T62 l0 x11_1).f0) (rdOf ByteArray.empty t136 1))) = some r := by first | (rw [hy147]; with_reducible exact H) | (have H2_ := (Option.bind_some _ _).symm.trans H; rw [hy147]; with_reducible exact H2_) | (have H2_ := (Option.bind_some _ _).symm.trans H; with_reducible exact H2_) | with_reducible exact H | (rw [hy147]; exact H) | exact H
                          have Ny147 := Aside0.mk hy147
                          clear hy147
                          by_cases c15 : ((rdOf ByteArray.empty t136 1).size : Int) = 0
                          · rw [if_pos c15] at H
                            have c15b0 : (((rdOf ByteArray.empty t136 1).size : Int) == 0) = true := beq_iff_eq.mpr c15
                            have c15b1 : (((rdOf ByteArray.empty t136 1).size : Int) != 0) = false := bne_eq_false_iff_eq.mpr c15
                            clear c15
                            have H' := Aside0.mk H
                            clear H
                            have hcz16_0 : wr.cell? ⟨gb131, 0, none⟩ = some (.int .i64 ((rd_T62 l0 x11_1).f0)) := (blk_cell BK131.out 0).trans rfl
                            have hcz16_1 : wr.cell? ⟨gb131, 1, none⟩ = some (.string x132001_2) := (blk_cell BK131.out 1).trans rfl
                            have hfz16_0 := blk_frozen BK131.out 0
                            have hfz16_1 := blk_frozen BK131.out 1
                            go_wp2_with (first | ((with_reducible refine gate_callee (f := 25) rfl ?_); refine goesL_ (some 17) rfl rfl Tryd.func25 (by kernel_rfl) rfl #[.string x132001_2, .string (⟨#[10]⟩ : ByteArray)] rfl (by (try simp only [List.map_toArray, List.map_cons, List.map_nil]); first | done | rfl | (simp only [List.length_drop, List.length_take]; rfl)) ?_; (with_reducible refine (chroma_zzContains.calls k2 x132001_2 (⟨#[10]⟩ : ByteArray) true _ A7.out).mono ?_); rintro e w' ⟨rfl, ⟨nd, rfl⟩⟩; refine ⟨_, rfl, ?_⟩; (try (rw [drewN_self wr]; generalize hq_ : World.drewN wr _ = wr; have n0_ : Aside0 (Kd.S (Kd.slice 62 k62) 51 wr w.heap.size (fun k_ => some k_ ≠ (u3 : Value).ownBlock ∧ k_ ≠ gb131) u2 x2_2) := ⟨by rw [← hq_]; exact (by (with_reducible repeat (first | apply Kd.S_alloc | apply Kd.S_drewN | apply Kd.S_drew)); exact HO_2.out)⟩; have n1_ : Aside0 (Kd.R k62 62 wr w.heap.size (fun k_ => k_ ≠ gb131) u3 x3_2) := ⟨by rw [← hq_]; exact (by (with_reducible repeat (first | apply Kd.R_alloc | apply Kd.R_drewN | apply Kd.R_drew)); exact HO_3.out)⟩; have n2_ : Aside0 (wr.heap[gb131]? = some (.cells #[.int .i64 ((rd_T62 l0 x11_1).f0), .string x132001_2] 62 (0, 0))) := ⟨by rw [← hq_]; exact (by (with_reducible repeat (first | refine blk_drewN ?_ _ | refine blk_drew ?_ | refine blk_alloc ?_ _)); exact BK131.out)⟩; have n3_ : Aside0 (Below w.heap.size w wr) := ⟨by rw [← hq_]; exact (by repeat (first | (with_reducible first | exact HB.out | apply below_alloc | apply pw_below_drewN | apply below_drew1 | refine below_set ?_ GE131.out) | exact HB.out))⟩; clear HO_2 HO_3 BK131 HB hq_; have HO_2 := n0_; have HO_3 := n1_; have BK131 := n2_; have HB := n3_; clear n0_ n1_ n2_ n3_)); have hcz17_0 : wr.cell? ⟨gb131, 0, none⟩ = some (.int .i64 ((rd_T62 l0 x11_1).f0)) := (blk_cell BK131.out 0).trans rfl; have hcz17_1 : wr.cell? ⟨gb131, 1, none⟩ = some (.string x132001_2) := (blk_cell BK131.out 1).trans rfl; have hfz17_0 := blk_frozen BK131.out 0; have hfz17_1 := blk_frozen BK131.out 1) | ((with_reducible refine gate_callee (f := 26) rfl ?_); refine goesL_ (some 20) rfl rfl Tryd.func26 (by kernel_rfl) rfl #[.string x132001_2, .string (⟨#[10]⟩ : ByteArray)] rfl (by (try simp only [List.map_toArray, List.map_cons, List.map_nil]); first | done | rfl | (simp only [List.length_drop, List.length_take]; rfl)) ?_; (with_reducible refine (chroma_zzSplitAfter.calls k2 x132001_2 (⟨#[10]⟩ : ByteArray) t136 _ A9.out).mono ?_); rintro e w18 ⟨v137, rfl, ho0, hb⟩; refine ⟨_, rfl, ?_⟩; have n0_ := Aside0.mk (Kd.S_below (by (with_reducible repeat (first | apply Kd.S_alloc | apply Kd.S_drewN | apply Kd.S_drew)); exact HO_2.out) hb); have n1_ := Aside0.mk (Kd.R_below (by (with_reducible repeat (first | apply Kd.R_alloc | apply Kd.R_drewN | apply Kd.R_drew)); exact HO_3.out) hb); have n2_ := Aside0.mk (Kd.R_lower ho0 (below_size (by repeat (first | (with_reducible first | exact HB.out | apply below_alloc | apply pw_below_drewN | apply below_drew1 | refine below_set ?_ GE131.out) | exact HB.out)))); have n3_ := Aside0.mk (blk_below (g := gb131) (o := .cells #[.int .i64 ((rd_T62 l0 x11_1).f0), .string x132001_2] 62 (0, 0)) (by (with_reducible repeat (first | refine blk_drewN ?_ _ | refine blk_drew ?_ | refine blk_alloc ?_ _)); exact BK131.out) hb); have n4_ := Aside0.mk (below_step (by repeat (first | (with_reducible first | exact HB.out | apply below_alloc | apply pw_below_drewN | apply below_drew1 | refine below_set ?_ GE131.out) | exact HB.out)) hb); clear HO_2; clear HO_3; clear BK131; clear HB; have HO_2 := n0_; have HO_3 := n1_; have HO138 := n2_; have BK131 := n3_; have HB := n4_; clear n0_ n1_ n2_ n3_ n4_; (try clear hb); (try clear hb2); (try clear hk); (try clear hi); (try clear ho0); obtain ⟨Ao19, co19, eo19⟩ := Kd.R_slice HO138.out; subst eo19; have p139 : 0 ≤ (1 : Int) := (by omega); have q139 : 1 < (t136.length : Int) := of_decide_eq_true (by first | (with_reducible assumption) | assumption); obtain ⟨ad139, e139, hx139_0⟩ := Kd.at_string (Kd.R_reads' HO138.out).2.2 1 p139 q139; cases e139; (try simp only [show (1 : Int).toNat = 1 from rfl, Nat.reduceMul, Nat.reduceEqDiff, Go.Addr.add, ↓reduceIte] at hx139_0); have qi139 : (1 < t136.length) = True := eq_true (by omega); (try rw [show ((1 : Int)).toNat = 1 from rfl] at hx139_0); replace p139 := eq_true p139; replace q139 := eq_true q139; have hcz20_0 : w18.cell? ⟨gb131, 0, none⟩ = some (.int .i64 ((rd_T62 l0 x11_1).f0)) := (blk_cell BK131.out 0).trans rfl; have hcz20_1 : w18.cell? ⟨gb131, 1, none⟩ = some (.string x132001_2) := (blk_cell BK131.out 1).trans rfl; have hfz20_0 := blk_frozen BK131.out 0; have hfz20_1 := blk_frozen BK131.out 1) | ((with_reducible refine gate_callee (f := 27) rfl ?_); refine goesL_ (some 25) rfl rfl Tryd.func27 (by kernel_rfl) rfl #[.pointer (some ⟨gb131, 0, none⟩)] rfl (by (try simp only [List.map_toArray, List.map_cons, List.map_nil]); first | done | rfl | (simp only [List.length_drop, List.length_take]; rfl)) ?_; (with_reducible refine (chroma_Token_Clone.calls gb131 ((rd_T62 l0 x11_1).f0) (rdOf ByteArray.empty t136 1) t140 t141 _ ?side1 A11.out).mono ?_); (case side1 => (with_reducible repeat (first | refine blk_drewN ?_ _ | refine blk_drew ?_ | refine blk_alloc ?_ _)); refine blk_put (cs := #[.int .i64 ((rd_T62 l0 x11_1).f0), .string x132001_2]) ?_ 1 _ rfl; (with_reducible repeat (first | refine blk_drewN ?_ _ | refine blk_drew ?_ | refine blk_alloc ?_ _)); exact BK131.out); rintro e w21 ⟨rfl, hb⟩; refine ⟨_, rfl, ?_⟩; have n0_ := Aside0.mk (Kd.S_below (by (with_reducible repeat (first | apply Kd.S_alloc | apply Kd.S_drewN | apply Kd.S_drew)); exact (Kd.S_mono (Kd.S_far (p := ⟨gb131, 1, none⟩) (Kd.S_mono HO_2.out (fun k_ hk => (⟨hk, hk.2⟩ : _ ∧ k_ ≠ gb131))) (fun _ hk => hk.2) (.string (rdOf ByteArray.empty t136 1))) (fun _ h_ => h_.1))) hb); have n1_ := Aside0.mk (Kd.R_below (by (with_reducible repeat (first | apply Kd.R_alloc | apply Kd.R_drewN | apply Kd.R_drew)); exact (Kd.R_mono (Kd.R_far (p := ⟨gb131, 1, none⟩) (Kd.R_mono HO_3.out (fun k_ hk => (⟨hk, hk⟩ : _ ∧ k_ ≠ gb131))) (fun _ hk => hk.2) (.string (rdOf ByteArray.empty t136 1))) (fun _ h_ => h_.1))) hb); have n2_ := Aside0.mk (Kd.R_below (by (with_reducible repeat (first | apply Kd.R_alloc | apply Kd.R_drewN | apply Kd.R_drew)); exact (Kd.R_mono (Kd.R_far (p := ⟨gb131, 1, none⟩) (Kd.R_types HO138.out BK131.out (by decide)) (fun _ hk => hk.2) (.string (rdOf ByteArray.empty t136 1))) (fun _ h_ => h_.1))) hb); have n3_ := Aside0.mk (blk_below (g := gb131) (o := .cells #[.int .i64 ((rd_T62 l0 x11_1).f0), .string (rdOf ByteArray.empty t136 1)] 62 (0, 0)) (by (with_reducible repeat (first | refine blk_drewN ?_ _ | refine blk_drew ?_ | refine blk_alloc ?_ _)); refine blk_put (cs := #[.int .i64 ((rd_T62 l0 x11_1).f0), .string x132001_2]) ?_ 1 _ rfl; (with_reducible repeat (first | refine blk_drewN ?_ _ | refine blk_drew ?_ | refine blk_alloc ?_ _)); exact BK131.out) hb); have n4_ := Aside0.mk (below_step (by repeat (first | (with_reducible first | exact HB.out | apply below_alloc | apply pw_below_drewN | apply below_drew1 | refine below_set ?_ GE131.out) | exact HB.out)) hb); clear HO_2; clear HO_3; clear HO138; clear BK131; clear HB; have HO_2 := n0_; have HO_3 := n1_; have HO138 := n2_; have BK131 := n3_; have HB := n4_; clear n0_ n1_ n2_ n3_ n4_; (try clear hb); (try clear hb2); (try clear hk); (try clear hi)) | ((with_reducible refine gate_dst (N := 7) rfl ?_); refine box_event ?hg (N := 7) ?hd (cs := #[.int .i64 0, .string (⟨#[]⟩ : ByteArray)]) (t := 62) ?hr ?_; (case hd => rfl); (case hg => rfl); (case hr => first | (go_simp; done) | (go_simp; rfl)); intro gb142 hg w22 hbox hb; have n0_ := Aside0.mk (Kd.S_below (Kd.S_elderB (by (with_reducible repeat (first | apply Kd.S_alloc | apply Kd.S_drewN | apply Kd.S_drew)); exact HO_2.out) gb142 (Nat.le_of_eq hg.symm)) hb); have n1_ := Aside0.mk (Kd.R_below (Kd.R_elderB (by (with_reducible repeat (first | apply Kd.R_alloc | apply Kd.R_drewN | apply Kd.R_drew)); exact HO_3.out) gb142 (Nat.le_of_eq hg.symm)) hb); have n2_ := Aside0.mk (Kd.R_below (by (with_reducible repeat (first | apply Kd.R_alloc | apply Kd.R_drewN | apply Kd.R_drew)); exact HO138.out) hb); have n3_ := Aside0.mk (blk_below (g := gb131) (o := .cells #[.int .i64 ((rd_T62 l0 x11_1).f0), .string (rdOf ByteArray.empty t136 1)] 62 (0, 0)) (by (with_reducible repeat (first | refine blk_drewN ?_ _ | refine blk_drew ?_ | refine blk_alloc ?_ _)); exact BK131.out) hb); have n4_ := Aside0.mk (below_step (by repeat (first | (with_reducible first | exact HB.out | apply below_alloc | apply pw_below_drewN | apply below_drew1 | refine below_set ?_ GE131.out) | exact HB.out)) hb); have n5_ := Aside0.mk (hbox); have n6_ := Aside0.mk ((by rw [hg]; exact (below_size (by repeat (first | (with_reducible first | exact HB.out | apply below_alloc | apply pw_below_drewN | apply below_drew1 | refine below_set ?_ GE131.out) | exact HB.out))) : w.heap.size ≤ gb142)); have n7_ := Aside0.mk ((by rw [hg]; exact (below_size (by repeat (first | (with_reducible first | exact HB.out | apply below_alloc | apply pw_below_drewN | apply below_drew1 | refine below_set ?_ GE131.out) | exact HB.out))) : w.heap.size ≤ gb142)); have n8_ := Aside0.mk ((by rw [hg]; exact Nat.ne_of_lt (blk_lt (g := gb131) (o := .cells #[.int .i64 ((rd_T62 l0 x11_1).f0), .string (rdOf ByteArray.empty t136 1)] 62 (0, 0)) (by (with_reducible repeat (first | refine blk_drewN ?_ _ | refine blk_drew ?_ | refine blk_alloc ?_ _)); exact BK131.out)) : gb131 ≠ gb142)); have n9_ := Aside0.mk ((by rw [hg]; exact Nat.ne_of_gt (blk_lt (g := gb131) (o := .cells #[.int .i64 ((rd_T62 l0 x11_1).f0), .string (rdOf ByteArray.empty t136 1)] 62 (0, 0)) (by (with_reducible repeat (first | refine blk_drewN ?_ _ | refine blk_drew ?_ | refine blk_alloc ?_ _)); exact BK131.out)) : gb142 ≠ gb131)); clear HO_2; clear HO_3; clear HO138; clear BK131; clear HB; have HO_2 := n0_; have HO_3 := n1_; have HO138 := n2_; have BK131 := n3_; have HB := n4_; have BK142 := n5_; have GW142 := n6_; have GE142 := n7_; have NB131_142 := n8_; have NB142_131 := n9_; clear n0_ n1_ n2_ n3_ n4_ n5_ n6_ n7_ n8_ n9_; clear hb hbox hg; have hnb23 := NB142_131.out; have hnc23 := NB131_142.out; have hcz24_0 : w22.cell? ⟨gb142, 0, none⟩ = some (.int .i64 0) := (blk_cell BK142.out 0).trans rfl; have hcz24_1 : w22.cell? ⟨gb142, 1, none⟩ = some (.string (⟨#[]⟩ : ByteArray)) := (blk_cell BK142.out 1).trans rfl; have hfz24_0 := blk_frozen BK142.out 0; have hfz24_1 := blk_frozen BK142.out 1) | ((with_reducible refine gate_store (t := 62) (p := 7) rfl ?_); refine store_event (t := 62) (p := 7) (v := ?vo_w25) (w1 := ((w22.setCell ⟨gb142, 0, none⟩ (.int .i64 t140)).setCell ⟨gb142, 1, none⟩ (.string t141))) ?hg ?ho ?hn ?hr ?_; (case ho => rfl); (case hg => rfl); (case hn => rfl); (case hr => first | (go_simp; done) | (go_simp; rfl)); intro w25 hw; have n0_ : Aside0 (Kd.S (Kd.slice 62 k62) 51 w25 w.heap.size (fun k_ => some k_ ≠ (u3 : Value).ownBlock ∧ k_ ≠ gb131 ∧ k_ ≠ gb142) u2 x2_2) := ⟨(by rw [hw]; exact (by (with_reducible repeat (first | apply Kd.S_alloc | apply Kd.S_drewN | apply Kd.S_drew)); exact Kd.S_mono (Kd.S_far (p := ⟨gb142, 1, none⟩) (Kd.S_far (p := ⟨gb142, 0, none⟩) (Kd.S_mono HO_2.out (fun k_ hk => (⟨hk, hk.2⟩ : _ ∧ k_ ≠ gb142))) (fun _ hk => hk.2) (.int .i64 t140)) (fun _ hk => hk.2) (.string t141)) (fun _ hk => ⟨hk.1.1.1, ⟨hk.1.1.2, hk.1.2⟩⟩)))⟩; have n1_ : Aside0 (Kd.R k62 62 w25 w.heap.size (fun k_ => k_ ≠ gb131 ∧ k_ ≠ gb142) u3 x3_2) := ⟨(by rw [hw]; exact (by (with_reducible repeat (first | apply Kd.R_alloc | apply Kd.R_drewN | apply Kd.R_drew)); exact Kd.R_mono (Kd.R_far (p := ⟨gb142, 1, none⟩) (Kd.R_far (p := ⟨gb142, 0, none⟩) (Kd.R_mono HO_3.out (fun k_ hk => (⟨hk, hk.2⟩ : _ ∧ k_ ≠ gb142))) (fun _ hk => hk.2) (.int .i64 t140)) (fun _ hk => hk.2) (.string t141)) (fun _ hk => ⟨hk.1.1, hk.1.2⟩)))⟩; have n2_ : Aside0 (Kd.R Kd.string 9 w25 w.heap.size (fun _ => True) (.slice (some ad139) t136.length co19) t136) := ⟨(by rw [hw]; exact (by (with_reducible repeat (first | apply Kd.R_alloc | apply Kd.R_drewN | apply Kd.R_drew)); exact Kd.R_mono (Kd.R_far (p := ⟨gb142, 1, none⟩) (Kd.R_far (p := ⟨gb142, 0, none⟩) (Kd.R_types HO138.out BK142.out (by decide)) (fun _ hk => hk.2) (.int .i64 t140)) (fun _ hk => hk.2) (.string t141)) (fun _ hk => trivial)))⟩; have n3_ : Aside0 (w25.heap[gb131]? = some (.cells #[.int .i64 ((rd_T62 l0 x11_1).f0), .string (rdOf ByteArray.empty t136 1)] 62 (0, 0))) := ⟨(by rw [hw]; exact (by (with_reducible repeat (first | refine blk_drewN ?_ _ | refine blk_drew ?_ | refine blk_alloc ?_ _)); refine blk_far ?_ NB131_142.out _; (with_reducible repeat (first | refine blk_drewN ?_ _ | refine blk_drew ?_ | refine blk_alloc ?_ _)); refine blk_far ?_ NB131_142.out _; (with_reducible repeat (first | refine blk_drewN ?_ _ | refine blk_drew ?_ | refine blk_alloc ?_ _)); exact BK131.out))⟩; have n4_ : Aside0 (w25.heap[gb142]? = some (.cells #[.int .i64 t140, .string t141] 62 (0, 0))) := ⟨(by rw [hw]; exact (by (with_reducible repeat (first | refine blk_drewN ?_ _ | refine blk_drew ?_ | refine blk_alloc ?_ _)); refine blk_put (cs := #[.int .i64 t140, .string (⟨#[]⟩ : ByteArray)]) ?_ 1 _ rfl; (with_reducible repeat (first | refine blk_drewN ?_ _ | refine blk_drew ?_ | refine blk_alloc ?_ _)); refine blk_put (cs := #[.int .i64 0, .string (⟨#[]⟩ : ByteArray)]) ?_ 0 _ rfl; (with_reducible repeat (first | refine blk_drewN ?_ _ | refine blk_drew ?_ | refine blk_alloc ?_ _)); exact BK142.out))⟩; have n5_ : Aside0 (Below w.heap.size w w25) := ⟨(by rw [hw]; exact (by repeat (first | (with_reducible first | exact HB.out | apply below_alloc | apply pw_below_drewN | apply below_drew1 | refine below_set ?_ GE131.out | refine below_set ?_ GE142.out) | exact HB.out)))⟩; clear hw; clear HO_2; clear HO_3; clear HO138; clear BK131; clear BK142; clear HB; have HO_2 := n0_; have HO_3 := n1_; have HO138 := n2_; have BK131 := n3_; have BK142 := n4_; have HB := n5_; clear n0_ n1_ n2_ n3_ n4_ n5_; have p143 : 0 ≤ (0 : Int) := (by omega); have q143 : 0 < (t136.length : Int) := of_decide_eq_true (by first | (with_reducible assumption) | assumption); obtain ⟨ad143, e143, hx143_0⟩ := Kd.at_string (Kd.R_reads' HO138.out).2.2 0 p143 q143; obtain rfl : ad139 = ad143 := (by injection e143); have qi143 : (0 < t136.length) = True := eq_true (by omega); (try rw [show ((0 : Int)).toNat = 0 from rfl] at hx143_0); (try rw [Addr.add_zero'] at hx143_0); replace p143 := eq_true p143; replace q143 := eq_true q143; have hcz26_0 : w25.cell? ⟨gb142, 0, none⟩ = some (.int .i64 t140) := (blk_cell BK142.out 0).trans rfl; have hcz26_1 : w25.cell? ⟨gb142, 1, none⟩ = some (.string t141) := (blk_cell BK142.out 1).trans rfl; have hfz26_0 := blk_frozen BK142.out 0; have hfz26_1 := blk_frozen BK142.out 1) | ((with_reducible refine gate_builtin (b := .append) (xs := #[.tmp 30, .tmp 32]) rfl ?_); at_builtin; refine Kd.R_append k62 (w0 := w) w.heap.size rfl (.tmp 30) (.tmp 32) 51 62 (.agg #[(.int .i64 0), (.string ⟨#[]⟩)]) 24 rfl Tryd.underlying51 info62 rfl (by decide) (by omega) u3 x3_2 (⟨t140, rdOf ByteArray.empty t136 0⟩ : S62) [.int .i64 t140, .string (rdOf ByteArray.empty t136 0)] (fun k_ => k_ ≠ gb131 ∧ k_ ≠ gb142) (fun _ => False) rfl (by first | (go_simp; done) | (go_simp; rfl)) ?aP (fun _ hk => hk.elim) ?aF ?aO ?aB ?aS ?aL ?_; (case aP => exact k62_mkM _ _ _ (⟨t140, rdOf ByteArray.empty t136 0⟩ : S62)); (case aB => exact (by repeat (first | (with_reducible first | exact HB.out | apply below_alloc | apply pw_below_drewN | apply below_drew1 | refine below_set ?_ GE131.out | refine below_set ?_ GE142.out) | exact HB.out))); (case aF => exact (fun k_ hk => ⟨Kd.freshB (g := gb131) (o := .cells #[.int .i64 ((rd_T62 l0 x11_1).f0), .string (rdOf ByteArray.empty t136 1)] 62 (0, 0)) (by (with_reducible repeat (first | refine blk_drewN ?_ _ | refine blk_drew ?_ | refine blk_alloc ?_ _)); refine blk_far ?_ NB131_142.out _; (with_reducible repeat (first | refine blk_drewN ?_ _ | refine blk_drew ?_ | refine blk_alloc ?_ _)); exact BK131.out) k_ hk, Kd.freshB (g := gb142) (o := .cells #[.int .i64 t140, .string (rdOf ByteArray.empty t136 0)] 62 (0, 0)) (by (with_reducible repeat (first | refine blk_drewN ?_ _ | refine blk_drew ?_ | refine blk_alloc ?_ _)); refine blk_put (cs := #[.int .i64 t140, .string t141]) ?_ 1 _ rfl; (with_reducible repeat (first | refine blk_drewN ?_ _ | refine blk_drew ?_ | refine blk_alloc ?_ _)); exact BK142.out) k_ hk⟩)); (case aO => exact (by (with_reducible repeat (first | apply Kd.R_alloc | apply Kd.R_drewN | apply Kd.R_drew)); exact Kd.R_mono (Kd.R_far (p := ⟨gb142, 1, none⟩) (Kd.R_mono HO_3.out (fun k_ hk => (⟨hk, hk.2⟩ : _ ∧ k_ ≠ gb142))) (fun _ hk => hk.2) (.string (rdOf ByteArray.empty t136 0))) (fun _ hk => ⟨hk.1.1, hk.1.2⟩))); (case aS => exact (below_size (by repeat (first | (with_reducible first | exact HB.out | apply below_alloc | apply pw_below_drewN | apply below_drew1 | refine below_set ?_ GE131.out | refine below_set ?_ GE142.out) | exact HB.out)))); (case aL => have := LMc13.out; omega); intro v145 w27 ho hb hg hat; rw [← Ny144.out] at ho; have n0_ := Aside0.mk (Kd.S_after (ok := (fun k_ => k_ ≠ gb131 ∧ k_ ≠ gb142)) (by (with_reducible repeat (first | apply Kd.S_alloc | apply Kd.S_drewN | apply Kd.S_drew)); exact Kd.S_mono (Kd.S_far (p := ⟨gb142, 1, none⟩) (Kd.S_mono HO_2.out (fun k_ hk => (⟨hk, hk.2.2⟩ : _ ∧ k_ ≠ gb142))) (fun _ hk => hk.2) (.string (rdOf ByteArray.empty t136 0))) (fun _ hk => ⟨⟨hk.1.2.1, hk.1.2.2⟩, hk.1.1⟩)) hg hat); have n1_ := Aside0.mk (blk_grown (g := gb131) (o := .cells #[.int .i64 ((rd_T62 l0 x11_1).f0), .string (rdOf ByteArray.empty t136 1)] 62 (0, 0)) (by (with_reducible repeat (first | refine blk_drewN ?_ _ | refine blk_drew ?_ | refine blk_alloc ?_ _)); refine blk_far ?_ NB131_142.out _; (with_reducible repeat (first | refine blk_drewN ?_ _ | refine blk_drew ?_ | refine blk_alloc ?_ _)); exact BK131.out) hg (Kd.R_away HO_3.out (fun _ hk => hk.1))); have n2_ := Aside0.mk (Kd.R_over' (by (with_reducible repeat (first | apply Kd.R_alloc | apply Kd.R_drewN | apply Kd.R_drew)); exact (Kd.R_mono (Kd.R_far (p := ⟨gb142, 1, none⟩) (Kd.R_types HO138.out BK142.out (by decide)) (fun _ hk => hk.2) (.string (rdOf ByteArray.empty t136 0))) (fun _ h_ => h_.1))) (Kd.R_typed (by (with_reducible repeat (first | apply Kd.R_alloc | apply Kd.R_drewN | apply Kd.R_drew)); exact (Kd.R_mono (Kd.R_far (p := ⟨gb142, 1, none⟩) (Kd.R_mono HO_3.out (fun k_ hk => (⟨hk, hk.2⟩ : _ ∧ k_ ≠ gb142))) (fun _ hk => hk.2) (.string (rdOf ByteArray.empty t136 0))) (fun _ h_ => h_.1)))) (by decide) hg); have n3_ := Aside0.mk (blk_grown (g := gb142) (o := .cells #[.int .i64 t140, .string (rdOf ByteArray.empty t136 0)] 62 (0, 0)) (by (with_reducible repeat (first | refine blk_drewN ?_ _ | refine blk_drew ?_ | refine blk_alloc ?_ _)); refine blk_put (cs := #[.int .i64 t140, .string t141]) ?_ 1 _ rfl; (with_reducible repeat (first | refine blk_drewN ?_ _ | refine blk_drew ?_ | refine blk_alloc ?_ _)); exact BK142.out) hg (Kd.R_away HO_3.out (fun _ hk => hk.2))); have n4_ := Aside0.mk (hb); have n5_ := Aside0.mk (ho); clear HO_2; clear BK131; clear HO138; clear BK142; clear HB; clear HO_3; have HO_2 := n0_; have BK131 := n1_; have HO138 := n2_; have BK142 := n3_; have HB := n4_; have HO146 := n5_; clear n0_ n1_ n2_ n3_ n4_ n5_; clear ho hb hg hat; obtain ⟨Ao29, co29, eo29⟩ := Kd.R_slice HO146.out; subst eo29) | ((with_reducible refine gate_builtin (b := .append) (xs := #[.tmp 34, .tmp 36]) rfl ?_); at_builtin; refine Kd.S_append (Kd.slice 62 k62) (w0 := w) w.heap.size rfl (.tmp 34) (.tmp 36) 74 51 (.slice none 0 0) 24 rfl Tryd.underlying74 info51 rfl (by decide) (by omega) u2 x2_2 y144 [.slice Ao29 y144.length co29] (fun k_ => k_ ≠ gb131 ∧ k_ ≠ gb142) (fun k_ => some k_ = (.slice Ao29 y144.length co29 : Value).ownBlock) rfl rfl ?aP (fun k_ hk_ => ((Kd.R_mono (ok' := fun k_ => ((fun k_ => k_ ≠ gb131 ∧ k_ ≠ gb142)) k_ ∧ some k_ ≠ (u2 : Value).ownBlock) (Kd.R_apart' (HO146.out) (Kd.S_typed HO_2.out) (by decide)) (fun k_ hk => ⟨⟨hk.1.1, hk.1.2⟩, hk.2⟩))).1 k_ hk_.symm) ?aF ?aO ?aB ?aS ?aL ?_; (case aP => exact Kd.M_row (Kd.R_mono (Kd.R_tight rfl (Kd.R_mono (ok' := fun k_ => ((fun k_ => k_ ≠ gb131 ∧ k_ ≠ gb142)) k_ ∧ some k_ ≠ (u2 : Value).ownBlock) (Kd.R_apart' (HO146.out) (Kd.S_typed HO_2.out) (by decide)) (fun k_ hk => ⟨⟨hk.1.1, hk.1.2⟩, hk.2⟩))) (fun _ h_ => h_))); (case aB => exact (by repeat (first | (with_reducible first | exact HB.out | apply below_alloc | apply pw_below_drewN | apply below_drew1 | refine below_set ?_ GE131.out | refine below_set ?_ GE142.out) | exact HB.out))); (case aF => exact (fun k_ hk => ⟨Kd.freshB (g := gb131) (o := .cells #[.int .i64 ((rd_T62 l0 x11_1).f0), .string (rdOf ByteArray.empty t136 1)] 62 (0, 0)) (by (with_reducible repeat (first | refine blk_drewN ?_ _ | refine blk_drew ?_ | refine blk_alloc ?_ _)); exact BK131.out) k_ hk, Kd.freshB (g := gb142) (o := .cells #[.int .i64 t140, .string (rdOf ByteArray.empty t136 0)] 62 (0, 0)) (by (with_reducible repeat (first | refine blk_drewN ?_ _ | refine blk_drew ?_ | refine blk_alloc ?_ _)); exact BK142.out) k_ hk⟩)); (case aO => exact (by (with_reducible repeat (first | apply Kd.S_alloc | apply Kd.S_drewN | apply Kd.S_drew)); exact Kd.S_mono HO_2.out (fun k_ hk => ⟨⟨hk.1.1, hk.1.2⟩, fun e_ => hk.2 e_⟩))); (case aS => exact (below_size (by repeat (first | (with_reducible first | exact HB.out | apply below_alloc | apply pw_below_drewN | apply below_drew1 | refine below_set ?_ GE131.out | refine below_set ?_ GE142.out) | exact HB.out)))); (case aL => have := LMc14.out; omega); intro v148 w28 ho hb hg hat; rw [← Ny147.out] at ho; have n0_ := Aside0.mk (blk_grown (g := gb131) (o := .cells #[.int .i64 ((rd_T62 l0 x11_1).f0), .string (rdOf ByteArray.empty t136 1)] 62 (0, 0)) (by (with_reducible repeat (first | refine blk_drewN ?_ _ | refine blk_drew ?_ | refine blk_alloc ?_ _)); exact BK131.out) hg (Kd.S_ne HO_2.out BK131.out (by decide))); have n1_ := Aside0.mk (Kd.R_over' (by (with_reducible repeat (first | apply Kd.R_alloc | apply Kd.R_drewN | apply Kd.R_drew)); exact HO138.out) (Kd.S_typed (by (with_reducible repeat (first | apply Kd.S_alloc | apply Kd.S_drewN | apply Kd.S_drew)); exact HO_2.out)) (by decide) hg); have n2_ := Aside0.mk (blk_grown (g := gb142) (o := .cells #[.int .i64 t140, .string (rdOf ByteArray.empty t136 0)] 62 (0, 0)) (by (with_reducible repeat (first | refine blk_drewN ?_ _ | refine blk_drew ?_ | refine blk_alloc ?_ _)); exact BK142.out) hg (Kd.S_ne HO_2.out BK142.out (by decide))); have n3_ := Aside0.mk (hb); have n4_ := Aside0.mk (ho); clear BK131; clear HO138; clear BK142; clear HB; clear HO_2; clear HO146; have BK131 := n0_; have HO138 := n1_; have BK142 := n2_; have HB := n3_; have HO149 := n4_; clear n0_ n1_ n2_ n3_ n4_; clear ho hb hg hat; have hcz30_0 : w28.cell? ⟨gb131, 0, none⟩ = some (.int .i64 ((rd_T62 l0 x11_1).f0)) := (blk_cell BK131.out 0).trans rfl; have hcz30_1 : w28.cell? ⟨gb131, 1, none⟩ = some (.string (rdOf ByteArray.empty t136 1)) := (blk_cell BK131.out 1).trans rfl; have hfz30_0 := blk_frozen BK131.out 0; have hfz30_1 := blk_frozen BK131.out 1))
                            go_roundg k2
                            case measure => have := HK1.out; have := HK2.out; omega
                            case rel => exact ⟨(y147), (([] : List (S62))), (wrap64 (x11_1 + 1)), (by first | rfl | (simp; done) | (simp [*]; done)), H', ⟨by have := HK1.out; have := HK2.out; omega⟩, ⟨by (with_reducible repeat (first | apply Kd.S_alloc | apply Kd.S_drewN | apply Kd.S_drew)); exact Kd.S_mono HO149.out (fun _ hk => (by simp [Value.ownBlock]))⟩, ⟨by first | exact Kd.R_nil _ _ _ _ _ | exact Kd.N_nil _ _ _ _ _ | exact Kd.V_nil _ _ _ _ _ | exact Kd.Q_nil _ _ _ _ _ | exact Kd.S_nil _ _ _ _ _⟩, ⟨by repeat (first | (with_reducible first | exact HB.out | apply below_alloc | apply pw_below_drewN | apply below_drew1 | refine below_set ?_ GE131.out | refine below_set ?_ GE142.out) | exact HB.out)⟩⟩
                          · rw [if_neg c15] at H
                            have c15b0 : (((rdOf ByteArray.empty t136 1).size : Int) == 0) = false := beq_eq_false_iff_ne.mpr c15
                            have c15b1 : (((rdOf ByteArray.empty t136 1).size : Int) != 0) = true := bne_iff_ne.mpr c15
                            have H' := Aside0.mk H
                            clear H
                            have hcz31_0 : wr.cell? ⟨gb131, 0, none⟩ = some (.int .i64 ((rd_T62 l0 x11_1).f0)) := (blk_cell BK131.out 0).trans rfl
                            have hcz31_1 : wr.cell? ⟨gb131, 1, none⟩ = some (.string x132001_2) := (blk_cell BK131.out 1).trans rfl
                            have hfz31_0 := blk_frozen BK131.out 0
                            have hfz31_1 := blk_frozen BK131.out 1
                            go_wp2_with (first | ((with_reducible refine gate_callee (f := 25) rfl ?_); refine goesL_ (some 17) rfl rfl Tryd.func25 (by kernel_rfl) rfl #[.string x132001_2, .string (⟨#[10]⟩ : ByteArray)] rfl (by (try simp only [List.map_toArray, List.map_cons, List.map_nil]); first | done | rfl | (simp only [List.length_drop, List.length_take]; rfl)) ?_; (with_reducible refine (chroma_zzContains.calls k2 x132001_2 (⟨#[10]⟩ : ByteArray) true _ A7.out).mono ?_); rintro e w' ⟨rfl, ⟨nd, rfl⟩⟩; refine ⟨_, rfl, ?_⟩; (try (rw [drewN_self wr]; generalize hq_ : World.drewN wr _ = wr; have n0_ : Aside0 (Kd.S (Kd.slice 62 k62) 51 wr w.heap.size (fun k_ => some k_ ≠ (u3 : Value).ownBlock ∧ k_ ≠ gb131) u2 x2_2) := ⟨by rw [← hq_]; exact (by (with_reducible repeat (first | apply Kd.S_alloc | apply Kd.S_drewN | apply Kd.S_drew)); exact HO_2.out)⟩; have n1_ : Aside0 (Kd.R k62 62 wr w.heap.size (fun k_ => k_ ≠ gb131) u3 x3_2) := ⟨by rw [← hq_]; exact (by (with_reducible repeat (first | apply Kd.R_alloc | apply Kd.R_drewN | apply Kd.R_drew)); exact HO_3.out)⟩; have n2_ : Aside0 (wr.heap[gb131]? = some (.cells #[.int .i64 ((rd_T62 l0 x11_1).f0), .string x132001_2] 62 (0, 0))) := ⟨by rw [← hq_]; exact (by (with_reducible repeat (first | refine blk_drewN ?_ _ | refine blk_drew ?_ | refine blk_alloc ?_ _)); exact BK131.out)⟩; have n3_ : Aside0 (Below w.heap.size w wr) := ⟨by rw [← hq_]; exact (by repeat (first | (with_reducible first | exact HB.out | apply below_alloc | apply pw_below_drewN | apply below_drew1 | refine below_set ?_ GE131.out) | exact HB.out))⟩; clear HO_2 HO_3 BK131 HB hq_; have HO_2 := n0_; have HO_3 := n1_; have BK131 := n2_; have HB := n3_; clear n0_ n1_ n2_ n3_)); have hcz32_0 : wr.cell? ⟨gb131, 0, none⟩ = some (.int .i64 ((rd_T62 l0 x11_1).f0)) := (blk_cell BK131.out 0).trans rfl; have hcz32_1 : wr.cell? ⟨gb131, 1, none⟩ = some (.string x132001_2) := (blk_cell BK131.out 1).trans rfl; have hfz32_0 := blk_frozen BK131.out 0; have hfz32_1 := blk_frozen BK131.out 1) | ((with_reducible refine gate_callee (f := 26) rfl ?_); refine goesL_ (some 20) rfl rfl Tryd.func26 (by kernel_rfl) rfl #[.string x132001_2, .string (⟨#[10]⟩ : ByteArray)] rfl (by (try simp only [List.map_toArray, List.map_cons, List.map_nil]); first | done | rfl | (simp only [List.length_drop, List.length_take]; rfl)) ?_; (with_reducible refine (chroma_zzSplitAfter.calls k2 x132001_2 (⟨#[10]⟩ : ByteArray) t136 _ A9.out).mono ?_); rintro e w33 ⟨v137, rfl, ho0, hb⟩; refine ⟨_, rfl, ?_⟩; have n0_ := Aside0.mk (Kd.S_below (by (with_reducible repeat (first | apply Kd.S_alloc | apply Kd.S_drewN | apply Kd.S_drew)); exact HO_2.out) hb); have n1_ := Aside0.mk (Kd.R_below (by (with_reducible repeat (first | apply Kd.R_alloc | apply Kd.R_drewN | apply Kd.R_drew)); exact HO_3.out) hb); have n2_ := Aside0.mk (Kd.R_lower ho0 (below_size (by repeat (first | (with_reducible first | exact HB.out | apply below_alloc | apply pw_below_drewN | apply below_drew1 | refine below_set ?_ GE131.out) | exact HB.out)))); have n3_ := Aside0.mk (blk_below (g := gb131) (o := .cells #[.int .i64 ((rd_T62 l0 x11_1).f0), .string x132001_2] 62 (0, 0)) (by (with_reducible repeat (first | refine blk_drewN ?_ _ | refine blk_drew ?_ | refine blk_alloc ?_ _)); exact BK131.out) hb); have n4_ := Aside0.mk (below_step (by repeat (first | (with_reducible first | exact HB.out | apply below_alloc | apply pw_below_drewN | apply below_drew1 | refine below_set ?_ GE131.out) | exact HB.out)) hb); clear HO_2; clear HO_3; clear BK131; clear HB; have HO_2 := n0_; have HO_3 := n1_; have HO138 := n2_; have BK131 := n3_; have HB := n4_; clear n0_ n1_ n2_ n3_ n4_; (try clear hb); (try clear hb2); (try clear hk); (try clear hi); (try clear ho0); obtain ⟨Ao34, co34, eo34⟩ := Kd.R_slice HO138.out; subst eo34; have p139 : 0 ≤ (1 : Int) := (by omega); have q139 : 1 < (t136.length : Int) := of_decide_eq_true (by first | (with_reducible assumption) | assumption); obtain ⟨ad139, e139, hx139_0⟩ := Kd.at_string (Kd.R_reads' HO138.out).2.2 1 p139 q139; cases e139; (try simp only [show (1 : Int).toNat = 1 from rfl, Nat.reduceMul, Nat.reduceEqDiff, Go.Addr.add, ↓reduceIte] at hx139_0); have qi139 : (1 < t136.length) = True := eq_true (by omega); (try rw [show ((1 : Int)).toNat = 1 from rfl] at hx139_0); replace p139 := eq_true p139; replace q139 := eq_true q139; have hcz35_0 : w33.cell? ⟨gb131, 0, none⟩ = some (.int .i64 ((rd_T62 l0 x11_1).f0)) := (blk_cell BK131.out 0).trans rfl; have hcz35_1 : w33.cell? ⟨gb131, 1, none⟩ = some (.string x132001_2) := (blk_cell BK131.out 1).trans rfl; have hfz35_0 := blk_frozen BK131.out 0; have hfz35_1 := blk_frozen BK131.out 1) | ((with_reducible refine gate_callee (f := 27) rfl ?_); refine goesL_ (some 25) rfl rfl Tryd.func27 (by kernel_rfl) rfl #[.pointer (some ⟨gb131, 0, none⟩)] rfl (by (try simp only [List.map_toArray, List.map_cons, List.map_nil]); first | done | rfl | (simp only [List.length_drop, List.length_take]; rfl)) ?_; (with_reducible refine (chroma_Token_Clone.calls gb131 ((rd_T62 l0 x11_1).f0) (rdOf ByteArray.empty t136 1) t140 t141 _ ?side1 A11.out).mono ?_); (case side1 => (with_reducible repeat (first | refine blk_drewN ?_ _ | refine blk_drew ?_ | refine blk_alloc ?_ _)); refine blk_put (cs := #[.int .i64 ((rd_T62 l0 x11_1).f0), .string x132001_2]) ?_ 1 _ rfl; (with_reducible repeat (first | refine blk_drewN ?_ _ | refine blk_drew ?_ | refine blk_alloc ?_ _)); exact BK131.out); rintro e w36 ⟨rfl, hb⟩; refine ⟨_, rfl, ?_⟩; have n0_ := Aside0.mk (Kd.S_below (by (with_reducible repeat (first | apply Kd.S_alloc | apply Kd.S_drewN | apply Kd.S_drew)); exact (Kd.S_mono (Kd.S_far (p := ⟨gb131, 1, none⟩) (Kd.S_mono HO_2.out (fun k_ hk => (⟨hk, hk.2⟩ : _ ∧ k_ ≠ gb131))) (fun _ hk => hk.2) (.string (rdOf ByteArray.empty t136 1))) (fun _ h_ => h_.1))) hb); have n1_ := Aside0.mk (Kd.R_below (by (with_reducible repeat (first | apply Kd.R_alloc | apply Kd.R_drewN | apply Kd.R_drew)); exact (Kd.R_mono (Kd.R_far (p := ⟨gb131, 1, none⟩) (Kd.R_mono HO_3.out (fun k_ hk => (⟨hk, hk⟩ : _ ∧ k_ ≠ gb131))) (fun _ hk => hk.2) (.string (rdOf ByteArray.empty t136 1))) (fun _ h_ => h_.1))) hb); have n2_ := Aside0.mk (Kd.R_below (by (with_reducible repeat (first | apply Kd.R_alloc | apply Kd.R_drewN | apply Kd.R_drew)); exact (Kd.R_mono (Kd.R_far (p := ⟨gb131, 1, none⟩) (Kd.R_types HO138.out BK131.out (by decide)) (fun _ hk => hk.2) (.string (rdOf ByteArray.empty t136 1))) (fun _ h_ => h_.1))) hb); have n3_ := Aside0.mk (blk_below (g := gb131) (o := .cells #[.int .i64 ((rd_T62 l0 x11_1).f0), .string (rdOf ByteArray.empty t136 1)] 62 (0, 0)) (by (with_reducible repeat (first | refine blk_drewN ?_ _ | refine blk_drew ?_ | refine blk_alloc ?_ _)); refine blk_put (cs := #[.int .i64 ((rd_T62 l0 x11_1).f0), .string x132001_2]) ?_ 1 _ rfl; (with_reducible repeat (first | refine blk_drewN ?_ _ | refine blk_drew ?_ | refine blk_alloc ?_ _)); exact BK131.out) hb); have n4_ := Aside0.mk (below_step (by repeat (first | (with_reducible first | exact HB.out | apply below_alloc | apply pw_below_drewN | apply below_drew1 | refine below_set ?_ GE131.out) | exact HB.out)) hb); clear HO_2; clear HO_3; clear HO138; clear BK131; clear HB; have HO_2 := n0_; have HO_3 := n1_; have HO138 := n2_; have BK131 := n3_; have HB := n4_; clear n0_ n1_ n2_ n3_ n4_; (try clear hb); (try clear hb2); (try clear hk); (try clear hi)) | ((with_reducible refine gate_dst (N := 7) rfl ?_); refine box_event ?hg (N := 7) ?hd (cs := #[.int .i64 0, .string (⟨#[]⟩ : ByteArray)]) (t := 62) ?hr ?_; (case hd => rfl); (case hg => rfl); (case hr => first | (go_simp; done) | (go_simp; rfl)); intro gb142 hg w37 hbox hb; have n0_ := Aside0.mk (Kd.S_below (Kd.S_elderB (by (with_reducible repeat (first | apply Kd.S_alloc | apply Kd.S_drewN | apply Kd.S_drew)); exact HO_2.out) gb142 (Nat.le_of_eq hg.symm)) hb); have n1_ := Aside0.mk (Kd.R_below (Kd.R_elderB (by (with_reducible repeat (first | apply Kd.R_alloc | apply Kd.R_drewN | apply Kd.R_drew)); exact HO_3.out) gb142 (Nat.le_of_eq hg.symm)) hb); have n2_ := Aside0.mk (Kd.R_below (by (with_reducible repeat (first | apply Kd.R_alloc | apply Kd.R_drewN | apply Kd.R_drew)); exact HO138.out) hb); have n3_ := Aside0.mk (blk_below (g := gb131) (o := .cells #[.int .i64 ((rd_T62 l0 x11_1).f0), .string (rdOf ByteArray.empty t136 1)] 62 (0, 0)) (by (with_reducible repeat (first | refine blk_drewN ?_ _ | refine blk_drew ?_ | refine blk_alloc ?_ _)); exact BK131.out) hb); have n4_ := Aside0.mk (below_step (by repeat (first | (with_reducible first | exact HB.out | apply below_alloc | apply pw_below_drewN | apply below_drew1 | refine below_set ?_ GE131.out) | exact HB.out)) hb); have n5_ := Aside0.mk (hbox); have n6_ := Aside0.mk ((by rw [hg]; exact (below_size (by repeat (first | (with_reducible first | exact HB.out | apply below_alloc | apply pw_below_drewN | apply below_drew1 | refine below_set ?_ GE131.out) | exact HB.out))) : w.heap.size ≤ gb142)); have n7_ := Aside0.mk ((by rw [hg]; exact (below_size (by repeat (first | (with_reducible first | exact HB.out | apply below_alloc | apply pw_below_drewN | apply below_drew1 | refine below_set ?_ GE131.out) | exact HB.out))) : w.heap.size ≤ gb142)); have n8_ := Aside0.mk ((by rw [hg]; exact Nat.ne_of_lt (blk_lt (g := gb131) (o := .cells #[.int .i64 ((rd_T62 l0 x11_1).f0), .string (rdOf ByteArray.empty t136 1)] 62 (0, 0)) (by (with_reducible repeat (first | refine blk_drewN ?_ _ | refine blk_drew ?_ | refine blk_alloc ?_ _)); exact BK131.out)) : gb131 ≠ gb142)); have n9_ := Aside0.mk ((by rw [hg]; exact Nat.ne_of_gt (blk_lt (g := gb131) (o := .cells #[.int .i64 ((rd_T62 l0 x11_1).f0), .string (rdOf ByteArray.empty t136 1)] 62 (0, 0)) (by (with_reducible repeat (first | refine blk_drewN ?_ _ | refine blk_drew ?_ | refine blk_alloc ?_ _)); exact BK131.out)) : gb142 ≠ gb131)); clear HO_2; clear HO_3; clear HO138; clear BK131; clear HB; have HO_2 := n0_; have HO_3 := n1_; have HO138 := n2_; have BK131 := n3_; have HB := n4_; have BK142 := n5_; have GW142 := n6_; have GE142 := n7_; have NB131_142 := n8_; have NB142_131 := n9_; clear n0_ n1_ n2_ n3_ n4_ n5_ n6_ n7_ n8_ n9_; clear hb hbox hg; have hnb38 := NB142_131.out; have hnc38 := NB131_142.out; have hcz39_0 : w37.cell? ⟨gb142, 0, none⟩ = some (.int .i64 0) := (blk_cell BK142.out 0).trans rfl; have hcz39_1 : w37.cell? ⟨gb142, 1, none⟩ = some (.string (⟨#[]⟩ : ByteArray)) := (blk_cell BK142.out 1).trans rfl; have hfz39_0 := blk_frozen BK142.out 0; have hfz39_1 := blk_frozen BK142.out 1) | ((with_reducible refine gate_store (t := 62) (p := 7) rfl ?_); refine store_event (t := 62) (p := 7) (v := ?vo_w40) (w1 := ((w37.setCell ⟨gb142, 0, none⟩ (.int .i64 t140)).setCell ⟨gb142, 1, none⟩ (.string t141))) ?hg ?ho ?hn ?hr ?_; (case ho => rfl); (case hg => rfl); (case hn => rfl); (case hr => first | (go_simp; done) | (go_simp; rfl)); intro w40 hw; have n0_ : Aside0 (Kd.S (Kd.slice 62 k62) 51 w40 w.heap.size (fun k_ => some k_ ≠ (u3 : Value).ownBlock ∧ k_ ≠ gb131 ∧ k_ ≠ gb142) u2 x2_2) := ⟨(by rw [hw]; exact (by (with_reducible repeat (first | apply Kd.S_alloc | apply Kd.S_drewN | apply Kd.S_drew)); exact Kd.S_mono (Kd.S_far (p := ⟨gb142, 1, none⟩) (Kd.S_far (p := ⟨gb142, 0, none⟩) (Kd.S_mono HO_2.out (fun k_ hk => (⟨hk, hk.2⟩ : _ ∧ k_ ≠ gb142))) (fun _ hk => hk.2) (.int .i64 t140)) (fun _ hk => hk.2) (.string t141)) (fun _ hk => ⟨hk.1.1.1, ⟨hk.1.1.2, hk.1.2⟩⟩)))⟩; have n1_ : Aside0 (Kd.R k62 62 w40 w.heap.size (fun k_ => k_ ≠ gb131 ∧ k_ ≠ gb142) u3 x3_2) := ⟨(by rw [hw]; exact (by (with_reducible repeat (first | apply Kd.R_alloc | apply Kd.R_drewN | apply Kd.R_drew)); exact Kd.R_mono (Kd.R_far (p := ⟨gb142, 1, none⟩) (Kd.R_far (p := ⟨gb142, 0, none⟩) (Kd.R_mono HO_3.out (fun k_ hk => (⟨hk, hk.2⟩ : _ ∧ k_ ≠ gb142))) (fun _ hk => hk.2) (.int .i64 t140)) (fun _ hk => hk.2) (.string t141)) (fun _ hk => ⟨hk.1.1, hk.1.2⟩)))⟩; have n2_ : Aside0 (Kd.R Kd.string 9 w40 w.heap.size (fun _ => True) (.slice (some ad139) t136.length co34) t136) := ⟨(by rw [hw]; exact (by (with_reducible repeat (first | apply Kd.R_alloc | apply Kd.R_drewN | apply Kd.R_drew)); exact Kd.R_mono (Kd.R_far (p := ⟨gb142, 1, none⟩) (Kd.R_far (p := ⟨gb142, 0, none⟩) (Kd.R_types HO138.out BK142.out (by decide)) (fun _ hk => hk.2) (.int .i64 t140)) (fun _ hk => hk.2) (.string t141)) (fun _ hk => trivial)))⟩; have n3_ : Aside0 (w40.heap[gb131]? = some (.cells #[.int .i64 ((rd_T62 l0 x11_1).f0), .string (rdOf ByteArray.empty t136 1)] 62 (0, 0))) := ⟨(by rw [hw]; exact (by (with_reducible repeat (first | refine blk_drewN ?_ _ | refine blk_drew ?_ | refine blk_alloc ?_ _)); refine blk_far ?_ NB131_142.out _; (with_reducible repeat (first | refine blk_drewN ?_ _ | refine blk_drew ?_ | refine blk_alloc ?_ _)); refine blk_far ?_ NB131_142.out _; (with_reducible repeat (first | refine blk_drewN ?_ _ | refine blk_drew ?_ | refine blk_alloc ?_ _)); exact BK131.out))⟩; have n4_ : Aside0 (w40.heap[gb142]? = some (.cells #[.int .i64 t140, .string t141] 62 (0, 0))) := ⟨(by rw [hw]; exact (by (with_reducible repeat (first | refine blk_drewN ?_ _ | refine blk_drew ?_ | refine blk_alloc ?_ _)); refine blk_put (cs := #[.int .i64 t140, .string (⟨#[]⟩ : ByteArray)]) ?_ 1 _ rfl; (with_reducible repeat (first | refine blk_drewN ?_ _ | refine blk_drew ?_ | refine blk_alloc ?_ _)); refine blk_put (cs := #[.int .i64 0, .string (⟨#[]⟩ : ByteArray)]) ?_ 0 _ rfl; (with_reducible repeat (first | refine blk_drewN ?_ _ | refine blk_drew ?_ | refine blk_alloc ?_ _)); exact BK142.out))⟩; have n5_ : Aside0 (Below w.heap.size w w40) := ⟨(by rw [hw]; exact (by repeat (first | (with_reducible first | exact HB.out | apply below_alloc | apply pw_below_drewN | apply below_drew1 | refine below_set ?_ GE131.out | refine below_set ?_ GE142.out) | exact HB.out)))⟩; clear hw; clear HO_2; clear HO_3; clear HO138; clear BK131; clear BK142; clear HB; have HO_2 := n0_; have HO_3 := n1_; have HO138 := n2_; have BK131 := n3_; have BK142 := n4_; have HB := n5_; clear n0_ n1_ n2_ n3_ n4_ n5_; have p143 : 0 ≤ (0 : Int) := (by omega); have q143 : 0 < (t136.length : Int) := of_decide_eq_true (by first | (with_reducible assumption) | assumption); obtain ⟨ad143, e143, hx143_0⟩ := Kd.at_string (Kd.R_reads' HO138.out).2.2 0 p143 q143; obtain rfl : ad139 = ad143 := (by injection e143); have qi143 : (0 < t136.length) = True := eq_true (by omega); (try rw [show ((0 : Int)).toNat = 0 from rfl] at hx143_0); (try rw [Addr.add_zero'] at hx143_0); replace p143 := eq_true p143; replace q143 := eq_true q143; have hcz41_0 : w40.cell? ⟨gb142, 0, none⟩ = some (.int .i64 t140) := (blk_cell BK142.out 0).trans rfl; have hcz41_1 : w40.cell? ⟨gb142, 1, none⟩ = some (.string t141) := (blk_cell BK142.out 1).trans rfl; have hfz41_0 := blk_frozen BK142.out 0; have hfz41_1 := blk_frozen BK142.out 1) | ((with_reducible refine gate_builtin (b := .append) (xs := #[.tmp 30, .tmp 32]) rfl ?_); at_builtin; refine Kd.R_append k62 (w0 := w) w.heap.size rfl (.tmp 30) (.tmp 32) 51 62 (.agg #[(.int .i64 0), (.string ⟨#[]⟩)]) 24 rfl Tryd.underlying51 info62 rfl (by decide) (by omega) u3 x3_2 (⟨t140, rdOf ByteArray.empty t136 0⟩ : S62) [.int .i64 t140, .string (rdOf ByteArray.empty t136 0)] (fun k_ => k_ ≠ gb131 ∧ k_ ≠ gb142) (fun _ => False) rfl (by first | (go_simp; done) | (go_simp; rfl)) ?aP (fun _ hk => hk.elim) ?aF ?aO ?aB ?aS ?aL ?_; (case aP => exact k62_mkM _ _ _ (⟨t140, rdOf ByteArray.empty t136 0⟩ : S62)); (case aB => exact (by repeat (first | (with_reducible first | exact HB.out | apply below_alloc | apply pw_below_drewN | apply below_drew1 | refine below_set ?_ GE131.out | refine below_set ?_ GE142.out) | exact HB.out))); (case aF => exact (fun k_ hk => ⟨Kd.freshB (g := gb131) (o := .cells #[.int .i64 ((rd_T62 l0 x11_1).f0), .string (rdOf ByteArray.empty t136 1)] 62 (0, 0)) (by (with_reducible repeat (first | refine blk_drewN ?_ _ | refine blk_drew ?_ | refine blk_alloc ?_ _)); refine blk_far ?_ NB131_142.out _; (with_reducible repeat (first | refine blk_drewN ?_ _ | refine blk_drew ?_ | refine blk_alloc ?_ _)); exact BK131.out) k_ hk, Kd.freshB (g := gb142) (o := .cells #[.int .i64 t140, .string (rdOf ByteArray.empty t136 0)] 62 (0, 0)) (by (with_reducible repeat (first | refine blk_drewN ?_ _ | refine blk_drew ?_ | refine blk_alloc ?_ _)); refine blk_put (cs := #[.int .i64 t140, .string t141]) ?_ 1 _ rfl; (with_reducible repeat (first | refine blk_drewN ?_ _ | refine blk_drew ?_ | refine blk_alloc ?_ _)); exact BK142.out) k_ hk⟩)); (case aO => exact (by (with_reducible repeat (first | apply Kd.R_alloc | apply Kd.R_drewN | apply Kd.R_drew)); exact Kd.R_mono (Kd.R_far (p := ⟨gb142, 1, none⟩) (Kd.R_mono HO_3.out (fun k_ hk => (⟨hk, hk.2⟩ : _ ∧ k_ ≠ gb142))) (fun _ hk => hk.2) (.string (rdOf ByteArray.empty t136 0))) (fun _ hk => ⟨hk.1.1, hk.1.2⟩))); (case aS => exact (below_size (by repeat (first | (with_reducible first | exact HB.out | apply below_alloc | apply pw_below_drewN | apply below_drew1 | refine below_set ?_ GE131.out | refine below_set ?_ GE142.out) | exact HB.out)))); (case aL => have := LMc13.out; omega); intro v145 w42 ho hb hg hat; rw [← Ny144.out] at ho; have n0_ := Aside0.mk (Kd.S_after (ok := (fun k_ => k_ ≠ gb131 ∧ k_ ≠ gb142)) (by (with_reducible repeat (first | apply Kd.S_alloc | apply Kd.S_drewN | apply Kd.S_drew)); exact Kd.S_mono (Kd.S_far (p := ⟨gb142, 1, none⟩) (Kd.S_mono HO_2.out (fun k_ hk => (⟨hk, hk.2.2⟩ : _ ∧ k_ ≠ gb142))) (fun _ hk => hk.2) (.string (rdOf ByteArray.empty t136 0))) (fun _ hk => ⟨⟨hk.1.2.1, hk.1.2.2⟩, hk.1.1⟩)) hg hat); have n1_ := Aside0.mk (blk_grown (g := gb131) (o := .cells #[.int .i64 ((rd_T62 l0 x11_1).f0), .string (rdOf ByteArray.empty t136 1)] 62 (0, 0)) (by (with_reducible repeat (first | refine blk_drewN ?_ _ | refine blk_drew ?_ | refine blk_alloc ?_ _)); refine blk_far ?_ NB131_142.out _; (with_reducible repeat (first | refine blk_drewN ?_ _ | refine blk_drew ?_ | refine blk_alloc ?_ _)); exact BK131.out) hg (Kd.R_away HO_3.out (fun _ hk => hk.1))); have n2_ := Aside0.mk (Kd.R_over' (by (with_reducible repeat (first | apply Kd.R_alloc | apply Kd.R_drewN | apply Kd.R_drew)); exact (Kd.R_mono (Kd.R_far (p := ⟨gb142, 1, none⟩) (Kd.R_types HO138.out BK142.out (by decide)) (fun _ hk => hk.2) (.string (rdOf ByteArray.empty t136 0))) (fun _ h_ => h_.1))) (Kd.R_typed (by (with_reducible repeat (first | apply Kd.R_alloc | apply Kd.R_drewN | apply Kd.R_drew)); exact (Kd.R_mono (Kd.R_far (p := ⟨gb142, 1, none⟩) (Kd.R_mono HO_3.out (fun k_ hk => (⟨hk, hk.2⟩ : _ ∧ k_ ≠ gb142))) (fun _ hk => hk.2) (.string (rdOf ByteArray.empty t136 0))) (fun _ h_ => h_.1)))) (by decide) hg); have n3_ := Aside0.mk (blk_grown (g := gb142) (o := .cells #[.int .i64 t140, .string (rdOf ByteArray.empty t136 0)] 62 (0, 0)) (by (with_reducible repeat (first | refine blk_drewN ?_ _ | refine blk_drew ?_ | refine blk_alloc ?_ _)); refine blk_put (cs := #[.int .i64 t140, .string t141]) ?_ 1 _ rfl; (with_reducible repeat (first | refine blk_drewN ?_ _ | refine blk_drew ?_ | refine blk_alloc ?_ _)); exact BK142.out) hg (Kd.R_away HO_3.out (fun _ hk => hk.2))); have n4_ := Aside0.mk (hb); have n5_ := Aside0.mk (ho); clear HO_2; clear BK131; clear HO138; clear BK142; clear HB; clear HO_3; have HO_2 := n0_; have BK131 := n1_; have HO138 := n2_; have BK142 := n3_; have HB := n4_; have HO146 := n5_; clear n0_ n1_ n2_ n3_ n4_ n5_; clear ho hb hg hat; obtain ⟨Ao44, co44, eo44⟩ := Kd.R_slice HO146.out; subst eo44) | ((with_reducible refine gate_builtin (b := .append) (xs := #[.tmp 34, .tmp 36]) rfl ?_); at_builtin; refine Kd.S_append (Kd.slice 62 k62) (w0 := w) w.heap.size rfl (.tmp 34) (.tmp 36) 74 51 (.slice none 0 0) 24 rfl Tryd.underlying74 info51 rfl (by decide) (by omega) u2 x2_2 y144 [.slice Ao44 y144.length co44] (fun k_ => k_ ≠ gb131 ∧ k_ ≠ gb142) (fun k_ => some k_ = (.slice Ao44 y144.length co44 : Value).ownBlock) rfl rfl ?aP (fun k_ hk_ => ((Kd.R_mono (ok' := fun k_ => ((fun k_ => k_ ≠ gb131 ∧ k_ ≠ gb142)) k_ ∧ some k_ ≠ (u2 : Value).ownBlock) (Kd.R_apart' (HO146.out) (Kd.S_typed HO_2.out) (by decide)) (fun k_ hk => ⟨⟨hk.1.1, hk.1.2⟩, hk.2⟩))).1 k_ hk_.symm) ?aF ?aO ?aB ?aS ?aL ?_; (case aP => exact Kd.M_row (Kd.R_mono (Kd.R_tight rfl (Kd.R_mono (ok' := fun k_ => ((fun k_ => k_ ≠ gb131 ∧ k_ ≠ gb142)) k_ ∧ some k_ ≠ (u2 : Value).ownBlock) (Kd.R_apart' (HO146.out) (Kd.S_typed HO_2.out) (by decide)) (fun k_ hk => ⟨⟨hk.1.1, hk.1.2⟩, hk.2⟩))) (fun _ h_ => h_))); (case aB => exact (by repeat (first | (with_reducible first | exact HB.out | apply below_alloc | apply pw_below_drewN | apply below_drew1 | refine below_set ?_ GE131.out | refine below_set ?_ GE142.out) | exact HB.out))); (case aF => exact (fun k_ hk => ⟨Kd.freshB (g := gb131) (o := .cells #[.int .i64 ((rd_T62 l0 x11_1).f0), .string (rdOf ByteArray.empty t136 1)] 62 (0, 0)) (by (with_reducible repeat (first | refine blk_drewN ?_ _ | refine blk_drew ?_ | refine blk_alloc ?_ _)); exact BK131.out) k_ hk, Kd.freshB (g := gb142) (o := .cells #[.int .i64 t140, .string (rdOf ByteArray.empty t136 0)] 62 (0, 0)) (by (with_reducible repeat (first | refine blk_drewN ?_ _ | refine blk_drew ?_ | refine blk_alloc ?_ _)); exact BK142.out) k_ hk⟩)); (case aO => exact (by (with_reducible repeat (first | apply Kd.S_alloc | apply Kd.S_drewN | apply Kd.S_drew)); exact Kd.S_mono HO_2.out (fun k_ hk => ⟨⟨hk.1.1, hk.1.2⟩, fun e_ => hk.2 e_⟩))); (case aS => exact (below_size (by repeat (first | (with_reducible first | exact HB.out | apply below_alloc | apply pw_below_drewN | apply below_drew1 | refine below_set ?_ GE131.out | refine below_set ?_ GE142.out) | exact HB.out)))); (case aL => have := LMc14.out; omega); intro v148 w43 ho hb hg hat; rw [← Ny147.out] at ho; have n0_ := Aside0.mk (blk_grown (g := gb131) (o := .cells #[.int .i64 ((rd_T62 l0 x11_1).f0), .string (rdOf ByteArray.empty t136 1)] 62 (0, 0)) (by (with_reducible repeat (first | refine blk_drewN ?_ _ | refine blk_drew ?_ | refine blk_alloc ?_ _)); exact BK131.out) hg (Kd.S_ne HO_2.out BK131.out (by decide))); have n1_ := Aside0.mk (Kd.R_over' (by (with_reducible repeat (first | apply Kd.R_alloc | apply Kd.R_drewN | apply Kd.R_drew)); exact HO138.out) (Kd.S_typed (by (with_reducible repeat (first | apply Kd.S_alloc | apply Kd.S_drewN | apply Kd.S_drew)); exact HO_2.out)) (by decide) hg); have n2_ := Aside0.mk (blk_grown (g := gb142) (o := .cells #[.int .i64 t140, .string (rdOf ByteArray.empty t136 0)] 62 (0, 0)) (by (with_reducible repeat (first | refine blk_drewN ?_ _ | refine blk_drew ?_ | refine blk_alloc ?_ _)); exact BK142.out) hg (Kd.S_ne HO_2.out BK142.out (by decide))); have n3_ := Aside0.mk (hb); have n4_ := Aside0.mk (ho); clear BK131; clear HO138; clear BK142; clear HB; clear HO_2; clear HO146; have BK131 := n0_; have HO138 := n1_; have BK142 := n2_; have HB := n3_; have HO149 := n4_; clear n0_ n1_ n2_ n3_ n4_; clear ho hb hg hat; have hcz45_0 : w43.cell? ⟨gb131, 0, none⟩ = some (.int .i64 ((rd_T62 l0 x11_1).f0)) := (blk_cell BK131.out 0).trans rfl; have hcz45_1 : w43.cell? ⟨gb131, 1, none⟩ = some (.string (rdOf ByteArray.empty t136 1)) := (blk_cell BK131.out 1).trans rfl; have hfz45_0 := blk_frozen BK131.out 0; have hfz45_1 := blk_frozen BK131.out 1))
                            go_roundg k2
                            case measure => have := HK1.out; have := HK2.out; omega
                            case rel => exact ⟨(y147), (([] : List (S62))), (rdOf ByteArray.empty t136 1), H', ⟨by have := HK1.out; have := HK2.out; omega⟩, ⟨by (with_reducible repeat (first | apply Kd.S_alloc | apply Kd.S_drewN | apply Kd.S_drew)); exact Kd.S_mono HO149.out (fun _ hk => ⟨(by simp [Value.ownBlock]), hk.1⟩)⟩, ⟨by first | exact Kd.R_nil _ _ _ _ _ | exact Kd.N_nil _ _ _ _ _ | exact Kd.V_nil _ _ _ _ _ | exact Kd.Q_nil _ _ _ _ _ | exact Kd.S_nil _ _ _ _ _⟩, ⟨by (with_reducible repeat (first | refine blk_drewN ?_ _ | refine blk_drew ?_ | refine blk_alloc ?_ _)); exact BK131.out⟩, ⟨by repeat (first | (with_reducible first | exact HB.out | apply below_alloc | apply pw_below_drewN | apply below_drew1 | refine below_set ?_ GE131.out | refine below_set ?_ GE142.out) | exact HB.out)⟩⟩
                        · rw [if_neg c14] at H
                          exact absurd H (by simp)
                      · rw [if_neg c13] at H
                        exact absurd H (by simp)
                    · rw [if_neg c12] at H
                      exact absurd H (by simp)
                  · rw [if_neg c10] at H
                    exact absurd H (by simp)
                · replace c8 := Bool.eq_false_iff.mpr c8
                  subst c8
                  have H1 : (if x3_2.length < 5864062014805 then (chroma_SplitTokensIntoLines.l0 k2 x2_2 (x3_2 ++ [(⟨((rd_T62 l0 x11_1).f0), x132001_2⟩ : S62)]) l0 (l0.length : Int) (wrap64 (x11_1 + 1))) else (none)) = some r := by rw [if_neg (show ¬ (false = true) by decide)] at H; exact H
                  clear H
                  have H := H1
                  clear H1
                  by_cases c46 : x3_2.length < 5864062014805
                  · rw [if_pos c46] at H
                    have LMc46 := Aside0.mk c46
                    clear c46
                    obtain ⟨y133, hy133⟩ : ∃ y_ : List (S62), y_ = (x3_2 ++ [(⟨((rd_T62 l0 x11_1).f0), x132001_2⟩ : S62)]) := ⟨_, rfl⟩
                    replace H : (chroma_SplitTokensIntoLines.l0 k2 x2_2 y133 l0 (l0.length : Int) (wrap64 (x11_1 + 1))) = some r := by first | (rw [hy133]; with_reducible exact H) | (have H2_ := (Option.bind_some _ _).symm.trans H; rw [hy133]; with_reducible exact H2_) | (have H2_ := (Option.bind_some _ _).symm.trans H; with_reducible exact H2_) | with_reducible exact H | (rw [hy133]; exact H) | exact H
                    have Ny133 := Aside0.mk hy133
                    clear hy133
                    have H' := Aside0.mk H
                    clear H
                    have hcz47_0 : wr.cell? ⟨gb131, 0, none⟩ = some (.int .i64 ((rd_T62 l0 x11_1).f0)) := (blk_cell BK131.out 0).trans rfl
                    have hcz47_1 : wr.cell? ⟨gb131, 1, none⟩ = some (.string x132001_2) := (blk_cell BK131.out 1).trans rfl
                    have hfz47_0 := blk_frozen BK131.out 0
                    have hfz47_1 := blk_frozen BK131.out 1
                    go_wp2_with (first | ((with_reducible refine gate_callee (f := 25) rfl ?_); refine goesL_ (some 17) rfl rfl Tryd.func25 (by kernel_rfl) rfl #[.string x132001_2, .string (⟨#[10]⟩ : ByteArray)] rfl (by (try simp only [List.map_toArray, List.map_cons, List.map_nil]); first | done | rfl | (simp only [List.length_drop, List.length_take]; rfl)) ?_; (with_reducible refine (chroma_zzContains.calls k2 x132001_2 (⟨#[10]⟩ : ByteArray) false _ A7.out).mono ?_); rintro e w' ⟨rfl, ⟨nd, rfl⟩⟩; refine ⟨_, rfl, ?_⟩) | ((with_reducible refine gate_builtin (b := .append) (xs := #[.tmp 42, .tmp 44]) rfl ?_); at_builtin; refine Kd.R_append k62 (w0 := w) w.heap.size rfl (.tmp 42) (.tmp 44) 51 62 (.agg #[(.int .i64 0), (.string ⟨#[]⟩)]) 24 rfl Tryd.underlying51 info62 rfl (by decide) (by omega) u3 x3_2 (⟨((rd_T62 l0 x11_1).f0), x132001_2⟩ : S62) [.int .i64 ((rd_T62 l0 x11_1).f0), .string x132001_2] (fun k_ => k_ ≠ gb131) (fun _ => False) rfl rfl ?aP (fun _ hk => hk.elim) ?aF ?aO ?aB ?aS ?aL ?_; (case aP => exact k62_mkM _ _ _ (⟨((rd_T62 l0 x11_1).f0), x132001_2⟩ : S62)); (case aB => exact (by repeat (first | (with_reducible first | exact HB.out | apply below_alloc | apply pw_below_drewN | apply below_drew1 | refine below_set ?_ GE131.out) | exact HB.out))); (case aF => exact (fun k_ hk => Kd.freshB (g := gb131) (o := .cells #[.int .i64 ((rd_T62 l0 x11_1).f0), .string x132001_2] 62 (0, 0)) (by (with_reducible repeat (first | refine blk_drewN ?_ _ | refine blk_drew ?_ | refine blk_alloc ?_ _)); exact BK131.out) k_ hk)); (case aO => exact (by (with_reducible repeat (first | apply Kd.R_alloc | apply Kd.R_drewN | apply Kd.R_drew)); exact HO_3.out)); (case aS => exact (below_size (by repeat (first | (with_reducible first | exact HB.out | apply below_alloc | apply pw_below_drewN | apply below_drew1 | refine below_set ?_ GE131.out) | exact HB.out)))); (case aL => have := LMc46.out; omega); intro v134 w48 ho hb hg hat; rw [← Ny133.out] at ho; have n0_ := Aside0.mk (Kd.S_after (ok := (fun k_ => k_ ≠ gb131)) (by (with_reducible repeat (first | apply Kd.S_alloc | apply Kd.S_drewN | apply Kd.S_drew)); exact Kd.S_mono HO_2.out (fun _ hk => ⟨hk.2, hk.1⟩)) hg hat); have n1_ := Aside0.mk (blk_grown (g := gb131) (o := .cells #[.int .i64 ((rd_T62 l0 x11_1).f0), .string x132001_2] 62 (0, 0)) (by (with_reducible repeat (first | refine blk_drewN ?_ _ | refine blk_drew ?_ | refine blk_alloc ?_ _)); exact BK131.out) hg (Kd.R_away HO_3.out (fun _ hk => hk))); have n2_ := Aside0.mk (hb); have n3_ := Aside0.mk (ho); clear HO_2; clear BK131; clear HB; clear HO_3; have HO_2 := n0_; have BK131 := n1_; have HB := n2_; have HO135 := n3_; clear n0_ n1_ n2_ n3_; clear ho hb hg hat))
                    go_roundg k2
                    case measure => have := HK1.out; have := HK2.out; omega
                    case rel => exact ⟨(x2_2), (y133), (wrap64 (x11_1 + 1)), (by first | rfl | (simp; done) | (simp [*]; done)), H', ⟨by have := HK1.out; have := HK2.out; omega⟩, ⟨by (with_reducible repeat (first | apply Kd.S_alloc | apply Kd.S_drewN | apply Kd.S_drew)); exact Kd.S_mono HO_2.out (fun _ hk => hk.2)⟩, ⟨by (with_reducible repeat (first | apply Kd.R_alloc | apply Kd.R_drewN | apply Kd.R_drew)); exact Kd.R_mono HO135.out (fun _ hk => trivial)⟩, ⟨by repeat (first | (with_reducible first | exact HB.out | apply below_alloc | apply pw_below_drewN | apply below_drew1 | refine below_set ?_ GE131.out) | exact HB.out)⟩⟩
                  · rw [if_neg c46] at H
                    exact absurd H (by simp)
          · rw [if_neg c4] at H
            exact absurd H (by simp)
        · rw [if_neg c3] at H
          exact absurd H (by simp)
      · rw [if_neg c2] at H
        have c2b0 : decide (x11_1 < (l0.length : Int)) = false := decide_eq_false c2
        clear c2
        have HC49 := Aside0.mk H
        clear H
        obtain ⟨Ao50, co50, eo50⟩ := Kd.R_slice HO_3.out
        subst eo50
        go_upto_if 49 with (fail)
        go_cut [2] (fun v2 wc => ∃ (kq : Nat) (x2_48 : List (List (S62))), Aside0 (chroma_SplitTokensIntoLines.j2 kq x2_48 = some r) ∧ Aside0 (kq ≤ k1) ∧ Aside0 (Kd.S (Kd.slice 62 k62) 51 wc w.heap.size (fun _ => True) v2 x2_48) ∧ Aside0 (Below w.heap.size w wc))
        case first =>
          have H := HC49.out
          clear HC49
          by_cases c51 : (x3_1.length : Int) > 0
          · rw [if_pos c51] at H
            have c51b0 : decide (0 < (x3_1.length : Int)) = true := decide_eq_true c51
            have c51b1 : decide (0 < x3_1.length) = true := decide_eq_true (by omega)
            clear c51
            (try (have c51b2 := c51b0; simp only [ByteArray.size_extract, Nat.min_self] at c51b2)); (first | rw [c51b0] | (simp only [i64_w, i32_w]; rw [c51b0]) | rw [c51b1] | skip)
            by_cases c52 : x2_1.length < 5864062014805
            · rw [if_pos c52] at H
              have LMc52 := Aside0.mk c52
              clear c52
              obtain ⟨y150, hy150⟩ : ∃ y_ : List (List (S62)), y_ = (x2_1 ++ [x3_1]) := ⟨_, rfl⟩
              replace H : (chroma_SplitTokensIntoLines.j2 k1 y150) = some r := by first | (rw [hy150]; with_reducible exact H) | (have H2_ := (Option.bind_some _ _).symm.trans H; rw [hy150]; with_reducible exact H2_) | (have H2_ := (Option.bind_some _ _).symm.trans H; with_reducible exact H2_) | with_reducible exact H | (rw [hy150]; exact H) | exact H
              have Ny150 := Aside0.mk hy150
              clear hy150
              have H' := Aside0.mk H
              clear H
              go_wp2_with (first | ((with_reducible refine gate_builtin (b := .append) (xs := #[.tmp 50, .tmp 52]) rfl ?_); at_builtin; refine Kd.S_append (Kd.slice 62 k62) (w0 := w) w.heap.size rfl (.tmp 50) (.tmp 52) 74 51 (.slice none 0 0) 24 rfl Tryd.underlying74 info51 rfl (by decide) (by omega) u2 x2_1 x3_1 [.slice Ao50 x3_1.length co50] (fun _ => True) (fun k_ => some k_ = (.slice Ao50 x3_1.length co50 : Value).ownBlock) rfl rfl ?aP (fun k_ hk_ => ((Kd.R_mono (ok' := fun k_ => ((fun _ => True)) k_ ∧ some k_ ≠ (u2 : Value).ownBlock) (Kd.R_apart' (HO_3.out) (Kd.S_typed HO_2.out) (by decide)) (fun k_ hk => ⟨trivial, hk.2⟩))).1 k_ hk_.symm) ?aF ?aO ?aB ?aS ?aL ?_; (case aP => exact Kd.M_row (Kd.R_mono (Kd.R_tight rfl (Kd.R_mono (ok' := fun k_ => ((fun _ => True)) k_ ∧ some k_ ≠ (u2 : Value).ownBlock) (Kd.R_apart' (HO_3.out) (Kd.S_typed HO_2.out) (by decide)) (fun k_ hk => ⟨trivial, hk.2⟩))) (fun _ h_ => h_))); (case aB => exact (by repeat (first | (with_reducible first | exact HB.out | apply below_alloc | apply pw_below_drewN | apply below_drew1) | exact HB.out))); (case aF => exact (fun _ _ => trivial)); (case aO => exact (by (with_reducible repeat (first | apply Kd.S_alloc | apply Kd.S_drewN | apply Kd.S_drew)); exact Kd.S_mono HO_2.out (fun k_ hk => ⟨trivial, fun e_ => hk e_⟩))); (case aS => exact (below_size (by repeat (first | (with_reducible first | exact HB.out | apply below_alloc | apply pw_below_drewN | apply below_drew1) | exact HB.out)))); (case aL => have := LMc52.out; omega); intro v151 w53 ho hb hg hat; rw [← Ny150.out] at ho; have n0_ := Aside0.mk (hb); have n1_ := Aside0.mk (ho); clear HB; clear HO_2; clear HO_3; have HB := n0_; have HO152 := n1_; clear n0_ n1_; clear ho hb hg hat))
              go_meet
              case rel => exact ⟨_, (y150), H', ⟨by have := HK1.out; first | omega | exact Nat.le_refl _⟩, ⟨by (with_reducible repeat (first | apply Kd.S_alloc | apply Kd.S_drewN | apply Kd.S_drew)); exact HO152.out⟩, ⟨by repeat (first | (with_reducible first | exact HB.out | apply below_alloc | apply pw_below_drewN | apply below_drew1) | exact HB.out)⟩⟩
            · rw [if_neg c52] at H
              exact absurd H (by simp)
          · rw [if_neg c51] at H
            have c51b0 : decide (0 < (x3_1.length : Int)) = false := decide_eq_false c51
            have c51b1 : decide (0 < x3_1.length) = false := decide_eq_false (by omega)
            clear c51
            (try (have c51b2 := c51b0; simp only [ByteArray.size_extract, Nat.min_self] at c51b2)); (first | rw [c51b0] | (simp only [i64_w, i32_w]; rw [c51b0]) | rw [c51b1] | skip)
            have H' := Aside0.mk H
            clear H
            go_wp2
            go_meet
            case rel => exact ⟨_, (x2_1), H', ⟨by have := HK1.out; first | omega | exact Nat.le_refl _⟩, ⟨by (with_reducible repeat (first | apply Kd.S_alloc | apply Kd.S_drewN | apply Kd.S_drew)); exact Kd.S_mono HO_2.out (fun _ hk => trivial)⟩, ⟨by repeat (first | (with_reducible first | exact HB.out | apply below_alloc | apply pw_below_drewN | apply below_drew1) | exact HB.out)⟩⟩
        case rest =>
          clear HC49
          try clear c1
          try clear p1
          try clear q1
          try clear hx1
          try clear qi1
          try clear c2
          try clear c2b0
          try clear p2
          try clear c3
          try clear c3b0
          try clear p3
          try clear c4
          try clear c4b0
          try clear c5
          try clear p6
          try clear c8
          try clear c10
          try clear c10b0
          try clear c10b1
          try clear c12
          try clear c12b0
          try clear c12b1
          try clear c13
          try clear p13
          try clear q13
          try clear hx13
          try clear qi13
          try clear c14
          try clear p14
          try clear q14
          try clear hx14
          try clear qi14
          try clear c15
          try clear c15b0
          try clear c15b1
          try clear c23
          try clear c24
          try clear c25
          try clear c26
          try clear c27
          try clear c38
          try clear c46
          try clear c51
          try clear c51b0
          try clear c51b1
          try clear c51b2
          try clear c52
          try clear hcz16_0
          try clear hcz16_1
          try clear hcz17_0
          try clear hcz17_1
          try clear hcz20_0
          try clear hcz20_1
          try clear hcz24_0
          try clear hcz24_1
          try clear hcz26_0
          try clear hcz26_1
          try clear hcz30_0
          try clear hcz30_1
          try clear hcz31_0
          try clear hcz31_1
          try clear hcz32_0
          try clear hcz32_1
          try clear hcz35_0
          try clear hcz35_1
          try clear hcz39_0
          try clear hcz39_1
          try clear hcz41_0
          try clear hcz41_1
          try clear hcz45_0
          try clear hcz45_1
          try clear hcz47_0
          try clear hcz47_1
          try clear hcz6_0
          try clear hcz6_1
          try clear hfz16_0
          try clear hfz16_1
          try clear hfz17_0
          try clear hfz17_1
          try clear hfz20_0
          try clear hfz20_1
          try clear hfz24_0
          try clear hfz24_1
          try clear hfz26_0
          try clear hfz26_1
          try clear hfz30_0
          try clear hfz30_1
          try clear hfz31_0
          try clear hfz31_1
          try clear hfz32_0
          try clear hfz32_1
          try clear hfz35_0
          try clear hfz35_1
          try clear hfz39_0
          try clear hfz39_1
          try clear hfz41_0
          try clear hfz41_1
          try clear hfz45_0
          try clear hfz45_1
          try clear hfz47_0
          try clear hfz47_1
          try clear hfz6_0
          try clear hfz6_1
          try clear hx130_0
          try clear hx130_1
          try clear hx139_0
          try clear hx143_0
          try clear p1
          try clear p130
          try clear p139
          try clear p143
          try clear p2
          try clear p3
          try clear q1
          try clear q130
          try clear q139
          try clear q143
          obtain ⟨kq, x2_48, HA, HJ48, HO_2, HB⟩ := hcut
          cases kq with
          | zero => exact absurd HA.out (by simp [chroma_SplitTokensIntoLines.j2])
          | succ kj48 =>
            have H := HA.out
            clear HA
            simp only [chroma_SplitTokensIntoLines.j2] at H
            by_cases c54 : (x2_48.length : Int) > 0
            · rw [if_pos c54] at H
              have c54b0 : decide (0 < (x2_48.length : Int)) = true := decide_eq_true c54
              have c54b1 : decide (0 < x2_48.length) = true := decide_eq_true (by omega)
              clear c54
              obtain ⟨ji55, hji55⟩ : ∃ j_ : Int, (wrap64 ((x2_48.length : Int) - 1)) = j_ := ⟨_, rfl⟩
              replace H : (if 0 ≤ (ji55) then (if (ji55) < (x2_48.length : Int) then (if ((rd_L8 x2_48 (ji55)).length : Int) = 1 then (if 0 < ((rd_L8 x2_48 (ji55)).length : Int) then (if ((rd_T62 (rd_L8 x2_48 (ji55)) 0).f1).toList = ([] : List UInt8) then (if (ji55) ≤ (x2_48.length : Int) then (some (x2_48.take ((ji55) : Int).toNat)) else (none)) else (some x2_48)) else (none)) else (some x2_48)) else (none)) else (none)) = some r := by first | (rw [hji55] at H; exact H) | (simp only [hji55] at H ⊢; exact H)
              have hji55w : (IntKind.i64.wrap ((x2_48.length : Int) - 1)) = ji55 := (i64_w _).trans hji55
              by_cases c56 : 0 ≤ (ji55)
              · rw [if_pos c56] at H
                have c56b0 : decide (0 ≤ (ji55)) = true := decide_eq_true c56
                clear c56
                by_cases c57 : (ji55) < (x2_48.length : Int)
                · rw [if_pos c57] at H
                  have c57b0 : decide ((ji55) < (x2_48.length : Int)) = true := decide_eq_true c57
                  clear c57
                  by_cases c58 : ((rd_L8 x2_48 (ji55)).length : Int) = 1
                  · rw [if_pos c58] at H
                    have c58b0 : (((rd_L8 x2_48 (ji55)).length : Int) == 1) = true := beq_iff_eq.mpr c58
                    have c58b1 : (((rd_L8 x2_48 (ji55)).length : Int) != 1) = false := bne_eq_false_iff_eq.mpr c58
                    clear c58
                    by_cases c59 : 0 < ((rd_L8 x2_48 (ji55)).length : Int)
                    · rw [if_pos c59] at H
                      have c59b0 : decide (0 < ((rd_L8 x2_48 (ji55)).length : Int)) = true := decide_eq_true c59
                      have c59b1 : decide (0 < (rd_L8 x2_48 (ji55)).length) = true := decide_eq_true (by omega)
                      clear c59
                      by_cases c60 : ((rd_T62 (rd_L8 x2_48 (ji55)) 0).f1).toList = ([] : List UInt8)
                      · rw [if_pos c60] at H
                        have c60b0 : (((rd_T62 (rd_L8 x2_48 (ji55)) 0).f1).toList == ([] : List UInt8)) = true := beq_iff_eq.mpr c60
                        have c60b1 : (((rd_T62 (rd_L8 x2_48 (ji55)) 0).f1).toList != ([] : List UInt8)) = false := bne_eq_false_iff_eq.mpr c60
                        clear c60
                        by_cases c61 : (ji55) ≤ (x2_48.length : Int)
                        · rw [if_pos c61] at H
                          have c61b0 := eq_true c61
                          have c61b1 : decide ((ji55) ≤ (x2_48.length : Int)) = true := decide_eq_true c61
                          clear c61
                          obtain ⟨y155, hy155⟩ : ∃ y_ : List (List (S62)), y_ = (x2_48.take ((ji55) : Int).toNat) := ⟨_, rfl⟩
                          replace H : (some y155) = some r := by first | (rw [hy155]; with_reducible exact H) | (have H2_ := (Option.bind_some _ _).symm.trans H; rw [hy155]; with_reducible exact H2_) | (have H2_ := (Option.bind_some _ _).symm.trans H; with_reducible exact H2_) | with_reducible exact H | (rw [hy155]; exact H) | exact H
                          have Ny155 := Aside0.mk hy155
                          clear hy155
                          obtain rfl := Option.some.inj H
                          obtain ⟨Ao62, co62, eo62⟩ := Kd.S_slice HO_2.out
                          subst eo62
                          have p153 : 0 ≤ ((ji55) : Int) := of_decide_eq_true (by first | (with_reducible assumption) | assumption)
                          have q153 : (ji55) < (x2_48.length : Int) := of_decide_eq_true (by first | (with_reducible assumption) | assumption)
                          obtain ⟨ad153, A153_0, c153_0, e153, hx153_0, hl153_0, hi153_0⟩ := at_L8 (Kd.S_reads' HO_2.out).2.2 (ji55) p153 q153
                          cases e153
                          obtain ⟨ce153, hce153, hMe153, hcc153⟩ := Kd.S_get HO_2.out [] (ji55) p153 (by first | exact q153 | exact of_decide_eq_true (by first | (with_reducible assumption) | assumption) | (have e_ := (Kd.S_reads' HO_2.out).1; omega))
                          obtain ⟨ve153_0, rfl, ge153_0⟩ := hMe153
                          have hv153_0 := hcc153 0 _ rfl
                          rw [Nat.add_zero, show ((Kd.slice 62 k62)).sz = 1 from rfl, Nat.mul_one] at hv153_0
                          replace hv153_0 := Option.some.inj (hv153_0.symm.trans hx153_0)
                          rw [hv153_0] at ge153_0
                          have HL153_0 := Aside0.mk (show Kd.R k62 62 _ _ _ _ (rd_L8 x2_48 (ji55)) from ge153_0)
                          clear hv153_0 ge153_0
                          clear hcc153 hce153
                          have HR153_0 := Aside0.mk hi153_0
                          have HC153_0 := Aside0.mk hl153_0
                          clear hi153_0 hl153_0
                          replace p153 := eq_true p153
                          replace q153 := eq_true q153
                          have p154 : 0 ≤ (0 : Int) := (by omega)
                          have q154 : 0 < ((rd_L8 x2_48 (ji55)).length : Int) := of_decide_eq_true (by first | (with_reducible assumption) | assumption)
                          obtain ⟨ad154, e154, hx154_0, hx154_1⟩ := at_T62 (by repeat (first | (with_reducible exact HR153_0.out) | (with_reducible refine Kd.C_alloc ?_ _) | (with_reducible refine Kd.C_drewN ?_ _) | (with_reducible refine Kd.C_drew ?_) | exact HR153_0.out)) 0 p154 q154
                          cases e154
                          have qi154 : (0 < (rd_L8 x2_48 (ji55)).length) = True := eq_true (by omega)
                          (try rw [show ((0 : Int)).toNat = 0 from rfl] at hx154_0)
                          (try rw [show 0 * 2 = 0 from rfl] at hx154_0)
                          (try rw [Addr.add_zero'] at hx154_0)
                          (try rw [show ((0 : Int)).toNat = 0 from rfl] at hx154_1)
                          (try rw [show 0 * 2 = 0 from rfl] at hx154_1)
                          (try rw [Addr.add_zero'] at hx154_1)
                          replace p154 := eq_true p154
                          replace q154 := eq_true q154
                          have q63 : ((ji55) : Int) ≤ ((x2_48.length : Int) : Int) := of_decide_eq_true (by first | (with_reducible assumption) | assumption)
                          obtain ⟨i063, hi063, _, hsz63, _⟩ := info_parts info51
                          have hcut63 := cut_to (P := Tryd.prog) 74 51 .i64 Tryd.underlying74 hi063 (some ad153) x2_48.length co62 (ji55) (of_decide_eq_true (by first | (with_reducible assumption) | assumption)) q63 (Kd.S_reads' HO_2.out).2.1
                          have hr63 := Kd.S_take (m := ((ji55) : Int).toNat) HO_2.out (by omega)
                          have hy63 : y155.length = ((ji55) : Int).toNat := (by rw [Ny155.out, List.length_take]; omega)
                          rw [← Ny155.out] at hr63
                          rw [← hy63] at hr63 hcut63
                          clear hy63 hi063 hsz63 HO_2
                          have HO157 := Aside0.mk hr63
                          clear hr63
                          replace q63 := eq_true q63
                          go_wp2
                          (try rw [Exit.noGoto_ret])
                          go_ret
                          exact ⟨_, by first | rfl | (simp [errW_none, errW_some] <;> rfl) | (simp only [← hji55]; first | rfl | (simp [errW_none, errW_some] <;> rfl)) | (simp [*, errW_none, errW_some] <;> rfl), by (with_reducible repeat (first | apply Kd.S_alloc | apply Kd.S_drewN | apply Kd.S_drew)); exact HO157.out, by repeat (first | (with_reducible first | exact HB.out | apply below_alloc | apply pw_below_drewN | apply below_drew1) | exact HB.out)⟩
                        · rw [if_neg c61] at H
                          exact absurd H (by simp)
                      · rw [if_neg c60] at H
                        have c60b0 : (((rd_T62 (rd_L8 x2_48 (ji55)) 0).f1).toList == ([] : List UInt8)) = false := beq_eq_false_iff_ne.mpr c60
                        have c60b1 : (((rd_T62 (rd_L8 x2_48 (ji55)) 0).f1).toList != ([] : List UInt8)) = true := bne_iff_ne.mpr c60
                        obtain rfl := Option.some.inj H
                        obtain ⟨Ao64, co64, eo64⟩ := Kd.S_slice HO_2.out
                        subst eo64
                        have p153 : 0 ≤ ((ji55) : Int) := of_decide_eq_true (by first | (with_reducible assumption) | assumption)
                        have q153 : (ji55) < (x2_48.length : Int) := of_decide_eq_true (by first | (with_reducible assumption) | assumption)
                        obtain ⟨ad153, A153_0, c153_0, e153, hx153_0, hl153_0, hi153_0⟩ := at_L8 (Kd.S_reads' HO_2.out).2.2 (ji55) p153 q153
                        cases e153
                        obtain ⟨ce153, hce153, hMe153, hcc153⟩ := Kd.S_get HO_2.out [] (ji55) p153 (by first | exact q153 | exact of_decide_eq_true (by first | (with_reducible assumption) | assumption) | (have e_ := (Kd.S_reads' HO_2.out).1; omega))
                        obtain ⟨ve153_0, rfl, ge153_0⟩ := hMe153
                        have hv153_0 := hcc153 0 _ rfl
                        rw [Nat.add_zero, show ((Kd.slice 62 k62)).sz = 1 from rfl, Nat.mul_one] at hv153_0
                        replace hv153_0 := Option.some.inj (hv153_0.symm.trans hx153_0)
                        rw [hv153_0] at ge153_0
                        have HL153_0 := Aside0.mk (show Kd.R k62 62 _ _ _ _ (rd_L8 x2_48 (ji55)) from ge153_0)
                        clear hv153_0 ge153_0
                        clear hcc153 hce153
                        have HR153_0 := Aside0.mk hi153_0
                        have HC153_0 := Aside0.mk hl153_0
                        clear hi153_0 hl153_0
                        replace p153 := eq_true p153
                        replace q153 := eq_true q153
                        have p154 : 0 ≤ (0 : Int) := (by omega)
                        have q154 : 0 < ((rd_L8 x2_48 (ji55)).length : Int) := of_decide_eq_true (by first | (with_reducible assumption) | assumption)
                        obtain ⟨ad154, e154, hx154_0, hx154_1⟩ := at_T62 (by repeat (first | (with_reducible exact HR153_0.out) | (with_reducible refine Kd.C_alloc ?_ _) | (with_reducible refine Kd.C_drewN ?_ _) | (with_reducible refine Kd.C_drew ?_) | exact HR153_0.out)) 0 p154 q154
                        cases e154
                        have qi154 : (0 < (rd_L8 x2_48 (ji55)).length) = True := eq_true (by omega)
                        (try rw [show ((0 : Int)).toNat = 0 from rfl] at hx154_0)
                        (try rw [show 0 * 2 = 0 from rfl] at hx154_0)
                        (try rw [Addr.add_zero'] at hx154_0)
                        (try rw [show ((0 : Int)).toNat = 0 from rfl] at hx154_1)
                        (try rw [show 0 * 2 = 0 from rfl] at hx154_1)
                        (try rw [Addr.add_zero'] at hx154_1)
                        replace p154 := eq_true p154
                        replace q154 := eq_true q154
                        go_wp2
                        (try rw [Exit.noGoto_ret])
                        go_ret
                        exact ⟨_, by first | rfl | (simp [errW_none, errW_some] <;> rfl) | (simp only [← hji55]; first | rfl | (simp [errW_none, errW_some] <;> rfl)) | (simp [*, errW_none, errW_some] <;> rfl), by (with_reducible repeat (first | apply Kd.S_alloc | apply Kd.S_drewN | apply Kd.S_drew)); exact HO_2.out, by repeat (first | (with_reducible first | exact HB.out | apply below_alloc | apply pw_below_drewN | apply below_drew1) | exact HB.out)⟩
                    · rw [if_neg c59] at H
                      exact absurd H (by simp)
                  · rw [if_neg c58] at H
                    have c58b0 : (((rd_L8 x2_48 (ji55)).length : Int) == 1) = false := beq_eq_false_iff_ne.mpr c58
                    have c58b1 : (((rd_L8 x2_48 (ji55)).length : Int) != 1) = true := bne_iff_ne.mpr c58
                    obtain rfl := Option.some.inj H
                    obtain ⟨Ao65, co65, eo65⟩ := Kd.S_slice HO_2.out
                    subst eo65
                    have p153 : 0 ≤ ((ji55) : Int) := of_decide_eq_true (by first | (with_reducible assumption) | assumption)
                    have q153 : (ji55) < (x2_48.length : Int) := of_decide_eq_true (by first | (with_reducible assumption) | assumption)
                    obtain ⟨ad153, A153_0, c153_0, e153, hx153_0, hl153_0, hi153_0⟩ := at_L8 (Kd.S_reads' HO_2.out).2.2 (ji55) p153 q153
                    cases e153
                    obtain ⟨ce153, hce153, hMe153, hcc153⟩ := Kd.S_get HO_2.out [] (ji55) p153 (by first | exact q153 | exact of_decide_eq_true (by first | (with_reducible assumption) | assumption) | (have e_ := (Kd.S_reads' HO_2.out).1; omega))
                    obtain ⟨ve153_0, rfl, ge153_0⟩ := hMe153
                    have hv153_0 := hcc153 0 _ rfl
                    rw [Nat.add_zero, show ((Kd.slice 62 k62)).sz = 1 from rfl, Nat.mul_one] at hv153_0
                    replace hv153_0 := Option.some.inj (hv153_0.symm.trans hx153_0)
                    rw [hv153_0] at ge153_0
                    have HL153_0 := Aside0.mk (show Kd.R k62 62 _ _ _ _ (rd_L8 x2_48 (ji55)) from ge153_0)
                    clear hv153_0 ge153_0
                    clear hcc153 hce153
                    have HR153_0 := Aside0.mk hi153_0
                    have HC153_0 := Aside0.mk hl153_0
                    clear hi153_0 hl153_0
                    replace p153 := eq_true p153
                    replace q153 := eq_true q153
                    go_wp2
                    (try rw [Exit.noGoto_ret])
                    go_ret
                    exact ⟨_, by first | rfl | (simp [errW_none, errW_some] <;> rfl) | (simp only [← hji55]; first | rfl | (simp [errW_none, errW_some] <;> rfl)) | (simp [*, errW_none, errW_some] <;> rfl), by (with_reducible repeat (first | apply Kd.S_alloc | apply Kd.S_drewN | apply Kd.S_drew)); exact HO_2.out, by repeat (first | (with_reducible first | exact HB.out | apply below_alloc | apply pw_below_drewN | apply below_drew1) | exact HB.out)⟩
                · rw [if_neg c57] at H
                  exact absurd H (by simp)
              · rw [if_neg c56] at H
                exact absurd H (by simp)
            · rw [if_neg c54] at H
              have c54b0 : decide (0 < (x2_48.length : Int)) = false := decide_eq_false c54
              have c54b1 : decide (0 < x2_48.length) = false := decide_eq_false (by omega)
              clear c54
              obtain rfl := Option.some.inj H
              obtain ⟨Ao66, co66, eo66⟩ := Kd.S_slice HO_2.out
              subst eo66
              go_wp2
              (try rw [Exit.noGoto_ret])
              go_ret
              exact ⟨_, by first | rfl | (simp [errW_none, errW_some] <;> rfl) | (simp [*, errW_none, errW_some] <;> rfl), by (with_reducible repeat (first | apply Kd.S_alloc | apply Kd.S_drewN | apply Kd.S_drew)); exact HO_2.out, by repeat (first | (with_reducible first | exact HB.out | apply below_alloc | apply pw_below_drewN | apply below_drew1) | exact HB.out)⟩

/-! ### impl_SplitLines: function 15 -/
def impl_SplitLines.l0 : Nat → List (List (S30)) → List (List (S62)) → Int → Int → Option ((List (List (S30))))
  | 0, _, _, _, _ => none
  | k + 1, x3, x8, x9, x10 => if x10 < x9 then (if 0 ≤ x10 then (if x10 < (x8.length : Int) then ((impl_outer.f k (rd_L8 x8 x10)).bind fun t165 => (if x3.length < 5864062014805 then (impl_SplitLines.l0 k (x3 ++ [t165]) x8 x9 (wrap64 (x10 + 1))) else (none))) else (none)) else (none)) else (some x3)
def impl_SplitLines.f (k : Nat) (l0 : List (S30)) : Option ((List (List (S30)))) := (impl_inner.f k l0).bind fun t158 => ((chroma_SplitTokensIntoLines.f k t158).bind fun t161 => (impl_SplitLines.l0 k ([] : List (List (S30))) t161 (t161.length : Int) 0))
theorem impl_SplitLines.mono_l : ∀ k, (∀ y0 y1 y2 y3, LeO (impl_SplitLines.l0 k y0 y1 y2 y3) (impl_SplitLines.l0 (k + 1) y0 y1 y2 y3))
  | 0 => fun _ _ _ _ r h => by simp [impl_SplitLines.l0] at h
  | k + 1 => by
    have ih0 := impl_SplitLines.mono_l k
    · intro y0 y1 y2 y3
      unfold impl_SplitLines.l0
      repeat' first
      | (with_reducible exact ih0 _ _ _ _)
      | (with_reducible exact chroma_SplitTokensIntoLines.mono _ _)
      | (with_reducible exact impl_inner.mono _ _)
      | (with_reducible exact impl_outer.mono _ _)
      | (with_reducible exact LeO.refl _)
      | (with_reducible exact LeO.none _)
      | (with_reducible refine LeO.ite ?_ ?_)
      | (with_reducible refine LeO.bind ?_ (fun _ => ?_))
      | exact ih0 _ _ _ _
      | exact chroma_SplitTokensIntoLines.mono _ _
      | exact impl_inner.mono _ _
      | exact impl_outer.mono _ _
      | exact LeO.none _
      | refine LeO.ite ?_ ?_
      | refine LeO.bind ?_ (fun _ => ?_)
theorem impl_SplitLines.mono : ∀ a0 k, LeO (impl_SplitLines.f k a0) (impl_SplitLines.f (k + 1) a0) := by
  intro a0 k
  have ih0 := impl_SplitLines.mono_l k
  unfold impl_SplitLines.f
  repeat' first
      | (with_reducible exact ih0 _ _ _ _)
      | (with_reducible exact chroma_SplitTokensIntoLines.mono _ _)
      | (with_reducible exact impl_inner.mono _ _)
      | (with_reducible exact impl_outer.mono _ _)
      | (with_reducible exact LeO.refl _)
      | (with_reducible exact LeO.none _)
      | (with_reducible refine LeO.ite ?_ ?_)
      | (with_reducible refine LeO.bind ?_ (fun _ => ?_))
      | exact ih0 _ _ _ _
      | exact chroma_SplitTokensIntoLines.mono _ _
      | exact impl_inner.mono _ _
      | exact impl_outer.mono _ _
      | exact LeO.none _
      | refine LeO.ite ?_ ?_
      | refine LeO.bind ?_ (fun _ => ?_)
set_option maxHeartbeats 8000000 in
set_option maxRecDepth 100000 in
theorem impl_SplitLines.calls (k : Nat) (A0 : Option Addr) (c0 : Nat) (l0 : List (S30)) (r : List (List (S30))) (w : World) (hr0 : Kd.C k30 w A0 l0.length l0) (hc0 : l0.length ≤ c0) (h : impl_SplitLines.f k l0 = some r) :
    Calls Tryd.prog 15 #[.slice A0 l0.length c0] w fun e w' => ∃ v0_ : Value, e = .returned (v0_) ∧ Kd.S (Kd.slice 30 k30) 23 w' w.heap.size (fun _ => True) v0_ r ∧ Below w.heap.size w w' := by
  have HR0 := Aside0.mk hr0
  have HC0 := Aside0.mk hc0
  clear hr0 hc0
  have HB := Aside0.mk (Below.refl w.heap.size w)
  have H : ((impl_inner.f k l0).bind fun t158 => ((chroma_SplitTokensIntoLines.f k t158).bind fun t161 => (impl_SplitLines.l0 k ([] : List (List (S30))) t161 (t161.length : Int) 0))) = some r := h
  clear h
  replace H := Option.bind_eq_some_iff.mp H
  obtain ⟨t158, A20, H⟩ := H
  replace H : ((chroma_SplitTokensIntoLines.f k t158).bind fun t161 => (impl_SplitLines.l0 k ([] : List (List (S30))) t161 (t161.length : Int) 0)) = some r := H
  have A2 := Aside0.mk A20
  clear A20
  replace H := Option.bind_eq_some_iff.mp H
  obtain ⟨t161, A30, H⟩ := H
  replace H : (impl_SplitLines.l0 k ([] : List (List (S30))) t161 (t161.length : Int) 0) = some r := H
  have A3 := Aside0.mk A30
  clear A30
  have H' := Aside0.mk H
  clear H
  go_enter Tryd.func15, Tryd.ntmps15
  go_wp2_with (first | ((with_reducible refine gate_callee (f := 23) rfl ?_); refine goesL_ (some 7) rfl rfl Tryd.func23 (by kernel_rfl) rfl #[.slice A0 l0.length c0] rfl (by (try simp only [List.map_toArray, List.map_cons, List.map_nil]); first | done | rfl | (simp only [List.length_drop, List.length_take]; rfl)) ?_; (with_reducible refine (impl_inner.calls k _ _ l0 t158 _ ?side1 ?side2 A2.out).mono ?_); (case side1 => repeat (first | exact HR0.out | (with_reducible refine Kd.C_alloc ?_ _) | (with_reducible refine Kd.C_drewN ?_ _) | (with_reducible refine Kd.C_drew ?_))); (case side2 => exact HC0.out); rintro e w4 ⟨v159, rfl, ho0, hb⟩; refine ⟨_, rfl, ?_⟩; have n0_ := Aside0.mk (Kd.R_lower ho0 (below_size (by repeat (first | (with_reducible first | exact HB.out | apply below_alloc | apply pw_below_drewN | apply below_drew1) | exact HB.out)))); have n1_ := Aside0.mk (below_step (by repeat (first | (with_reducible first | exact HB.out | apply below_alloc | apply pw_below_drewN | apply below_drew1) | exact HB.out)) hb); clear HB; have HO160 := n0_; have HB := n1_; clear n0_ n1_; (try clear hb); (try clear hb2); (try clear hk); (try clear hi); (try clear ho0); obtain ⟨Ao5, co5, eo5⟩ := Kd.R_slice HO160.out; subst eo5) | ((with_reducible refine gate_callee (f := 24) rfl ?_); refine goesL_ (some 8) rfl rfl Tryd.func24 (by kernel_rfl) rfl #[.slice Ao5 t158.length co5] rfl (by (try simp only [List.map_toArray, List.map_cons, List.map_nil]); first | done | rfl | (simp only [List.length_drop, List.length_take]; rfl)) ?_; (with_reducible refine (chroma_SplitTokensIntoLines.calls k _ _ t158 t161 _ ?side1 ?side2 A3.out).mono ?_); (case side1 => repeat (first | exact (Kd.R_reads' HO160.out).2.2 | (with_reducible refine Kd.C_alloc ?_ _) | (with_reducible refine Kd.C_drewN ?_ _) | (with_reducible refine Kd.C_drew ?_))); (case side2 => exact (Kd.R_reads' HO160.out).2.1); rintro e w6 ⟨v162, rfl, ho0, hb⟩; refine ⟨_, rfl, ?_⟩; have n0_ := Aside0.mk (Kd.R_below (by (with_reducible repeat (first | apply Kd.R_alloc | apply Kd.R_drewN | apply Kd.R_drew)); exact HO160.out) hb); have n1_ := Aside0.mk (Kd.S_lower (Kd.S_new' ho0 (Kd.R_lt (by (with_reducible repeat (first | apply Kd.R_alloc | apply Kd.R_drewN | apply Kd.R_drew)); exact HO160.out))) (below_size (by repeat (first | (with_reducible first | exact HB.out | apply below_alloc | apply pw_below_drewN | apply below_drew1) | exact HB.out)))); have n2_ := Aside0.mk (below_step (by repeat (first | (with_reducible first | exact HB.out | apply below_alloc | apply pw_below_drewN | apply below_drew1) | exact HB.out)) hb); clear HO160; clear HB; have HO160 := n0_; have HO163 := n1_; have HB := n2_; clear n0_ n1_ n2_; (try clear hb); (try clear hb2); (try clear hk); (try clear hi); (try clear ho0); obtain ⟨Ao7, co7, eo7⟩ := Kd.S_slice HO163.out; subst eo7))
  go_loopg [3, 10] k (fun kq v3 v10 w' => ∃ (x3_1 : List (List (S30))) (x10_1 : Int), v10 = .int .i64 x10_1 ∧ Aside0 (impl_SplitLines.l0 kq x3_1 t161 (t161.length : Int) x10_1 = some r) ∧ Aside0 (kq ≤ k) ∧ Aside0 (Kd.S (Kd.slice 30 k30) 23 w' w.heap.size (fun _ => True) v3 x3_1) ∧ Aside0 (Kd.S (Kd.slice 62 k62) 51 w' w.heap.size (fun _ => True) (.slice Ao7 t161.length co7) t161) ∧ Aside0 (Below w.heap.size w w'))
  case atStart => exact ⟨(([] : List (List (S30)))), (0), (by first | rfl | (simp; done) | (simp [*]; done)), H', ⟨Nat.le_refl _⟩, ⟨by first | exact Kd.S_nil _ _ _ _ _ | exact Kd.N_nil _ _ _ _ _ | exact Kd.V_nil _ _ _ _ _ | exact Kd.Q_nil _ _ _ _ _ | exact Kd.R_nil _ _ _ _ _⟩, ⟨by (with_reducible repeat (first | apply Kd.S_alloc | apply Kd.S_drewN | apply Kd.S_drew)); exact Kd.S_mono HO163.out (fun _ hk => trivial)⟩, ⟨by repeat (first | (with_reducible first | exact HB.out | apply below_alloc | apply pw_below_drewN | apply below_drew1) | exact HB.out)⟩⟩
  case round =>
    clear H'
    try clear c1
    try clear c2
    try clear p2
    obtain ⟨x3_1, x10_1, rfl, HA, HK1, HO_3, HO_8, HB⟩ := hrel
    cases gk with
    | zero => exact absurd HA.out (by simp [impl_SplitLines.l0])
    | succ k1 =>
      have H := HA.out
      clear HA
      simp only [impl_SplitLines.l0] at H
      by_cases c8 : x10_1 < (t161.length : Int)
      · rw [if_pos c8] at H
        have c8b0 : decide (x10_1 < (t161.length : Int)) = true := decide_eq_true c8
        clear c8
        by_cases c9 : 0 ≤ x10_1
        · rw [if_pos c9] at H
          have c9b0 : decide (0 ≤ x10_1) = true := decide_eq_true c9
          clear c9
          by_cases c10 : x10_1 < (t161.length : Int)
          · rw [if_pos c10] at H
            have c10b0 : decide (x10_1 < (t161.length : Int)) = true := decide_eq_true c10
            clear c10
            replace H := Option.bind_eq_some_iff.mp H
            obtain ⟨t165, A110, H⟩ := H
            replace H : (if x3_1.length < 5864062014805 then (impl_SplitLines.l0 k1 (x3_1 ++ [t165]) t161 (t161.length : Int) (wrap64 (x10_1 + 1))) else (none)) = some r := H
            have A11 := Aside0.mk A110
            clear A110
            by_cases c12 : x3_1.length < 5864062014805
            · rw [if_pos c12] at H
              have LMc12 := Aside0.mk c12
              clear c12
              obtain ⟨y168, hy168⟩ : ∃ y_ : List (List (S30)), y_ = (x3_1 ++ [t165]) := ⟨_, rfl⟩
              replace H : (impl_SplitLines.l0 k1 y168 t161 (t161.length : Int) (wrap64 (x10_1 + 1))) = some r := by first | (rw [hy168]; with_reducible exact H) | (have H2_ := (Option.bind_some _ _).symm.trans H; rw [hy168]; with_reducible exact H2_) | (have H2_ := (Option.bind_some _ _).symm.trans H; with_reducible exact H2_) | with_reducible exact H | (rw [hy168]; exact H) | exact H
              have Ny168 := Aside0.mk hy168
              clear hy168
              have H' := Aside0.mk H
              clear H
              have p164 : 0 ≤ (x10_1 : Int) := of_decide_eq_true (by first | (with_reducible assumption) | assumption)
              have q164 : x10_1 < (t161.length : Int) := of_decide_eq_true (by first | (with_reducible assumption) | assumption)
              obtain ⟨ad164, A164_0, c164_0, e164, hx164_0, hl164_0, hi164_0⟩ := at_L8 (Kd.S_reads' HO_8.out).2.2 x10_1 p164 q164
              cases e164
              obtain ⟨ce164, hce164, hMe164, hcc164⟩ := Kd.S_get HO_8.out [] x10_1 p164 (by first | exact q164 | exact of_decide_eq_true (by first | (with_reducible assumption) | assumption) | (have e_ := (Kd.S_reads' HO_8.out).1; omega))
              obtain ⟨ve164_0, rfl, ge164_0⟩ := hMe164
              have hv164_0 := hcc164 0 _ rfl
              rw [Nat.add_zero, show ((Kd.slice 62 k62)).sz = 1 from rfl, Nat.mul_one] at hv164_0
              replace hv164_0 := Option.some.inj (hv164_0.symm.trans hx164_0)
              rw [hv164_0] at ge164_0
              have HL164_0 := Aside0.mk (show Kd.R k62 62 _ _ _ _ (rd_L8 t161 x10_1) from ge164_0)
              clear hv164_0 ge164_0
              clear hcc164 hce164
              have HR164_0 := Aside0.mk hi164_0
              have HC164_0 := Aside0.mk hl164_0
              clear hi164_0 hl164_0
              replace p164 := eq_true p164
              replace q164 := eq_true q164
              go_wp2_with (first | ((with_reducible refine gate_callee (f := 19) rfl ?_); refine goesL_ (some 16) rfl rfl Tryd.func19 (by kernel_rfl) rfl #[.slice A164_0 (rd_L8 t161 x10_1).length c164_0] rfl (by (try simp only [List.map_toArray, List.map_cons, List.map_nil]); first | done | rfl | (simp only [List.length_drop, List.length_take]; rfl)) ?_; (with_reducible refine (impl_outer.calls k1 _ _ (rd_L8 t161 x10_1) t165 _ ?side1 ?side2 A11.out).mono ?_); (case side1 => repeat (first | exact (by repeat (first | (with_reducible exact HR164_0.out) | (with_reducible refine Kd.C_alloc ?_ _) | (with_reducible refine Kd.C_drewN ?_ _) | (with_reducible refine Kd.C_drew ?_) | exact HR164_0.out)) | (with_reducible refine Kd.C_alloc ?_ _) | (with_reducible refine Kd.C_drewN ?_ _) | (with_reducible refine Kd.C_drew ?_))); (case side2 => exact HC164_0.out); rintro e w13 ⟨v166, rfl, ho0, hb⟩; refine ⟨_, rfl, ?_⟩; have n0_ := Aside0.mk (Kd.S_elder' (by (with_reducible repeat (first | apply Kd.S_alloc | apply Kd.S_drewN | apply Kd.S_drew)); exact HO_3.out) (Kd.R_base ho0) hb); have n1_ := Aside0.mk (Kd.S_below (by (with_reducible repeat (first | apply Kd.S_alloc | apply Kd.S_drewN | apply Kd.S_drew)); exact HO_8.out) hb); have n2_ := Aside0.mk (Kd.R_below (by (with_reducible repeat (first | apply Kd.R_alloc | apply Kd.R_drewN | apply Kd.R_drew)); exact HL164_0.out) hb); have n3_ := Aside0.mk (Kd.R_lower ho0 (below_size (by repeat (first | (with_reducible first | exact HB.out | apply below_alloc | apply pw_below_drewN | apply below_drew1) | exact HB.out)))); have n4_ := Aside0.mk (Kd.C_below (by repeat (first | (with_reducible exact HR164_0.out) | (with_reducible refine Kd.C_alloc ?_ _) | (with_reducible refine Kd.C_drewN ?_ _) | (with_reducible refine Kd.C_drew ?_) | exact HR164_0.out)) hb); have n5_ := Aside0.mk (below_step (by repeat (first | (with_reducible first | exact HB.out | apply below_alloc | apply pw_below_drewN | apply below_drew1) | exact HB.out)) hb); clear HO_3; clear HO_8; clear HL164_0; clear HR164_0; clear HB; have HO_3 := n0_; have HO_8 := n1_; have HL164_0 := n2_; have HO167 := n3_; have HR164_0 := n4_; have HB := n5_; clear n0_ n1_ n2_ n3_ n4_ n5_; (try clear hb); (try clear hb2); (try clear hk); (try clear hi); (try clear ho0); obtain ⟨Ao15, co15, eo15⟩ := Kd.R_slice HO167.out; subst eo15) | ((with_reducible refine gate_builtin (b := .append) (xs := #[.tmp 14, .tmp 17]) rfl ?_); at_builtin; refine Kd.S_append (Kd.slice 30 k30) (w0 := w) w.heap.size rfl (.tmp 14) (.tmp 17) 47 23 (.slice none 0 0) 24 rfl Tryd.underlying47 info23 rfl (by decide) (by omega) u3 x3_1 t165 [.slice Ao15 t165.length co15] (fun _ => True) (fun k_ => some k_ = (.slice Ao15 t165.length co15 : Value).ownBlock) rfl rfl ?aP (fun k_ hk_ => ((Kd.R_mono (ok' := fun k_ => ((fun _ => True)) k_ ∧ some k_ ≠ (u3 : Value).ownBlock) (Kd.R_apart' (HO167.out) (Kd.S_typed HO_3.out) (by decide)) (fun k_ hk => ⟨trivial, hk.2⟩))).1 k_ hk_.symm) ?aF ?aO ?aB ?aS ?aL ?_; (case aP => exact Kd.M_row (Kd.R_mono (Kd.R_tight rfl (Kd.R_mono (ok' := fun k_ => ((fun _ => True)) k_ ∧ some k_ ≠ (u3 : Value).ownBlock) (Kd.R_apart' (HO167.out) (Kd.S_typed HO_3.out) (by decide)) (fun k_ hk => ⟨trivial, hk.2⟩))) (fun _ h_ => h_))); (case aB => exact (by repeat (first | (with_reducible first | exact HB.out | apply below_alloc | apply pw_below_drewN | apply below_drew1) | exact HB.out))); (case aF => exact (fun _ _ => trivial)); (case aO => exact (by (with_reducible repeat (first | apply Kd.S_alloc | apply Kd.S_drewN | apply Kd.S_drew)); exact Kd.S_mono HO_3.out (fun k_ hk => ⟨trivial, fun e_ => hk.2 e_⟩))); (case aS => exact (below_size (by repeat (first | (with_reducible first | exact HB.out | apply below_alloc | apply pw_below_drewN | apply below_drew1) | exact HB.out)))); (case aL => have := LMc12.out; omega); intro v169 w14 ho hb hg hat; rw [← Ny168.out] at ho; have n0_ := Aside0.mk (Kd.S_over' (by (with_reducible repeat (first | apply Kd.S_alloc | apply Kd.S_drewN | apply Kd.S_drew)); exact HO_8.out) (Kd.S_typed (by (with_reducible repeat (first | apply Kd.S_alloc | apply Kd.S_drewN | apply Kd.S_drew)); exact HO_3.out)) (by decide) hg); have n1_ := Aside0.mk (Kd.R_over' (by (with_reducible repeat (first | apply Kd.R_alloc | apply Kd.R_drewN | apply Kd.R_drew)); exact HL164_0.out) (Kd.S_typed (by (with_reducible repeat (first | apply Kd.S_alloc | apply Kd.S_drewN | apply Kd.S_drew)); exact HO_3.out)) (by decide) hg); have n2_ := Aside0.mk (hb); have n3_ := Aside0.mk (ho); clear HO_8; clear HL164_0; clear HB; clear HO_3; clear HO167; have HO_8 := n0_; have HL164_0 := n1_; have HB := n2_; have HO170 := n3_; clear n0_ n1_ n2_ n3_; clear ho hb hg hat))
              go_roundg k1
              case measure => have := HK1.out; omega
              case rel => exact ⟨(y168), (wrap64 (x10_1 + 1)), (by first | rfl | (simp; done) | (simp [*]; done)), H', ⟨by have := HK1.out; omega⟩, ⟨by (with_reducible repeat (first | apply Kd.S_alloc | apply Kd.S_drewN | apply Kd.S_drew)); exact HO170.out⟩, ⟨by (with_reducible repeat (first | apply Kd.S_alloc | apply Kd.S_drewN | apply Kd.S_drew)); exact HO_8.out⟩, ⟨by repeat (first | (with_reducible first | exact HB.out | apply below_alloc | apply pw_below_drewN | apply below_drew1) | exact HB.out)⟩⟩
            · rw [if_neg c12] at H
              exact absurd H (by simp)
          · rw [if_neg c10] at H
            exact absurd H (by simp)
        · rw [if_neg c9] at H
          exact absurd H (by simp)
      · rw [if_neg c8] at H
        have c8b0 : decide (x10_1 < (t161.length : Int)) = false := decide_eq_false c8
        clear c8
        obtain rfl := Option.some.inj H
        go_wp2
        go_ret
        exact ⟨_, by first | rfl | (simp [errW_none, errW_some] <;> rfl) | (simp [*, errW_none, errW_some] <;> rfl), by (with_reducible repeat (first | apply Kd.S_alloc | apply Kd.S_drewN | apply Kd.S_drew)); exact HO_3.out, by repeat (first | (with_reducible first | exact HB.out | apply below_alloc | apply pw_below_drewN | apply below_drew1) | exact HB.out)⟩

/-! ### laws_text: function 16 -/
def laws_text.l0 : Nat → List Int → List (S30) → Int → Int → Option (ByteArray)
  | 0, _, _, _, _ => none
  | k + 1, x3, x6, x7, x8 => if x8 < x7 then (if 0 ≤ x8 then (if x8 < (x6.length : Int) then (if x3.length + ((rd_T30 x6 x8).f1).size < 140737488355328 then (laws_text.l0 k (x3 ++ bytesOf ((rd_T30 x6 x8).f1)) x6 x7 (wrap64 (x8 + 1))) else (none)) else (none)) else (none)) else (some (strOfNums x3))
def laws_text.f (k : Nat) (l0 : List (S30)) : Option (ByteArray) := laws_text.l0 k ([] : List Int) l0 (l0.length : Int) 0
theorem laws_text.mono_l : ∀ k, (∀ y0 y1 y2 y3, LeO (laws_text.l0 k y0 y1 y2 y3) (laws_text.l0 (k + 1) y0 y1 y2 y3))
  | 0 => fun _ _ _ _ r h => by simp [laws_text.l0] at h
  | k + 1 => by
    have ih0 := laws_text.mono_l k
    · intro y0 y1 y2 y3
      unfold laws_text.l0
      repeat' first
      | (with_reducible exact ih0 _ _ _ _)
      | (with_reducible exact LeO.refl _)
      | (with_reducible exact LeO.none _)
      | (with_reducible refine LeO.ite ?_ ?_)
      | (with_reducible refine LeO.bind ?_ (fun _ => ?_))
      | exact ih0 _ _ _ _
      | exact LeO.none _
      | refine LeO.ite ?_ ?_
      | refine LeO.bind ?_ (fun _ => ?_)
theorem laws_text.mono : ∀ a0 k, LeO (laws_text.f k a0) (laws_text.f (k + 1) a0) := by
  intro a0 k
  have ih0 := laws_text.mono_l k
  unfold laws_text.f
  repeat' first
      | (with_reducible exact ih0 _ _ _ _)
      | (with_reducible exact LeO.refl _)
      | (with_reducible exact LeO.none _)
      | (with_reducible refine LeO.ite ?_ ?_)
      | (with_reducible refine LeO.bind ?_ (fun _ => ?_))
      | exact ih0 _ _ _ _
      | exact LeO.none _
      | refine LeO.ite ?_ ?_
      | refine LeO.bind ?_ (fun _ => ?_)
set_option maxHeartbeats 8000000 in
set_option maxRecDepth 100000 in
theorem laws_text.calls (k : Nat) (A0 : Option Addr) (c0 : Nat) (l0 : List (S30)) (r : ByteArray) (w : World) (hr0 : Kd.C k30 w A0 l0.length l0) (hc0 : l0.length ≤ c0) (h : laws_text.f k l0 = some r) :
    Calls Tryd.prog 16 #[.slice A0 l0.length c0] w fun e w' => e = .returned (.string r) ∧ Below w.heap.size w w' := by
  have hu30 := Tryd.underlying30
  have HR0 := Aside0.mk hr0
  have HC0 := Aside0.mk hc0
  clear hr0 hc0
  have HB := Aside0.mk (Below.refl w.heap.size w)
  have H : (laws_text.l0 k ([] : List Int) l0 (l0.length : Int) 0) = some r := h
  clear h
  have H' := Aside0.mk H
  clear H
  go_enter Tryd.func16, Tryd.ntmps16
  go_wp2
  go_loopg [3, 8] k (fun kq v3 v8 w' => ∃ (x3_1 : List Int) (x8_1 : Int), v8 = .int .i64 x8_1 ∧ Aside0 (laws_text.l0 kq x3_1 l0 (l0.length : Int) x8_1 = some r) ∧ Aside0 (kq ≤ k) ∧ Aside0 (Kd.R (Kd.int .u8) 5 w' w.heap.size (fun _ => True) v3 x3_1) ∧ Aside0 (Below w.heap.size w w'))
  case atStart => exact ⟨(([] : List Int)), (0), (by first | rfl | (simp; done) | (simp [*]; done)), H', ⟨Nat.le_refl _⟩, ⟨by first | exact Kd.R_nil _ _ _ _ _ | exact Kd.N_nil _ _ _ _ _ | exact Kd.V_nil _ _ _ _ _ | exact Kd.Q_nil _ _ _ _ _ | exact Kd.S_nil _ _ _ _ _⟩, ⟨by repeat (first | (with_reducible first | exact HB.out | apply below_alloc | apply pw_below_drewN | apply below_drew1) | exact HB.out)⟩⟩
  case round =>
    clear H'
    try clear c1
    obtain ⟨x3_1, x8_1, rfl, HA, HK1, HO_3, HB⟩ := hrel
    cases gk with
    | zero => exact absurd HA.out (by simp [laws_text.l0])
    | succ k1 =>
      have H := HA.out
      clear HA
      simp only [laws_text.l0] at H
      by_cases c2 : x8_1 < (l0.length : Int)
      · rw [if_pos c2] at H
        have c2b0 : decide (x8_1 < (l0.length : Int)) = true := decide_eq_true c2
        clear c2
        by_cases c3 : 0 ≤ x8_1
        · rw [if_pos c3] at H
          have c3b0 : decide (0 ≤ x8_1) = true := decide_eq_true c3
          clear c3
          by_cases c4 : x8_1 < (l0.length : Int)
          · rw [if_pos c4] at H
            have c4b0 : decide (x8_1 < (l0.length : Int)) = true := decide_eq_true c4
            clear c4
            by_cases c5 : x3_1.length + ((rd_T30 l0 x8_1).f1).size < 140737488355328
            · rw [if_pos c5] at H
              have LMc5 := Aside0.mk c5
              clear c5
              obtain ⟨y173, hy173⟩ : ∃ y_ : List Int, y_ = (x3_1 ++ bytesOf ((rd_T30 l0 x8_1).f1)) := ⟨_, rfl⟩
              replace H : (laws_text.l0 k1 y173 l0 (l0.length : Int) (wrap64 (x8_1 + 1))) = some r := by first | (rw [hy173]; with_reducible exact H) | (have H2_ := (Option.bind_some _ _).symm.trans H; rw [hy173]; with_reducible exact H2_) | (have H2_ := (Option.bind_some _ _).symm.trans H; with_reducible exact H2_) | with_reducible exact H | (rw [hy173]; exact H) | exact H
              have Ny173 := Aside0.mk hy173
              clear hy173
              have H' := Aside0.mk H
              clear H
              have p171 : 0 ≤ (x8_1 : Int) := of_decide_eq_true (by first | (with_reducible assumption) | assumption)
              have q171 : x8_1 < (l0.length : Int) := of_decide_eq_true (by first | (with_reducible assumption) | assumption)
              obtain ⟨ad171, e171, hx171_0, hx171_1⟩ := at_T30 HR0.out x8_1 p171 q171
              cases e171
              replace hx171_0 := (HB.out.cell (World.block_lt_of_cell? w _ hx171_0)).trans hx171_0
              replace hx171_1 := (HB.out.cell (World.block_lt_of_cell? w _ hx171_1)).trans hx171_1
              replace p171 := eq_true p171
              replace q171 := eq_true q171
              go_wp2_with (first | ((with_reducible refine gate_dst (N := 5) rfl ?_); refine box_event ?hg (N := 5) ?hd (cs := #[.int .i64 0, .string (⟨#[]⟩ : ByteArray)]) (t := 30) ?hr ?_; (case hd => rfl); (case hg => rfl); (case hr => first | (go_simp; done) | (go_simp; rfl)); intro gb172 hg w6 hbox hb; have n0_ := Aside0.mk (Kd.R_below (by (with_reducible repeat (first | apply Kd.R_alloc | apply Kd.R_drewN | apply Kd.R_drew)); exact HO_3.out) hb); have n1_ := Aside0.mk (below_step (by repeat (first | (with_reducible first | exact HB.out | apply below_alloc | apply pw_below_drewN | apply below_drew1) | exact HB.out)) hb); have n2_ := Aside0.mk (hbox); have n3_ := Aside0.mk ((by rw [hg]; exact (below_size (by repeat (first | (with_reducible first | exact HB.out | apply below_alloc | apply pw_below_drewN | apply below_drew1) | exact HB.out))) : w.heap.size ≤ gb172)); have n4_ := Aside0.mk ((by rw [hg]; exact (below_size (by repeat (first | (with_reducible first | exact HB.out | apply below_alloc | apply pw_below_drewN | apply below_drew1) | exact HB.out))) : w.heap.size ≤ gb172)); clear HO_3; clear HB; have HO_3 := n0_; have HB := n1_; have BK172 := n2_; have GW172 := n3_; have GE172 := n4_; clear n0_ n1_ n2_ n3_ n4_; clear hb hbox hg; have hcz7_0 : w6.cell? ⟨gb172, 0, none⟩ = some (.int .i64 0) := (blk_cell BK172.out 0).trans rfl; have hcz7_1 : w6.cell? ⟨gb172, 1, none⟩ = some (.string (⟨#[]⟩ : ByteArray)) := (blk_cell BK172.out 1).trans rfl; have hfz7_0 := blk_frozen BK172.out 0; have hfz7_1 := blk_frozen BK172.out 1) | (at_builtin; refine print_append_str (w0 := w) w.heap.size rfl (.tmp 12) _ 76 9 5 rfl Tryd.underlying76 Tryd.underlying9 info5 u3 x3_1 ((rd_T30 l0 x8_1).f1) rfl rfl ?aO ?aB ?aS ?aL ?_; (case aB => exact (by repeat (first | (with_reducible first | exact HB.out | apply below_alloc | apply pw_below_drewN | apply below_drew1 | refine below_set ?_ GE172.out) | exact HB.out))); (case aO => exact (Kd.own_of_R (by (with_reducible repeat (first | apply Kd.R_alloc | apply Kd.R_drewN | apply Kd.R_drew)); exact Kd.R_mono (Kd.R_far (p := ⟨gb172, 1, none⟩) (Kd.R_far (p := ⟨gb172, 0, none⟩) (Kd.R_types HO_3.out BK172.out (by decide)) (fun _ hk => hk.2) (.int .i64 ((rd_T30 l0 x8_1).f0))) (fun _ hk => hk.2) (.string ((rd_T30 l0 x8_1).f1))) (fun _ hk => trivial)))); (case aS => exact (below_size (by repeat (first | (with_reducible first | exact HB.out | apply below_alloc | apply pw_below_drewN | apply below_drew1 | refine below_set ?_ GE172.out) | exact HB.out)))); (case aL => have := LMc5.out; omega); intro v174 w8 ho0 hb hg; have ho := Kd.R_of_own (h1 := fun _ => rfl) (ok := fun _ => True) ho0 (fun _ _ => trivial); clear ho0; have hat := True.intro; rw [← Ny173.out] at ho; change Kd.R (Kd.int .u8) 5 w8 w.heap.size (fun _ => True) v174 y173 at ho; have n0_ := Aside0.mk (blk_grown (g := gb172) (o := .cells #[.int .i64 ((rd_T30 l0 x8_1).f0), .string ((rd_T30 l0 x8_1).f1)] 30 (0, 0)) (by (with_reducible repeat (first | refine blk_drewN ?_ _ | refine blk_drew ?_ | refine blk_alloc ?_ _)); refine blk_put (cs := #[.int .i64 ((rd_T30 l0 x8_1).f0), .string (⟨#[]⟩ : ByteArray)]) ?_ 1 _ rfl; (with_reducible repeat (first | refine blk_drewN ?_ _ | refine blk_drew ?_ | refine blk_alloc ?_ _)); refine blk_put (cs := #[.int .i64 0, .string (⟨#[]⟩ : ByteArray)]) ?_ 0 _ rfl; (with_reducible repeat (first | refine blk_drewN ?_ _ | refine blk_drew ?_ | refine blk_alloc ?_ _)); exact BK172.out) hg (Kd.R_ne HO_3.out BK172.out (by decide))); have n1_ := Aside0.mk (hb); have n2_ := Aside0.mk (ho); clear BK172; clear HB; clear HO_3; have BK172 := n0_; have HB := n1_; have HO175 := n2_; clear n0_ n1_ n2_; clear ho hb hg hat))
              go_roundg k1
              case measure => have := HK1.out; omega
              case rel => exact ⟨(y173), (wrap64 (x8_1 + 1)), (by first | rfl | (simp; done) | (simp [*]; done)), H', ⟨by have := HK1.out; omega⟩, ⟨by (with_reducible repeat (first | apply Kd.R_alloc | apply Kd.R_drewN | apply Kd.R_drew)); exact HO175.out⟩, ⟨by repeat (first | (with_reducible first | exact HB.out | apply below_alloc | apply pw_below_drewN | apply below_drew1 | refine below_set ?_ GE172.out) | exact HB.out)⟩⟩
            · rw [if_neg c5] at H
              exact absurd H (by simp)
          · rw [if_neg c4] at H
            exact absurd H (by simp)
        · rw [if_neg c3] at H
          exact absurd H (by simp)
      · rw [if_neg c2] at H
        have c2b0 : decide (x8_1 < (l0.length : Int)) = false := decide_eq_false c2
        clear c2
        obtain rfl := Option.some.inj H
        have hcv9 := own_string (P := Tryd.prog) Tryd.underlying76 Tryd.underlying5 Tryd.underlying9 (Kd.own_of_R HO_3.out)
        go_wp2
        go_ret
        exact ⟨by first | rfl | (simp [errW_none, errW_some] <;> rfl) | (simp [*, errW_none, errW_some] <;> rfl), by repeat (first | (with_reducible first | exact HB.out | apply below_alloc | apply pw_below_drewN | apply below_drew1) | exact HB.out)⟩

end Go.Proofs.YtchkijfnhhldfaaDoor.R
