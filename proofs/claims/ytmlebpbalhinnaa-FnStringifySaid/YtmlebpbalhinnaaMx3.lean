-- WRITTEN BY OUR myprint.py, a program of this session's over the kit's printer
import Derived.Test.YtmlebpbalhinnaaMx0
import Derived.Test.YtmlebpbalhinnaaMx2
namespace Go.Proofs.Ytmlebpbalhinnaa.M
open Go.RowKit Go.Proofs.YtmlebpbalhinnaaW.PrintWords Go.Proofs.YtmlebpbalhinnaaW.PrintLast Go.Proofs.YtmlebpbalhinnaaW.PrintMore
attribute [local go_sem] max2_int min2_int max_two min_two max_three min_three max_four min_four   -- for this text's walks alone
set_option linter.unusedVariables false
set_option linter.unusedSimpArgs false

/-! ### chroma_SplitTokensIntoLines: function 20 -/
mutual
def chroma_SplitTokensIntoLines.l0 : Nat → List (List (S47)) → List (S47) → List (S47) → Int → Int → Option ((List (List (S47))))
  | 0, _, _, _, _, _ => none
  | k + 1, x2, x3, x9, x10, x11 => if x11 < x10 then (if 0 ≤ x11 then (if x11 < (x9.length : Int) then (chroma_SplitTokensIntoLines.l1 k x2 x3 x9 x10 x11 ((rd_T47 x9 x11).f0) ((rd_T47 x9 x11).f1)) else (none)) else (none)) else (if (x3.length : Int) > 0 then (if x2.length < 5864062014805 then (chroma_SplitTokensIntoLines.j2 k (x2 ++ [x3])) else (none)) else (chroma_SplitTokensIntoLines.j2 k x2))
def chroma_SplitTokensIntoLines.l1 : Nat → List (List (S47)) → List (S47) → List (S47) → Int → Int → Int → ByteArray → Option ((List (List (S47))))
  | 0, _, _, _, _, _, _, _ => none
  | k + 1, x2, x3, x9, x10, x11, x114000, x114001 => (chroma_zzContains.f k x114001 (⟨#[10]⟩ : ByteArray)).bind fun t114 => (if t114 = true then ((chroma_zzSplitAfter.f k x114001 (⟨#[10]⟩ : ByteArray)).bind fun t118 => (if 1 < (t118.length : Int) then ((chroma_Token_Clone.f x114000 (rdOf ByteArray.empty t118 1)).bind fun bt122 => (if 0 < (t118.length : Int) then (if x3.length < 5864062014805 then (if x2.length < 5864062014805 then ((some (x2 ++ [(x3 ++ [(⟨bt122.1, rdOf ByteArray.empty t118 0⟩ : S47)])] : List (List (S47)))).bind fun y129 => (if ((rdOf ByteArray.empty t118 1).size : Int) = 0 then (chroma_SplitTokensIntoLines.l0 k y129 ([] : List (S47)) x9 x10 (wrap64 (x11 + 1))) else (chroma_SplitTokensIntoLines.l1 k y129 ([] : List (S47)) x9 x10 x11 x114000 (rdOf ByteArray.empty t118 1)))) else (none)) else (none)) else (none))) else (none))) else (if x3.length < 5864062014805 then (chroma_SplitTokensIntoLines.l0 k x2 (x3 ++ [(⟨x114000, x114001⟩ : S47)]) x9 x10 (wrap64 (x11 + 1))) else (none)))
def chroma_SplitTokensIntoLines.j2 : Nat → List (List (S47)) → Option ((List (List (S47))))
  | 0, _ => none
  | k + 1, x2 => if (x2.length : Int) > 0 then (if 0 ≤ (wrap64 ((x2.length : Int) - 1)) then (if (wrap64 ((x2.length : Int) - 1)) < (x2.length : Int) then (if ((rd_L4 x2 (wrap64 ((x2.length : Int) - 1))).length : Int) = 1 then (if 0 < ((rd_L4 x2 (wrap64 ((x2.length : Int) - 1))).length : Int) then (if ((rd_T47 (rd_L4 x2 (wrap64 ((x2.length : Int) - 1))) 0).f1).toList = ([] : List UInt8) then (if (wrap64 ((x2.length : Int) - 1)) ≤ (x2.length : Int) then (some (x2.take ((wrap64 ((x2.length : Int) - 1)) : Int).toNat)) else (none)) else (some x2)) else (none)) else (some x2)) else (none)) else (none)) else (some x2)
end
def chroma_SplitTokensIntoLines.f (k : Nat) (l0 : List (S47)) : Option ((List (List (S47)))) := chroma_SplitTokensIntoLines.l0 k ([] : List (List (S47))) ([] : List (S47)) l0 (l0.length : Int) 0
theorem chroma_SplitTokensIntoLines.mono_l : ∀ k, (∀ y0 y1 y2 y3 y4, LeO (chroma_SplitTokensIntoLines.l0 k y0 y1 y2 y3 y4) (chroma_SplitTokensIntoLines.l0 (k + 1) y0 y1 y2 y3 y4)) ∧ (∀ y0 y1 y2 y3 y4 y5 y6, LeO (chroma_SplitTokensIntoLines.l1 k y0 y1 y2 y3 y4 y5 y6) (chroma_SplitTokensIntoLines.l1 (k + 1) y0 y1 y2 y3 y4 y5 y6)) ∧ (∀ y0, LeO (chroma_SplitTokensIntoLines.j2 k y0) (chroma_SplitTokensIntoLines.j2 (k + 1) y0))
  | 0 => ⟨fun _ _ _ _ _ r h => by simp [chroma_SplitTokensIntoLines.l0] at h, fun _ _ _ _ _ _ _ r h => by simp [chroma_SplitTokensIntoLines.l1] at h, fun _ r h => by simp [chroma_SplitTokensIntoLines.j2] at h⟩
  | k + 1 => by
    obtain ⟨ih0, ih1, ih2⟩ := chroma_SplitTokensIntoLines.mono_l k
    refine ⟨?_, ?_, ?_⟩
    · intro y0 y1 y2 y3 y4
      unfold chroma_SplitTokensIntoLines.l0
      repeat' first
      | (with_reducible exact ih0 _ _ _ _ _)
      | (with_reducible exact ih1 _ _ _ _ _ _ _)
      | (with_reducible exact ih2 _)
      | (with_reducible exact chroma_zzContains.mono _ _ _)
      | (with_reducible exact chroma_zzSplitAfter.mono _ _ _)
      | (with_reducible exact LeO.refl _)
      | (with_reducible exact LeO.none _)
      | (with_reducible refine LeO.ite ?_ ?_)
      | (with_reducible refine LeO.bind ?_ (fun _ => ?_))
      | exact ih0 _ _ _ _ _
      | exact ih1 _ _ _ _ _ _ _
      | exact ih2 _
      | exact chroma_zzContains.mono _ _ _
      | exact chroma_zzSplitAfter.mono _ _ _
      | exact LeO.none _
      | refine LeO.ite ?_ ?_
      | refine LeO.bind ?_ (fun _ => ?_)
    · intro y0 y1 y2 y3 y4 y5 y6
      unfold chroma_SplitTokensIntoLines.l1
      repeat' first
      | (with_reducible exact ih0 _ _ _ _ _)
      | (with_reducible exact ih1 _ _ _ _ _ _ _)
      | (with_reducible exact ih2 _)
      | (with_reducible exact chroma_zzContains.mono _ _ _)
      | (with_reducible exact chroma_zzSplitAfter.mono _ _ _)
      | (with_reducible exact LeO.refl _)
      | (with_reducible exact LeO.none _)
      | (with_reducible refine LeO.ite ?_ ?_)
      | (with_reducible refine LeO.bind ?_ (fun _ => ?_))
      | exact ih0 _ _ _ _ _
      | exact ih1 _ _ _ _ _ _ _
      | exact ih2 _
      | exact chroma_zzContains.mono _ _ _
      | exact chroma_zzSplitAfter.mono _ _ _
      | exact LeO.none _
      | refine LeO.ite ?_ ?_
      | refine LeO.bind ?_ (fun _ => ?_)
    · intro y0
      unfold chroma_SplitTokensIntoLines.j2
      repeat' first
      | (with_reducible exact ih0 _ _ _ _ _)
      | (with_reducible exact ih1 _ _ _ _ _ _ _)
      | (with_reducible exact ih2 _)
      | (with_reducible exact chroma_zzContains.mono _ _ _)
      | (with_reducible exact chroma_zzSplitAfter.mono _ _ _)
      | (with_reducible exact LeO.refl _)
      | (with_reducible exact LeO.none _)
      | (with_reducible refine LeO.ite ?_ ?_)
      | (with_reducible refine LeO.bind ?_ (fun _ => ?_))
      | exact ih0 _ _ _ _ _
      | exact ih1 _ _ _ _ _ _ _
      | exact ih2 _
      | exact chroma_zzContains.mono _ _ _
      | exact chroma_zzSplitAfter.mono _ _ _
      | exact LeO.none _
      | refine LeO.ite ?_ ?_
      | refine LeO.bind ?_ (fun _ => ?_)
theorem chroma_SplitTokensIntoLines.mono : ∀ a0 k, LeO (chroma_SplitTokensIntoLines.f k a0) (chroma_SplitTokensIntoLines.f (k + 1) a0) := by
  intro a0 k
  obtain ⟨ih0, ih1, ih2⟩ := chroma_SplitTokensIntoLines.mono_l k
  unfold chroma_SplitTokensIntoLines.f
  repeat' first
      | (with_reducible exact ih0 _ _ _ _ _)
      | (with_reducible exact ih1 _ _ _ _ _ _ _)
      | (with_reducible exact ih2 _)
      | (with_reducible exact chroma_zzContains.mono _ _ _)
      | (with_reducible exact chroma_zzSplitAfter.mono _ _ _)
      | (with_reducible exact LeO.refl _)
      | (with_reducible exact LeO.none _)
      | (with_reducible refine LeO.ite ?_ ?_)
      | (with_reducible refine LeO.bind ?_ (fun _ => ?_))
      | exact ih0 _ _ _ _ _
      | exact ih1 _ _ _ _ _ _ _
      | exact ih2 _
      | exact chroma_zzContains.mono _ _ _
      | exact chroma_zzSplitAfter.mono _ _ _
      | exact LeO.none _
      | refine LeO.ite ?_ ?_
      | refine LeO.bind ?_ (fun _ => ?_)
set_option maxHeartbeats 8000000 in
set_option maxRecDepth 100000 in
theorem chroma_SplitTokensIntoLines.calls (k : Nat) (A0 : Option Addr) (c0 : Nat) (l0 : List (S47)) (r : List (List (S47))) (w : World) (hr0 : Kd.C k47 w A0 l0.length l0) (hc0 : l0.length ≤ c0) (h : chroma_SplitTokensIntoLines.f k l0 = some r) :
    Calls Try.prog 20 #[.slice A0 l0.length c0] w fun e w' => ∃ v0_ : Value, e = .returned (v0_) ∧ Kd.S (Kd.slice 47 k47) 40 w' w.heap.size (fun _ => True) v0_ r ∧ Below w.heap.size w w' := by
  have hu47 := Try.underlying47
  have HR0 := Aside0.mk hr0
  have HC0 := Aside0.mk hc0
  clear hr0 hc0
  have HB := Aside0.mk (Below.refl w.heap.size w)
  have H : (chroma_SplitTokensIntoLines.l0 k ([] : List (List (S47))) ([] : List (S47)) l0 (l0.length : Int) 0) = some r := h
  clear h
  have H' := Aside0.mk H
  clear H
  go_enter Try.func20, Try.ntmps20
  repeat (go_wp2; go_step3)
  go_wp2
  go_loopg [2, 3, 11] k (fun kq v2 v3 v11 w' => ∃ (x2_1 : List (List (S47))) (x3_1 : List (S47)) (x11_1 : Int), v11 = .int .i64 x11_1 ∧ Aside0 (chroma_SplitTokensIntoLines.l0 kq x2_1 x3_1 l0 (l0.length : Int) x11_1 = some r) ∧ Aside0 (kq ≤ k) ∧ Aside0 (Kd.S (Kd.slice 47 k47) 40 w' w.heap.size (fun k_ => some k_ ≠ (v3 : Value).ownBlock) v2 x2_1) ∧ Aside0 (Kd.R k47 47 w' w.heap.size (fun _ => True) v3 x3_1) ∧ Aside0 (Below w.heap.size w w'))
  case atStart => exact ⟨(([] : List (List (S47)))), (([] : List (S47))), (0), (by first | rfl | (simp; done) | (simp [*]; done)), H', ⟨Nat.le_refl _⟩, ⟨by first | exact Kd.S_nil _ _ _ _ _ | exact Kd.N_nil _ _ _ _ _ | exact Kd.V_nil _ _ _ _ _ | exact Kd.Q_nil _ _ _ _ _ | exact Kd.R_nil _ _ _ _ _⟩, ⟨by first | exact Kd.R_nil _ _ _ _ _ | exact Kd.N_nil _ _ _ _ _ | exact Kd.V_nil _ _ _ _ _ | exact Kd.Q_nil _ _ _ _ _ | exact Kd.S_nil _ _ _ _ _⟩, ⟨by repeat (first | (with_reducible first | exact HB.out | apply below_alloc | apply pw_below_drewN | apply below_drew1) | exact HB.out)⟩⟩
  case round =>
    clear H'
    obtain ⟨x2_1, x3_1, x11_1, rfl, HA, HK1, HO_2, HO_3, HB⟩ := hrel
    cases gk with
    | zero => exact absurd HA.out (by simp [chroma_SplitTokensIntoLines.l0])
    | succ k1 =>
      have H := HA.out
      clear HA
      simp only [chroma_SplitTokensIntoLines.l0] at H
      by_cases c2 : x11_1 < (l0.length : Int)
      · rw [if_pos c2] at H
        have c2b0 : decide (x11_1 < (l0.length : Int)) = true := decide_eq_true c2
        clear c2
        by_cases c3 : 0 ≤ x11_1
        · rw [if_pos c3] at H
          have c3b0 : decide (0 ≤ x11_1) = true := decide_eq_true c3
          clear c3
          by_cases c4 : x11_1 < (l0.length : Int)
          · rw [if_pos c4] at H
            have c4b0 : decide (x11_1 < (l0.length : Int)) = true := decide_eq_true c4
            clear c4
            have H' := Aside0.mk H
            clear H
            have p112 : 0 ≤ (x11_1 : Int) := of_decide_eq_true (by first | (with_reducible assumption) | assumption)
            have q112 : x11_1 < (l0.length : Int) := of_decide_eq_true (by first | (with_reducible assumption) | assumption)
            obtain ⟨ad112, e112, hx112_0, hx112_1⟩ := at_T47 HR0.out x11_1 p112 q112
            cases e112
            replace hx112_0 := (HB.out.cell (World.block_lt_of_cell? w _ hx112_0)).trans hx112_0
            replace hx112_1 := (HB.out.cell (World.block_lt_of_cell? w _ hx112_1)).trans hx112_1
            replace p112 := eq_true p112
            replace q112 := eq_true q112
            go_wp2_with (first | ((with_reducible refine gate_dst (N := 5) rfl ?_); refine box_event ?hg (N := 5) ?hd (cs := #[.int .i64 0, .string (⟨#[]⟩ : ByteArray)]) (t := 47) ?hr ?_; (case hd => rfl); (case hg => rfl); (case hr => first | (go_simp; done) | (go_simp; rfl)); intro gb113 hg w5 hbox hb; have n0_ := Aside0.mk (Kd.S_below (Kd.S_elderB (by (with_reducible repeat (first | apply Kd.S_alloc | apply Kd.S_drewN | apply Kd.S_drew)); exact HO_2.out) gb113 (Nat.le_of_eq hg.symm)) hb); have n1_ := Aside0.mk (Kd.R_below (Kd.R_elderB (by (with_reducible repeat (first | apply Kd.R_alloc | apply Kd.R_drewN | apply Kd.R_drew)); exact HO_3.out) gb113 (Nat.le_of_eq hg.symm)) hb); have n2_ := Aside0.mk (below_step (by repeat (first | (with_reducible first | exact HB.out | apply below_alloc | apply pw_below_drewN | apply below_drew1) | exact HB.out)) hb); have n3_ := Aside0.mk (hbox); have n4_ := Aside0.mk ((by rw [hg]; exact (below_size (by repeat (first | (with_reducible first | exact HB.out | apply below_alloc | apply pw_below_drewN | apply below_drew1) | exact HB.out))) : w.heap.size ≤ gb113)); have n5_ := Aside0.mk ((by rw [hg]; exact (below_size (by repeat (first | (with_reducible first | exact HB.out | apply below_alloc | apply pw_below_drewN | apply below_drew1) | exact HB.out))) : w.heap.size ≤ gb113)); clear HO_2; clear HO_3; clear HB; have HO_2 := n0_; have HO_3 := n1_; have HB := n2_; have BK113 := n3_; have GW113 := n4_; have GE113 := n5_; clear n0_ n1_ n2_ n3_ n4_ n5_; clear hb hbox hg; have hcz6_0 : w5.cell? ⟨gb113, 0, none⟩ = some (.int .i64 0) := (blk_cell BK113.out 0).trans rfl; have hcz6_1 : w5.cell? ⟨gb113, 1, none⟩ = some (.string (⟨#[]⟩ : ByteArray)) := (blk_cell BK113.out 1).trans rfl; have hfz6_0 := blk_frozen BK113.out 0; have hfz6_1 := blk_frozen BK113.out 1))
            go_loopg [2, 3] k1 (fun kq v2 v3 w' => ∃ (x2_2 : List (List (S47))) (x3_2 : List (S47)) (x114001_2 : ByteArray), Aside0 (chroma_SplitTokensIntoLines.l1 kq x2_2 x3_2 l0 (l0.length : Int) x11_1 ((rd_T47 l0 x11_1).f0) x114001_2 = some r) ∧ Aside0 (kq ≤ k1) ∧ Aside0 (Kd.S (Kd.slice 47 k47) 40 w' w.heap.size (fun k_ => some k_ ≠ (v3 : Value).ownBlock ∧ k_ ≠ gb113) v2 x2_2) ∧ Aside0 (Kd.R k47 47 w' w.heap.size (fun k_ => k_ ≠ gb113) v3 x3_2) ∧ Aside0 (w'.heap[gb113]? = some (.cells #[.int .i64 ((rd_T47 l0 x11_1).f0), .string x114001_2] 47 (0, 0))) ∧ Aside0 (Below w.heap.size w w'))
            case atStart => exact ⟨(x2_1), (x3_1), ((rd_T47 l0 x11_1).f1), H', ⟨Nat.le_refl _⟩, ⟨by (with_reducible repeat (first | apply Kd.S_alloc | apply Kd.S_drewN | apply Kd.S_drew)); exact Kd.S_mono (Kd.S_far (p := ⟨gb113, 1, none⟩) (Kd.S_far (p := ⟨gb113, 0, none⟩) (Kd.S_mono HO_2.out (fun k_ hk => (⟨hk, hk.2⟩ : _ ∧ k_ ≠ gb113))) (fun _ hk => hk.2) (.int .i64 ((rd_T47 l0 x11_1).f0))) (fun _ hk => hk.2) (.string ((rd_T47 l0 x11_1).f1))) (fun _ hk => ⟨hk.1.1, hk.1.2⟩)⟩, ⟨by (with_reducible repeat (first | apply Kd.R_alloc | apply Kd.R_drewN | apply Kd.R_drew)); exact Kd.R_mono (Kd.R_far (p := ⟨gb113, 1, none⟩) (Kd.R_far (p := ⟨gb113, 0, none⟩) (Kd.R_mono HO_3.out (fun k_ hk => (⟨hk, hk.2⟩ : _ ∧ k_ ≠ gb113))) (fun _ hk => hk.2) (.int .i64 ((rd_T47 l0 x11_1).f0))) (fun _ hk => hk.2) (.string ((rd_T47 l0 x11_1).f1))) (fun _ hk => hk.1.2)⟩, ⟨by (with_reducible repeat (first | refine blk_drewN ?_ _ | refine blk_drew ?_ | refine blk_alloc ?_ _)); refine blk_put (cs := #[.int .i64 ((rd_T47 l0 x11_1).f0), .string (⟨#[]⟩ : ByteArray)]) ?_ 1 _ rfl; (with_reducible repeat (first | refine blk_drewN ?_ _ | refine blk_drew ?_ | refine blk_alloc ?_ _)); refine blk_put (cs := #[.int .i64 0, .string (⟨#[]⟩ : ByteArray)]) ?_ 0 _ rfl; (with_reducible repeat (first | refine blk_drewN ?_ _ | refine blk_drew ?_ | refine blk_alloc ?_ _)); exact BK113.out⟩, ⟨by repeat (first | (with_reducible first | exact HB.out | apply below_alloc | apply pw_below_drewN | apply below_drew1 | refine below_set ?_ GE113.out) | exact HB.out)⟩⟩
            case round =>
              clear H'
              try clear p1
              try clear q1
              try clear hx1
              try clear c2
              try clear c2b0
              try clear p2
              try clear c3
              try clear c3b0
              try clear p3
              try clear c4
              try clear c4b0
              try clear hcz6_0
              try clear hcz6_1
              try clear hfz6_0
              try clear hfz6_1
              try clear hx112_0
              try clear hx112_1
              try clear p112
              try clear q112
              obtain ⟨x2_2, x3_2, x114001_2, HA, HK2, HO_2, HO_3, BK113, HB⟩ := hrel
              cases gk with
              | zero => exact absurd HA.out (by simp [chroma_SplitTokensIntoLines.l1])
              | succ k2 =>
                have H := HA.out
                clear HA
                simp only [chroma_SplitTokensIntoLines.l1] at H
                replace H := Option.bind_eq_some_iff.mp H
                obtain ⟨t114, A70, H⟩ := H
                replace H : (if t114 = true then ((chroma_zzSplitAfter.f k2 x114001_2 (⟨#[10]⟩ : ByteArray)).bind fun t118 => (if 1 < (t118.length : Int) then ((chroma_Token_Clone.f ((rd_T47 l0 x11_1).f0) (rdOf ByteArray.empty t118 1)).bind fun bt122 => (if 0 < (t118.length : Int) then (if x3_2.length < 5864062014805 then (if x2_2.length < 5864062014805 then ((some (x2_2 ++ [(x3_2 ++ [(⟨bt122.1, rdOf ByteArray.empty t118 0⟩ : S47)])] : List (List (S47)))).bind fun y129 => (if ((rdOf ByteArray.empty t118 1).size : Int) = 0 then (chroma_SplitTokensIntoLines.l0 k2 y129 ([] : List (S47)) l0 (l0.length : Int) (wrap64 (x11_1 + 1))) else (chroma_SplitTokensIntoLines.l1 k2 y129 ([] : List (S47)) l0 (l0.length : Int) x11_1 ((rd_T47 l0 x11_1).f0) (rdOf ByteArray.empty t118 1)))) else (none)) else (none)) else (none))) else (none))) else (if x3_2.length < 5864062014805 then (chroma_SplitTokensIntoLines.l0 k2 x2_2 (x3_2 ++ [(⟨((rd_T47 l0 x11_1).f0), x114001_2⟩ : S47)]) l0 (l0.length : Int) (wrap64 (x11_1 + 1))) else (none))) = some r := H
                have A7 := Aside0.mk A70
                clear A70
                by_cases c8 : t114 = true
                · subst c8
                  have H1 : ((chroma_zzSplitAfter.f k2 x114001_2 (⟨#[10]⟩ : ByteArray)).bind fun t118 => (if 1 < (t118.length : Int) then ((chroma_Token_Clone.f ((rd_T47 l0 x11_1).f0) (rdOf ByteArray.empty t118 1)).bind fun bt122 => (if 0 < (t118.length : Int) then (if x3_2.length < 5864062014805 then (if x2_2.length < 5864062014805 then ((some (x2_2 ++ [(x3_2 ++ [(⟨bt122.1, rdOf ByteArray.empty t118 0⟩ : S47)])] : List (List (S47)))).bind fun y129 => (if ((rdOf ByteArray.empty t118 1).size : Int) = 0 then (chroma_SplitTokensIntoLines.l0 k2 y129 ([] : List (S47)) l0 (l0.length : Int) (wrap64 (x11_1 + 1))) else (chroma_SplitTokensIntoLines.l1 k2 y129 ([] : List (S47)) l0 (l0.length : Int) x11_1 ((rd_T47 l0 x11_1).f0) (rdOf ByteArray.empty t118 1)))) else (none)) else (none)) else (none))) else (none))) = some r := by rw [if_pos rfl] at H; exact H
                  clear H
                  have H := H1
                  clear H1
                  replace H := Option.bind_eq_some_iff.mp H
                  obtain ⟨t118, A90, H⟩ := H
                  replace H : (if 1 < (t118.length : Int) then ((chroma_Token_Clone.f ((rd_T47 l0 x11_1).f0) (rdOf ByteArray.empty t118 1)).bind fun bt122 => (if 0 < (t118.length : Int) then (if x3_2.length < 5864062014805 then (if x2_2.length < 5864062014805 then ((some (x2_2 ++ [(x3_2 ++ [(⟨bt122.1, rdOf ByteArray.empty t118 0⟩ : S47)])] : List (List (S47)))).bind fun y129 => (if ((rdOf ByteArray.empty t118 1).size : Int) = 0 then (chroma_SplitTokensIntoLines.l0 k2 y129 ([] : List (S47)) l0 (l0.length : Int) (wrap64 (x11_1 + 1))) else (chroma_SplitTokensIntoLines.l1 k2 y129 ([] : List (S47)) l0 (l0.length : Int) x11_1 ((rd_T47 l0 x11_1).f0) (rdOf ByteArray.empty t118 1)))) else (none)) else (none)) else (none))) else (none)) = some r := H
                  have A9 := Aside0.mk A90
                  clear A90
                  by_cases c10 : 1 < (t118.length : Int)
                  · rw [if_pos c10] at H
                    have c10b0 : decide (1 < (t118.length : Int)) = true := decide_eq_true c10
                    have c10b1 : decide (1 < t118.length) = true := decide_eq_true (by omega)
                    clear c10
                    replace H := Option.bind_eq_some_iff.mp H
                    obtain ⟨⟨t122, t123⟩, A110, H⟩ := H
                    replace H : (if 0 < (t118.length : Int) then (if x3_2.length < 5864062014805 then (if x2_2.length < 5864062014805 then ((some (x2_2 ++ [(x3_2 ++ [(⟨t122, rdOf ByteArray.empty t118 0⟩ : S47)])] : List (List (S47)))).bind fun y129 => (if ((rdOf ByteArray.empty t118 1).size : Int) = 0 then (chroma_SplitTokensIntoLines.l0 k2 y129 ([] : List (S47)) l0 (l0.length : Int) (wrap64 (x11_1 + 1))) else (chroma_SplitTokensIntoLines.l1 k2 y129 ([] : List (S47)) l0 (l0.length : Int) x11_1 ((rd_T47 l0 x11_1).f0) (rdOf ByteArray.empty t118 1)))) else (none)) else (none)) else (none)) = some r := H
                    have A11 := Aside0.mk A110
                    clear A110
                    by_cases c12 : 0 < (t118.length : Int)
                    · rw [if_pos c12] at H
                      have c12b0 : decide (0 < (t118.length : Int)) = true := decide_eq_true c12
                      have c12b1 : decide (0 < t118.length) = true := decide_eq_true (by omega)
                      clear c12
                      by_cases c13 : x3_2.length < 5864062014805
                      · rw [if_pos c13] at H
                        have LMc13 := Aside0.mk c13
                        clear c13
                        obtain ⟨y126, hy126⟩ : ∃ y_ : List (S47), y_ = (x3_2 ++ [(⟨t122, rdOf ByteArray.empty t118 0⟩ : S47)]) := ⟨_, rfl⟩
                        replace H : (if x2_2.length < 5864062014805 then ((some (x2_2 ++ [y126] : List (List (S47)))).bind fun y129 => (if ((rdOf ByteArray.empty t118 1).size : Int) = 0 then (chroma_SplitTokensIntoLines.l0 k2 y129 ([] : List (S47)) l0 (l0.length : Int) (wrap64 (x11_1 + 1))) else (chroma_SplitTokensIntoLines.l1 k2 y129 ([] : List (S47)) l0 (l0.length : Int) x11_1 ((rd_T47 l0 x11_1).f0) (rdOf ByteArray.empty t118 1)))) else (none)) = some r := by first | (rw [hy126]; with_reducible exact H) | (have H2_ := (Option.bind_some _ _).symm.trans H; rw [hy126]; with_reducible exact H2_) | (have H2_ := (Option.bind_some _ _).symm.trans H; with_reducible exact H2_) | with_reducible exact H | (rw [hy126]; exact H) | exact H
                        have Ny126 := Aside0.mk hy126
                        clear hy126
                        by_cases c14 : x2_2.length < 5864062014805
                        · rw [if_pos c14] at H
                          have LMc14 := Aside0.mk c14
                          clear c14
                          obtain ⟨y129, hy129⟩ : ∃ y_ : List (List (S47)), y_ = (x2_2 ++ [y126]) := ⟨_, rfl⟩
                          replace H : (if ((rdOf ByteArray.empty t118 1).size : Int) = 0 then (chroma_SplitTokensIntoLines.l0 k2 y129 ([] : List (S47)) l0 (l0.length : Int) (wrap64 (x11_1 + 1))) else (chroma_SplitTokensIntoLines.l1 k2 y129 ([] : List (S47)) l0 (l0.length : Int) x11_1 ((rd_T47 l0 x11_1).f0) (rdOf ByteArray.empty t118 1))) = some r := by first | (rw [hy129]; with_reducible exact H) | (have H2_ := (Option.bind_some _ _).symm.trans H; rw [hy129]; with_reducible exact H2_) | (have H2_ := (Option.bind_some _ _).symm.trans H; with_reducible exact H2_) | with_reducible exact H | (rw [hy129]; exact H) | exact H
                          have Ny129 := Aside0.mk hy129
                          clear hy129
                          by_cases c15 : ((rdOf ByteArray.empty t118 1).size : Int) = 0
                          · rw [if_pos c15] at H
                            have c15b0 : (((rdOf ByteArray.empty t118 1).size : Int) == 0) = true := beq_iff_eq.mpr c15
                            have c15b1 : (((rdOf ByteArray.empty t118 1).size : Int) != 0) = false := bne_eq_false_iff_eq.mpr c15
                            clear c15
                            have H' := Aside0.mk H
                            clear H
                            have hcz16_0 : wr.cell? ⟨gb113, 0, none⟩ = some (.int .i64 ((rd_T47 l0 x11_1).f0)) := (blk_cell BK113.out 0).trans rfl
                            have hcz16_1 : wr.cell? ⟨gb113, 1, none⟩ = some (.string x114001_2) := (blk_cell BK113.out 1).trans rfl
                            have hfz16_0 := blk_frozen BK113.out 0
                            have hfz16_1 := blk_frozen BK113.out 1
                            go_wp2_with (first | ((with_reducible refine gate_callee (f := 24) rfl ?_); refine goesL_ (some 17) rfl rfl Try.func24 (by kernel_rfl) rfl #[.string x114001_2, .string (⟨#[10]⟩ : ByteArray)] rfl (by (try simp only [List.map_toArray, List.map_cons, List.map_nil]); first | done | rfl | (simp only [List.length_drop, List.length_take]; rfl)) ?_; (with_reducible refine (chroma_zzContains.calls k2 x114001_2 (⟨#[10]⟩ : ByteArray) true _ A7.out).mono ?_); rintro e w' ⟨rfl, ⟨nd, rfl⟩⟩; refine ⟨_, rfl, ?_⟩; (try (rw [drewN_self wr]; generalize hq_ : World.drewN wr _ = wr; have n0_ : Aside0 (Kd.S (Kd.slice 47 k47) 40 wr w.heap.size (fun k_ => some k_ ≠ (u3 : Value).ownBlock ∧ k_ ≠ gb113) u2 x2_2) := ⟨by rw [← hq_]; exact (by (with_reducible repeat (first | apply Kd.S_alloc | apply Kd.S_drewN | apply Kd.S_drew)); exact HO_2.out)⟩; have n1_ : Aside0 (Kd.R k47 47 wr w.heap.size (fun k_ => k_ ≠ gb113) u3 x3_2) := ⟨by rw [← hq_]; exact (by (with_reducible repeat (first | apply Kd.R_alloc | apply Kd.R_drewN | apply Kd.R_drew)); exact HO_3.out)⟩; have n2_ : Aside0 (wr.heap[gb113]? = some (.cells #[.int .i64 ((rd_T47 l0 x11_1).f0), .string x114001_2] 47 (0, 0))) := ⟨by rw [← hq_]; exact (by (with_reducible repeat (first | refine blk_drewN ?_ _ | refine blk_drew ?_ | refine blk_alloc ?_ _)); exact BK113.out)⟩; have n3_ : Aside0 (Below w.heap.size w wr) := ⟨by rw [← hq_]; exact (by repeat (first | (with_reducible first | exact HB.out | apply below_alloc | apply pw_below_drewN | apply below_drew1 | refine below_set ?_ GE113.out) | exact HB.out))⟩; clear HO_2 HO_3 BK113 HB hq_; have HO_2 := n0_; have HO_3 := n1_; have BK113 := n2_; have HB := n3_; clear n0_ n1_ n2_ n3_)); have hcz17_0 : wr.cell? ⟨gb113, 0, none⟩ = some (.int .i64 ((rd_T47 l0 x11_1).f0)) := (blk_cell BK113.out 0).trans rfl; have hcz17_1 : wr.cell? ⟨gb113, 1, none⟩ = some (.string x114001_2) := (blk_cell BK113.out 1).trans rfl; have hfz17_0 := blk_frozen BK113.out 0; have hfz17_1 := blk_frozen BK113.out 1) | ((with_reducible refine gate_callee (f := 25) rfl ?_); refine goesL_ (some 20) rfl rfl Try.func25 (by kernel_rfl) rfl #[.string x114001_2, .string (⟨#[10]⟩ : ByteArray)] rfl (by (try simp only [List.map_toArray, List.map_cons, List.map_nil]); first | done | rfl | (simp only [List.length_drop, List.length_take]; rfl)) ?_; (with_reducible refine (chroma_zzSplitAfter.calls k2 x114001_2 (⟨#[10]⟩ : ByteArray) t118 _ A9.out).mono ?_); rintro e w18 ⟨v119, rfl, ho0, hb⟩; refine ⟨_, rfl, ?_⟩; have n0_ := Aside0.mk (Kd.S_below (by (with_reducible repeat (first | apply Kd.S_alloc | apply Kd.S_drewN | apply Kd.S_drew)); exact HO_2.out) hb); have n1_ := Aside0.mk (Kd.R_below (by (with_reducible repeat (first | apply Kd.R_alloc | apply Kd.R_drewN | apply Kd.R_drew)); exact HO_3.out) hb); have n2_ := Aside0.mk (Kd.R_lower ho0 (below_size (by repeat (first | (with_reducible first | exact HB.out | apply below_alloc | apply pw_below_drewN | apply below_drew1 | refine below_set ?_ GE113.out) | exact HB.out)))); have n3_ := Aside0.mk (blk_below (g := gb113) (o := .cells #[.int .i64 ((rd_T47 l0 x11_1).f0), .string x114001_2] 47 (0, 0)) (by (with_reducible repeat (first | refine blk_drewN ?_ _ | refine blk_drew ?_ | refine blk_alloc ?_ _)); exact BK113.out) hb); have n4_ := Aside0.mk (below_step (by repeat (first | (with_reducible first | exact HB.out | apply below_alloc | apply pw_below_drewN | apply below_drew1 | refine below_set ?_ GE113.out) | exact HB.out)) hb); clear HO_2; clear HO_3; clear BK113; clear HB; have HO_2 := n0_; have HO_3 := n1_; have HO120 := n2_; have BK113 := n3_; have HB := n4_; clear n0_ n1_ n2_ n3_ n4_; (try clear hb); (try clear hb2); (try clear hk); (try clear hi); (try clear ho0); obtain ⟨Ao19, co19, eo19⟩ := Kd.R_slice HO120.out; subst eo19; have p121 : 0 ≤ (1 : Int) := (by omega); have q121 : 1 < (t118.length : Int) := of_decide_eq_true (by first | (with_reducible assumption) | assumption); obtain ⟨ad121, e121, hx121_0⟩ := Kd.at_string (Kd.R_reads' HO120.out).2.2 1 p121 q121; cases e121; (try simp only [show (1 : Int).toNat = 1 from rfl, Nat.reduceMul, Nat.reduceEqDiff, Go.Addr.add, ↓reduceIte] at hx121_0); have qi121 : (1 < t118.length) = True := eq_true (by omega); (try rw [show ((1 : Int)).toNat = 1 from rfl] at hx121_0); replace p121 := eq_true p121; replace q121 := eq_true q121; have hcz20_0 : w18.cell? ⟨gb113, 0, none⟩ = some (.int .i64 ((rd_T47 l0 x11_1).f0)) := (blk_cell BK113.out 0).trans rfl; have hcz20_1 : w18.cell? ⟨gb113, 1, none⟩ = some (.string x114001_2) := (blk_cell BK113.out 1).trans rfl; have hfz20_0 := blk_frozen BK113.out 0; have hfz20_1 := blk_frozen BK113.out 1) | ((with_reducible refine gate_callee (f := 26) rfl ?_); refine goesL_ (some 25) rfl rfl Try.func26 (by kernel_rfl) rfl #[.pointer (some ⟨gb113, 0, none⟩)] rfl (by (try simp only [List.map_toArray, List.map_cons, List.map_nil]); first | done | rfl | (simp only [List.length_drop, List.length_take]; rfl)) ?_; (with_reducible refine (chroma_Token_Clone.calls gb113 ((rd_T47 l0 x11_1).f0) (rdOf ByteArray.empty t118 1) t122 t123 _ ?side1 A11.out).mono ?_); (case side1 => (with_reducible repeat (first | refine blk_drewN ?_ _ | refine blk_drew ?_ | refine blk_alloc ?_ _)); refine blk_put (cs := #[.int .i64 ((rd_T47 l0 x11_1).f0), .string x114001_2]) ?_ 1 _ rfl; (with_reducible repeat (first | refine blk_drewN ?_ _ | refine blk_drew ?_ | refine blk_alloc ?_ _)); exact BK113.out); rintro e w21 ⟨rfl, hb⟩; refine ⟨_, rfl, ?_⟩; have n0_ := Aside0.mk (Kd.S_below (by (with_reducible repeat (first | apply Kd.S_alloc | apply Kd.S_drewN | apply Kd.S_drew)); exact (Kd.S_mono (Kd.S_far (p := ⟨gb113, 1, none⟩) (Kd.S_mono HO_2.out (fun k_ hk => (⟨hk, hk.2⟩ : _ ∧ k_ ≠ gb113))) (fun _ hk => hk.2) (.string (rdOf ByteArray.empty t118 1))) (fun _ h_ => h_.1))) hb); have n1_ := Aside0.mk (Kd.R_below (by (with_reducible repeat (first | apply Kd.R_alloc | apply Kd.R_drewN | apply Kd.R_drew)); exact (Kd.R_mono (Kd.R_far (p := ⟨gb113, 1, none⟩) (Kd.R_mono HO_3.out (fun k_ hk => (⟨hk, hk⟩ : _ ∧ k_ ≠ gb113))) (fun _ hk => hk.2) (.string (rdOf ByteArray.empty t118 1))) (fun _ h_ => h_.1))) hb); have n2_ := Aside0.mk (Kd.R_below (by (with_reducible repeat (first | apply Kd.R_alloc | apply Kd.R_drewN | apply Kd.R_drew)); exact (Kd.R_mono (Kd.R_far (p := ⟨gb113, 1, none⟩) (Kd.R_types HO120.out BK113.out (by decide)) (fun _ hk => hk.2) (.string (rdOf ByteArray.empty t118 1))) (fun _ h_ => h_.1))) hb); have n3_ := Aside0.mk (blk_below (g := gb113) (o := .cells #[.int .i64 ((rd_T47 l0 x11_1).f0), .string (rdOf ByteArray.empty t118 1)] 47 (0, 0)) (by (with_reducible repeat (first | refine blk_drewN ?_ _ | refine blk_drew ?_ | refine blk_alloc ?_ _)); refine blk_put (cs := #[.int .i64 ((rd_T47 l0 x11_1).f0), .string x114001_2]) ?_ 1 _ rfl; (with_reducible repeat (first | refine blk_drewN ?_ _ | refine blk_drew ?_ | refine blk_alloc ?_ _)); exact BK113.out) hb); have n4_ := Aside0.mk (below_step (by repeat (first | (with_reducible first | exact HB.out | apply below_alloc | apply pw_below_drewN | apply below_drew1 | refine below_set ?_ GE113.out) | exact HB.out)) hb); clear HO_2; clear HO_3; clear HO120; clear BK113; clear HB; have HO_2 := n0_; have HO_3 := n1_; have HO120 := n2_; have BK113 := n3_; have HB := n4_; clear n0_ n1_ n2_ n3_ n4_; (try clear hb); (try clear hb2); (try clear hk); (try clear hi)) | ((with_reducible refine gate_dst (N := 7) rfl ?_); refine box_event ?hg (N := 7) ?hd (cs := #[.int .i64 0, .string (⟨#[]⟩ : ByteArray)]) (t := 47) ?hr ?_; (case hd => rfl); (case hg => rfl); (case hr => first | (go_simp; done) | (go_simp; rfl)); intro gb124 hg w22 hbox hb; have n0_ := Aside0.mk (Kd.S_below (Kd.S_elderB (by (with_reducible repeat (first | apply Kd.S_alloc | apply Kd.S_drewN | apply Kd.S_drew)); exact HO_2.out) gb124 (Nat.le_of_eq hg.symm)) hb); have n1_ := Aside0.mk (Kd.R_below (Kd.R_elderB (by (with_reducible repeat (first | apply Kd.R_alloc | apply Kd.R_drewN | apply Kd.R_drew)); exact HO_3.out) gb124 (Nat.le_of_eq hg.symm)) hb); have n2_ := Aside0.mk (Kd.R_below (by (with_reducible repeat (first | apply Kd.R_alloc | apply Kd.R_drewN | apply Kd.R_drew)); exact HO120.out) hb); have n3_ := Aside0.mk (blk_below (g := gb113) (o := .cells #[.int .i64 ((rd_T47 l0 x11_1).f0), .string (rdOf ByteArray.empty t118 1)] 47 (0, 0)) (by (with_reducible repeat (first | refine blk_drewN ?_ _ | refine blk_drew ?_ | refine blk_alloc ?_ _)); exact BK113.out) hb); have n4_ := Aside0.mk (below_step (by repeat (first | (with_reducible first | exact HB.out | apply below_alloc | apply pw_below_drewN | apply below_drew1 | refine below_set ?_ GE113.out) | exact HB.out)) hb); have n5_ := Aside0.mk (hbox); have n6_ := Aside0.mk ((by rw [hg]; exact (below_size (by repeat (first | (with_reducible first | exact HB.out | apply below_alloc | apply pw_below_drewN | apply below_drew1 | refine below_set ?_ GE113.out) | exact HB.out))) : w.heap.size ≤ gb124)); have n7_ := Aside0.mk ((by rw [hg]; exact (below_size (by repeat (first | (with_reducible first | exact HB.out | apply below_alloc | apply pw_below_drewN | apply below_drew1 | refine below_set ?_ GE113.out) | exact HB.out))) : w.heap.size ≤ gb124)); have n8_ := Aside0.mk ((by rw [hg]; exact Nat.ne_of_lt (blk_lt (g := gb113) (o := .cells #[.int .i64 ((rd_T47 l0 x11_1).f0), .string (rdOf ByteArray.empty t118 1)] 47 (0, 0)) (by (with_reducible repeat (first | refine blk_drewN ?_ _ | refine blk_drew ?_ | refine blk_alloc ?_ _)); exact BK113.out)) : gb113 ≠ gb124)); have n9_ := Aside0.mk ((by rw [hg]; exact Nat.ne_of_gt (blk_lt (g := gb113) (o := .cells #[.int .i64 ((rd_T47 l0 x11_1).f0), .string (rdOf ByteArray.empty t118 1)] 47 (0, 0)) (by (with_reducible repeat (first | refine blk_drewN ?_ _ | refine blk_drew ?_ | refine blk_alloc ?_ _)); exact BK113.out)) : gb124 ≠ gb113)); clear HO_2; clear HO_3; clear HO120; clear BK113; clear HB; have HO_2 := n0_; have HO_3 := n1_; have HO120 := n2_; have BK113 := n3_; have HB := n4_; have BK124 := n5_; have GW124 := n6_; have GE124 := n7_; have NB113_124 := n8_; have NB124_113 := n9_; clear n0_ n1_ n2_ n3_ n4_ n5_ n6_ n7_ n8_ n9_; clear hb hbox hg; have hnb23 := NB124_113.out; have hnc23 := NB113_124.out; have hcz24_0 : w22.cell? ⟨gb124, 0, none⟩ = some (.int .i64 0) := (blk_cell BK124.out 0).trans rfl; have hcz24_1 : w22.cell? ⟨gb124, 1, none⟩ = some (.string (⟨#[]⟩ : ByteArray)) := (blk_cell BK124.out 1).trans rfl; have hfz24_0 := blk_frozen BK124.out 0; have hfz24_1 := blk_frozen BK124.out 1) | ((with_reducible refine gate_store (t := 47) (p := 7) rfl ?_); refine store_event (t := 47) (p := 7) (v := ?vo_w25) (w1 := ((w22.setCell ⟨gb124, 0, none⟩ (.int .i64 t122)).setCell ⟨gb124, 1, none⟩ (.string t123))) ?hg ?ho ?hn ?hr ?_; (case ho => rfl); (case hg => rfl); (case hn => rfl); (case hr => first | (go_simp; done) | (go_simp; rfl)); intro w25 hw; have n0_ : Aside0 (Kd.S (Kd.slice 47 k47) 40 w25 w.heap.size (fun k_ => some k_ ≠ (u3 : Value).ownBlock ∧ k_ ≠ gb113 ∧ k_ ≠ gb124) u2 x2_2) := ⟨(by rw [hw]; exact (by (with_reducible repeat (first | apply Kd.S_alloc | apply Kd.S_drewN | apply Kd.S_drew)); exact Kd.S_mono (Kd.S_far (p := ⟨gb124, 1, none⟩) (Kd.S_far (p := ⟨gb124, 0, none⟩) (Kd.S_mono HO_2.out (fun k_ hk => (⟨hk, hk.2⟩ : _ ∧ k_ ≠ gb124))) (fun _ hk => hk.2) (.int .i64 t122)) (fun _ hk => hk.2) (.string t123)) (fun _ hk => ⟨hk.1.1.1, ⟨hk.1.1.2, hk.1.2⟩⟩)))⟩; have n1_ : Aside0 (Kd.R k47 47 w25 w.heap.size (fun k_ => k_ ≠ gb113 ∧ k_ ≠ gb124) u3 x3_2) := ⟨(by rw [hw]; exact (by (with_reducible repeat (first | apply Kd.R_alloc | apply Kd.R_drewN | apply Kd.R_drew)); exact Kd.R_mono (Kd.R_far (p := ⟨gb124, 1, none⟩) (Kd.R_far (p := ⟨gb124, 0, none⟩) (Kd.R_mono HO_3.out (fun k_ hk => (⟨hk, hk.2⟩ : _ ∧ k_ ≠ gb124))) (fun _ hk => hk.2) (.int .i64 t122)) (fun _ hk => hk.2) (.string t123)) (fun _ hk => ⟨hk.1.1, hk.1.2⟩)))⟩; have n2_ : Aside0 (Kd.R Kd.string 9 w25 w.heap.size (fun _ => True) (.slice (some ad121) t118.length co19) t118) := ⟨(by rw [hw]; exact (by (with_reducible repeat (first | apply Kd.R_alloc | apply Kd.R_drewN | apply Kd.R_drew)); exact Kd.R_mono (Kd.R_far (p := ⟨gb124, 1, none⟩) (Kd.R_far (p := ⟨gb124, 0, none⟩) (Kd.R_types HO120.out BK124.out (by decide)) (fun _ hk => hk.2) (.int .i64 t122)) (fun _ hk => hk.2) (.string t123)) (fun _ hk => trivial)))⟩; have n3_ : Aside0 (w25.heap[gb113]? = some (.cells #[.int .i64 ((rd_T47 l0 x11_1).f0), .string (rdOf ByteArray.empty t118 1)] 47 (0, 0))) := ⟨(by rw [hw]; exact (by (with_reducible repeat (first | refine blk_drewN ?_ _ | refine blk_drew ?_ | refine blk_alloc ?_ _)); refine blk_far ?_ NB113_124.out _; (with_reducible repeat (first | refine blk_drewN ?_ _ | refine blk_drew ?_ | refine blk_alloc ?_ _)); refine blk_far ?_ NB113_124.out _; (with_reducible repeat (first | refine blk_drewN ?_ _ | refine blk_drew ?_ | refine blk_alloc ?_ _)); exact BK113.out))⟩; have n4_ : Aside0 (w25.heap[gb124]? = some (.cells #[.int .i64 t122, .string t123] 47 (0, 0))) := ⟨(by rw [hw]; exact (by (with_reducible repeat (first | refine blk_drewN ?_ _ | refine blk_drew ?_ | refine blk_alloc ?_ _)); refine blk_put (cs := #[.int .i64 t122, .string (⟨#[]⟩ : ByteArray)]) ?_ 1 _ rfl; (with_reducible repeat (first | refine blk_drewN ?_ _ | refine blk_drew ?_ | refine blk_alloc ?_ _)); refine blk_put (cs := #[.int .i64 0, .string (⟨#[]⟩ : ByteArray)]) ?_ 0 _ rfl; (with_reducible repeat (first | refine blk_drewN ?_ _ | refine blk_drew ?_ | refine blk_alloc ?_ _)); exact BK124.out))⟩; have n5_ : Aside0 (Below w.heap.size w w25) := ⟨(by rw [hw]; exact (by repeat (first | (with_reducible first | exact HB.out | apply below_alloc | apply pw_below_drewN | apply below_drew1 | refine below_set ?_ GE113.out | refine below_set ?_ GE124.out) | exact HB.out)))⟩; clear hw; clear HO_2; clear HO_3; clear HO120; clear BK113; clear BK124; clear HB; have HO_2 := n0_; have HO_3 := n1_; have HO120 := n2_; have BK113 := n3_; have BK124 := n4_; have HB := n5_; clear n0_ n1_ n2_ n3_ n4_ n5_; have p125 : 0 ≤ (0 : Int) := (by omega); have q125 : 0 < (t118.length : Int) := of_decide_eq_true (by first | (with_reducible assumption) | assumption); obtain ⟨ad125, e125, hx125_0⟩ := Kd.at_string (Kd.R_reads' HO120.out).2.2 0 p125 q125; obtain rfl : ad121 = ad125 := (by injection e125); have qi125 : (0 < t118.length) = True := eq_true (by omega); (try rw [show ((0 : Int)).toNat = 0 from rfl] at hx125_0); (try rw [Addr.add_zero'] at hx125_0); replace p125 := eq_true p125; replace q125 := eq_true q125; have hcz26_0 : w25.cell? ⟨gb124, 0, none⟩ = some (.int .i64 t122) := (blk_cell BK124.out 0).trans rfl; have hcz26_1 : w25.cell? ⟨gb124, 1, none⟩ = some (.string t123) := (blk_cell BK124.out 1).trans rfl; have hfz26_0 := blk_frozen BK124.out 0; have hfz26_1 := blk_frozen BK124.out 1) | ((with_reducible refine gate_builtin (b := .append) (xs := #[.tmp 30, .tmp 32]) rfl ?_); at_builtin; refine Kd.R_append k47 (w0 := w) w.heap.size rfl (.tmp 30) (.tmp 32) 40 47 (.agg #[(.int .i64 0), (.string ⟨#[]⟩)]) 24 rfl Try.underlying40 info47 rfl (by decide) (by omega) u3 x3_2 (⟨t122, rdOf ByteArray.empty t118 0⟩ : S47) [.int .i64 t122, .string (rdOf ByteArray.empty t118 0)] (fun k_ => k_ ≠ gb113 ∧ k_ ≠ gb124) (fun _ => False) rfl (by first | (go_simp; done) | (go_simp; rfl)) ?aP (fun _ hk => hk.elim) ?aF ?aO ?aB ?aS ?aL ?_; (case aP => exact k47_mkM _ _ _ (⟨t122, rdOf ByteArray.empty t118 0⟩ : S47)); (case aB => exact (by repeat (first | (with_reducible first | exact HB.out | apply below_alloc | apply pw_below_drewN | apply below_drew1 | refine below_set ?_ GE113.out | refine below_set ?_ GE124.out) | exact HB.out))); (case aF => exact (fun k_ hk => ⟨Kd.freshB (g := gb113) (o := .cells #[.int .i64 ((rd_T47 l0 x11_1).f0), .string (rdOf ByteArray.empty t118 1)] 47 (0, 0)) (by (with_reducible repeat (first | refine blk_drewN ?_ _ | refine blk_drew ?_ | refine blk_alloc ?_ _)); refine blk_far ?_ NB113_124.out _; (with_reducible repeat (first | refine blk_drewN ?_ _ | refine blk_drew ?_ | refine blk_alloc ?_ _)); exact BK113.out) k_ hk, Kd.freshB (g := gb124) (o := .cells #[.int .i64 t122, .string (rdOf ByteArray.empty t118 0)] 47 (0, 0)) (by (with_reducible repeat (first | refine blk_drewN ?_ _ | refine blk_drew ?_ | refine blk_alloc ?_ _)); refine blk_put (cs := #[.int .i64 t122, .string t123]) ?_ 1 _ rfl; (with_reducible repeat (first | refine blk_drewN ?_ _ | refine blk_drew ?_ | refine blk_alloc ?_ _)); exact BK124.out) k_ hk⟩)); (case aO => exact (by (with_reducible repeat (first | apply Kd.R_alloc | apply Kd.R_drewN | apply Kd.R_drew)); exact Kd.R_mono (Kd.R_far (p := ⟨gb124, 1, none⟩) (Kd.R_mono HO_3.out (fun k_ hk => (⟨hk, hk.2⟩ : _ ∧ k_ ≠ gb124))) (fun _ hk => hk.2) (.string (rdOf ByteArray.empty t118 0))) (fun _ hk => ⟨hk.1.1, hk.1.2⟩))); (case aS => exact (below_size (by repeat (first | (with_reducible first | exact HB.out | apply below_alloc | apply pw_below_drewN | apply below_drew1 | refine below_set ?_ GE113.out | refine below_set ?_ GE124.out) | exact HB.out)))); (case aL => have := LMc13.out; omega); intro v127 w27 ho hb hg hat; rw [← Ny126.out] at ho; have n0_ := Aside0.mk (Kd.S_after (ok := (fun k_ => k_ ≠ gb113 ∧ k_ ≠ gb124)) (by (with_reducible repeat (first | apply Kd.S_alloc | apply Kd.S_drewN | apply Kd.S_drew)); exact Kd.S_mono (Kd.S_far (p := ⟨gb124, 1, none⟩) (Kd.S_mono HO_2.out (fun k_ hk => (⟨hk, hk.2.2⟩ : _ ∧ k_ ≠ gb124))) (fun _ hk => hk.2) (.string (rdOf ByteArray.empty t118 0))) (fun _ hk => ⟨⟨hk.1.2.1, hk.1.2.2⟩, hk.1.1⟩)) hg hat); have n1_ := Aside0.mk (blk_grown (g := gb113) (o := .cells #[.int .i64 ((rd_T47 l0 x11_1).f0), .string (rdOf ByteArray.empty t118 1)] 47 (0, 0)) (by (with_reducible repeat (first | refine blk_drewN ?_ _ | refine blk_drew ?_ | refine blk_alloc ?_ _)); refine blk_far ?_ NB113_124.out _; (with_reducible repeat (first | refine blk_drewN ?_ _ | refine blk_drew ?_ | refine blk_alloc ?_ _)); exact BK113.out) hg (Kd.R_away HO_3.out (fun _ hk => hk.1))); have n2_ := Aside0.mk (Kd.R_over' (by (with_reducible repeat (first | apply Kd.R_alloc | apply Kd.R_drewN | apply Kd.R_drew)); exact (Kd.R_mono (Kd.R_far (p := ⟨gb124, 1, none⟩) (Kd.R_types HO120.out BK124.out (by decide)) (fun _ hk => hk.2) (.string (rdOf ByteArray.empty t118 0))) (fun _ h_ => h_.1))) (Kd.R_typed (by (with_reducible repeat (first | apply Kd.R_alloc | apply Kd.R_drewN | apply Kd.R_drew)); exact (Kd.R_mono (Kd.R_far (p := ⟨gb124, 1, none⟩) (Kd.R_mono HO_3.out (fun k_ hk => (⟨hk, hk.2⟩ : _ ∧ k_ ≠ gb124))) (fun _ hk => hk.2) (.string (rdOf ByteArray.empty t118 0))) (fun _ h_ => h_.1)))) (by decide) hg); have n3_ := Aside0.mk (blk_grown (g := gb124) (o := .cells #[.int .i64 t122, .string (rdOf ByteArray.empty t118 0)] 47 (0, 0)) (by (with_reducible repeat (first | refine blk_drewN ?_ _ | refine blk_drew ?_ | refine blk_alloc ?_ _)); refine blk_put (cs := #[.int .i64 t122, .string t123]) ?_ 1 _ rfl; (with_reducible repeat (first | refine blk_drewN ?_ _ | refine blk_drew ?_ | refine blk_alloc ?_ _)); exact BK124.out) hg (Kd.R_away HO_3.out (fun _ hk => hk.2))); have n4_ := Aside0.mk (hb); have n5_ := Aside0.mk (ho); clear HO_2; clear BK113; clear HO120; clear BK124; clear HB; clear HO_3; have HO_2 := n0_; have BK113 := n1_; have HO120 := n2_; have BK124 := n3_; have HB := n4_; have HO128 := n5_; clear n0_ n1_ n2_ n3_ n4_ n5_; clear ho hb hg hat; obtain ⟨Ao29, co29, eo29⟩ := Kd.R_slice HO128.out; subst eo29) | ((with_reducible refine gate_builtin (b := .append) (xs := #[.tmp 34, .tmp 36]) rfl ?_); at_builtin; refine Kd.S_append (Kd.slice 47 k47) (w0 := w) w.heap.size rfl (.tmp 34) (.tmp 36) 38 40 (.slice none 0 0) 24 rfl Try.underlying38 info40 rfl (by decide) (by omega) u2 x2_2 y126 [.slice Ao29 y126.length co29] (fun k_ => k_ ≠ gb113 ∧ k_ ≠ gb124) (fun k_ => some k_ = (.slice Ao29 y126.length co29 : Value).ownBlock) rfl rfl ?aP (fun k_ hk_ => ((Kd.R_mono (ok' := fun k_ => ((fun k_ => k_ ≠ gb113 ∧ k_ ≠ gb124)) k_ ∧ some k_ ≠ (u2 : Value).ownBlock) (Kd.R_apart' (HO128.out) (Kd.S_typed HO_2.out) (by decide)) (fun k_ hk => ⟨⟨hk.1.1, hk.1.2⟩, hk.2⟩))).1 k_ hk_.symm) ?aF ?aO ?aB ?aS ?aL ?_; (case aP => exact Kd.M_row (Kd.R_mono (Kd.R_tight rfl (Kd.R_mono (ok' := fun k_ => ((fun k_ => k_ ≠ gb113 ∧ k_ ≠ gb124)) k_ ∧ some k_ ≠ (u2 : Value).ownBlock) (Kd.R_apart' (HO128.out) (Kd.S_typed HO_2.out) (by decide)) (fun k_ hk => ⟨⟨hk.1.1, hk.1.2⟩, hk.2⟩))) (fun _ h_ => h_))); (case aB => exact (by repeat (first | (with_reducible first | exact HB.out | apply below_alloc | apply pw_below_drewN | apply below_drew1 | refine below_set ?_ GE113.out | refine below_set ?_ GE124.out) | exact HB.out))); (case aF => exact (fun k_ hk => ⟨Kd.freshB (g := gb113) (o := .cells #[.int .i64 ((rd_T47 l0 x11_1).f0), .string (rdOf ByteArray.empty t118 1)] 47 (0, 0)) (by (with_reducible repeat (first | refine blk_drewN ?_ _ | refine blk_drew ?_ | refine blk_alloc ?_ _)); exact BK113.out) k_ hk, Kd.freshB (g := gb124) (o := .cells #[.int .i64 t122, .string (rdOf ByteArray.empty t118 0)] 47 (0, 0)) (by (with_reducible repeat (first | refine blk_drewN ?_ _ | refine blk_drew ?_ | refine blk_alloc ?_ _)); exact BK124.out) k_ hk⟩)); (case aO => exact (by (with_reducible repeat (first | apply Kd.S_alloc | apply Kd.S_drewN | apply Kd.S_drew)); exact Kd.S_mono HO_2.out (fun k_ hk => ⟨⟨hk.1.1, hk.1.2⟩, fun e_ => hk.2 e_⟩))); (case aS => exact (below_size (by repeat (first | (with_reducible first | exact HB.out | apply below_alloc | apply pw_below_drewN | apply below_drew1 | refine below_set ?_ GE113.out | refine below_set ?_ GE124.out) | exact HB.out)))); (case aL => have := LMc14.out; omega); intro v130 w28 ho hb hg hat; rw [← Ny129.out] at ho; have n0_ := Aside0.mk (blk_grown (g := gb113) (o := .cells #[.int .i64 ((rd_T47 l0 x11_1).f0), .string (rdOf ByteArray.empty t118 1)] 47 (0, 0)) (by (with_reducible repeat (first | refine blk_drewN ?_ _ | refine blk_drew ?_ | refine blk_alloc ?_ _)); exact BK113.out) hg (Kd.S_ne HO_2.out BK113.out (by decide))); have n1_ := Aside0.mk (Kd.R_over' (by (with_reducible repeat (first | apply Kd.R_alloc | apply Kd.R_drewN | apply Kd.R_drew)); exact HO120.out) (Kd.S_typed (by (with_reducible repeat (first | apply Kd.S_alloc | apply Kd.S_drewN | apply Kd.S_drew)); exact HO_2.out)) (by decide) hg); have n2_ := Aside0.mk (blk_grown (g := gb124) (o := .cells #[.int .i64 t122, .string (rdOf ByteArray.empty t118 0)] 47 (0, 0)) (by (with_reducible repeat (first | refine blk_drewN ?_ _ | refine blk_drew ?_ | refine blk_alloc ?_ _)); exact BK124.out) hg (Kd.S_ne HO_2.out BK124.out (by decide))); have n3_ := Aside0.mk (hb); have n4_ := Aside0.mk (ho); clear BK113; clear HO120; clear BK124; clear HB; clear HO_2; clear HO128; have BK113 := n0_; have HO120 := n1_; have BK124 := n2_; have HB := n3_; have HO131 := n4_; clear n0_ n1_ n2_ n3_ n4_; clear ho hb hg hat; have hcz30_0 : w28.cell? ⟨gb113, 0, none⟩ = some (.int .i64 ((rd_T47 l0 x11_1).f0)) := (blk_cell BK113.out 0).trans rfl; have hcz30_1 : w28.cell? ⟨gb113, 1, none⟩ = some (.string (rdOf ByteArray.empty t118 1)) := (blk_cell BK113.out 1).trans rfl; have hfz30_0 := blk_frozen BK113.out 0; have hfz30_1 := blk_frozen BK113.out 1))
                            go_roundg k2
                            case measure => have := HK1.out; have := HK2.out; omega
                            case rel => exact ⟨(y129), (([] : List (S47))), (wrap64 (x11_1 + 1)), (by first | rfl | (simp; done) | (simp [*]; done)), H', ⟨by have := HK1.out; have := HK2.out; omega⟩, ⟨by (with_reducible repeat (first | apply Kd.S_alloc | apply Kd.S_drewN | apply Kd.S_drew)); exact Kd.S_mono HO131.out (fun _ hk => (by simp [Value.ownBlock]))⟩, ⟨by first | exact Kd.R_nil _ _ _ _ _ | exact Kd.N_nil _ _ _ _ _ | exact Kd.V_nil _ _ _ _ _ | exact Kd.Q_nil _ _ _ _ _ | exact Kd.S_nil _ _ _ _ _⟩, ⟨by repeat (first | (with_reducible first | exact HB.out | apply below_alloc | apply pw_below_drewN | apply below_drew1 | refine below_set ?_ GE113.out | refine below_set ?_ GE124.out) | exact HB.out)⟩⟩
                          · rw [if_neg c15] at H
                            have c15b0 : (((rdOf ByteArray.empty t118 1).size : Int) == 0) = false := beq_eq_false_iff_ne.mpr c15
                            have c15b1 : (((rdOf ByteArray.empty t118 1).size : Int) != 0) = true := bne_iff_ne.mpr c15
                            have H' := Aside0.mk H
                            clear H
                            have hcz31_0 : wr.cell? ⟨gb113, 0, none⟩ = some (.int .i64 ((rd_T47 l0 x11_1).f0)) := (blk_cell BK113.out 0).trans rfl
                            have hcz31_1 : wr.cell? ⟨gb113, 1, none⟩ = some (.string x114001_2) := (blk_cell BK113.out 1).trans rfl
                            have hfz31_0 := blk_frozen BK113.out 0
                            have hfz31_1 := blk_frozen BK113.out 1
                            go_wp2_with (first | ((with_reducible refine gate_callee (f := 24) rfl ?_); refine goesL_ (some 17) rfl rfl Try.func24 (by kernel_rfl) rfl #[.string x114001_2, .string (⟨#[10]⟩ : ByteArray)] rfl (by (try simp only [List.map_toArray, List.map_cons, List.map_nil]); first | done | rfl | (simp only [List.length_drop, List.length_take]; rfl)) ?_; (with_reducible refine (chroma_zzContains.calls k2 x114001_2 (⟨#[10]⟩ : ByteArray) true _ A7.out).mono ?_); rintro e w' ⟨rfl, ⟨nd, rfl⟩⟩; refine ⟨_, rfl, ?_⟩; (try (rw [drewN_self wr]; generalize hq_ : World.drewN wr _ = wr; have n0_ : Aside0 (Kd.S (Kd.slice 47 k47) 40 wr w.heap.size (fun k_ => some k_ ≠ (u3 : Value).ownBlock ∧ k_ ≠ gb113) u2 x2_2) := ⟨by rw [← hq_]; exact (by (with_reducible repeat (first | apply Kd.S_alloc | apply Kd.S_drewN | apply Kd.S_drew)); exact HO_2.out)⟩; have n1_ : Aside0 (Kd.R k47 47 wr w.heap.size (fun k_ => k_ ≠ gb113) u3 x3_2) := ⟨by rw [← hq_]; exact (by (with_reducible repeat (first | apply Kd.R_alloc | apply Kd.R_drewN | apply Kd.R_drew)); exact HO_3.out)⟩; have n2_ : Aside0 (wr.heap[gb113]? = some (.cells #[.int .i64 ((rd_T47 l0 x11_1).f0), .string x114001_2] 47 (0, 0))) := ⟨by rw [← hq_]; exact (by (with_reducible repeat (first | refine blk_drewN ?_ _ | refine blk_drew ?_ | refine blk_alloc ?_ _)); exact BK113.out)⟩; have n3_ : Aside0 (Below w.heap.size w wr) := ⟨by rw [← hq_]; exact (by repeat (first | (with_reducible first | exact HB.out | apply below_alloc | apply pw_below_drewN | apply below_drew1 | refine below_set ?_ GE113.out) | exact HB.out))⟩; clear HO_2 HO_3 BK113 HB hq_; have HO_2 := n0_; have HO_3 := n1_; have BK113 := n2_; have HB := n3_; clear n0_ n1_ n2_ n3_)); have hcz32_0 : wr.cell? ⟨gb113, 0, none⟩ = some (.int .i64 ((rd_T47 l0 x11_1).f0)) := (blk_cell BK113.out 0).trans rfl; have hcz32_1 : wr.cell? ⟨gb113, 1, none⟩ = some (.string x114001_2) := (blk_cell BK113.out 1).trans rfl; have hfz32_0 := blk_frozen BK113.out 0; have hfz32_1 := blk_frozen BK113.out 1) | ((with_reducible refine gate_callee (f := 25) rfl ?_); refine goesL_ (some 20) rfl rfl Try.func25 (by kernel_rfl) rfl #[.string x114001_2, .string (⟨#[10]⟩ : ByteArray)] rfl (by (try simp only [List.map_toArray, List.map_cons, List.map_nil]); first | done | rfl | (simp only [List.length_drop, List.length_take]; rfl)) ?_; (with_reducible refine (chroma_zzSplitAfter.calls k2 x114001_2 (⟨#[10]⟩ : ByteArray) t118 _ A9.out).mono ?_); rintro e w33 ⟨v119, rfl, ho0, hb⟩; refine ⟨_, rfl, ?_⟩; have n0_ := Aside0.mk (Kd.S_below (by (with_reducible repeat (first | apply Kd.S_alloc | apply Kd.S_drewN | apply Kd.S_drew)); exact HO_2.out) hb); have n1_ := Aside0.mk (Kd.R_below (by (with_reducible repeat (first | apply Kd.R_alloc | apply Kd.R_drewN | apply Kd.R_drew)); exact HO_3.out) hb); have n2_ := Aside0.mk (Kd.R_lower ho0 (below_size (by repeat (first | (with_reducible first | exact HB.out | apply below_alloc | apply pw_below_drewN | apply below_drew1 | refine below_set ?_ GE113.out) | exact HB.out)))); have n3_ := Aside0.mk (blk_below (g := gb113) (o := .cells #[.int .i64 ((rd_T47 l0 x11_1).f0), .string x114001_2] 47 (0, 0)) (by (with_reducible repeat (first | refine blk_drewN ?_ _ | refine blk_drew ?_ | refine blk_alloc ?_ _)); exact BK113.out) hb); have n4_ := Aside0.mk (below_step (by repeat (first | (with_reducible first | exact HB.out | apply below_alloc | apply pw_below_drewN | apply below_drew1 | refine below_set ?_ GE113.out) | exact HB.out)) hb); clear HO_2; clear HO_3; clear BK113; clear HB; have HO_2 := n0_; have HO_3 := n1_; have HO120 := n2_; have BK113 := n3_; have HB := n4_; clear n0_ n1_ n2_ n3_ n4_; (try clear hb); (try clear hb2); (try clear hk); (try clear hi); (try clear ho0); obtain ⟨Ao34, co34, eo34⟩ := Kd.R_slice HO120.out; subst eo34; have p121 : 0 ≤ (1 : Int) := (by omega); have q121 : 1 < (t118.length : Int) := of_decide_eq_true (by first | (with_reducible assumption) | assumption); obtain ⟨ad121, e121, hx121_0⟩ := Kd.at_string (Kd.R_reads' HO120.out).2.2 1 p121 q121; cases e121; (try simp only [show (1 : Int).toNat = 1 from rfl, Nat.reduceMul, Nat.reduceEqDiff, Go.Addr.add, ↓reduceIte] at hx121_0); have qi121 : (1 < t118.length) = True := eq_true (by omega); (try rw [show ((1 : Int)).toNat = 1 from rfl] at hx121_0); replace p121 := eq_true p121; replace q121 := eq_true q121; have hcz35_0 : w33.cell? ⟨gb113, 0, none⟩ = some (.int .i64 ((rd_T47 l0 x11_1).f0)) := (blk_cell BK113.out 0).trans rfl; have hcz35_1 : w33.cell? ⟨gb113, 1, none⟩ = some (.string x114001_2) := (blk_cell BK113.out 1).trans rfl; have hfz35_0 := blk_frozen BK113.out 0; have hfz35_1 := blk_frozen BK113.out 1) | ((with_reducible refine gate_callee (f := 26) rfl ?_); refine goesL_ (some 25) rfl rfl Try.func26 (by kernel_rfl) rfl #[.pointer (some ⟨gb113, 0, none⟩)] rfl (by (try simp only [List.map_toArray, List.map_cons, List.map_nil]); first | done | rfl | (simp only [List.length_drop, List.length_take]; rfl)) ?_; (with_reducible refine (chroma_Token_Clone.calls gb113 ((rd_T47 l0 x11_1).f0) (rdOf ByteArray.empty t118 1) t122 t123 _ ?side1 A11.out).mono ?_); (case side1 => (with_reducible repeat (first | refine blk_drewN ?_ _ | refine blk_drew ?_ | refine blk_alloc ?_ _)); refine blk_put (cs := #[.int .i64 ((rd_T47 l0 x11_1).f0), .string x114001_2]) ?_ 1 _ rfl; (with_reducible repeat (first | refine blk_drewN ?_ _ | refine blk_drew ?_ | refine blk_alloc ?_ _)); exact BK113.out); rintro e w36 ⟨rfl, hb⟩; refine ⟨_, rfl, ?_⟩; have n0_ := Aside0.mk (Kd.S_below (by (with_reducible repeat (first | apply Kd.S_alloc | apply Kd.S_drewN | apply Kd.S_drew)); exact (Kd.S_mono (Kd.S_far (p := ⟨gb113, 1, none⟩) (Kd.S_mono HO_2.out (fun k_ hk => (⟨hk, hk.2⟩ : _ ∧ k_ ≠ gb113))) (fun _ hk => hk.2) (.string (rdOf ByteArray.empty t118 1))) (fun _ h_ => h_.1))) hb); have n1_ := Aside0.mk (Kd.R_below (by (with_reducible repeat (first | apply Kd.R_alloc | apply Kd.R_drewN | apply Kd.R_drew)); exact (Kd.R_mono (Kd.R_far (p := ⟨gb113, 1, none⟩) (Kd.R_mono HO_3.out (fun k_ hk => (⟨hk, hk⟩ : _ ∧ k_ ≠ gb113))) (fun _ hk => hk.2) (.string (rdOf ByteArray.empty t118 1))) (fun _ h_ => h_.1))) hb); have n2_ := Aside0.mk (Kd.R_below (by (with_reducible repeat (first | apply Kd.R_alloc | apply Kd.R_drewN | apply Kd.R_drew)); exact (Kd.R_mono (Kd.R_far (p := ⟨gb113, 1, none⟩) (Kd.R_types HO120.out BK113.out (by decide)) (fun _ hk => hk.2) (.string (rdOf ByteArray.empty t118 1))) (fun _ h_ => h_.1))) hb); have n3_ := Aside0.mk (blk_below (g := gb113) (o := .cells #[.int .i64 ((rd_T47 l0 x11_1).f0), .string (rdOf ByteArray.empty t118 1)] 47 (0, 0)) (by (with_reducible repeat (first | refine blk_drewN ?_ _ | refine blk_drew ?_ | refine blk_alloc ?_ _)); refine blk_put (cs := #[.int .i64 ((rd_T47 l0 x11_1).f0), .string x114001_2]) ?_ 1 _ rfl; (with_reducible repeat (first | refine blk_drewN ?_ _ | refine blk_drew ?_ | refine blk_alloc ?_ _)); exact BK113.out) hb); have n4_ := Aside0.mk (below_step (by repeat (first | (with_reducible first | exact HB.out | apply below_alloc | apply pw_below_drewN | apply below_drew1 | refine below_set ?_ GE113.out) | exact HB.out)) hb); clear HO_2; clear HO_3; clear HO120; clear BK113; clear HB; have HO_2 := n0_; have HO_3 := n1_; have HO120 := n2_; have BK113 := n3_; have HB := n4_; clear n0_ n1_ n2_ n3_ n4_; (try clear hb); (try clear hb2); (try clear hk); (try clear hi)) | ((with_reducible refine gate_dst (N := 7) rfl ?_); refine box_event ?hg (N := 7) ?hd (cs := #[.int .i64 0, .string (⟨#[]⟩ : ByteArray)]) (t := 47) ?hr ?_; (case hd => rfl); (case hg => rfl); (case hr => first | (go_simp; done) | (go_simp; rfl)); intro gb124 hg w37 hbox hb; have n0_ := Aside0.mk (Kd.S_below (Kd.S_elderB (by (with_reducible repeat (first | apply Kd.S_alloc | apply Kd.S_drewN | apply Kd.S_drew)); exact HO_2.out) gb124 (Nat.le_of_eq hg.symm)) hb); have n1_ := Aside0.mk (Kd.R_below (Kd.R_elderB (by (with_reducible repeat (first | apply Kd.R_alloc | apply Kd.R_drewN | apply Kd.R_drew)); exact HO_3.out) gb124 (Nat.le_of_eq hg.symm)) hb); have n2_ := Aside0.mk (Kd.R_below (by (with_reducible repeat (first | apply Kd.R_alloc | apply Kd.R_drewN | apply Kd.R_drew)); exact HO120.out) hb); have n3_ := Aside0.mk (blk_below (g := gb113) (o := .cells #[.int .i64 ((rd_T47 l0 x11_1).f0), .string (rdOf ByteArray.empty t118 1)] 47 (0, 0)) (by (with_reducible repeat (first | refine blk_drewN ?_ _ | refine blk_drew ?_ | refine blk_alloc ?_ _)); exact BK113.out) hb); have n4_ := Aside0.mk (below_step (by repeat (first | (with_reducible first | exact HB.out | apply below_alloc | apply pw_below_drewN | apply below_drew1 | refine below_set ?_ GE113.out) | exact HB.out)) hb); have n5_ := Aside0.mk (hbox); have n6_ := Aside0.mk ((by rw [hg]; exact (below_size (by repeat (first | (with_reducible first | exact HB.out | apply below_alloc | apply pw_below_drewN | apply below_drew1 | refine below_set ?_ GE113.out) | exact HB.out))) : w.heap.size ≤ gb124)); have n7_ := Aside0.mk ((by rw [hg]; exact (below_size (by repeat (first | (with_reducible first | exact HB.out | apply below_alloc | apply pw_below_drewN | apply below_drew1 | refine below_set ?_ GE113.out) | exact HB.out))) : w.heap.size ≤ gb124)); have n8_ := Aside0.mk ((by rw [hg]; exact Nat.ne_of_lt (blk_lt (g := gb113) (o := .cells #[.int .i64 ((rd_T47 l0 x11_1).f0), .string (rdOf ByteArray.empty t118 1)] 47 (0, 0)) (by (with_reducible repeat (first | refine blk_drewN ?_ _ | refine blk_drew ?_ | refine blk_alloc ?_ _)); exact BK113.out)) : gb113 ≠ gb124)); have n9_ := Aside0.mk ((by rw [hg]; exact Nat.ne_of_gt (blk_lt (g := gb113) (o := .cells #[.int .i64 ((rd_T47 l0 x11_1).f0), .string (rdOf ByteArray.empty t118 1)] 47 (0, 0)) (by (with_reducible repeat (first | refine blk_drewN ?_ _ | refine blk_drew ?_ | refine blk_alloc ?_ _)); exact BK113.out)) : gb124 ≠ gb113)); clear HO_2; clear HO_3; clear HO120; clear BK113; clear HB; have HO_2 := n0_; have HO_3 := n1_; have HO120 := n2_; have BK113 := n3_; have HB := n4_; have BK124 := n5_; have GW124 := n6_; have GE124 := n7_; have NB113_124 := n8_; have NB124_113 := n9_; clear n0_ n1_ n2_ n3_ n4_ n5_ n6_ n7_ n8_ n9_; clear hb hbox hg; have hnb38 := NB124_113.out; have hnc38 := NB113_124.out; have hcz39_0 : w37.cell? ⟨gb124, 0, none⟩ = some (.int .i64 0) := (blk_cell BK124.out 0).trans rfl; have hcz39_1 : w37.cell? ⟨gb124, 1, none⟩ = some (.string (⟨#[]⟩ : ByteArray)) := (blk_cell BK124.out 1).trans rfl; have hfz39_0 := blk_frozen BK124.out 0; have hfz39_1 := blk_frozen BK124.out 1) | ((with_reducible refine gate_store (t := 47) (p := 7) rfl ?_); refine store_event (t := 47) (p := 7) (v := ?vo_w40) (w1 := ((w37.setCell ⟨gb124, 0, none⟩ (.int .i64 t122)).setCell ⟨gb124, 1, none⟩ (.string t123))) ?hg ?ho ?hn ?hr ?_; (case ho => rfl); (case hg => rfl); (case hn => rfl); (case hr => first | (go_simp; done) | (go_simp; rfl)); intro w40 hw; have n0_ : Aside0 (Kd.S (Kd.slice 47 k47) 40 w40 w.heap.size (fun k_ => some k_ ≠ (u3 : Value).ownBlock ∧ k_ ≠ gb113 ∧ k_ ≠ gb124) u2 x2_2) := ⟨(by rw [hw]; exact (by (with_reducible repeat (first | apply Kd.S_alloc | apply Kd.S_drewN | apply Kd.S_drew)); exact Kd.S_mono (Kd.S_far (p := ⟨gb124, 1, none⟩) (Kd.S_far (p := ⟨gb124, 0, none⟩) (Kd.S_mono HO_2.out (fun k_ hk => (⟨hk, hk.2⟩ : _ ∧ k_ ≠ gb124))) (fun _ hk => hk.2) (.int .i64 t122)) (fun _ hk => hk.2) (.string t123)) (fun _ hk => ⟨hk.1.1.1, ⟨hk.1.1.2, hk.1.2⟩⟩)))⟩; have n1_ : Aside0 (Kd.R k47 47 w40 w.heap.size (fun k_ => k_ ≠ gb113 ∧ k_ ≠ gb124) u3 x3_2) := ⟨(by rw [hw]; exact (by (with_reducible repeat (first | apply Kd.R_alloc | apply Kd.R_drewN | apply Kd.R_drew)); exact Kd.R_mono (Kd.R_far (p := ⟨gb124, 1, none⟩) (Kd.R_far (p := ⟨gb124, 0, none⟩) (Kd.R_mono HO_3.out (fun k_ hk => (⟨hk, hk.2⟩ : _ ∧ k_ ≠ gb124))) (fun _ hk => hk.2) (.int .i64 t122)) (fun _ hk => hk.2) (.string t123)) (fun _ hk => ⟨hk.1.1, hk.1.2⟩)))⟩; have n2_ : Aside0 (Kd.R Kd.string 9 w40 w.heap.size (fun _ => True) (.slice (some ad121) t118.length co34) t118) := ⟨(by rw [hw]; exact (by (with_reducible repeat (first | apply Kd.R_alloc | apply Kd.R_drewN | apply Kd.R_drew)); exact Kd.R_mono (Kd.R_far (p := ⟨gb124, 1, none⟩) (Kd.R_far (p := ⟨gb124, 0, none⟩) (Kd.R_types HO120.out BK124.out (by decide)) (fun _ hk => hk.2) (.int .i64 t122)) (fun _ hk => hk.2) (.string t123)) (fun _ hk => trivial)))⟩; have n3_ : Aside0 (w40.heap[gb113]? = some (.cells #[.int .i64 ((rd_T47 l0 x11_1).f0), .string (rdOf ByteArray.empty t118 1)] 47 (0, 0))) := ⟨(by rw [hw]; exact (by (with_reducible repeat (first | refine blk_drewN ?_ _ | refine blk_drew ?_ | refine blk_alloc ?_ _)); refine blk_far ?_ NB113_124.out _; (with_reducible repeat (first | refine blk_drewN ?_ _ | refine blk_drew ?_ | refine blk_alloc ?_ _)); refine blk_far ?_ NB113_124.out _; (with_reducible repeat (first | refine blk_drewN ?_ _ | refine blk_drew ?_ | refine blk_alloc ?_ _)); exact BK113.out))⟩; have n4_ : Aside0 (w40.heap[gb124]? = some (.cells #[.int .i64 t122, .string t123] 47 (0, 0))) := ⟨(by rw [hw]; exact (by (with_reducible repeat (first | refine blk_drewN ?_ _ | refine blk_drew ?_ | refine blk_alloc ?_ _)); refine blk_put (cs := #[.int .i64 t122, .string (⟨#[]⟩ : ByteArray)]) ?_ 1 _ rfl; (with_reducible repeat (first | refine blk_drewN ?_ _ | refine blk_drew ?_ | refine blk_alloc ?_ _)); refine blk_put (cs := #[.int .i64 0, .string (⟨#[]⟩ : ByteArray)]) ?_ 0 _ rfl; (with_reducible repeat (first | refine blk_drewN ?_ _ | refine blk_drew ?_ | refine blk_alloc ?_ _)); exact BK124.out))⟩; have n5_ : Aside0 (Below w.heap.size w w40) := ⟨(by rw [hw]; exact (by repeat (first | (with_reducible first | exact HB.out | apply below_alloc | apply pw_below_drewN | apply below_drew1 | refine below_set ?_ GE113.out | refine below_set ?_ GE124.out) | exact HB.out)))⟩; clear hw; clear HO_2; clear HO_3; clear HO120; clear BK113; clear BK124; clear HB; have HO_2 := n0_; have HO_3 := n1_; have HO120 := n2_; have BK113 := n3_; have BK124 := n4_; have HB := n5_; clear n0_ n1_ n2_ n3_ n4_ n5_; have p125 : 0 ≤ (0 : Int) := (by omega); have q125 : 0 < (t118.length : Int) := of_decide_eq_true (by first | (with_reducible assumption) | assumption); obtain ⟨ad125, e125, hx125_0⟩ := Kd.at_string (Kd.R_reads' HO120.out).2.2 0 p125 q125; obtain rfl : ad121 = ad125 := (by injection e125); have qi125 : (0 < t118.length) = True := eq_true (by omega); (try rw [show ((0 : Int)).toNat = 0 from rfl] at hx125_0); (try rw [Addr.add_zero'] at hx125_0); replace p125 := eq_true p125; replace q125 := eq_true q125; have hcz41_0 : w40.cell? ⟨gb124, 0, none⟩ = some (.int .i64 t122) := (blk_cell BK124.out 0).trans rfl; have hcz41_1 : w40.cell? ⟨gb124, 1, none⟩ = some (.string t123) := (blk_cell BK124.out 1).trans rfl; have hfz41_0 := blk_frozen BK124.out 0; have hfz41_1 := blk_frozen BK124.out 1) | ((with_reducible refine gate_builtin (b := .append) (xs := #[.tmp 30, .tmp 32]) rfl ?_); at_builtin; refine Kd.R_append k47 (w0 := w) w.heap.size rfl (.tmp 30) (.tmp 32) 40 47 (.agg #[(.int .i64 0), (.string ⟨#[]⟩)]) 24 rfl Try.underlying40 info47 rfl (by decide) (by omega) u3 x3_2 (⟨t122, rdOf ByteArray.empty t118 0⟩ : S47) [.int .i64 t122, .string (rdOf ByteArray.empty t118 0)] (fun k_ => k_ ≠ gb113 ∧ k_ ≠ gb124) (fun _ => False) rfl (by first | (go_simp; done) | (go_simp; rfl)) ?aP (fun _ hk => hk.elim) ?aF ?aO ?aB ?aS ?aL ?_; (case aP => exact k47_mkM _ _ _ (⟨t122, rdOf ByteArray.empty t118 0⟩ : S47)); (case aB => exact (by repeat (first | (with_reducible first | exact HB.out | apply below_alloc | apply pw_below_drewN | apply below_drew1 | refine below_set ?_ GE113.out | refine below_set ?_ GE124.out) | exact HB.out))); (case aF => exact (fun k_ hk => ⟨Kd.freshB (g := gb113) (o := .cells #[.int .i64 ((rd_T47 l0 x11_1).f0), .string (rdOf ByteArray.empty t118 1)] 47 (0, 0)) (by (with_reducible repeat (first | refine blk_drewN ?_ _ | refine blk_drew ?_ | refine blk_alloc ?_ _)); refine blk_far ?_ NB113_124.out _; (with_reducible repeat (first | refine blk_drewN ?_ _ | refine blk_drew ?_ | refine blk_alloc ?_ _)); exact BK113.out) k_ hk, Kd.freshB (g := gb124) (o := .cells #[.int .i64 t122, .string (rdOf ByteArray.empty t118 0)] 47 (0, 0)) (by (with_reducible repeat (first | refine blk_drewN ?_ _ | refine blk_drew ?_ | refine blk_alloc ?_ _)); refine blk_put (cs := #[.int .i64 t122, .string t123]) ?_ 1 _ rfl; (with_reducible repeat (first | refine blk_drewN ?_ _ | refine blk_drew ?_ | refine blk_alloc ?_ _)); exact BK124.out) k_ hk⟩)); (case aO => exact (by (with_reducible repeat (first | apply Kd.R_alloc | apply Kd.R_drewN | apply Kd.R_drew)); exact Kd.R_mono (Kd.R_far (p := ⟨gb124, 1, none⟩) (Kd.R_mono HO_3.out (fun k_ hk => (⟨hk, hk.2⟩ : _ ∧ k_ ≠ gb124))) (fun _ hk => hk.2) (.string (rdOf ByteArray.empty t118 0))) (fun _ hk => ⟨hk.1.1, hk.1.2⟩))); (case aS => exact (below_size (by repeat (first | (with_reducible first | exact HB.out | apply below_alloc | apply pw_below_drewN | apply below_drew1 | refine below_set ?_ GE113.out | refine below_set ?_ GE124.out) | exact HB.out)))); (case aL => have := LMc13.out; omega); intro v127 w42 ho hb hg hat; rw [← Ny126.out] at ho; have n0_ := Aside0.mk (Kd.S_after (ok := (fun k_ => k_ ≠ gb113 ∧ k_ ≠ gb124)) (by (with_reducible repeat (first | apply Kd.S_alloc | apply Kd.S_drewN | apply Kd.S_drew)); exact Kd.S_mono (Kd.S_far (p := ⟨gb124, 1, none⟩) (Kd.S_mono HO_2.out (fun k_ hk => (⟨hk, hk.2.2⟩ : _ ∧ k_ ≠ gb124))) (fun _ hk => hk.2) (.string (rdOf ByteArray.empty t118 0))) (fun _ hk => ⟨⟨hk.1.2.1, hk.1.2.2⟩, hk.1.1⟩)) hg hat); have n1_ := Aside0.mk (blk_grown (g := gb113) (o := .cells #[.int .i64 ((rd_T47 l0 x11_1).f0), .string (rdOf ByteArray.empty t118 1)] 47 (0, 0)) (by (with_reducible repeat (first | refine blk_drewN ?_ _ | refine blk_drew ?_ | refine blk_alloc ?_ _)); refine blk_far ?_ NB113_124.out _; (with_reducible repeat (first | refine blk_drewN ?_ _ | refine blk_drew ?_ | refine blk_alloc ?_ _)); exact BK113.out) hg (Kd.R_away HO_3.out (fun _ hk => hk.1))); have n2_ := Aside0.mk (Kd.R_over' (by (with_reducible repeat (first | apply Kd.R_alloc | apply Kd.R_drewN | apply Kd.R_drew)); exact (Kd.R_mono (Kd.R_far (p := ⟨gb124, 1, none⟩) (Kd.R_types HO120.out BK124.out (by decide)) (fun _ hk => hk.2) (.string (rdOf ByteArray.empty t118 0))) (fun _ h_ => h_.1))) (Kd.R_typed (by (with_reducible repeat (first | apply Kd.R_alloc | apply Kd.R_drewN | apply Kd.R_drew)); exact (Kd.R_mono (Kd.R_far (p := ⟨gb124, 1, none⟩) (Kd.R_mono HO_3.out (fun k_ hk => (⟨hk, hk.2⟩ : _ ∧ k_ ≠ gb124))) (fun _ hk => hk.2) (.string (rdOf ByteArray.empty t118 0))) (fun _ h_ => h_.1)))) (by decide) hg); have n3_ := Aside0.mk (blk_grown (g := gb124) (o := .cells #[.int .i64 t122, .string (rdOf ByteArray.empty t118 0)] 47 (0, 0)) (by (with_reducible repeat (first | refine blk_drewN ?_ _ | refine blk_drew ?_ | refine blk_alloc ?_ _)); refine blk_put (cs := #[.int .i64 t122, .string t123]) ?_ 1 _ rfl; (with_reducible repeat (first | refine blk_drewN ?_ _ | refine blk_drew ?_ | refine blk_alloc ?_ _)); exact BK124.out) hg (Kd.R_away HO_3.out (fun _ hk => hk.2))); have n4_ := Aside0.mk (hb); have n5_ := Aside0.mk (ho); clear HO_2; clear BK113; clear HO120; clear BK124; clear HB; clear HO_3; have HO_2 := n0_; have BK113 := n1_; have HO120 := n2_; have BK124 := n3_; have HB := n4_; have HO128 := n5_; clear n0_ n1_ n2_ n3_ n4_ n5_; clear ho hb hg hat; obtain ⟨Ao44, co44, eo44⟩ := Kd.R_slice HO128.out; subst eo44) | ((with_reducible refine gate_builtin (b := .append) (xs := #[.tmp 34, .tmp 36]) rfl ?_); at_builtin; refine Kd.S_append (Kd.slice 47 k47) (w0 := w) w.heap.size rfl (.tmp 34) (.tmp 36) 38 40 (.slice none 0 0) 24 rfl Try.underlying38 info40 rfl (by decide) (by omega) u2 x2_2 y126 [.slice Ao44 y126.length co44] (fun k_ => k_ ≠ gb113 ∧ k_ ≠ gb124) (fun k_ => some k_ = (.slice Ao44 y126.length co44 : Value).ownBlock) rfl rfl ?aP (fun k_ hk_ => ((Kd.R_mono (ok' := fun k_ => ((fun k_ => k_ ≠ gb113 ∧ k_ ≠ gb124)) k_ ∧ some k_ ≠ (u2 : Value).ownBlock) (Kd.R_apart' (HO128.out) (Kd.S_typed HO_2.out) (by decide)) (fun k_ hk => ⟨⟨hk.1.1, hk.1.2⟩, hk.2⟩))).1 k_ hk_.symm) ?aF ?aO ?aB ?aS ?aL ?_; (case aP => exact Kd.M_row (Kd.R_mono (Kd.R_tight rfl (Kd.R_mono (ok' := fun k_ => ((fun k_ => k_ ≠ gb113 ∧ k_ ≠ gb124)) k_ ∧ some k_ ≠ (u2 : Value).ownBlock) (Kd.R_apart' (HO128.out) (Kd.S_typed HO_2.out) (by decide)) (fun k_ hk => ⟨⟨hk.1.1, hk.1.2⟩, hk.2⟩))) (fun _ h_ => h_))); (case aB => exact (by repeat (first | (with_reducible first | exact HB.out | apply below_alloc | apply pw_below_drewN | apply below_drew1 | refine below_set ?_ GE113.out | refine below_set ?_ GE124.out) | exact HB.out))); (case aF => exact (fun k_ hk => ⟨Kd.freshB (g := gb113) (o := .cells #[.int .i64 ((rd_T47 l0 x11_1).f0), .string (rdOf ByteArray.empty t118 1)] 47 (0, 0)) (by (with_reducible repeat (first | refine blk_drewN ?_ _ | refine blk_drew ?_ | refine blk_alloc ?_ _)); exact BK113.out) k_ hk, Kd.freshB (g := gb124) (o := .cells #[.int .i64 t122, .string (rdOf ByteArray.empty t118 0)] 47 (0, 0)) (by (with_reducible repeat (first | refine blk_drewN ?_ _ | refine blk_drew ?_ | refine blk_alloc ?_ _)); exact BK124.out) k_ hk⟩)); (case aO => exact (by (with_reducible repeat (first | apply Kd.S_alloc | apply Kd.S_drewN | apply Kd.S_drew)); exact Kd.S_mono HO_2.out (fun k_ hk => ⟨⟨hk.1.1, hk.1.2⟩, fun e_ => hk.2 e_⟩))); (case aS => exact (below_size (by repeat (first | (with_reducible first | exact HB.out | apply below_alloc | apply pw_below_drewN | apply below_drew1 | refine below_set ?_ GE113.out | refine below_set ?_ GE124.out) | exact HB.out)))); (case aL => have := LMc14.out; omega); intro v130 w43 ho hb hg hat; rw [← Ny129.out] at ho; have n0_ := Aside0.mk (blk_grown (g := gb113) (o := .cells #[.int .i64 ((rd_T47 l0 x11_1).f0), .string (rdOf ByteArray.empty t118 1)] 47 (0, 0)) (by (with_reducible repeat (first | refine blk_drewN ?_ _ | refine blk_drew ?_ | refine blk_alloc ?_ _)); exact BK113.out) hg (Kd.S_ne HO_2.out BK113.out (by decide))); have n1_ := Aside0.mk (Kd.R_over' (by (with_reducible repeat (first | apply Kd.R_alloc | apply Kd.R_drewN | apply Kd.R_drew)); exact HO120.out) (Kd.S_typed (by (with_reducible repeat (first | apply Kd.S_alloc | apply Kd.S_drewN | apply Kd.S_drew)); exact HO_2.out)) (by decide) hg); have n2_ := Aside0.mk (blk_grown (g := gb124) (o := .cells #[.int .i64 t122, .string (rdOf ByteArray.empty t118 0)] 47 (0, 0)) (by (with_reducible repeat (first | refine blk_drewN ?_ _ | refine blk_drew ?_ | refine blk_alloc ?_ _)); exact BK124.out) hg (Kd.S_ne HO_2.out BK124.out (by decide))); have n3_ := Aside0.mk (hb); have n4_ := Aside0.mk (ho); clear BK113; clear HO120; clear BK124; clear HB; clear HO_2; clear HO128; have BK113 := n0_; have HO120 := n1_; have BK124 := n2_; have HB := n3_; have HO131 := n4_; clear n0_ n1_ n2_ n3_ n4_; clear ho hb hg hat; have hcz45_0 : w43.cell? ⟨gb113, 0, none⟩ = some (.int .i64 ((rd_T47 l0 x11_1).f0)) := (blk_cell BK113.out 0).trans rfl; have hcz45_1 : w43.cell? ⟨gb113, 1, none⟩ = some (.string (rdOf ByteArray.empty t118 1)) := (blk_cell BK113.out 1).trans rfl; have hfz45_0 := blk_frozen BK113.out 0; have hfz45_1 := blk_frozen BK113.out 1))
                            go_roundg k2
                            case measure => have := HK1.out; have := HK2.out; omega
                            case rel => exact ⟨(y129), (([] : List (S47))), (rdOf ByteArray.empty t118 1), H', ⟨by have := HK1.out; have := HK2.out; omega⟩, ⟨by (with_reducible repeat (first | apply Kd.S_alloc | apply Kd.S_drewN | apply Kd.S_drew)); exact Kd.S_mono HO131.out (fun _ hk => ⟨(by simp [Value.ownBlock]), hk.1⟩)⟩, ⟨by first | exact Kd.R_nil _ _ _ _ _ | exact Kd.N_nil _ _ _ _ _ | exact Kd.V_nil _ _ _ _ _ | exact Kd.Q_nil _ _ _ _ _ | exact Kd.S_nil _ _ _ _ _⟩, ⟨by (with_reducible repeat (first | refine blk_drewN ?_ _ | refine blk_drew ?_ | refine blk_alloc ?_ _)); exact BK113.out⟩, ⟨by repeat (first | (with_reducible first | exact HB.out | apply below_alloc | apply pw_below_drewN | apply below_drew1 | refine below_set ?_ GE113.out | refine below_set ?_ GE124.out) | exact HB.out)⟩⟩
                        · rw [if_neg c14] at H
                          exact absurd H (by simp)
                      · rw [if_neg c13] at H
                        exact absurd H (by simp)
                    · rw [if_neg c12] at H
                      exact absurd H (by simp)
                  · rw [if_neg c10] at H
                    exact absurd H (by simp)
                · replace c8 := Bool.eq_false_iff.mpr c8
                  subst c8
                  have H1 : (if x3_2.length < 5864062014805 then (chroma_SplitTokensIntoLines.l0 k2 x2_2 (x3_2 ++ [(⟨((rd_T47 l0 x11_1).f0), x114001_2⟩ : S47)]) l0 (l0.length : Int) (wrap64 (x11_1 + 1))) else (none)) = some r := by rw [if_neg (show ¬ (false = true) by decide)] at H; exact H
                  clear H
                  have H := H1
                  clear H1
                  by_cases c46 : x3_2.length < 5864062014805
                  · rw [if_pos c46] at H
                    have LMc46 := Aside0.mk c46
                    clear c46
                    obtain ⟨y115, hy115⟩ : ∃ y_ : List (S47), y_ = (x3_2 ++ [(⟨((rd_T47 l0 x11_1).f0), x114001_2⟩ : S47)]) := ⟨_, rfl⟩
                    replace H : (chroma_SplitTokensIntoLines.l0 k2 x2_2 y115 l0 (l0.length : Int) (wrap64 (x11_1 + 1))) = some r := by first | (rw [hy115]; with_reducible exact H) | (have H2_ := (Option.bind_some _ _).symm.trans H; rw [hy115]; with_reducible exact H2_) | (have H2_ := (Option.bind_some _ _).symm.trans H; with_reducible exact H2_) | with_reducible exact H | (rw [hy115]; exact H) | exact H
                    have Ny115 := Aside0.mk hy115
                    clear hy115
                    have H' := Aside0.mk H
                    clear H
                    have hcz47_0 : wr.cell? ⟨gb113, 0, none⟩ = some (.int .i64 ((rd_T47 l0 x11_1).f0)) := (blk_cell BK113.out 0).trans rfl
                    have hcz47_1 : wr.cell? ⟨gb113, 1, none⟩ = some (.string x114001_2) := (blk_cell BK113.out 1).trans rfl
                    have hfz47_0 := blk_frozen BK113.out 0
                    have hfz47_1 := blk_frozen BK113.out 1
                    go_wp2_with (first | ((with_reducible refine gate_callee (f := 24) rfl ?_); refine goesL_ (some 17) rfl rfl Try.func24 (by kernel_rfl) rfl #[.string x114001_2, .string (⟨#[10]⟩ : ByteArray)] rfl (by (try simp only [List.map_toArray, List.map_cons, List.map_nil]); first | done | rfl | (simp only [List.length_drop, List.length_take]; rfl)) ?_; (with_reducible refine (chroma_zzContains.calls k2 x114001_2 (⟨#[10]⟩ : ByteArray) false _ A7.out).mono ?_); rintro e w' ⟨rfl, ⟨nd, rfl⟩⟩; refine ⟨_, rfl, ?_⟩) | ((with_reducible refine gate_builtin (b := .append) (xs := #[.tmp 42, .tmp 44]) rfl ?_); at_builtin; refine Kd.R_append k47 (w0 := w) w.heap.size rfl (.tmp 42) (.tmp 44) 40 47 (.agg #[(.int .i64 0), (.string ⟨#[]⟩)]) 24 rfl Try.underlying40 info47 rfl (by decide) (by omega) u3 x3_2 (⟨((rd_T47 l0 x11_1).f0), x114001_2⟩ : S47) [.int .i64 ((rd_T47 l0 x11_1).f0), .string x114001_2] (fun k_ => k_ ≠ gb113) (fun _ => False) rfl rfl ?aP (fun _ hk => hk.elim) ?aF ?aO ?aB ?aS ?aL ?_; (case aP => exact k47_mkM _ _ _ (⟨((rd_T47 l0 x11_1).f0), x114001_2⟩ : S47)); (case aB => exact (by repeat (first | (with_reducible first | exact HB.out | apply below_alloc | apply pw_below_drewN | apply below_drew1 | refine below_set ?_ GE113.out) | exact HB.out))); (case aF => exact (fun k_ hk => Kd.freshB (g := gb113) (o := .cells #[.int .i64 ((rd_T47 l0 x11_1).f0), .string x114001_2] 47 (0, 0)) (by (with_reducible repeat (first | refine blk_drewN ?_ _ | refine blk_drew ?_ | refine blk_alloc ?_ _)); exact BK113.out) k_ hk)); (case aO => exact (by (with_reducible repeat (first | apply Kd.R_alloc | apply Kd.R_drewN | apply Kd.R_drew)); exact HO_3.out)); (case aS => exact (below_size (by repeat (first | (with_reducible first | exact HB.out | apply below_alloc | apply pw_below_drewN | apply below_drew1 | refine below_set ?_ GE113.out) | exact HB.out)))); (case aL => have := LMc46.out; omega); intro v116 w48 ho hb hg hat; rw [← Ny115.out] at ho; have n0_ := Aside0.mk (Kd.S_after (ok := (fun k_ => k_ ≠ gb113)) (by (with_reducible repeat (first | apply Kd.S_alloc | apply Kd.S_drewN | apply Kd.S_drew)); exact Kd.S_mono HO_2.out (fun _ hk => ⟨hk.2, hk.1⟩)) hg hat); have n1_ := Aside0.mk (blk_grown (g := gb113) (o := .cells #[.int .i64 ((rd_T47 l0 x11_1).f0), .string x114001_2] 47 (0, 0)) (by (with_reducible repeat (first | refine blk_drewN ?_ _ | refine blk_drew ?_ | refine blk_alloc ?_ _)); exact BK113.out) hg (Kd.R_away HO_3.out (fun _ hk => hk))); have n2_ := Aside0.mk (hb); have n3_ := Aside0.mk (ho); clear HO_2; clear BK113; clear HB; clear HO_3; have HO_2 := n0_; have BK113 := n1_; have HB := n2_; have HO117 := n3_; clear n0_ n1_ n2_ n3_; clear ho hb hg hat))
                    go_roundg k2
                    case measure => have := HK1.out; have := HK2.out; omega
                    case rel => exact ⟨(x2_2), (y115), (wrap64 (x11_1 + 1)), (by first | rfl | (simp; done) | (simp [*]; done)), H', ⟨by have := HK1.out; have := HK2.out; omega⟩, ⟨by (with_reducible repeat (first | apply Kd.S_alloc | apply Kd.S_drewN | apply Kd.S_drew)); exact Kd.S_mono HO_2.out (fun _ hk => hk.2)⟩, ⟨by (with_reducible repeat (first | apply Kd.R_alloc | apply Kd.R_drewN | apply Kd.R_drew)); exact Kd.R_mono HO117.out (fun _ hk => trivial)⟩, ⟨by repeat (first | (with_reducible first | exact HB.out | apply below_alloc | apply pw_below_drewN | apply below_drew1 | refine below_set ?_ GE113.out) | exact HB.out)⟩⟩
                  · rw [if_neg c46] at H
                    exact absurd H (by simp)
          · rw [if_neg c4] at H
            exact absurd H (by simp)
        · rw [if_neg c3] at H
          exact absurd H (by simp)
      · rw [if_neg c2] at H
        have c2b0 : decide (x11_1 < (l0.length : Int)) = false := decide_eq_false c2
        clear c2
        have HC49 := Aside0.mk H
        clear H
        obtain ⟨Ao50, co50, eo50⟩ := Kd.R_slice HO_3.out
        subst eo50
        go_upto_if 49 with (fail)
        go_cut [2] (fun v2 wc => ∃ (kq : Nat) (x2_48 : List (List (S47))), Aside0 (chroma_SplitTokensIntoLines.j2 kq x2_48 = some r) ∧ Aside0 (kq ≤ k1) ∧ Aside0 (Kd.S (Kd.slice 47 k47) 40 wc w.heap.size (fun _ => True) v2 x2_48) ∧ Aside0 (Below w.heap.size w wc))
        case first =>
          have H := HC49.out
          clear HC49
          by_cases c51 : (x3_1.length : Int) > 0
          · rw [if_pos c51] at H
            have c51b0 : decide (0 < (x3_1.length : Int)) = true := decide_eq_true c51
            have c51b1 : decide (0 < x3_1.length) = true := decide_eq_true (by omega)
            clear c51
            (first | rw [c51b0] | (simp only [i64_w, i32_w]; rw [c51b0]) | rw [c51b1] | skip)
            by_cases c52 : x2_1.length < 5864062014805
            · rw [if_pos c52] at H
              have LMc52 := Aside0.mk c52
              clear c52
              obtain ⟨y132, hy132⟩ : ∃ y_ : List (List (S47)), y_ = (x2_1 ++ [x3_1]) := ⟨_, rfl⟩
              replace H : (chroma_SplitTokensIntoLines.j2 k1 y132) = some r := by first | (rw [hy132]; with_reducible exact H) | (have H2_ := (Option.bind_some _ _).symm.trans H; rw [hy132]; with_reducible exact H2_) | (have H2_ := (Option.bind_some _ _).symm.trans H; with_reducible exact H2_) | with_reducible exact H | (rw [hy132]; exact H) | exact H
              have Ny132 := Aside0.mk hy132
              clear hy132
              have H' := Aside0.mk H
              clear H
              go_wp2_with (first | ((with_reducible refine gate_builtin (b := .append) (xs := #[.tmp 50, .tmp 52]) rfl ?_); at_builtin; refine Kd.S_append (Kd.slice 47 k47) (w0 := w) w.heap.size rfl (.tmp 50) (.tmp 52) 38 40 (.slice none 0 0) 24 rfl Try.underlying38 info40 rfl (by decide) (by omega) u2 x2_1 x3_1 [.slice Ao50 x3_1.length co50] (fun _ => True) (fun k_ => some k_ = (.slice Ao50 x3_1.length co50 : Value).ownBlock) rfl rfl ?aP (fun k_ hk_ => ((Kd.R_mono (ok' := fun k_ => ((fun _ => True)) k_ ∧ some k_ ≠ (u2 : Value).ownBlock) (Kd.R_apart' (HO_3.out) (Kd.S_typed HO_2.out) (by decide)) (fun k_ hk => ⟨trivial, hk.2⟩))).1 k_ hk_.symm) ?aF ?aO ?aB ?aS ?aL ?_; (case aP => exact Kd.M_row (Kd.R_mono (Kd.R_tight rfl (Kd.R_mono (ok' := fun k_ => ((fun _ => True)) k_ ∧ some k_ ≠ (u2 : Value).ownBlock) (Kd.R_apart' (HO_3.out) (Kd.S_typed HO_2.out) (by decide)) (fun k_ hk => ⟨trivial, hk.2⟩))) (fun _ h_ => h_))); (case aB => exact (by repeat (first | (with_reducible first | exact HB.out | apply below_alloc | apply pw_below_drewN | apply below_drew1) | exact HB.out))); (case aF => exact (fun _ _ => trivial)); (case aO => exact (by (with_reducible repeat (first | apply Kd.S_alloc | apply Kd.S_drewN | apply Kd.S_drew)); exact Kd.S_mono HO_2.out (fun k_ hk => ⟨trivial, fun e_ => hk e_⟩))); (case aS => exact (below_size (by repeat (first | (with_reducible first | exact HB.out | apply below_alloc | apply pw_below_drewN | apply below_drew1) | exact HB.out)))); (case aL => have := LMc52.out; omega); intro v133 w53 ho hb hg hat; rw [← Ny132.out] at ho; have n0_ := Aside0.mk (hb); have n1_ := Aside0.mk (ho); clear HB; clear HO_2; clear HO_3; have HB := n0_; have HO134 := n1_; clear n0_ n1_; clear ho hb hg hat))
              go_meet
              case rel => exact ⟨_, (y132), H', ⟨by have := HK1.out; first | omega | exact Nat.le_refl _⟩, ⟨by (with_reducible repeat (first | apply Kd.S_alloc | apply Kd.S_drewN | apply Kd.S_drew)); exact HO134.out⟩, ⟨by repeat (first | (with_reducible first | exact HB.out | apply below_alloc | apply pw_below_drewN | apply below_drew1) | exact HB.out)⟩⟩
            · rw [if_neg c52] at H
              exact absurd H (by simp)
          · rw [if_neg c51] at H
            have c51b0 : decide (0 < (x3_1.length : Int)) = false := decide_eq_false c51
            have c51b1 : decide (0 < x3_1.length) = false := decide_eq_false (by omega)
            clear c51
            (first | rw [c51b0] | (simp only [i64_w, i32_w]; rw [c51b0]) | rw [c51b1] | skip)
            have H' := Aside0.mk H
            clear H
            go_wp2
            go_meet
            case rel => exact ⟨_, (x2_1), H', ⟨by have := HK1.out; first | omega | exact Nat.le_refl _⟩, ⟨by (with_reducible repeat (first | apply Kd.S_alloc | apply Kd.S_drewN | apply Kd.S_drew)); exact Kd.S_mono HO_2.out (fun _ hk => trivial)⟩, ⟨by repeat (first | (with_reducible first | exact HB.out | apply below_alloc | apply pw_below_drewN | apply below_drew1) | exact HB.out)⟩⟩
        case rest =>
          clear HC49
          try clear c1
          try clear p1
          try clear q1
          try clear hx1
          try clear qi1
          try clear c2
          try clear c2b0
          try clear p2
          try clear c3
          try clear c3b0
          try clear p3
          try clear c4
          try clear c4b0
          try clear c5
          try clear p6
          try clear c8
          try clear c10
          try clear c10b0
          try clear c10b1
          try clear p11
          try clear q11
          try clear hx11
          try clear c12
          try clear c12b0
          try clear c12b1
          try clear p12
          try clear q12
          try clear hx12
          try clear qi12
          try clear c13
          try clear c14
          try clear c15
          try clear c15b0
          try clear c15b1
          try clear c20
          try clear c23
          try clear c24
          try clear c25
          try clear c26
          try clear c38
          try clear c46
          try clear c51
          try clear c51b0
          try clear c51b1
          try clear c52
          try clear hcz16_0
          try clear hcz16_1
          try clear hcz17_0
          try clear hcz17_1
          try clear hcz20_0
          try clear hcz20_1
          try clear hcz24_0
          try clear hcz24_1
          try clear hcz26_0
          try clear hcz26_1
          try clear hcz30_0
          try clear hcz30_1
          try clear hcz31_0
          try clear hcz31_1
          try clear hcz32_0
          try clear hcz32_1
          try clear hcz35_0
          try clear hcz35_1
          try clear hcz39_0
          try clear hcz39_1
          try clear hcz41_0
          try clear hcz41_1
          try clear hcz45_0
          try clear hcz45_1
          try clear hcz47_0
          try clear hcz47_1
          try clear hcz6_0
          try clear hcz6_1
          try clear hfz16_0
          try clear hfz16_1
          try clear hfz17_0
          try clear hfz17_1
          try clear hfz20_0
          try clear hfz20_1
          try clear hfz24_0
          try clear hfz24_1
          try clear hfz26_0
          try clear hfz26_1
          try clear hfz30_0
          try clear hfz30_1
          try clear hfz31_0
          try clear hfz31_1
          try clear hfz32_0
          try clear hfz32_1
          try clear hfz35_0
          try clear hfz35_1
          try clear hfz39_0
          try clear hfz39_1
          try clear hfz41_0
          try clear hfz41_1
          try clear hfz45_0
          try clear hfz45_1
          try clear hfz47_0
          try clear hfz47_1
          try clear hfz6_0
          try clear hfz6_1
          try clear hx112_0
          try clear hx112_1
          try clear hx121_0
          try clear hx125_0
          try clear p1
          try clear p112
          try clear p121
          try clear p125
          try clear p2
          try clear p3
          try clear q1
          try clear q112
          try clear q121
          try clear q125
          obtain ⟨kq, x2_48, HA, HJ48, HO_2, HB⟩ := hcut
          cases kq with
          | zero => exact absurd HA.out (by simp [chroma_SplitTokensIntoLines.j2])
          | succ kj48 =>
            have H := HA.out
            clear HA
            simp only [chroma_SplitTokensIntoLines.j2] at H
            by_cases c54 : (x2_48.length : Int) > 0
            · rw [if_pos c54] at H
              have c54b0 : decide (0 < (x2_48.length : Int)) = true := decide_eq_true c54
              have c54b1 : decide (0 < x2_48.length) = true := decide_eq_true (by omega)
              clear c54
              obtain ⟨ji55, hji55⟩ : ∃ j_ : Int, (wrap64 ((x2_48.length : Int) - 1)) = j_ := ⟨_, rfl⟩
              replace H : (if 0 ≤ (ji55) then (if (ji55) < (x2_48.length : Int) then (if ((rd_L4 x2_48 (ji55)).length : Int) = 1 then (if 0 < ((rd_L4 x2_48 (ji55)).length : Int) then (if ((rd_T47 (rd_L4 x2_48 (ji55)) 0).f1).toList = ([] : List UInt8) then (if (ji55) ≤ (x2_48.length : Int) then (some (x2_48.take ((ji55) : Int).toNat)) else (none)) else (some x2_48)) else (none)) else (some x2_48)) else (none)) else (none)) = some r := by first | (rw [hji55] at H; exact H) | (simp only [hji55] at H ⊢; exact H)
              have hji55w : (IntKind.i64.wrap ((x2_48.length : Int) - 1)) = ji55 := (i64_w _).trans hji55
              by_cases c56 : 0 ≤ (ji55)
              · rw [if_pos c56] at H
                have c56b0 : decide (0 ≤ (ji55)) = true := decide_eq_true c56
                clear c56
                by_cases c57 : (ji55) < (x2_48.length : Int)
                · rw [if_pos c57] at H
                  have c57b0 : decide ((ji55) < (x2_48.length : Int)) = true := decide_eq_true c57
                  clear c57
                  by_cases c58 : ((rd_L4 x2_48 (ji55)).length : Int) = 1
                  · rw [if_pos c58] at H
                    have c58b0 : (((rd_L4 x2_48 (ji55)).length : Int) == 1) = true := beq_iff_eq.mpr c58
                    have c58b1 : (((rd_L4 x2_48 (ji55)).length : Int) != 1) = false := bne_eq_false_iff_eq.mpr c58
                    clear c58
                    by_cases c59 : 0 < ((rd_L4 x2_48 (ji55)).length : Int)
                    · rw [if_pos c59] at H
                      have c59b0 : decide (0 < ((rd_L4 x2_48 (ji55)).length : Int)) = true := decide_eq_true c59
                      have c59b1 : decide (0 < (rd_L4 x2_48 (ji55)).length) = true := decide_eq_true (by omega)
                      clear c59
                      by_cases c60 : ((rd_T47 (rd_L4 x2_48 (ji55)) 0).f1).toList = ([] : List UInt8)
                      · rw [if_pos c60] at H
                        have c60b0 : (((rd_T47 (rd_L4 x2_48 (ji55)) 0).f1).toList == ([] : List UInt8)) = true := beq_iff_eq.mpr c60
                        have c60b1 : (((rd_T47 (rd_L4 x2_48 (ji55)) 0).f1).toList != ([] : List UInt8)) = false := bne_eq_false_iff_eq.mpr c60
                        clear c60
                        by_cases c61 : (ji55) ≤ (x2_48.length : Int)
                        · rw [if_pos c61] at H
                          have c61b0 := eq_true c61
                          have c61b1 : decide ((ji55) ≤ (x2_48.length : Int)) = true := decide_eq_true c61
                          clear c61
                          obtain ⟨y137, hy137⟩ : ∃ y_ : List (List (S47)), y_ = (x2_48.take ((ji55) : Int).toNat) := ⟨_, rfl⟩
                          replace H : (some y137) = some r := by first | (rw [hy137]; with_reducible exact H) | (have H2_ := (Option.bind_some _ _).symm.trans H; rw [hy137]; with_reducible exact H2_) | (have H2_ := (Option.bind_some _ _).symm.trans H; with_reducible exact H2_) | with_reducible exact H | (rw [hy137]; exact H) | exact H
                          have Ny137 := Aside0.mk hy137
                          clear hy137
                          obtain rfl := Option.some.inj H
                          obtain ⟨Ao62, co62, eo62⟩ := Kd.S_slice HO_2.out
                          subst eo62
                          have p135 : 0 ≤ ((ji55) : Int) := of_decide_eq_true (by first | (with_reducible assumption) | assumption)
                          have q135 : (ji55) < (x2_48.length : Int) := of_decide_eq_true (by first | (with_reducible assumption) | assumption)
                          obtain ⟨ad135, A135_0, c135_0, e135, hx135_0, hl135_0, hi135_0⟩ := at_L4 (Kd.S_reads' HO_2.out).2.2 (ji55) p135 q135
                          cases e135
                          obtain ⟨ce135, hce135, hMe135, hcc135⟩ := Kd.S_get HO_2.out [] (ji55) p135 (by first | exact q135 | exact of_decide_eq_true (by first | (with_reducible assumption) | assumption) | (have e_ := (Kd.S_reads' HO_2.out).1; omega))
                          obtain ⟨ve135_0, rfl, ge135_0⟩ := hMe135
                          have hv135_0 := hcc135 0 _ rfl
                          rw [Nat.add_zero, show ((Kd.slice 47 k47)).sz = 1 from rfl, Nat.mul_one] at hv135_0
                          replace hv135_0 := Option.some.inj (hv135_0.symm.trans hx135_0)
                          rw [hv135_0] at ge135_0
                          have HL135_0 := Aside0.mk (show Kd.R k47 47 _ _ _ _ (rd_L4 x2_48 (ji55)) from ge135_0)
                          clear hv135_0 ge135_0
                          clear hcc135 hce135
                          have HR135_0 := Aside0.mk hi135_0
                          have HC135_0 := Aside0.mk hl135_0
                          clear hi135_0 hl135_0
                          replace p135 := eq_true p135
                          replace q135 := eq_true q135
                          have p136 : 0 ≤ (0 : Int) := (by omega)
                          have q136 : 0 < ((rd_L4 x2_48 (ji55)).length : Int) := of_decide_eq_true (by first | (with_reducible assumption) | assumption)
                          obtain ⟨ad136, e136, hx136_0, hx136_1⟩ := at_T47 (by repeat (first | (with_reducible exact HR135_0.out) | (with_reducible refine Kd.C_alloc ?_ _) | (with_reducible refine Kd.C_drewN ?_ _) | (with_reducible refine Kd.C_drew ?_) | exact HR135_0.out)) 0 p136 q136
                          cases e136
                          have qi136 : (0 < (rd_L4 x2_48 (ji55)).length) = True := eq_true (by omega)
                          (try rw [show ((0 : Int)).toNat = 0 from rfl] at hx136_0)
                          (try rw [show 0 * 2 = 0 from rfl] at hx136_0)
                          (try rw [Addr.add_zero'] at hx136_0)
                          (try rw [show ((0 : Int)).toNat = 0 from rfl] at hx136_1)
                          (try rw [show 0 * 2 = 0 from rfl] at hx136_1)
                          (try rw [Addr.add_zero'] at hx136_1)
                          replace p136 := eq_true p136
                          replace q136 := eq_true q136
                          have q63 : ((ji55) : Int) ≤ ((x2_48.length : Int) : Int) := of_decide_eq_true (by first | (with_reducible assumption) | assumption)
                          obtain ⟨i063, hi063, _, hsz63, _⟩ := info_parts info40
                          have hcut63 := cut_to (P := Try.prog) 38 40 .i64 Try.underlying38 hi063 (some ad135) x2_48.length co62 (ji55) (of_decide_eq_true (by first | (with_reducible assumption) | assumption)) q63 (Kd.S_reads' HO_2.out).2.1
                          have hr63 := Kd.S_take (m := ((ji55) : Int).toNat) HO_2.out (by omega)
                          have hy63 : y137.length = ((ji55) : Int).toNat := (by rw [Ny137.out, List.length_take]; omega)
                          rw [← Ny137.out] at hr63
                          rw [← hy63] at hr63 hcut63
                          clear hy63 hi063 hsz63 HO_2
                          have HO139 := Aside0.mk hr63
                          clear hr63
                          replace q63 := eq_true q63
                          go_wp2
                          (try rw [Exit.noGoto_ret])
                          go_ret
                          exact ⟨_, by first | rfl | (simp [errW_none, errW_some] <;> rfl) | (simp only [← hji55]; first | rfl | (simp [errW_none, errW_some] <;> rfl)) | (simp [*, errW_none, errW_some] <;> rfl), by (with_reducible repeat (first | apply Kd.S_alloc | apply Kd.S_drewN | apply Kd.S_drew)); exact HO139.out, by repeat (first | (with_reducible first | exact HB.out | apply below_alloc | apply pw_below_drewN | apply below_drew1) | exact HB.out)⟩
                        · rw [if_neg c61] at H
                          exact absurd H (by simp)
                      · rw [if_neg c60] at H
                        have c60b0 : (((rd_T47 (rd_L4 x2_48 (ji55)) 0).f1).toList == ([] : List UInt8)) = false := beq_eq_false_iff_ne.mpr c60
                        have c60b1 : (((rd_T47 (rd_L4 x2_48 (ji55)) 0).f1).toList != ([] : List UInt8)) = true := bne_iff_ne.mpr c60
                        obtain rfl := Option.some.inj H
                        obtain ⟨Ao64, co64, eo64⟩ := Kd.S_slice HO_2.out
                        subst eo64
                        have p135 : 0 ≤ ((ji55) : Int) := of_decide_eq_true (by first | (with_reducible assumption) | assumption)
                        have q135 : (ji55) < (x2_48.length : Int) := of_decide_eq_true (by first | (with_reducible assumption) | assumption)
                        obtain ⟨ad135, A135_0, c135_0, e135, hx135_0, hl135_0, hi135_0⟩ := at_L4 (Kd.S_reads' HO_2.out).2.2 (ji55) p135 q135
                        cases e135
                        obtain ⟨ce135, hce135, hMe135, hcc135⟩ := Kd.S_get HO_2.out [] (ji55) p135 (by first | exact q135 | exact of_decide_eq_true (by first | (with_reducible assumption) | assumption) | (have e_ := (Kd.S_reads' HO_2.out).1; omega))
                        obtain ⟨ve135_0, rfl, ge135_0⟩ := hMe135
                        have hv135_0 := hcc135 0 _ rfl
                        rw [Nat.add_zero, show ((Kd.slice 47 k47)).sz = 1 from rfl, Nat.mul_one] at hv135_0
                        replace hv135_0 := Option.some.inj (hv135_0.symm.trans hx135_0)
                        rw [hv135_0] at ge135_0
                        have HL135_0 := Aside0.mk (show Kd.R k47 47 _ _ _ _ (rd_L4 x2_48 (ji55)) from ge135_0)
                        clear hv135_0 ge135_0
                        clear hcc135 hce135
                        have HR135_0 := Aside0.mk hi135_0
                        have HC135_0 := Aside0.mk hl135_0
                        clear hi135_0 hl135_0
                        replace p135 := eq_true p135
                        replace q135 := eq_true q135
                        have p136 : 0 ≤ (0 : Int) := (by omega)
                        have q136 : 0 < ((rd_L4 x2_48 (ji55)).length : Int) := of_decide_eq_true (by first | (with_reducible assumption) | assumption)
                        obtain ⟨ad136, e136, hx136_0, hx136_1⟩ := at_T47 (by repeat (first | (with_reducible exact HR135_0.out) | (with_reducible refine Kd.C_alloc ?_ _) | (with_reducible refine Kd.C_drewN ?_ _) | (with_reducible refine Kd.C_drew ?_) | exact HR135_0.out)) 0 p136 q136
                        cases e136
                        have qi136 : (0 < (rd_L4 x2_48 (ji55)).length) = True := eq_true (by omega)
                        (try rw [show ((0 : Int)).toNat = 0 from rfl] at hx136_0)
                        (try rw [show 0 * 2 = 0 from rfl] at hx136_0)
                        (try rw [Addr.add_zero'] at hx136_0)
                        (try rw [show ((0 : Int)).toNat = 0 from rfl] at hx136_1)
                        (try rw [show 0 * 2 = 0 from rfl] at hx136_1)
                        (try rw [Addr.add_zero'] at hx136_1)
                        replace p136 := eq_true p136
                        replace q136 := eq_true q136
                        go_wp2
                        (try rw [Exit.noGoto_ret])
                        go_ret
                        exact ⟨_, by first | rfl | (simp [errW_none, errW_some] <;> rfl) | (simp only [← hji55]; first | rfl | (simp [errW_none, errW_some] <;> rfl)) | (simp [*, errW_none, errW_some] <;> rfl), by (with_reducible repeat (first | apply Kd.S_alloc | apply Kd.S_drewN | apply Kd.S_drew)); exact HO_2.out, by repeat (first | (with_reducible first | exact HB.out | apply below_alloc | apply pw_below_drewN | apply below_drew1) | exact HB.out)⟩
                    · rw [if_neg c59] at H
                      exact absurd H (by simp)
                  · rw [if_neg c58] at H
                    have c58b0 : (((rd_L4 x2_48 (ji55)).length : Int) == 1) = false := beq_eq_false_iff_ne.mpr c58
                    have c58b1 : (((rd_L4 x2_48 (ji55)).length : Int) != 1) = true := bne_iff_ne.mpr c58
                    obtain rfl := Option.some.inj H
                    obtain ⟨Ao65, co65, eo65⟩ := Kd.S_slice HO_2.out
                    subst eo65
                    have p135 : 0 ≤ ((ji55) : Int) := of_decide_eq_true (by first | (with_reducible assumption) | assumption)
                    have q135 : (ji55) < (x2_48.length : Int) := of_decide_eq_true (by first | (with_reducible assumption) | assumption)
                    obtain ⟨ad135, A135_0, c135_0, e135, hx135_0, hl135_0, hi135_0⟩ := at_L4 (Kd.S_reads' HO_2.out).2.2 (ji55) p135 q135
                    cases e135
                    obtain ⟨ce135, hce135, hMe135, hcc135⟩ := Kd.S_get HO_2.out [] (ji55) p135 (by first | exact q135 | exact of_decide_eq_true (by first | (with_reducible assumption) | assumption) | (have e_ := (Kd.S_reads' HO_2.out).1; omega))
                    obtain ⟨ve135_0, rfl, ge135_0⟩ := hMe135
                    have hv135_0 := hcc135 0 _ rfl
                    rw [Nat.add_zero, show ((Kd.slice 47 k47)).sz = 1 from rfl, Nat.mul_one] at hv135_0
                    replace hv135_0 := Option.some.inj (hv135_0.symm.trans hx135_0)
                    rw [hv135_0] at ge135_0
                    have HL135_0 := Aside0.mk (show Kd.R k47 47 _ _ _ _ (rd_L4 x2_48 (ji55)) from ge135_0)
                    clear hv135_0 ge135_0
                    clear hcc135 hce135
                    have HR135_0 := Aside0.mk hi135_0
                    have HC135_0 := Aside0.mk hl135_0
                    clear hi135_0 hl135_0
                    replace p135 := eq_true p135
                    replace q135 := eq_true q135
                    go_wp2
                    (try rw [Exit.noGoto_ret])
                    go_ret
                    exact ⟨_, by first | rfl | (simp [errW_none, errW_some] <;> rfl) | (simp only [← hji55]; first | rfl | (simp [errW_none, errW_some] <;> rfl)) | (simp [*, errW_none, errW_some] <;> rfl), by (with_reducible repeat (first | apply Kd.S_alloc | apply Kd.S_drewN | apply Kd.S_drew)); exact HO_2.out, by repeat (first | (with_reducible first | exact HB.out | apply below_alloc | apply pw_below_drewN | apply below_drew1) | exact HB.out)⟩
                · rw [if_neg c57] at H
                  exact absurd H (by simp)
              · rw [if_neg c56] at H
                exact absurd H (by simp)
            · rw [if_neg c54] at H
              have c54b0 : decide (0 < (x2_48.length : Int)) = false := decide_eq_false c54
              have c54b1 : decide (0 < x2_48.length) = false := decide_eq_false (by omega)
              clear c54
              obtain rfl := Option.some.inj H
              obtain ⟨Ao66, co66, eo66⟩ := Kd.S_slice HO_2.out
              subst eo66
              go_wp2
              (try rw [Exit.noGoto_ret])
              go_ret
              exact ⟨_, by first | rfl | (simp [errW_none, errW_some] <;> rfl) | (simp [*, errW_none, errW_some] <;> rfl), by (with_reducible repeat (first | apply Kd.S_alloc | apply Kd.S_drewN | apply Kd.S_drew)); exact HO_2.out, by repeat (first | (with_reducible first | exact HB.out | apply below_alloc | apply pw_below_drewN | apply below_drew1) | exact HB.out)⟩

/-! ### impl_inner: function 21 -/
def impl_inner.l0 : Nat → List (S47) → List (S36) → Int → Int → Option ((List (S47)))
  | 0, _, _, _, _ => none
  | k + 1, x3, x6, x7, x8 => if x8 < x7 then (if 0 ≤ x8 then (if x8 < (x6.length : Int) then (if x3.length < 5864062014805 then (impl_inner.l0 k (x3 ++ [(⟨(rd_T36 x6 x8).f0, (rd_T36 x6 x8).f1⟩ : S47)]) x6 x7 (wrap64 (x8 + 1))) else (none)) else (none)) else (none)) else (some x3)
def impl_inner.f (k : Nat) (l0 : List (S36)) : Option ((List (S47))) := impl_inner.l0 k ([] : List (S47)) l0 (l0.length : Int) 0
theorem impl_inner.mono_l : ∀ k, (∀ y0 y1 y2 y3, LeO (impl_inner.l0 k y0 y1 y2 y3) (impl_inner.l0 (k + 1) y0 y1 y2 y3))
  | 0 => fun _ _ _ _ r h => by simp [impl_inner.l0] at h
  | k + 1 => by
    have ih0 := impl_inner.mono_l k
    · intro y0 y1 y2 y3
      unfold impl_inner.l0
      repeat' first
      | (with_reducible exact ih0 _ _ _ _)
      | (with_reducible exact LeO.refl _)
      | (with_reducible exact LeO.none _)
      | (with_reducible refine LeO.ite ?_ ?_)
      | (with_reducible refine LeO.bind ?_ (fun _ => ?_))
      | exact ih0 _ _ _ _
      | exact LeO.none _
      | refine LeO.ite ?_ ?_
      | refine LeO.bind ?_ (fun _ => ?_)
theorem impl_inner.mono : ∀ a0 k, LeO (impl_inner.f k a0) (impl_inner.f (k + 1) a0) := by
  intro a0 k
  have ih0 := impl_inner.mono_l k
  unfold impl_inner.f
  repeat' first
      | (with_reducible exact ih0 _ _ _ _)
      | (with_reducible exact LeO.refl _)
      | (with_reducible exact LeO.none _)
      | (with_reducible refine LeO.ite ?_ ?_)
      | (with_reducible refine LeO.bind ?_ (fun _ => ?_))
      | exact ih0 _ _ _ _
      | exact LeO.none _
      | refine LeO.ite ?_ ?_
      | refine LeO.bind ?_ (fun _ => ?_)
set_option maxHeartbeats 8000000 in
set_option maxRecDepth 100000 in
theorem impl_inner.calls (k : Nat) (A0 : Option Addr) (c0 : Nat) (l0 : List (S36)) (r : List (S47)) (w : World) (hr0 : Kd.C k36 w A0 l0.length l0) (hc0 : l0.length ≤ c0) (h : impl_inner.f k l0 = some r) :
    Calls Try.prog 21 #[.slice A0 l0.length c0] w fun e w' => ∃ v0_ : Value, e = .returned (v0_) ∧ Kd.R k47 47 w' w.heap.size (fun _ => True) v0_ r ∧ Below w.heap.size w w' := by
  have hu36 := Try.underlying36
  have hu47 := Try.underlying47
  have HR0 := Aside0.mk hr0
  have HC0 := Aside0.mk hc0
  clear hr0 hc0
  have HB := Aside0.mk (Below.refl w.heap.size w)
  have H : (impl_inner.l0 k ([] : List (S47)) l0 (l0.length : Int) 0) = some r := h
  clear h
  have H' := Aside0.mk H
  clear H
  go_enter Try.func21, Try.ntmps21
  go_wp2
  go_loopg [3, 8] k (fun kq v3 v8 w' => ∃ (x3_1 : List (S47)) (x8_1 : Int), v8 = .int .i64 x8_1 ∧ Aside0 (impl_inner.l0 kq x3_1 l0 (l0.length : Int) x8_1 = some r) ∧ Aside0 (kq ≤ k) ∧ Aside0 (Kd.R k47 47 w' w.heap.size (fun _ => True) v3 x3_1) ∧ Aside0 (Below w.heap.size w w'))
  case atStart => exact ⟨(([] : List (S47))), (0), (by first | rfl | (simp; done) | (simp [*]; done)), H', ⟨Nat.le_refl _⟩, ⟨by first | exact Kd.R_nil _ _ _ _ _ | exact Kd.N_nil _ _ _ _ _ | exact Kd.V_nil _ _ _ _ _ | exact Kd.Q_nil _ _ _ _ _ | exact Kd.S_nil _ _ _ _ _⟩, ⟨by repeat (first | (with_reducible first | exact HB.out | apply below_alloc | apply pw_below_drewN | apply below_drew1) | exact HB.out)⟩⟩
  case round =>
    clear H'
    obtain ⟨x3_1, x8_1, rfl, HA, HK1, HO_3, HB⟩ := hrel
    cases gk with
    | zero => exact absurd HA.out (by simp [impl_inner.l0])
    | succ k1 =>
      have H := HA.out
      clear HA
      simp only [impl_inner.l0] at H
      by_cases c2 : x8_1 < (l0.length : Int)
      · rw [if_pos c2] at H
        have c2b0 : decide (x8_1 < (l0.length : Int)) = true := decide_eq_true c2
        clear c2
        by_cases c3 : 0 ≤ x8_1
        · rw [if_pos c3] at H
          have c3b0 : decide (0 ≤ x8_1) = true := decide_eq_true c3
          clear c3
          by_cases c4 : x8_1 < (l0.length : Int)
          · rw [if_pos c4] at H
            have c4b0 : decide (x8_1 < (l0.length : Int)) = true := decide_eq_true c4
            clear c4
            by_cases c5 : x3_1.length < 5864062014805
            · rw [if_pos c5] at H
              have LMc5 := Aside0.mk c5
              clear c5
              obtain ⟨y142, hy142⟩ : ∃ y_ : List (S47), y_ = (x3_1 ++ [(⟨(rd_T36 l0 x8_1).f0, (rd_T36 l0 x8_1).f1⟩ : S47)]) := ⟨_, rfl⟩
              replace H : (impl_inner.l0 k1 y142 l0 (l0.length : Int) (wrap64 (x8_1 + 1))) = some r := by first | (rw [hy142]; with_reducible exact H) | (have H2_ := (Option.bind_some _ _).symm.trans H; rw [hy142]; with_reducible exact H2_) | (have H2_ := (Option.bind_some _ _).symm.trans H; with_reducible exact H2_) | with_reducible exact H | (rw [hy142]; exact H) | exact H
              have Ny142 := Aside0.mk hy142
              clear hy142
              have H' := Aside0.mk H
              clear H
              have p140 : 0 ≤ (x8_1 : Int) := of_decide_eq_true (by first | (with_reducible assumption) | assumption)
              have q140 : x8_1 < (l0.length : Int) := of_decide_eq_true (by first | (with_reducible assumption) | assumption)
              obtain ⟨ad140, e140, hx140_0, hx140_1⟩ := at_T36 HR0.out x8_1 p140 q140
              cases e140
              replace hx140_0 := (HB.out.cell (World.block_lt_of_cell? w _ hx140_0)).trans hx140_0
              replace hx140_1 := (HB.out.cell (World.block_lt_of_cell? w _ hx140_1)).trans hx140_1
              replace p140 := eq_true p140
              replace q140 := eq_true q140
              go_wp2_with (first | ((with_reducible refine gate_dst (N := 5) rfl ?_); refine box_event ?hg (N := 5) ?hd (cs := #[.int .i64 0, .string (⟨#[]⟩ : ByteArray)]) (t := 36) ?hr ?_; (case hd => rfl); (case hg => rfl); (case hr => first | (go_simp; done) | (go_simp; rfl)); intro gb141 hg w6 hbox hb; have n0_ := Aside0.mk (Kd.R_below (by (with_reducible repeat (first | apply Kd.R_alloc | apply Kd.R_drewN | apply Kd.R_drew)); exact HO_3.out) hb); have n1_ := Aside0.mk (below_step (by repeat (first | (with_reducible first | exact HB.out | apply below_alloc | apply pw_below_drewN | apply below_drew1) | exact HB.out)) hb); have n2_ := Aside0.mk (hbox); have n3_ := Aside0.mk ((by rw [hg]; exact (below_size (by repeat (first | (with_reducible first | exact HB.out | apply below_alloc | apply pw_below_drewN | apply below_drew1) | exact HB.out))) : w.heap.size ≤ gb141)); have n4_ := Aside0.mk ((by rw [hg]; exact (below_size (by repeat (first | (with_reducible first | exact HB.out | apply below_alloc | apply pw_below_drewN | apply below_drew1) | exact HB.out))) : w.heap.size ≤ gb141)); clear HO_3; clear HB; have HO_3 := n0_; have HB := n1_; have BK141 := n2_; have GW141 := n3_; have GE141 := n4_; clear n0_ n1_ n2_ n3_ n4_; clear hb hbox hg; have hcz7_0 : w6.cell? ⟨gb141, 0, none⟩ = some (.int .i64 0) := (blk_cell BK141.out 0).trans rfl; have hcz7_1 : w6.cell? ⟨gb141, 1, none⟩ = some (.string (⟨#[]⟩ : ByteArray)) := (blk_cell BK141.out 1).trans rfl; have hfz7_0 := blk_frozen BK141.out 0; have hfz7_1 := blk_frozen BK141.out 1) | ((with_reducible refine gate_builtin (b := .append) (xs := #[.tmp 12, .tmp 18]) rfl ?_); at_builtin; refine Kd.R_append k47 (w0 := w) w.heap.size rfl (.tmp 12) (.tmp 18) 40 47 (.agg #[(.int .i64 0), (.string ⟨#[]⟩)]) 24 rfl Try.underlying40 info47 rfl (by decide) (by omega) u3 x3_1 (⟨(rd_T36 l0 x8_1).f0, (rd_T36 l0 x8_1).f1⟩ : S47) [.int .i64 ((rd_T36 l0 x8_1).f0), .string ((rd_T36 l0 x8_1).f1)] (fun _ => True) (fun _ => False) rfl (by first | (go_simp; done) | (go_simp; rfl)) ?aP (fun _ hk => hk.elim) ?aF ?aO ?aB ?aS ?aL ?_; (case aP => exact k47_mkM _ _ _ (⟨(rd_T36 l0 x8_1).f0, (rd_T36 l0 x8_1).f1⟩ : S47)); (case aB => exact (by repeat (first | (with_reducible first | exact HB.out | apply below_alloc | apply pw_below_drewN | apply below_drew1 | refine below_set ?_ GE141.out) | exact HB.out))); (case aF => exact (fun _ _ => trivial)); (case aO => exact (by (with_reducible repeat (first | apply Kd.R_alloc | apply Kd.R_drewN | apply Kd.R_drew)); exact Kd.R_mono (Kd.R_far (p := ⟨gb141, 1, none⟩) (Kd.R_far (p := ⟨gb141, 0, none⟩) (Kd.R_types HO_3.out BK141.out (by decide)) (fun _ hk => hk.2) (.int .i64 ((rd_T36 l0 x8_1).f0))) (fun _ hk => hk.2) (.string ((rd_T36 l0 x8_1).f1))) (fun _ hk => trivial))); (case aS => exact (below_size (by repeat (first | (with_reducible first | exact HB.out | apply below_alloc | apply pw_below_drewN | apply below_drew1 | refine below_set ?_ GE141.out) | exact HB.out)))); (case aL => have := LMc5.out; omega); intro v143 w8 ho hb hg hat; rw [← Ny142.out] at ho; have n0_ := Aside0.mk (blk_grown (g := gb141) (o := .cells #[.int .i64 ((rd_T36 l0 x8_1).f0), .string ((rd_T36 l0 x8_1).f1)] 36 (0, 0)) (by (with_reducible repeat (first | refine blk_drewN ?_ _ | refine blk_drew ?_ | refine blk_alloc ?_ _)); refine blk_put (cs := #[.int .i64 ((rd_T36 l0 x8_1).f0), .string (⟨#[]⟩ : ByteArray)]) ?_ 1 _ rfl; (with_reducible repeat (first | refine blk_drewN ?_ _ | refine blk_drew ?_ | refine blk_alloc ?_ _)); refine blk_put (cs := #[.int .i64 0, .string (⟨#[]⟩ : ByteArray)]) ?_ 0 _ rfl; (with_reducible repeat (first | refine blk_drewN ?_ _ | refine blk_drew ?_ | refine blk_alloc ?_ _)); exact BK141.out) hg (Kd.R_ne HO_3.out BK141.out (by decide))); have n1_ := Aside0.mk (hb); have n2_ := Aside0.mk (ho); clear BK141; clear HB; clear HO_3; have BK141 := n0_; have HB := n1_; have HO144 := n2_; clear n0_ n1_ n2_; clear ho hb hg hat))
              go_roundg k1
              case measure => have := HK1.out; omega
              case rel => exact ⟨(y142), (wrap64 (x8_1 + 1)), (by first | rfl | (simp; done) | (simp [*]; done)), H', ⟨by have := HK1.out; omega⟩, ⟨by (with_reducible repeat (first | apply Kd.R_alloc | apply Kd.R_drewN | apply Kd.R_drew)); exact HO144.out⟩, ⟨by repeat (first | (with_reducible first | exact HB.out | apply below_alloc | apply pw_below_drewN | apply below_drew1 | refine below_set ?_ GE141.out) | exact HB.out)⟩⟩
            · rw [if_neg c5] at H
              exact absurd H (by simp)
          · rw [if_neg c4] at H
            exact absurd H (by simp)
        · rw [if_neg c3] at H
          exact absurd H (by simp)
      · rw [if_neg c2] at H
        have c2b0 : decide (x8_1 < (l0.length : Int)) = false := decide_eq_false c2
        clear c2
        obtain rfl := Option.some.inj H
        go_wp2
        go_ret
        exact ⟨_, by first | rfl | (simp [errW_none, errW_some] <;> rfl) | (simp [*, errW_none, errW_some] <;> rfl), by (with_reducible repeat (first | apply Kd.R_alloc | apply Kd.R_drewN | apply Kd.R_drew)); exact HO_3.out, by repeat (first | (with_reducible first | exact HB.out | apply below_alloc | apply pw_below_drewN | apply below_drew1) | exact HB.out)⟩

/-! ### impl_outer: function 22 -/
def impl_outer.l0 : Nat → List (S36) → List (S47) → Int → Int → Option ((List (S36)))
  | 0, _, _, _, _ => none
  | k + 1, x3, x6, x7, x8 => if x8 < x7 then (if 0 ≤ x8 then (if x8 < (x6.length : Int) then (if x3.length < 5864062014805 then (impl_outer.l0 k (x3 ++ [(⟨(rd_T47 x6 x8).f0, (rd_T47 x6 x8).f1⟩ : S36)]) x6 x7 (wrap64 (x8 + 1))) else (none)) else (none)) else (none)) else (some x3)
def impl_outer.f (k : Nat) (l0 : List (S47)) : Option ((List (S36))) := impl_outer.l0 k ([] : List (S36)) l0 (l0.length : Int) 0
theorem impl_outer.mono_l : ∀ k, (∀ y0 y1 y2 y3, LeO (impl_outer.l0 k y0 y1 y2 y3) (impl_outer.l0 (k + 1) y0 y1 y2 y3))
  | 0 => fun _ _ _ _ r h => by simp [impl_outer.l0] at h
  | k + 1 => by
    have ih0 := impl_outer.mono_l k
    · intro y0 y1 y2 y3
      unfold impl_outer.l0
      repeat' first
      | (with_reducible exact ih0 _ _ _ _)
      | (with_reducible exact LeO.refl _)
      | (with_reducible exact LeO.none _)
      | (with_reducible refine LeO.ite ?_ ?_)
      | (with_reducible refine LeO.bind ?_ (fun _ => ?_))
      | exact ih0 _ _ _ _
      | exact LeO.none _
      | refine LeO.ite ?_ ?_
      | refine LeO.bind ?_ (fun _ => ?_)
theorem impl_outer.mono : ∀ a0 k, LeO (impl_outer.f k a0) (impl_outer.f (k + 1) a0) := by
  intro a0 k
  have ih0 := impl_outer.mono_l k
  unfold impl_outer.f
  repeat' first
      | (with_reducible exact ih0 _ _ _ _)
      | (with_reducible exact LeO.refl _)
      | (with_reducible exact LeO.none _)
      | (with_reducible refine LeO.ite ?_ ?_)
      | (with_reducible refine LeO.bind ?_ (fun _ => ?_))
      | exact ih0 _ _ _ _
      | exact LeO.none _
      | refine LeO.ite ?_ ?_
      | refine LeO.bind ?_ (fun _ => ?_)
set_option maxHeartbeats 8000000 in
set_option maxRecDepth 100000 in
theorem impl_outer.calls (k : Nat) (A0 : Option Addr) (c0 : Nat) (l0 : List (S47)) (r : List (S36)) (w : World) (hr0 : Kd.C k47 w A0 l0.length l0) (hc0 : l0.length ≤ c0) (h : impl_outer.f k l0 = some r) :
    Calls Try.prog 22 #[.slice A0 l0.length c0] w fun e w' => ∃ v0_ : Value, e = .returned (v0_) ∧ Kd.R k36 36 w' w.heap.size (fun _ => True) v0_ r ∧ Below w.heap.size w w' := by
  have hu47 := Try.underlying47
  have hu36 := Try.underlying36
  have HR0 := Aside0.mk hr0
  have HC0 := Aside0.mk hc0
  clear hr0 hc0
  have HB := Aside0.mk (Below.refl w.heap.size w)
  have H : (impl_outer.l0 k ([] : List (S36)) l0 (l0.length : Int) 0) = some r := h
  clear h
  have H' := Aside0.mk H
  clear H
  go_enter Try.func22, Try.ntmps22
  go_wp2
  go_loopg [3, 8] k (fun kq v3 v8 w' => ∃ (x3_1 : List (S36)) (x8_1 : Int), v8 = .int .i64 x8_1 ∧ Aside0 (impl_outer.l0 kq x3_1 l0 (l0.length : Int) x8_1 = some r) ∧ Aside0 (kq ≤ k) ∧ Aside0 (Kd.R k36 36 w' w.heap.size (fun _ => True) v3 x3_1) ∧ Aside0 (Below w.heap.size w w'))
  case atStart => exact ⟨(([] : List (S36))), (0), (by first | rfl | (simp; done) | (simp [*]; done)), H', ⟨Nat.le_refl _⟩, ⟨by first | exact Kd.R_nil _ _ _ _ _ | exact Kd.N_nil _ _ _ _ _ | exact Kd.V_nil _ _ _ _ _ | exact Kd.Q_nil _ _ _ _ _ | exact Kd.S_nil _ _ _ _ _⟩, ⟨by repeat (first | (with_reducible first | exact HB.out | apply below_alloc | apply pw_below_drewN | apply below_drew1) | exact HB.out)⟩⟩
  case round =>
    clear H'
    obtain ⟨x3_1, x8_1, rfl, HA, HK1, HO_3, HB⟩ := hrel
    cases gk with
    | zero => exact absurd HA.out (by simp [impl_outer.l0])
    | succ k1 =>
      have H := HA.out
      clear HA
      simp only [impl_outer.l0] at H
      by_cases c2 : x8_1 < (l0.length : Int)
      · rw [if_pos c2] at H
        have c2b0 : decide (x8_1 < (l0.length : Int)) = true := decide_eq_true c2
        clear c2
        by_cases c3 : 0 ≤ x8_1
        · rw [if_pos c3] at H
          have c3b0 : decide (0 ≤ x8_1) = true := decide_eq_true c3
          clear c3
          by_cases c4 : x8_1 < (l0.length : Int)
          · rw [if_pos c4] at H
            have c4b0 : decide (x8_1 < (l0.length : Int)) = true := decide_eq_true c4
            clear c4
            by_cases c5 : x3_1.length < 5864062014805
            · rw [if_pos c5] at H
              have LMc5 := Aside0.mk c5
              clear c5
              obtain ⟨y147, hy147⟩ : ∃ y_ : List (S36), y_ = (x3_1 ++ [(⟨(rd_T47 l0 x8_1).f0, (rd_T47 l0 x8_1).f1⟩ : S36)]) := ⟨_, rfl⟩
              replace H : (impl_outer.l0 k1 y147 l0 (l0.length : Int) (wrap64 (x8_1 + 1))) = some r := by first | (rw [hy147]; with_reducible exact H) | (have H2_ := (Option.bind_some _ _).symm.trans H; rw [hy147]; with_reducible exact H2_) | (have H2_ := (Option.bind_some _ _).symm.trans H; with_reducible exact H2_) | with_reducible exact H | (rw [hy147]; exact H) | exact H
              have Ny147 := Aside0.mk hy147
              clear hy147
              have H' := Aside0.mk H
              clear H
              have p145 : 0 ≤ (x8_1 : Int) := of_decide_eq_true (by first | (with_reducible assumption) | assumption)
              have q145 : x8_1 < (l0.length : Int) := of_decide_eq_true (by first | (with_reducible assumption) | assumption)
              obtain ⟨ad145, e145, hx145_0, hx145_1⟩ := at_T47 HR0.out x8_1 p145 q145
              cases e145
              replace hx145_0 := (HB.out.cell (World.block_lt_of_cell? w _ hx145_0)).trans hx145_0
              replace hx145_1 := (HB.out.cell (World.block_lt_of_cell? w _ hx145_1)).trans hx145_1
              replace p145 := eq_true p145
              replace q145 := eq_true q145
              go_wp2_with (first | ((with_reducible refine gate_dst (N := 5) rfl ?_); refine box_event ?hg (N := 5) ?hd (cs := #[.int .i64 0, .string (⟨#[]⟩ : ByteArray)]) (t := 47) ?hr ?_; (case hd => rfl); (case hg => rfl); (case hr => first | (go_simp; done) | (go_simp; rfl)); intro gb146 hg w6 hbox hb; have n0_ := Aside0.mk (Kd.R_below (by (with_reducible repeat (first | apply Kd.R_alloc | apply Kd.R_drewN | apply Kd.R_drew)); exact HO_3.out) hb); have n1_ := Aside0.mk (below_step (by repeat (first | (with_reducible first | exact HB.out | apply below_alloc | apply pw_below_drewN | apply below_drew1) | exact HB.out)) hb); have n2_ := Aside0.mk (hbox); have n3_ := Aside0.mk ((by rw [hg]; exact (below_size (by repeat (first | (with_reducible first | exact HB.out | apply below_alloc | apply pw_below_drewN | apply below_drew1) | exact HB.out))) : w.heap.size ≤ gb146)); have n4_ := Aside0.mk ((by rw [hg]; exact (below_size (by repeat (first | (with_reducible first | exact HB.out | apply below_alloc | apply pw_below_drewN | apply below_drew1) | exact HB.out))) : w.heap.size ≤ gb146)); clear HO_3; clear HB; have HO_3 := n0_; have HB := n1_; have BK146 := n2_; have GW146 := n3_; have GE146 := n4_; clear n0_ n1_ n2_ n3_ n4_; clear hb hbox hg; have hcz7_0 : w6.cell? ⟨gb146, 0, none⟩ = some (.int .i64 0) := (blk_cell BK146.out 0).trans rfl; have hcz7_1 : w6.cell? ⟨gb146, 1, none⟩ = some (.string (⟨#[]⟩ : ByteArray)) := (blk_cell BK146.out 1).trans rfl; have hfz7_0 := blk_frozen BK146.out 0; have hfz7_1 := blk_frozen BK146.out 1) | ((with_reducible refine gate_builtin (b := .append) (xs := #[.tmp 12, .tmp 18]) rfl ?_); at_builtin; refine Kd.R_append k36 (w0 := w) w.heap.size rfl (.tmp 12) (.tmp 18) 22 36 (.agg #[(.int .i64 0), (.string ⟨#[]⟩)]) 24 rfl Try.underlying22 info36 rfl (by decide) (by omega) u3 x3_1 (⟨(rd_T47 l0 x8_1).f0, (rd_T47 l0 x8_1).f1⟩ : S36) [.int .i64 ((rd_T47 l0 x8_1).f0), .string ((rd_T47 l0 x8_1).f1)] (fun _ => True) (fun _ => False) rfl (by first | (go_simp; done) | (go_simp; rfl)) ?aP (fun _ hk => hk.elim) ?aF ?aO ?aB ?aS ?aL ?_; (case aP => exact k36_mkM _ _ _ (⟨(rd_T47 l0 x8_1).f0, (rd_T47 l0 x8_1).f1⟩ : S36)); (case aB => exact (by repeat (first | (with_reducible first | exact HB.out | apply below_alloc | apply pw_below_drewN | apply below_drew1 | refine below_set ?_ GE146.out) | exact HB.out))); (case aF => exact (fun _ _ => trivial)); (case aO => exact (by (with_reducible repeat (first | apply Kd.R_alloc | apply Kd.R_drewN | apply Kd.R_drew)); exact Kd.R_mono (Kd.R_far (p := ⟨gb146, 1, none⟩) (Kd.R_far (p := ⟨gb146, 0, none⟩) (Kd.R_types HO_3.out BK146.out (by decide)) (fun _ hk => hk.2) (.int .i64 ((rd_T47 l0 x8_1).f0))) (fun _ hk => hk.2) (.string ((rd_T47 l0 x8_1).f1))) (fun _ hk => trivial))); (case aS => exact (below_size (by repeat (first | (with_reducible first | exact HB.out | apply below_alloc | apply pw_below_drewN | apply below_drew1 | refine below_set ?_ GE146.out) | exact HB.out)))); (case aL => have := LMc5.out; omega); intro v148 w8 ho hb hg hat; rw [← Ny147.out] at ho; have n0_ := Aside0.mk (blk_grown (g := gb146) (o := .cells #[.int .i64 ((rd_T47 l0 x8_1).f0), .string ((rd_T47 l0 x8_1).f1)] 47 (0, 0)) (by (with_reducible repeat (first | refine blk_drewN ?_ _ | refine blk_drew ?_ | refine blk_alloc ?_ _)); refine blk_put (cs := #[.int .i64 ((rd_T47 l0 x8_1).f0), .string (⟨#[]⟩ : ByteArray)]) ?_ 1 _ rfl; (with_reducible repeat (first | refine blk_drewN ?_ _ | refine blk_drew ?_ | refine blk_alloc ?_ _)); refine blk_put (cs := #[.int .i64 0, .string (⟨#[]⟩ : ByteArray)]) ?_ 0 _ rfl; (with_reducible repeat (first | refine blk_drewN ?_ _ | refine blk_drew ?_ | refine blk_alloc ?_ _)); exact BK146.out) hg (Kd.R_ne HO_3.out BK146.out (by decide))); have n1_ := Aside0.mk (hb); have n2_ := Aside0.mk (ho); clear BK146; clear HB; clear HO_3; have BK146 := n0_; have HB := n1_; have HO149 := n2_; clear n0_ n1_ n2_; clear ho hb hg hat))
              go_roundg k1
              case measure => have := HK1.out; omega
              case rel => exact ⟨(y147), (wrap64 (x8_1 + 1)), (by first | rfl | (simp; done) | (simp [*]; done)), H', ⟨by have := HK1.out; omega⟩, ⟨by (with_reducible repeat (first | apply Kd.R_alloc | apply Kd.R_drewN | apply Kd.R_drew)); exact HO149.out⟩, ⟨by repeat (first | (with_reducible first | exact HB.out | apply below_alloc | apply pw_below_drewN | apply below_drew1 | refine below_set ?_ GE146.out) | exact HB.out)⟩⟩
            · rw [if_neg c5] at H
              exact absurd H (by simp)
          · rw [if_neg c4] at H
            exact absurd H (by simp)
        · rw [if_neg c3] at H
          exact absurd H (by simp)
      · rw [if_neg c2] at H
        have c2b0 : decide (x8_1 < (l0.length : Int)) = false := decide_eq_false c2
        clear c2
        obtain rfl := Option.some.inj H
        go_wp2
        go_ret
        exact ⟨_, by first | rfl | (simp [errW_none, errW_some] <;> rfl) | (simp [*, errW_none, errW_some] <;> rfl), by (with_reducible repeat (first | apply Kd.R_alloc | apply Kd.R_drewN | apply Kd.R_drew)); exact HO_3.out, by repeat (first | (with_reducible first | exact HB.out | apply below_alloc | apply pw_below_drewN | apply below_drew1) | exact HB.out)⟩

end Go.Proofs.Ytmlebpbalhinnaa.M
