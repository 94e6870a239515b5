-- WRITTEN BY OUR myprint.py, a program of this session's over the kit's printer
import Derived.Test.YtmldahejeobohaaDoorKx0
import Derived.Test.YtmldahejeobohaaDoorKx4
namespace Go.Proofs.YtmldahejeobohaaDoor.K
open Go.RowKit Go.Proofs.YtmldahejeobohaaDoorW.PrintWords Go.Proofs.YtmldahejeobohaaDoorW.PrintLast Go.Proofs.YtmldahejeobohaaDoorW.PrintMore
attribute [local go_sem] max2_int min2_int max_two min_two max_three min_three max_four min_four   -- for this text's walks alone
set_option linter.unusedVariables false
set_option linter.unusedSimpArgs false

/-! ### chroma_SplitTokensIntoLines: function 33 -/
mutual
def chroma_SplitTokensIntoLines.l0 : Nat → List (List (S65)) → List (S65) → List (S65) → Int → Int → Option ((List (List (S65))))
  | 0, _, _, _, _, _ => none
  | k + 1, x2, x3, x9, x10, x11 => if x11 < x10 then (if 0 ≤ x11 then (if x11 < (x9.length : Int) then (chroma_SplitTokensIntoLines.l1 k x2 x3 x9 x10 x11 ((rd_T65 x9 x11).f0) ((rd_T65 x9 x11).f1)) else (none)) else (none)) else (if (x3.length : Int) > 0 then (if x2.length < 5864062014805 then (chroma_SplitTokensIntoLines.j2 k (x2 ++ [x3])) else (none)) else (chroma_SplitTokensIntoLines.j2 k x2))
def chroma_SplitTokensIntoLines.l1 : Nat → List (List (S65)) → List (S65) → List (S65) → Int → Int → Int → ByteArray → Option ((List (List (S65))))
  | 0, _, _, _, _, _, _, _ => none
  | k + 1, x2, x3, x9, x10, x11, x146000, x146001 => (chroma_zzContains.f k x146001 (⟨#[10]⟩ : ByteArray)).bind fun t146 => (if t146 = true then ((chroma_zzSplitAfter.f k x146001 (⟨#[10]⟩ : ByteArray)).bind fun t150 => (if 1 < (t150.length : Int) then ((chroma_Token_Clone.f x146000 (rdOf ByteArray.empty t150 1)).bind fun bt154 => (if 0 < (t150.length : Int) then (if x3.length < 5864062014805 then (if x2.length < 5864062014805 then ((some (x2 ++ [(x3 ++ [(⟨bt154.1, rdOf ByteArray.empty t150 0⟩ : S65)])] : List (List (S65)))).bind fun y161 => (if ((rdOf ByteArray.empty t150 1).size : Int) = 0 then (chroma_SplitTokensIntoLines.l0 k y161 ([] : List (S65)) x9 x10 (wrap64 (x11 + 1))) else (chroma_SplitTokensIntoLines.l1 k y161 ([] : List (S65)) x9 x10 x11 x146000 (rdOf ByteArray.empty t150 1)))) else (none)) else (none)) else (none))) else (none))) else (if x3.length < 5864062014805 then (chroma_SplitTokensIntoLines.l0 k x2 (x3 ++ [(⟨x146000, x146001⟩ : S65)]) x9 x10 (wrap64 (x11 + 1))) else (none)))
def chroma_SplitTokensIntoLines.j2 : Nat → List (List (S65)) → Option ((List (List (S65))))
  | 0, _ => none
  | k + 1, x2 => if (x2.length : Int) > 0 then (if 0 ≤ (wrap64 ((x2.length : Int) - 1)) then (if (wrap64 ((x2.length : Int) - 1)) < (x2.length : Int) then (if ((rd_L6 x2 (wrap64 ((x2.length : Int) - 1))).length : Int) = 1 then (if 0 < ((rd_L6 x2 (wrap64 ((x2.length : Int) - 1))).length : Int) then (if ((rd_T65 (rd_L6 x2 (wrap64 ((x2.length : Int) - 1))) 0).f1).toList = ([] : List UInt8) then (if (wrap64 ((x2.length : Int) - 1)) ≤ (x2.length : Int) then (some (x2.take ((wrap64 ((x2.length : Int) - 1)) : Int).toNat)) else (none)) else (some x2)) else (none)) else (some x2)) else (none)) else (none)) else (some x2)
end
def chroma_SplitTokensIntoLines.f (k : Nat) (l0 : List (S65)) : Option ((List (List (S65)))) := chroma_SplitTokensIntoLines.l0 k ([] : List (List (S65))) ([] : List (S65)) l0 (l0.length : Int) 0
theorem chroma_SplitTokensIntoLines.mono_l : ∀ k, (∀ y0 y1 y2 y3 y4, LeO (chroma_SplitTokensIntoLines.l0 k y0 y1 y2 y3 y4) (chroma_SplitTokensIntoLines.l0 (k + 1) y0 y1 y2 y3 y4)) ∧ (∀ y0 y1 y2 y3 y4 y5 y6, LeO (chroma_SplitTokensIntoLines.l1 k y0 y1 y2 y3 y4 y5 y6) (chroma_SplitTokensIntoLines.l1 (k + 1) y0 y1 y2 y3 y4 y5 y6)) ∧ (∀ y0, LeO (chroma_SplitTokensIntoLines.j2 k y0) (chroma_SplitTokensIntoLines.j2 (k + 1) y0))
  | 0 => ⟨fun _ _ _ _ _ r h => by simp [chroma_SplitTokensIntoLines.l0] at h, fun _ _ _ _ _ _ _ r h => by simp [chroma_SplitTokensIntoLines.l1] at h, fun _ r h => by simp [chroma_SplitTokensIntoLines.j2] at h⟩
  | k + 1 => by
    obtain ⟨ih0, ih1, ih2⟩ := chroma_SplitTokensIntoLines.mono_l k
    refine ⟨?_, ?_, ?_⟩
    · intro y0 y1 y2 y3 y4
      unfold chroma_SplitTokensIntoLines.l0
      repeat' first
      | (with_reducible exact ih0 _ _ _ _ _)
      | (with_reducible exact ih1 _ _ _ _ _ _ _)
      | (with_reducible exact ih2 _)
      | (with_reducible exact chroma_zzContains.mono _ _ _)
      | (with_reducible exact chroma_zzSplitAfter.mono _ _ _)
      | (with_reducible exact LeO.refl _)
      | (with_reducible exact LeO.none _)
      | (with_reducible refine LeO.ite ?_ ?_)
      | (with_reducible refine LeO.bind ?_ (fun _ => ?_))
      | exact ih0 _ _ _ _ _
      | exact ih1 _ _ _ _ _ _ _
      | exact ih2 _
      | exact chroma_zzContains.mono _ _ _
      | exact chroma_zzSplitAfter.mono _ _ _
      | exact LeO.none _
      | refine LeO.ite ?_ ?_
      | refine LeO.bind ?_ (fun _ => ?_)
    · intro y0 y1 y2 y3 y4 y5 y6
      unfold chroma_SplitTokensIntoLines.l1
      repeat' first
      | (with_reducible exact ih0 _ _ _ _ _)
      | (with_reducible exact ih1 _ _ _ _ _ _ _)
      | (with_reducible exact ih2 _)
      | (with_reducible exact chroma_zzContains.mono _ _ _)
      | (with_reducible exact chroma_zzSplitAfter.mono _ _ _)
      | (with_reducible exact LeO.refl _)
      | (with_reducible exact LeO.none _)
      | (with_reducible refine LeO.ite ?_ ?_)
      | (with_reducible refine LeO.bind ?_ (fun _ => ?_))
      | exact ih0 _ _ _ _ _
      | exact ih1 _ _ _ _ _ _ _
      | exact ih2 _
      | exact chroma_zzContains.mono _ _ _
      | exact chroma_zzSplitAfter.mono _ _ _
      | exact LeO.none _
      | refine LeO.ite ?_ ?_
      | refine LeO.bind ?_ (fun _ => ?_)
    · intro y0
      unfold chroma_SplitTokensIntoLines.j2
      repeat' first
      | (with_reducible exact ih0 _ _ _ _ _)
      | (with_reducible exact ih1 _ _ _ _ _ _ _)
      | (with_reducible exact ih2 _)
      | (with_reducible exact chroma_zzContains.mono _ _ _)
      | (with_reducible exact chroma_zzSplitAfter.mono _ _ _)
      | (with_reducible exact LeO.refl _)
      | (with_reducible exact LeO.none _)
      | (with_reducible refine LeO.ite ?_ ?_)
      | (with_reducible refine LeO.bind ?_ (fun _ => ?_))
      | exact ih0 _ _ _ _ _
      | exact ih1 _ _ _ _ _ _ _
      | exact ih2 _
      | exact chroma_zzContains.mono _ _ _
      | exact chroma_zzSplitAfter.mono _ _ _
      | exact LeO.none _
      | refine LeO.ite ?_ ?_
      | refine LeO.bind ?_ (fun _ => ?_)
theorem chroma_SplitTokensIntoLines.mono : ∀ a0 k, LeO (chroma_SplitTokensIntoLines.f k a0) (chroma_SplitTokensIntoLines.f (k + 1) a0) := by
  intro a0 k
  obtain ⟨ih0, ih1, ih2⟩ := chroma_SplitTokensIntoLines.mono_l k
  unfold chroma_SplitTokensIntoLines.f
  repeat' first
      | (with_reducible exact ih0 _ _ _ _ _)
      | (with_reducible exact ih1 _ _ _ _ _ _ _)
      | (with_reducible exact ih2 _)
      | (with_reducible exact chroma_zzContains.mono _ _ _)
      | (with_reducible exact chroma_zzSplitAfter.mono _ _ _)
      | (with_reducible exact LeO.refl _)
      | (with_reducible exact LeO.none _)
      | (with_reducible refine LeO.ite ?_ ?_)
      | (with_reducible refine LeO.bind ?_ (fun _ => ?_))
      | exact ih0 _ _ _ _ _
      | exact ih1 _ _ _ _ _ _ _
      | exact ih2 _
      | exact chroma_zzContains.mono _ _ _
      | exact chroma_zzSplitAfter.mono _ _ _
      | exact LeO.none _
      | refine LeO.ite ?_ ?_
      | refine LeO.bind ?_ (fun _ => ?_)
set_option maxHeartbeats 8000000 in
set_option maxRecDepth 100000 in
theorem chroma_SplitTokensIntoLines.calls (k : Nat) (A0 : Option Addr) (c0 : Nat) (l0 : List (S65)) (r : List (List (S65))) (w : World) (hr0 : Kd.C k65 w A0 l0.length l0) (hc0 : l0.length ≤ c0) (h : chroma_SplitTokensIntoLines.f k l0 = some r) :
    Calls Tryd.prog 33 #[.slice A0 l0.length c0] w fun e w' => ∃ v0_ : Value, e = .returned (v0_) ∧ Kd.S (Kd.slice 65 k65) 50 w' w.heap.size (fun _ => True) v0_ r ∧ Below w.heap.size w w' := by
  have hu65 := Tryd.underlying65
  have HR0 := Aside0.mk hr0
  have HC0 := Aside0.mk hc0
  clear hr0 hc0
  have HB := Aside0.mk (Below.refl w.heap.size w)
  have H : (chroma_SplitTokensIntoLines.l0 k ([] : List (List (S65))) ([] : List (S65)) l0 (l0.length : Int) 0) = some r := h
  clear h
  have H' := Aside0.mk H
  clear H
  go_enter Tryd.func33, Tryd.ntmps33
  repeat (go_wp2; go_step3)
  go_wp2
  go_loopg [2, 3, 11] k (fun kq v2 v3 v11 w' => ∃ (x2_1 : List (List (S65))) (x3_1 : List (S65)) (x11_1 : Int), v11 = .int .i64 x11_1 ∧ Aside0 (chroma_SplitTokensIntoLines.l0 kq x2_1 x3_1 l0 (l0.length : Int) x11_1 = some r) ∧ Aside0 (kq ≤ k) ∧ Aside0 (Kd.S (Kd.slice 65 k65) 50 w' w.heap.size (fun k_ => some k_ ≠ (v3 : Value).ownBlock) v2 x2_1) ∧ Aside0 (Kd.R k65 65 w' w.heap.size (fun _ => True) v3 x3_1) ∧ Aside0 (Below w.heap.size w w'))
  case atStart => exact ⟨(([] : List (List (S65)))), (([] : List (S65))), (0), (by first | rfl | (simp; done) | (simp [*]; done)), H', ⟨Nat.le_refl _⟩, ⟨by first | exact Kd.S_nil _ _ _ _ _ | exact Kd.N_nil _ _ _ _ _ | exact Kd.V_nil _ _ _ _ _ | exact Kd.Q_nil _ _ _ _ _ | exact Kd.R_nil _ _ _ _ _⟩, ⟨by first | exact Kd.R_nil _ _ _ _ _ | exact Kd.N_nil _ _ _ _ _ | exact Kd.V_nil _ _ _ _ _ | exact Kd.Q_nil _ _ _ _ _ | exact Kd.S_nil _ _ _ _ _⟩, ⟨by repeat (first | (with_reducible first | exact HB.out | apply below_alloc | apply pw_below_drewN | apply below_drew1) | exact HB.out)⟩⟩
  case round =>
    clear H'
    obtain ⟨x2_1, x3_1, x11_1, rfl, HA, HK1, HO_2, HO_3, HB⟩ := hrel
    cases gk with
    | zero => exact absurd HA.out (by simp [chroma_SplitTokensIntoLines.l0])
    | succ k1 =>
      have H := HA.out
      clear HA
      simp only [chroma_SplitTokensIntoLines.l0] at H
      by_cases c2 : x11_1 < (l0.length : Int)
      · rw [if_pos c2] at H
        have c2b0 : decide (x11_1 < (l0.length : Int)) = true := decide_eq_true c2
        clear c2
        by_cases c3 : 0 ≤ x11_1
        · rw [if_pos c3] at H
          have c3b0 : decide (0 ≤ x11_1) = true := decide_eq_true c3
          clear c3
          by_cases c4 : x11_1 < (l0.length : Int)
          · rw [if_pos c4] at H
            have c4b0 : decide (x11_1 < (l0.length : Int)) = true := decide_eq_true c4
            clear c4
            have H' := Aside0.mk H
            clear H
            have p144 : 0 ≤ (x11_1 : Int) := of_decide_eq_true (by first | (with_reducible assumption) | assumption)
            have q144 : x11_1 < (l0.length : Int) := of_decide_eq_true (by first | (with_reducible assumption) | assumption)
            obtain ⟨ad144, e144, hx144_0, hx144_1⟩ := at_T65 HR0.out x11_1 p144 q144
            cases e144
            replace hx144_0 := (HB.out.cell (World.block_lt_of_cell? w _ hx144_0)).trans hx144_0
            replace hx144_1 := (HB.out.cell (World.block_lt_of_cell? w _ hx144_1)).trans hx144_1
            replace p144 := eq_true p144
            replace q144 := eq_true q144
            go_wp2_with (first | ((with_reducible refine gate_dst (N := 5) rfl ?_); refine box_event ?hg (N := 5) ?hd (cs := #[.int .i64 0, .string (⟨#[]⟩ : ByteArray)]) (t := 65) ?hr ?_; (case hd => rfl); (case hg => rfl); (case hr => first | (go_simp; done) | (go_simp; rfl)); intro gb145 hg w5 hbox hb; have n0_ := Aside0.mk (Kd.S_below (Kd.S_elderB (by (with_reducible repeat (first | apply Kd.S_alloc | apply Kd.S_drewN | apply Kd.S_drew)); exact HO_2.out) gb145 (Nat.le_of_eq hg.symm)) hb); have n1_ := Aside0.mk (Kd.R_below (Kd.R_elderB (by (with_reducible repeat (first | apply Kd.R_alloc | apply Kd.R_drewN | apply Kd.R_drew)); exact HO_3.out) gb145 (Nat.le_of_eq hg.symm)) hb); have n2_ := Aside0.mk (below_step (by repeat (first | (with_reducible first | exact HB.out | apply below_alloc | apply pw_below_drewN | apply below_drew1) | exact HB.out)) hb); have n3_ := Aside0.mk (hbox); have n4_ := Aside0.mk ((by rw [hg]; exact (below_size (by repeat (first | (with_reducible first | exact HB.out | apply below_alloc | apply pw_below_drewN | apply below_drew1) | exact HB.out))) : w.heap.size ≤ gb145)); have n5_ := Aside0.mk ((by rw [hg]; exact (below_size (by repeat (first | (with_reducible first | exact HB.out | apply below_alloc | apply pw_below_drewN | apply below_drew1) | exact HB.out))) : w.heap.size ≤ gb145)); clear HO_2; clear HO_3; clear HB; have HO_2 := n0_; have HO_3 := n1_; have HB := n2_; have BK145 := n3_; have GW145 := n4_; have GE145 := n5_; clear n0_ n1_ n2_ n3_ n4_ n5_; clear hb hbox hg; have hcz6_0 : w5.cell? ⟨gb145, 0, none⟩ = some (.int .i64 0) := (blk_cell BK145.out 0).trans rfl; have hcz6_1 : w5.cell? ⟨gb145, 1, none⟩ = some (.string (⟨#[]⟩ : ByteArray)) := (blk_cell BK145.out 1).trans rfl; have hfz6_0 := blk_frozen BK145.out 0; have hfz6_1 := blk_frozen BK145.out 1))
            go_loopg [2, 3] k1 (fun kq v2 v3 w' => ∃ (x2_2 : List (List (S65))) (x3_2 : List (S65)) (x146001_2 : ByteArray), Aside0 (chroma_SplitTokensIntoLines.l1 kq x2_2 x3_2 l0 (l0.length : Int) x11_1 ((rd_T65 l0 x11_1).f0) x146001_2 = some r) ∧ Aside0 (kq ≤ k1) ∧ Aside0 (Kd.S (Kd.slice 65 k65) 50 w' w.heap.size (fun k_ => some k_ ≠ (v3 : Value).ownBlock ∧ k_ ≠ gb145) v2 x2_2) ∧ Aside0 (Kd.R k65 65 w' w.heap.size (fun k_ => k_ ≠ gb145) v3 x3_2) ∧ Aside0 (w'.heap[gb145]? = some (.cells #[.int .i64 ((rd_T65 l0 x11_1).f0), .string x146001_2] 65 (0, 0))) ∧ Aside0 (Below w.heap.size w w'))
            case atStart => exact ⟨(x2_1), (x3_1), ((rd_T65 l0 x11_1).f1), H', ⟨Nat.le_refl _⟩, ⟨by (with_reducible repeat (first | apply Kd.S_alloc | apply Kd.S_drewN | apply Kd.S_drew)); exact Kd.S_mono (Kd.S_far (p := ⟨gb145, 1, none⟩) (Kd.S_far (p := ⟨gb145, 0, none⟩) (Kd.S_mono HO_2.out (fun k_ hk => (⟨hk, hk.2⟩ : _ ∧ k_ ≠ gb145))) (fun _ hk => hk.2) (.int .i64 ((rd_T65 l0 x11_1).f0))) (fun _ hk => hk.2) (.string ((rd_T65 l0 x11_1).f1))) (fun _ hk => ⟨hk.1.1, hk.1.2⟩)⟩, ⟨by (with_reducible repeat (first | apply Kd.R_alloc | apply Kd.R_drewN | apply Kd.R_drew)); exact Kd.R_mono (Kd.R_far (p := ⟨gb145, 1, none⟩) (Kd.R_far (p := ⟨gb145, 0, none⟩) (Kd.R_mono HO_3.out (fun k_ hk => (⟨hk, hk.2⟩ : _ ∧ k_ ≠ gb145))) (fun _ hk => hk.2) (.int .i64 ((rd_T65 l0 x11_1).f0))) (fun _ hk => hk.2) (.string ((rd_T65 l0 x11_1).f1))) (fun _ hk => hk.1.2)⟩, ⟨by (with_reducible repeat (first | refine blk_drewN ?_ _ | refine blk_drew ?_ | refine blk_alloc ?_ _)); refine blk_put (cs := #[.int .i64 ((rd_T65 l0 x11_1).f0), .string (⟨#[]⟩ : ByteArray)]) ?_ 1 _ rfl; (with_reducible repeat (first | refine blk_drewN ?_ _ | refine blk_drew ?_ | refine blk_alloc ?_ _)); refine blk_put (cs := #[.int .i64 0, .string (⟨#[]⟩ : ByteArray)]) ?_ 0 _ rfl; (with_reducible repeat (first | refine blk_drewN ?_ _ | refine blk_drew ?_ | refine blk_alloc ?_ _)); exact BK145.out⟩, ⟨by repeat (first | (with_reducible first | exact HB.out | apply below_alloc | apply pw_below_drewN | apply below_drew1 | refine below_set ?_ GE145.out) | exact HB.out)⟩⟩
            case round =>
              clear H'
              try clear p1
              try clear q1
              try clear hx1
              try clear c2
              try clear c2b0
              try clear p2
              try clear c3
              try clear c3b0
              try clear p3
              try clear c4
              try clear c4b0
              try clear hcz6_0
              try clear hcz6_1
              try clear hfz6_0
              try clear hfz6_1
              try clear hx144_0
              try clear hx144_1
              try clear p144
              try clear q144
              obtain ⟨x2_2, x3_2, x146001_2, HA, HK2, HO_2, HO_3, BK145, HB⟩ := hrel
              cases gk with
              | zero => exact absurd HA.out (by simp [chroma_SplitTokensIntoLines.l1])
              | succ k2 =>
                have H := HA.out
                clear HA
                simp only [chroma_SplitTokensIntoLines.l1] at H
                replace H := Option.bind_eq_some_iff.mp H
                obtain ⟨t146, A70, H⟩ := H
                replace H : (if t146 = true then ((chroma_zzSplitAfter.f k2 x146001_2 (⟨#[10]⟩ : ByteArray)).bind fun t150 => (if 1 < (t150.length : Int) then ((chroma_Token_Clone.f ((rd_T65 l0 x11_1).f0) (rdOf ByteArray.empty t150 1)).bind fun bt154 => (if 0 < (t150.length : Int) then (if x3_2.length < 5864062014805 then (if x2_2.length < 5864062014805 then ((some (x2_2 ++ [(x3_2 ++ [(⟨bt154.1, rdOf ByteArray.empty t150 0⟩ : S65)])] : List (List (S65)))).bind fun y161 => (if ((rdOf ByteArray.empty t150 1).size : Int) = 0 then (chroma_SplitTokensIntoLines.l0 k2 y161 ([] : List (S65)) l0 (l0.length : Int) (wrap64 (x11_1 + 1))) else (chroma_SplitTokensIntoLines.l1 k2 y161 ([] : List (S65)) l0 (l0.length : Int) x11_1 ((rd_T65 l0 x11_1).f0) (rdOf ByteArray.empty t150 1)))) else (none)) else (none)) else (none))) else (none))) else (if x3_2.length < 5864062014805 then (chroma_SplitTokensIntoLines.l0 k2 x2_2 (x3_2 ++ [(⟨((rd_T65 l0 x11_1).f0), x146001_2⟩ : S65)]) l0 (l0.length : Int) (wrap64 (x11_1 + 1))) else (none))) = some r := H
                have A7 := Aside0.mk A70
                clear A70
                by_cases c8 : t146 = true
                · subst c8
                  have H1 : ((chroma_zzSplitAfter.f k2 x146001_2 (⟨#[10]⟩ : ByteArray)).bind fun t150 => (if 1 < (t150.length : Int) then ((chroma_Token_Clone.f ((rd_T65 l0 x11_1).f0) (rdOf ByteArray.empty t150 1)).bind fun bt154 => (if 0 < (t150.length : Int) then (if x3_2.length < 5864062014805 then (if x2_2.length < 5864062014805 then ((some (x2_2 ++ [(x3_2 ++ [(⟨bt154.1, rdOf ByteArray.empty t150 0⟩ : S65)])] : List (List (S65)))).bind fun y161 => (if ((rdOf ByteArray.empty t150 1).size : Int) = 0 then (chroma_SplitTokensIntoLines.l0 k2 y161 ([] : List (S65)) l0 (l0.length : Int) (wrap64 (x11_1 + 1))) else (chroma_SplitTokensIntoLines.l1 k2 y161 ([] : List (S65)) l0 (l0.length : Int) x11_1 ((rd_T65 l0 x11_1).f0) (rdOf ByteArray.empty t150 1)))) else (none)) else (none)) else (none))) else (none))) = some r := by rw [if_pos rfl] at H; exact H
                  clear H
                  have H := H1
                  clear H1
                  replace H := Option.bind_eq_some_iff.mp H
                  obtain ⟨t150, A90, H⟩ := H
                  replace H : (if 1 < (t150.length : Int) then ((chroma_Token_Clone.f ((rd_T65 l0 x11_1).f0) (rdOf ByteArray.empty t150 1)).bind fun bt154 => (if 0 < (t150.length : Int) then (if x3_2.length < 5864062014805 then (if x2_2.length < 5864062014805 then ((some (x2_2 ++ [(x3_2 ++ [(⟨bt154.1, rdOf ByteArray.empty t150 0⟩ : S65)])] : List (List (S65)))).bind fun y161 => (if ((rdOf ByteArray.empty t150 1).size : Int) = 0 then (chroma_SplitTokensIntoLines.l0 k2 y161 ([] : List (S65)) l0 (l0.length : Int) (wrap64 (x11_1 + 1))) else (chroma_SplitTokensIntoLines.l1 k2 y161 ([] : List (S65)) l0 (l0.length : Int) x11_1 ((rd_T65 l0 x11_1).f0) (rdOf ByteArray.empty t150 1)))) else (none)) else (none)) else (none))) else (none)) = some r := H
                  have A9 := Aside0.mk A90
                  clear A90
                  by_cases c10 : 1 < (t150.length : Int)
                  · rw [if_pos c10] at H
                    have c10b0 : decide (1 < (t150.length : Int)) = true := decide_eq_true c10
                    have c10b1 : decide (1 < t150.length) = true := decide_eq_true (by omega)
                    clear c10
                    replace H := Option.bind_eq_some_iff.mp H
                    obtain ⟨⟨t154, t155⟩, A110, H⟩ := H
                    replace H : (if 0 < (t150.length : Int) then (if x3_2.length < 5864062014805 then (if x2_2.length < 5864062014805 then ((some (x2_2 ++ [(x3_2 ++ [(⟨t154, rdOf ByteArray.empty t150 0⟩ : S65)])] : List (List (S65)))).bind fun y161 => (if ((rdOf ByteArray.empty t150 1).size : Int) = 0 then (chroma_SplitTokensIntoLines.l0 k2 y161 ([] : List (S65)) l0 (l0.length : Int) (wrap64 (x11_1 + 1))) else (chroma_SplitTokensIntoLines.l1 k2 y161 ([] : List (S65)) l0 (l0.length : Int) x11_1 ((rd_T65 l0 x11_1).f0) (rdOf ByteArray.empty t150 1)))) else (none)) else (none)) else (none)) = some r := H
                    have A11 := Aside0.mk A110
                    clear A110
                    by_cases c12 : 0 < (t150.length : Int)
                    · rw [if_pos c12] at H
                      have c12b0 : decide (0 < (t150.length : Int)) = true := decide_eq_true c12
                      have c12b1 : decide (0 < t150.length) = true := decide_eq_true (by omega)
                      clear c12
                      by_cases c13 : x3_2.length < 5864062014805
                      · rw [if_pos c13] at H
                        have LMc13 := Aside0.mk c13
                        clear c13
                        obtain ⟨y158, hy158⟩ : ∃ y_ : List (S65), y_ = (x3_2 ++ [(⟨t154, rdOf ByteArray.empty t150 0⟩ : S65)]) := ⟨_, rfl⟩
                        replace H : (if x2_2.length < 5864062014805 then ((some (x2_2 ++ [y158] : List (List (S65)))).bind fun y161 => (if ((rdOf ByteArray.empty t150 1).size : Int) = 0 then (chroma_SplitTokensIntoLines.l0 k2 y161 ([] : List (S65)) l0 (l0.length : Int) (wrap64 (x11_1 + 1))) else (chroma_SplitTokensIntoLines.l1 k2 y161 ([] : List (S65)) l0 (l0.length : Int) x11_1 ((rd_T65 l0 x11_1).f0) (rdOf ByteArray.empty t150 1)))) else (none)) = some r := by first | (rw [hy158]; with_reducible exact H) | (have H2_ := (Option.bind_some _ _).symm.trans H; rw [hy158]; with_reducible exact H2_) | (have H2_ := (Option.bind_some _ _).symm.trans H; with_reducible exact H2_) | with_reducible exact H | (rw [hy158]; exact H) | exact H
                        have Ny158 := Aside0.mk hy158
                        clear hy158
                        by_cases c14 : x2_2.length < 5864062014805
                        · rw [if_pos c14] at H
                          have LMc14 := Aside0.mk c14
                          clear c14
                          obtain ⟨y161, hy161⟩ : ∃ y_ : List (List (S65)), y_ = (x2_2 ++ [y158]) := ⟨_, rfl⟩
                          replace H : (if ((rdOf ByteArray.empty t150 1).size : Int) = 0 then (chroma_SplitTokensIntoLines.l0 k2 y161 ([] : List (S65)) l0 (l0.length : Int) (wrap64 (x11_1 + 1))) else (chroma_SplitTokensIntoLines.l1 k2 y161 ([] : List (S65)) l0 (l0.length : Int) x11_1 ((rd_T65 l0 x11_1).f0) (rdOf ByteArray.empty t150 1))) = some r := by first | (rw [hy161]; with_reducible exact H) | (have H2_ := (Option.bind_some _ _).symm.trans H; rw [hy161]; with_reducible exact H2_) | (have H2_ := (Option.bind_some _ _).symm.trans H; with_reducible exact H2_) | with_reducible exact H | (rw [hy161]; exact H) | exact H
                          have Ny161 := Aside0.mk hy161
                          clear hy161
                          by_cases c15 : ((rdOf ByteArray.empty t150 1).size : Int) = 0
                          · rw [if_pos c15] at H
                            have c15b0 : (((rdOf ByteArray.empty t150 1).size : Int) == 0) = true := beq_iff_eq.mpr c15
                            have c15b1 : (((rdOf ByteArray.empty t150 1).size : Int) != 0) = false := bne_eq_false_iff_eq.mpr c15
                            clear c15
                            have H' := Aside0.mk H
                            clear H
                            have hcz16_0 : wr.cell? ⟨gb145, 0, none⟩ = some (.int .i64 ((rd_T65 l0 x11_1).f0)) := (blk_cell BK145.out 0).trans rfl
                            have hcz16_1 : wr.cell? ⟨gb145, 1, none⟩ = some (.string x146001_2) := (blk_cell BK145.out 1).trans rfl
                            have hfz16_0 := blk_frozen BK145.out 0
                            have hfz16_1 := blk_frozen BK145.out 1
                            go_wp2_with (first | ((with_reducible refine gate_callee (f := 35) rfl ?_); refine goesL_ (some 17) rfl rfl Tryd.func35 (by kernel_rfl) rfl #[.string x146001_2, .string (⟨#[10]⟩ : ByteArray)] rfl (by (try simp only [List.map_toArray, List.map_cons, List.map_nil]); first | done | rfl | (simp only [List.length_drop, List.length_take]; rfl)) ?_; (with_reducible refine (chroma_zzContains.calls k2 x146001_2 (⟨#[10]⟩ : ByteArray) true _ A7.out).mono ?_); rintro e w' ⟨rfl, ⟨nd, rfl⟩⟩; refine ⟨_, rfl, ?_⟩; (try (rw [drewN_self wr]; generalize hq_ : World.drewN wr _ = wr; have n0_ : Aside0 (Kd.S (Kd.slice 65 k65) 50 wr w.heap.size (fun k_ => some k_ ≠ (u3 : Value).ownBlock ∧ k_ ≠ gb145) u2 x2_2) := ⟨by rw [← hq_]; exact (by (with_reducible repeat (first | apply Kd.S_alloc | apply Kd.S_drewN | apply Kd.S_drew)); exact HO_2.out)⟩; have n1_ : Aside0 (Kd.R k65 65 wr w.heap.size (fun k_ => k_ ≠ gb145) u3 x3_2) := ⟨by rw [← hq_]; exact (by (with_reducible repeat (first | apply Kd.R_alloc | apply Kd.R_drewN | apply Kd.R_drew)); exact HO_3.out)⟩; have n2_ : Aside0 (wr.heap[gb145]? = some (.cells #[.int .i64 ((rd_T65 l0 x11_1).f0), .string x146001_2] 65 (0, 0))) := ⟨by rw [← hq_]; exact (by (with_reducible repeat (first | refine blk_drewN ?_ _ | refine blk_drew ?_ | refine blk_alloc ?_ _)); exact BK145.out)⟩; have n3_ : Aside0 (Below w.heap.size w wr) := ⟨by rw [← hq_]; exact (by repeat (first | (with_reducible first | exact HB.out | apply below_alloc | apply pw_below_drewN | apply below_drew1 | refine below_set ?_ GE145.out) | exact HB.out))⟩; clear HO_2 HO_3 BK145 HB hq_; have HO_2 := n0_; have HO_3 := n1_; have BK145 := n2_; have HB := n3_; clear n0_ n1_ n2_ n3_)); have hcz17_0 : wr.cell? ⟨gb145, 0, none⟩ = some (.int .i64 ((rd_T65 l0 x11_1).f0)) := (blk_cell BK145.out 0).trans rfl; have hcz17_1 : wr.cell? ⟨gb145, 1, none⟩ = some (.string x146001_2) := (blk_cell BK145.out 1).trans rfl; have hfz17_0 := blk_frozen BK145.out 0; have hfz17_1 := blk_frozen BK145.out 1) | ((with_reducible refine gate_callee (f := 36) rfl ?_); refine goesL_ (some 20) rfl rfl Tryd.func36 (by kernel_rfl) rfl #[.string x146001_2, .string (⟨#[10]⟩ : ByteArray)] rfl (by (try simp only [List.map_toArray, List.map_cons, List.map_nil]); first | done | rfl | (simp only [List.length_drop, List.length_take]; rfl)) ?_; (with_reducible refine (chroma_zzSplitAfter.calls k2 x146001_2 (⟨#[10]⟩ : ByteArray) t150 _ A9.out).mono ?_); rintro e w18 ⟨v151, rfl, ho0, hb⟩; refine ⟨_, rfl, ?_⟩; have n0_ := Aside0.mk (Kd.S_below (by (with_reducible repeat (first | apply Kd.S_alloc | apply Kd.S_drewN | apply Kd.S_drew)); exact HO_2.out) hb); have n1_ := Aside0.mk (Kd.R_below (by (with_reducible repeat (first | apply Kd.R_alloc | apply Kd.R_drewN | apply Kd.R_drew)); exact HO_3.out) hb); have n2_ := Aside0.mk (Kd.R_lower ho0 (below_size (by repeat (first | (with_reducible first | exact HB.out | apply below_alloc | apply pw_below_drewN | apply below_drew1 | refine below_set ?_ GE145.out) | exact HB.out)))); have n3_ := Aside0.mk (blk_below (g := gb145) (o := .cells #[.int .i64 ((rd_T65 l0 x11_1).f0), .string x146001_2] 65 (0, 0)) (by (with_reducible repeat (first | refine blk_drewN ?_ _ | refine blk_drew ?_ | refine blk_alloc ?_ _)); exact BK145.out) hb); have n4_ := Aside0.mk (below_step (by repeat (first | (with_reducible first | exact HB.out | apply below_alloc | apply pw_below_drewN | apply below_drew1 | refine below_set ?_ GE145.out) | exact HB.out)) hb); clear HO_2; clear HO_3; clear BK145; clear HB; have HO_2 := n0_; have HO_3 := n1_; have HO152 := n2_; have BK145 := n3_; have HB := n4_; clear n0_ n1_ n2_ n3_ n4_; (try clear hb); (try clear hb2); (try clear hk); (try clear hi); (try clear ho0); obtain ⟨Ao19, co19, eo19⟩ := Kd.R_slice HO152.out; subst eo19; have p153 : 0 ≤ (1 : Int) := (by omega); have q153 : 1 < (t150.length : Int) := of_decide_eq_true (by first | (with_reducible assumption) | assumption); obtain ⟨ad153, e153, hx153_0⟩ := Kd.at_string (Kd.R_reads' HO152.out).2.2 1 p153 q153; cases e153; (try simp only [show (1 : Int).toNat = 1 from rfl, Nat.reduceMul, Nat.reduceEqDiff, Go.Addr.add, ↓reduceIte] at hx153_0); have qi153 : (1 < t150.length) = True := eq_true (by omega); (try rw [show ((1 : Int)).toNat = 1 from rfl] at hx153_0); replace p153 := eq_true p153; replace q153 := eq_true q153; have hcz20_0 : w18.cell? ⟨gb145, 0, none⟩ = some (.int .i64 ((rd_T65 l0 x11_1).f0)) := (blk_cell BK145.out 0).trans rfl; have hcz20_1 : w18.cell? ⟨gb145, 1, none⟩ = some (.string x146001_2) := (blk_cell BK145.out 1).trans rfl; have hfz20_0 := blk_frozen BK145.out 0; have hfz20_1 := blk_frozen BK145.out 1) | ((with_reducible refine gate_callee (f := 37) rfl ?_); refine goesL_ (some 25) rfl rfl Tryd.func37 (by kernel_rfl) rfl #[.pointer (some ⟨gb145, 0, none⟩)] rfl (by (try simp only [List.map_toArray, List.map_cons, List.map_nil]); first | done | rfl | (simp only [List.length_drop, List.length_take]; rfl)) ?_; (with_reducible refine (chroma_Token_Clone.calls gb145 ((rd_T65 l0 x11_1).f0) (rdOf ByteArray.empty t150 1) t154 t155 _ ?side1 A11.out).mono ?_); (case side1 => (with_reducible repeat (first | refine blk_drewN ?_ _ | refine blk_drew ?_ | refine blk_alloc ?_ _)); refine blk_put (cs := #[.int .i64 ((rd_T65 l0 x11_1).f0), .string x146001_2]) ?_ 1 _ rfl; (with_reducible repeat (first | refine blk_drewN ?_ _ | refine blk_drew ?_ | refine blk_alloc ?_ _)); exact BK145.out); rintro e w21 ⟨rfl, hb⟩; refine ⟨_, rfl, ?_⟩; have n0_ := Aside0.mk (Kd.S_below (by (with_reducible repeat (first | apply Kd.S_alloc | apply Kd.S_drewN | apply Kd.S_drew)); exact (Kd.S_mono (Kd.S_far (p := ⟨gb145, 1, none⟩) (Kd.S_mono HO_2.out (fun k_ hk => (⟨hk, hk.2⟩ : _ ∧ k_ ≠ gb145))) (fun _ hk => hk.2) (.string (rdOf ByteArray.empty t150 1))) (fun _ h_ => h_.1))) hb); have n1_ := Aside0.mk (Kd.R_below (by (with_reducible repeat (first | apply Kd.R_alloc | apply Kd.R_drewN | apply Kd.R_drew)); exact (Kd.R_mono (Kd.R_far (p := ⟨gb145, 1, none⟩) (Kd.R_mono HO_3.out (fun k_ hk => (⟨hk, hk⟩ : _ ∧ k_ ≠ gb145))) (fun _ hk => hk.2) (.string (rdOf ByteArray.empty t150 1))) (fun _ h_ => h_.1))) hb); have n2_ := Aside0.mk (Kd.R_below (by (with_reducible repeat (first | apply Kd.R_alloc | apply Kd.R_drewN | apply Kd.R_drew)); exact (Kd.R_mono (Kd.R_far (p := ⟨gb145, 1, none⟩) (Kd.R_types HO152.out BK145.out (by decide)) (fun _ hk => hk.2) (.string (rdOf ByteArray.empty t150 1))) (fun _ h_ => h_.1))) hb); have n3_ := Aside0.mk (blk_below (g := gb145) (o := .cells #[.int .i64 ((rd_T65 l0 x11_1).f0), .string (rdOf ByteArray.empty t150 1)] 65 (0, 0)) (by (with_reducible repeat (first | refine blk_drewN ?_ _ | refine blk_drew ?_ | refine blk_alloc ?_ _)); refine blk_put (cs := #[.int .i64 ((rd_T65 l0 x11_1).f0), .string x146001_2]) ?_ 1 _ rfl; (with_reducible repeat (first | refine blk_drewN ?_ _ | refine blk_drew ?_ | refine blk_alloc ?_ _)); exact BK145.out) hb); have n4_ := Aside0.mk (below_step (by repeat (first | (with_reducible first | exact HB.out | apply below_alloc | apply pw_below_drewN | apply below_drew1 | refine below_set ?_ GE145.out) | exact HB.out)) hb); clear HO_2; clear HO_3; clear HO152; clear BK145; clear HB; have HO_2 := n0_; have HO_3 := n1_; have HO152 := n2_; have BK145 := n3_; have HB := n4_; clear n0_ n1_ n2_ n3_ n4_; (try clear hb); (try clear hb2); (try clear hk); (try clear hi)) | ((with_reducible refine gate_dst (N := 7) rfl ?_); refine box_event ?hg (N := 7) ?hd (cs := #[.int .i64 0, .string (⟨#[]⟩ : ByteArray)]) (t := 65) ?hr ?_; (case hd => rfl); (case hg => rfl); (case hr => first | (go_simp; done) | (go_simp; rfl)); intro gb156 hg w22 hbox hb; have n0_ := Aside0.mk (Kd.S_below (Kd.S_elderB (by (with_reducible repeat (first | apply Kd.S_alloc | apply Kd.S_drewN | apply Kd.S_drew)); exact HO_2.out) gb156 (Nat.le_of_eq hg.symm)) hb); have n1_ := Aside0.mk (Kd.R_below (Kd.R_elderB (by (with_reducible repeat (first | apply Kd.R_alloc | apply Kd.R_drewN | apply Kd.R_drew)); exact HO_3.out) gb156 (Nat.le_of_eq hg.symm)) hb); have n2_ := Aside0.mk (Kd.R_below (by (with_reducible repeat (first | apply Kd.R_alloc | apply Kd.R_drewN | apply Kd.R_drew)); exact HO152.out) hb); have n3_ := Aside0.mk (blk_below (g := gb145) (o := .cells #[.int .i64 ((rd_T65 l0 x11_1).f0), .string (rdOf ByteArray.empty t150 1)] 65 (0, 0)) (by (with_reducible repeat (first | refine blk_drewN ?_ _ | refine blk_drew ?_ | refine blk_alloc ?_ _)); exact BK145.out) hb); have n4_ := Aside0.mk (below_step (by repeat (first | (with_reducible first | exact HB.out | apply below_alloc | apply pw_below_drewN | apply below_drew1 | refine below_set ?_ GE145.out) | exact HB.out)) hb); have n5_ := Aside0.mk (hbox); have n6_ := Aside0.mk ((by rw [hg]; exact (below_size (by repeat (first | (with_reducible first | exact HB.out | apply below_alloc | apply pw_below_drewN | apply below_drew1 | refine below_set ?_ GE145.out) | exact HB.out))) : w.heap.size ≤ gb156)); have n7_ := Aside0.mk ((by rw [hg]; exact (below_size (by repeat (first | (with_reducible first | exact HB.out | apply below_alloc | apply pw_below_drewN | apply below_drew1 | refine below_set ?_ GE145.out) | exact HB.out))) : w.heap.size ≤ gb156)); have n8_ := Aside0.mk ((by rw [hg]; exact Nat.ne_of_lt (blk_lt (g := gb145) (o := .cells #[.int .i64 ((rd_T65 l0 x11_1).f0), .string (rdOf ByteArray.empty t150 1)] 65 (0, 0)) (by (with_reducible repeat (first | refine blk_drewN ?_ _ | refine blk_drew ?_ | refine blk_alloc ?_ _)); exact BK145.out)) : gb145 ≠ gb156)); have n9_ := Aside0.mk ((by rw [hg]; exact Nat.ne_of_gt (blk_lt (g := gb145) (o := .cells #[.int .i64 ((rd_T65 l0 x11_1).f0), .string (rdOf ByteArray.empty t150 1)] 65 (0, 0)) (by (with_reducible repeat (first | refine blk_drewN ?_ _ | refine blk_drew ?_ | refine blk_alloc ?_ _)); exact BK145.out)) : gb156 ≠ gb145)); clear HO_2; clear HO_3; clear HO152; clear BK145; clear HB; have HO_2 := n0_; have HO_3 := n1_; have HO152 := n2_; have BK145 := n3_; have HB := n4_; have BK156 := n5_; have GW156 := n6_; have GE156 := n7_; have NB145_156 := n8_; have NB156_145 := n9_; clear n0_ n1_ n2_ n3_ n4_ n5_ n6_ n7_ n8_ n9_; clear hb hbox hg; have hnb23 := NB156_145.out; have hnc23 := NB145_156.out; have hcz24_0 : w22.cell? ⟨gb156, 0, none⟩ = some (.int .i64 0) := (blk_cell BK156.out 0).trans rfl; have hcz24_1 : w22.cell? ⟨gb156, 1, none⟩ = some (.string (⟨#[]⟩ : ByteArray)) := (blk_cell BK156.out 1).trans rfl; have hfz24_0 := blk_frozen BK156.out 0; have hfz24_1 := blk_frozen BK156.out 1) | ((with_reducible refine gate_store (t := 65) (p := 7) rfl ?_); refine store_event (t := 65) (p := 7) (v := ?vo_w25) (w1 := ((w22.setCell ⟨gb156, 0, none⟩ (.int .i64 t154)).setCell ⟨gb156, 1, none⟩ (.string t155))) ?hg ?ho ?hn ?hr ?_; (case ho => rfl); (case hg => rfl); (case hn => rfl); (case hr => first | (go_simp; done) | (go_simp; rfl)); intro w25 hw; have n0_ : Aside0 (Kd.S (Kd.slice 65 k65) 50 w25 w.heap.size (fun k_ => some k_ ≠ (u3 : Value).ownBlock ∧ k_ ≠ gb145 ∧ k_ ≠ gb156) u2 x2_2) := ⟨(by rw [hw]; exact (by (with_reducible repeat (first | apply Kd.S_alloc | apply Kd.S_drewN | apply Kd.S_drew)); exact Kd.S_mono (Kd.S_far (p := ⟨gb156, 1, none⟩) (Kd.S_far (p := ⟨gb156, 0, none⟩) (Kd.S_mono HO_2.out (fun k_ hk => (⟨hk, hk.2⟩ : _ ∧ k_ ≠ gb156))) (fun _ hk => hk.2) (.int .i64 t154)) (fun _ hk => hk.2) (.string t155)) (fun _ hk => ⟨hk.1.1.1, ⟨hk.1.1.2, hk.1.2⟩⟩)))⟩; have n1_ : Aside0 (Kd.R k65 65 w25 w.heap.size (fun k_ => k_ ≠ gb145 ∧ k_ ≠ gb156) u3 x3_2) := ⟨(by rw [hw]; exact (by (with_reducible repeat (first | apply Kd.R_alloc | apply Kd.R_drewN | apply Kd.R_drew)); exact Kd.R_mono (Kd.R_far (p := ⟨gb156, 1, none⟩) (Kd.R_far (p := ⟨gb156, 0, none⟩) (Kd.R_mono HO_3.out (fun k_ hk => (⟨hk, hk.2⟩ : _ ∧ k_ ≠ gb156))) (fun _ hk => hk.2) (.int .i64 t154)) (fun _ hk => hk.2) (.string t155)) (fun _ hk => ⟨hk.1.1, hk.1.2⟩)))⟩; have n2_ : Aside0 (Kd.R Kd.string 9 w25 w.heap.size (fun _ => True) (.slice (some ad153) t150.length co19) t150) := ⟨(by rw [hw]; exact (by (with_reducible repeat (first | apply Kd.R_alloc | apply Kd.R_drewN | apply Kd.R_drew)); exact Kd.R_mono (Kd.R_far (p := ⟨gb156, 1, none⟩) (Kd.R_far (p := ⟨gb156, 0, none⟩) (Kd.R_types HO152.out BK156.out (by decide)) (fun _ hk => hk.2) (.int .i64 t154)) (fun _ hk => hk.2) (.string t155)) (fun _ hk => trivial)))⟩; have n3_ : Aside0 (w25.heap[gb145]? = some (.cells #[.int .i64 ((rd_T65 l0 x11_1).f0), .string (rdOf ByteArray.empty t150 1)] 65 (0, 0))) := ⟨(by rw [hw]; exact (by (with_reducible repeat (first | refine blk_drewN ?_ _ | refine blk_drew ?_ | refine blk_alloc ?_ _)); refine blk_far ?_ NB145_156.out _; (with_reducible repeat (first | refine blk_drewN ?_ _ | refine blk_drew ?_ | refine blk_alloc ?_ _)); refine blk_far ?_ NB145_156.out _; (with_reducible repeat (first | refine blk_drewN ?_ _ | refine blk_drew ?_ | refine blk_alloc ?_ _)); exact BK145.out))⟩; have n4_ : Aside0 (w25.heap[gb156]? = some (.cells #[.int .i64 t154, .string t155] 65 (0, 0))) := ⟨(by rw [hw]; exact (by (with_reducible repeat (first | refine blk_drewN ?_ _ | refine blk_drew ?_ | refine blk_alloc ?_ _)); refine blk_put (cs := #[.int .i64 t154, .string (⟨#[]⟩ : ByteArray)]) ?_ 1 _ rfl; (with_reducible repeat (first | refine blk_drewN ?_ _ | refine blk_drew ?_ | refine blk_alloc ?_ _)); refine blk_put (cs := #[.int .i64 0, .string (⟨#[]⟩ : ByteArray)]) ?_ 0 _ rfl; (with_reducible repeat (first | refine blk_drewN ?_ _ | refine blk_drew ?_ | refine blk_alloc ?_ _)); exact BK156.out))⟩; have n5_ : Aside0 (Below w.heap.size w w25) := ⟨(by rw [hw]; exact (by repeat (first | (with_reducible first | exact HB.out | apply below_alloc | apply pw_below_drewN | apply below_drew1 | refine below_set ?_ GE145.out | refine below_set ?_ GE156.out) | exact HB.out)))⟩; clear hw; clear HO_2; clear HO_3; clear HO152; clear BK145; clear BK156; clear HB; have HO_2 := n0_; have HO_3 := n1_; have HO152 := n2_; have BK145 := n3_; have BK156 := n4_; have HB := n5_; clear n0_ n1_ n2_ n3_ n4_ n5_; have p157 : 0 ≤ (0 : Int) := (by omega); have q157 : 0 < (t150.length : Int) := of_decide_eq_true (by first | (with_reducible assumption) | assumption); obtain ⟨ad157, e157, hx157_0⟩ := Kd.at_string (Kd.R_reads' HO152.out).2.2 0 p157 q157; obtain rfl : ad153 = ad157 := (by injection e157); have qi157 : (0 < t150.length) = True := eq_true (by omega); (try rw [show ((0 : Int)).toNat = 0 from rfl] at hx157_0); (try rw [Addr.add_zero'] at hx157_0); replace p157 := eq_true p157; replace q157 := eq_true q157; have hcz26_0 : w25.cell? ⟨gb156, 0, none⟩ = some (.int .i64 t154) := (blk_cell BK156.out 0).trans rfl; have hcz26_1 : w25.cell? ⟨gb156, 1, none⟩ = some (.string t155) := (blk_cell BK156.out 1).trans rfl; have hfz26_0 := blk_frozen BK156.out 0; have hfz26_1 := blk_frozen BK156.out 1) | ((with_reducible refine gate_builtin (b := .append) (xs := #[.tmp 30, .tmp 32]) rfl ?_); at_builtin; refine Kd.R_append k65 (w0 := w) w.heap.size rfl (.tmp 30) (.tmp 32) 50 65 (.agg #[(.int .i64 0), (.string ⟨#[]⟩)]) 24 rfl Tryd.underlying50 info65 rfl (by decide) (by omega) u3 x3_2 (⟨t154, rdOf ByteArray.empty t150 0⟩ : S65) [.int .i64 t154, .string (rdOf ByteArray.empty t150 0)] (fun k_ => k_ ≠ gb145 ∧ k_ ≠ gb156) (fun _ => False) rfl (by first | (go_simp; done) | (go_simp; rfl)) ?aP (fun _ hk => hk.elim) ?aF ?aO ?aB ?aS ?aL ?_; (case aP => exact k65_mkM _ _ _ (⟨t154, rdOf ByteArray.empty t150 0⟩ : S65)); (case aB => exact (by repeat (first | (with_reducible first | exact HB.out | apply below_alloc | apply pw_below_drewN | apply below_drew1 | refine below_set ?_ GE145.out | refine below_set ?_ GE156.out) | exact HB.out))); (case aF => exact (fun k_ hk => ⟨Kd.freshB (g := gb145) (o := .cells #[.int .i64 ((rd_T65 l0 x11_1).f0), .string (rdOf ByteArray.empty t150 1)] 65 (0, 0)) (by (with_reducible repeat (first | refine blk_drewN ?_ _ | refine blk_drew ?_ | refine blk_alloc ?_ _)); refine blk_far ?_ NB145_156.out _; (with_reducible repeat (first | refine blk_drewN ?_ _ | refine blk_drew ?_ | refine blk_alloc ?_ _)); exact BK145.out) k_ hk, Kd.freshB (g := gb156) (o := .cells #[.int .i64 t154, .string (rdOf ByteArray.empty t150 0)] 65 (0, 0)) (by (with_reducible repeat (first | refine blk_drewN ?_ _ | refine blk_drew ?_ | refine blk_alloc ?_ _)); refine blk_put (cs := #[.int .i64 t154, .string t155]) ?_ 1 _ rfl; (with_reducible repeat (first | refine blk_drewN ?_ _ | refine blk_drew ?_ | refine blk_alloc ?_ _)); exact BK156.out) k_ hk⟩)); (case aO => exact (by (with_reducible repeat (first | apply Kd.R_alloc | apply Kd.R_drewN | apply Kd.R_drew)); exact Kd.R_mono (Kd.R_far (p := ⟨gb156, 1, none⟩) (Kd.R_mono HO_3.out (fun k_ hk => (⟨hk, hk.2⟩ : _ ∧ k_ ≠ gb156))) (fun _ hk => hk.2) (.string (rdOf ByteArray.empty t150 0))) (fun _ hk => ⟨hk.1.1, hk.1.2⟩))); (case aS => exact (below_size (by repeat (first | (with_reducible first | exact HB.out | apply below_alloc | apply pw_below_drewN | apply below_drew1 | refine below_set ?_ GE145.out | refine below_set ?_ GE156.out) | exact HB.out)))); (case aL => have := LMc13.out; omega); intro v159 w27 ho hb hg hat; rw [← Ny158.out] at ho; have n0_ := Aside0.mk (Kd.S_after (ok := (fun k_ => k_ ≠ gb145 ∧ k_ ≠ gb156)) (by (with_reducible repeat (first | apply Kd.S_alloc | apply Kd.S_drewN | apply Kd.S_drew)); exact Kd.S_mono (Kd.S_far (p := ⟨gb156, 1, none⟩) (Kd.S_mono HO_2.out (fun k_ hk => (⟨hk, hk.2.2⟩ : _ ∧ k_ ≠ gb156))) (fun _ hk => hk.2) (.string (rdOf ByteArray.empty t150 0))) (fun _ hk => ⟨⟨hk.1.2.1, hk.1.2.2⟩, hk.1.1⟩)) hg hat); have n1_ := Aside0.mk (blk_grown (g := gb145) (o := .cells #[.int .i64 ((rd_T65 l0 x11_1).f0), .string (rdOf ByteArray.empty t150 1)] 65 (0, 0)) (by (with_reducible repeat (first | refine blk_drewN ?_ _ | refine blk_drew ?_ | refine blk_alloc ?_ _)); refine blk_far ?_ NB145_156.out _; (with_reducible repeat (first | refine blk_drewN ?_ _ | refine blk_drew ?_ | refine blk_alloc ?_ _)); exact BK145.out) hg (Kd.R_away HO_3.out (fun _ hk => hk.1))); have n2_ := Aside0.mk (Kd.R_over' (by (with_reducible repeat (first | apply Kd.R_alloc | apply Kd.R_drewN | apply Kd.R_drew)); exact (Kd.R_mono (Kd.R_far (p := ⟨gb156, 1, none⟩) (Kd.R_types HO152.out BK156.out (by decide)) (fun _ hk => hk.2) (.string (rdOf ByteArray.empty t150 0))) (fun _ h_ => h_.1))) (Kd.R_typed (by (with_reducible repeat (first | apply Kd.R_alloc | apply Kd.R_drewN | apply Kd.R_drew)); exact (Kd.R_mono (Kd.R_far (p := ⟨gb156, 1, none⟩) (Kd.R_mono HO_3.out (fun k_ hk => (⟨hk, hk.2⟩ : _ ∧ k_ ≠ gb156))) (fun _ hk => hk.2) (.string (rdOf ByteArray.empty t150 0))) (fun _ h_ => h_.1)))) (by decide) hg); have n3_ := Aside0.mk (blk_grown (g := gb156) (o := .cells #[.int .i64 t154, .string (rdOf ByteArray.empty t150 0)] 65 (0, 0)) (by (with_reducible repeat (first | refine blk_drewN ?_ _ | refine blk_drew ?_ | refine blk_alloc ?_ _)); refine blk_put (cs := #[.int .i64 t154, .string t155]) ?_ 1 _ rfl; (with_reducible repeat (first | refine blk_drewN ?_ _ | refine blk_drew ?_ | refine blk_alloc ?_ _)); exact BK156.out) hg (Kd.R_away HO_3.out (fun _ hk => hk.2))); have n4_ := Aside0.mk (hb); have n5_ := Aside0.mk (ho); clear HO_2; clear BK145; clear HO152; clear BK156; clear HB; clear HO_3; have HO_2 := n0_; have BK145 := n1_; have HO152 := n2_; have BK156 := n3_; have HB := n4_; have HO160 := n5_; clear n0_ n1_ n2_ n3_ n4_ n5_; clear ho hb hg hat; obtain ⟨Ao29, co29, eo29⟩ := Kd.R_slice HO160.out; subst eo29) | ((with_reducible refine gate_builtin (b := .append) (xs := #[.tmp 34, .tmp 36]) rfl ?_); at_builtin; refine Kd.S_append (Kd.slice 65 k65) (w0 := w) w.heap.size rfl (.tmp 34) (.tmp 36) 76 50 (.slice none 0 0) 24 rfl Tryd.underlying76 info50 rfl (by decide) (by omega) u2 x2_2 y158 [.slice Ao29 y158.length co29] (fun k_ => k_ ≠ gb145 ∧ k_ ≠ gb156) (fun k_ => some k_ = (.slice Ao29 y158.length co29 : Value).ownBlock) rfl rfl ?aP (fun k_ hk_ => ((Kd.R_mono (ok' := fun k_ => ((fun k_ => k_ ≠ gb145 ∧ k_ ≠ gb156)) k_ ∧ some k_ ≠ (u2 : Value).ownBlock) (Kd.R_apart' (HO160.out) (Kd.S_typed HO_2.out) (by decide)) (fun k_ hk => ⟨⟨hk.1.1, hk.1.2⟩, hk.2⟩))).1 k_ hk_.symm) ?aF ?aO ?aB ?aS ?aL ?_; (case aP => exact Kd.M_row (Kd.R_mono (Kd.R_tight rfl (Kd.R_mono (ok' := fun k_ => ((fun k_ => k_ ≠ gb145 ∧ k_ ≠ gb156)) k_ ∧ some k_ ≠ (u2 : Value).ownBlock) (Kd.R_apart' (HO160.out) (Kd.S_typed HO_2.out) (by decide)) (fun k_ hk => ⟨⟨hk.1.1, hk.1.2⟩, hk.2⟩))) (fun _ h_ => h_))); (case aB => exact (by repeat (first | (with_reducible first | exact HB.out | apply below_alloc | apply pw_below_drewN | apply below_drew1 | refine below_set ?_ GE145.out | refine below_set ?_ GE156.out) | exact HB.out))); (case aF => exact (fun k_ hk => ⟨Kd.freshB (g := gb145) (o := .cells #[.int .i64 ((rd_T65 l0 x11_1).f0), .string (rdOf ByteArray.empty t150 1)] 65 (0, 0)) (by (with_reducible repeat (first | refine blk_drewN ?_ _ | refine blk_drew ?_ | refine blk_alloc ?_ _)); exact BK145.out) k_ hk, Kd.freshB (g := gb156) (o := .cells #[.int .i64 t154, .string (rdOf ByteArray.empty t150 0)] 65 (0, 0)) (by (with_reducible repeat (first | refine blk_drewN ?_ _ | refine blk_drew ?_ | refine blk_alloc ?_ _)); exact BK156.out) k_ hk⟩)); (case aO => exact (by (with_reducible repeat (first | apply Kd.S_alloc | apply Kd.S_drewN | apply Kd.S_drew)); exact Kd.S_mono HO_2.out (fun k_ hk => ⟨⟨hk.1.1, hk.1.2⟩, fun e_ => hk.2 e_⟩))); (case aS => exact (below_size (by repeat (first | (with_reducible first | exact HB.out | apply below_alloc | apply pw_below_drewN | apply below_drew1 | refine below_set ?_ GE145.out | refine below_set ?_ GE156.out) | exact HB.out)))); (case aL => have := LMc14.out; omega); intro v162 w28 ho hb hg hat; rw [← Ny161.out] at ho; have n0_ := Aside0.mk (blk_grown (g := gb145) (o := .cells #[.int .i64 ((rd_T65 l0 x11_1).f0), .string (rdOf ByteArray.empty t150 1)] 65 (0, 0)) (by (with_reducible repeat (first | refine blk_drewN ?_ _ | refine blk_drew ?_ | refine blk_alloc ?_ _)); exact BK145.out) hg (Kd.S_ne HO_2.out BK145.out (by decide))); have n1_ := Aside0.mk (Kd.R_over' (by (with_reducible repeat (first | apply Kd.R_alloc | apply Kd.R_drewN | apply Kd.R_drew)); exact HO152.out) (Kd.S_typed (by (with_reducible repeat (first | apply Kd.S_alloc | apply Kd.S_drewN | apply Kd.S_drew)); exact HO_2.out)) (by decide) hg); have n2_ := Aside0.mk (blk_grown (g := gb156) (o := .cells #[.int .i64 t154, .string (rdOf ByteArray.empty t150 0)] 65 (0, 0)) (by (with_reducible repeat (first | refine blk_drewN ?_ _ | refine blk_drew ?_ | refine blk_alloc ?_ _)); exact BK156.out) hg (Kd.S_ne HO_2.out BK156.out (by decide))); have n3_ := Aside0.mk (hb); have n4_ := Aside0.mk (ho); clear BK145; clear HO152; clear BK156; clear HB; clear HO_2; clear HO160; have BK145 := n0_; have HO152 := n1_; have BK156 := n2_; have HB := n3_; have HO163 := n4_; clear n0_ n1_ n2_ n3_ n4_; clear ho hb hg hat; have hcz30_0 : w28.cell? ⟨gb145, 0, none⟩ = some (.int .i64 ((rd_T65 l0 x11_1).f0)) := (blk_cell BK145.out 0).trans rfl; have hcz30_1 : w28.cell? ⟨gb145, 1, none⟩ = some (.string (rdOf ByteArray.empty t150 1)) := (blk_cell BK145.out 1).trans rfl; have hfz30_0 := blk_frozen BK145.out 0; have hfz30_1 := blk_frozen BK145.out 1))
                            go_roundg k2
                            case measure => have := HK1.out; have := HK2.out; omega
                            case rel => exact ⟨(y161), (([] : List (S65))), (wrap64 (x11_1 + 1)), (by first | rfl | (simp; done) | (simp [*]; done)), H', ⟨by have := HK1.out; have := HK2.out; omega⟩, ⟨by (with_reducible repeat (first | apply Kd.S_alloc | apply Kd.S_drewN | apply Kd.S_drew)); exact Kd.S_mono HO163.out (fun _ hk => (by simp [Value.ownBlock]))⟩, ⟨by first | exact Kd.R_nil _ _ _ _ _ | exact Kd.N_nil _ _ _ _ _ | exact Kd.V_nil _ _ _ _ _ | exact Kd.Q_nil _ _ _ _ _ | exact Kd.S_nil _ _ _ _ _⟩, ⟨by repeat (first | (with_reducible first | exact HB.out | apply below_alloc | apply pw_below_drewN | apply below_drew1 | refine below_set ?_ GE145.out | refine below_set ?_ GE156.out) | exact HB.out)⟩⟩
                          · rw [if_neg c15] at H
                            have c15b0 : (((rdOf ByteArray.empty t150 1).size : Int) == 0) = false := beq_eq_false_iff_ne.mpr c15
                            have c15b1 : (((rdOf ByteArray.empty t150 1).size : Int) != 0) = true := bne_iff_ne.mpr c15
                            have H' := Aside0.mk H
                            clear H
                            have hcz31_0 : wr.cell? ⟨gb145, 0, none⟩ = some (.int .i64 ((rd_T65 l0 x11_1).f0)) := (blk_cell BK145.out 0).trans rfl
                            have hcz31_1 : wr.cell? ⟨gb145, 1, none⟩ = some (.string x146001_2) := (blk_cell BK145.out 1).trans rfl
                            have hfz31_0 := blk_frozen BK145.out 0
                            have hfz31_1 := blk_frozen BK145.out 1
                            go_wp2_with (first | ((with_reducible refine gate_callee (f := 35) rfl ?_); refine goesL_ (some 17) rfl rfl Tryd.func35 (by kernel_rfl) rfl #[.string x146001_2, .string (⟨#[10]⟩ : ByteArray)] rfl (by (try simp only [List.map_toArray, List.map_cons, List.map_nil]); first | done | rfl | (simp only [List.length_drop, List.length_take]; rfl)) ?_; (with_reducible refine (chroma_zzContains.calls k2 x146001_2 (⟨#[10]⟩ : ByteArray) true _ A7.out).mono ?_); rintro e w' ⟨rfl, ⟨nd, rfl⟩⟩; refine ⟨_, rfl, ?_⟩; (try (rw [drewN_self wr]; generalize hq_ : World.drewN wr _ = wr; have n0_ : Aside0 (Kd.S (Kd.slice 65 k65) 50 wr w.heap.size (fun k_ => some k_ ≠ (u3 : Value).ownBlock ∧ k_ ≠ gb145) u2 x2_2) := ⟨by rw [← hq_]; exact (by (with_reducible repeat (first | apply Kd.S_alloc | apply Kd.S_drewN | apply Kd.S_drew)); exact HO_2.out)⟩; have n1_ : Aside0 (Kd.R k65 65 wr w.heap.size (fun k_ => k_ ≠ gb145) u3 x3_2) := ⟨by rw [← hq_]; exact (by (with_reducible repeat (first | apply Kd.R_alloc | apply Kd.R_drewN | apply Kd.R_drew)); exact HO_3.out)⟩; have n2_ : Aside0 (wr.heap[gb145]? = some (.cells #[.int .i64 ((rd_T65 l0 x11_1).f0), .string x146001_2] 65 (0, 0))) := ⟨by rw [← hq_]; exact (by (with_reducible repeat (first | refine blk_drewN ?_ _ | refine blk_drew ?_ | refine blk_alloc ?_ _)); exact BK145.out)⟩; have n3_ : Aside0 (Below w.heap.size w wr) := ⟨by rw [← hq_]; exact (by repeat (first | (with_reducible first | exact HB.out | apply below_alloc | apply pw_below_drewN | apply below_drew1 | refine below_set ?_ GE145.out) | exact HB.out))⟩; clear HO_2 HO_3 BK145 HB hq_; have HO_2 := n0_; have HO_3 := n1_; have BK145 := n2_; have HB := n3_; clear n0_ n1_ n2_ n3_)); have hcz32_0 : wr.cell? ⟨gb145, 0, none⟩ = some (.int .i64 ((rd_T65 l0 x11_1).f0)) := (blk_cell BK145.out 0).trans rfl; have hcz32_1 : wr.cell? ⟨gb145, 1, none⟩ = some (.string x146001_2) := (blk_cell BK145.out 1).trans rfl; have hfz32_0 := blk_frozen BK145.out 0; have hfz32_1 := blk_frozen BK145.out 1) | ((with_reducible refine gate_callee (f := 36) rfl ?_); refine goesL_ (some 20) rfl rfl Tryd.func36 (by kernel_rfl) rfl #[.string x146001_2, .string (⟨#[10]⟩ : ByteArray)] rfl (by (try simp only [List.map_toArray, List.map_cons, List.map_nil]); first | done | rfl | (simp only [List.length_drop, List.length_take]; rfl)) ?_; (with_reducible refine (chroma_zzSplitAfter.calls k2 x146001_2 (⟨#[10]⟩ : ByteArray) t150 _ A9.out).mono ?_); rintro e w33 ⟨v151, rfl, ho0, hb⟩; refine ⟨_, rfl, ?_⟩; have n0_ := Aside0.mk (Kd.S_below (by (with_reducible repeat (first | apply Kd.S_alloc | apply Kd.S_drewN | apply Kd.S_drew)); exact HO_2.out) hb); have n1_ := Aside0.mk (Kd.R_below (by (with_reducible repeat (first | apply Kd.R_alloc | apply Kd.R_drewN | apply Kd.R_drew)); exact HO_3.out) hb); have n2_ := Aside0.mk (Kd.R_lower ho0 (below_size (by repeat (first | (with_reducible first | exact HB.out | apply below_alloc | apply pw_below_drewN | apply below_drew1 | refine below_set ?_ GE145.out) | exact HB.out)))); have n3_ := Aside0.mk (blk_below (g := gb145) (o := .cells #[.int .i64 ((rd_T65 l0 x11_1).f0), .string x146001_2] 65 (0, 0)) (by (with_reducible repeat (first | refine blk_drewN ?_ _ | refine blk_drew ?_ | refine blk_alloc ?_ _)); exact BK145.out) hb); have n4_ := Aside0.mk (below_step (by repeat (first | (with_reducible first | exact HB.out | apply below_alloc | apply pw_below_drewN | apply below_drew1 | refine below_set ?_ GE145.out) | exact HB.out)) hb); clear HO_2; clear HO_3; clear BK145; clear HB; have HO_2 := n0_; have HO_3 := n1_; have HO152 := n2_; have BK145 := n3_; have HB := n4_; clear n0_ n1_ n2_ n3_ n4_; (try clear hb); (try clear hb2); (try clear hk); (try clear hi); (try clear ho0); obtain ⟨Ao34, co34, eo34⟩ := Kd.R_slice HO152.out; subst eo34; have p153 : 0 ≤ (1 : Int) := (by omega); have q153 : 1 < (t150.length : Int) := of_decide_eq_true (by first | (with_reducible assumption) | assumption); obtain ⟨ad153, e153, hx153_0⟩ := Kd.at_string (Kd.R_reads' HO152.out).2.2 1 p153 q153; cases e153; (try simp only [show (1 : Int).toNat = 1 from rfl, Nat.reduceMul, Nat.reduceEqDiff, Go.Addr.add, ↓reduceIte] at hx153_0); have qi153 : (1 < t150.length) = True := eq_true (by omega); (try rw [show ((1 : Int)).toNat = 1 from rfl] at hx153_0); replace p153 := eq_true p153; replace q153 := eq_true q153; have hcz35_0 : w33.cell? ⟨gb145, 0, none⟩ = some (.int .i64 ((rd_T65 l0 x11_1).f0)) := (blk_cell BK145.out 0).trans rfl; have hcz35_1 : w33.cell? ⟨gb145, 1, none⟩ = some (.string x146001_2) := (blk_cell BK145.out 1).trans rfl; have hfz35_0 := blk_frozen BK145.out 0; have hfz35_1 := blk_frozen BK145.out 1) | ((with_reducible refine gate_callee (f := 37) rfl ?_); refine goesL_ (some 25) rfl rfl Tryd.func37 (by kernel_rfl) rfl #[.pointer (some ⟨gb145, 0, none⟩)] rfl (by (try simp only [List.map_toArray, List.map_cons, List.map_nil]); first | done | rfl | (simp only [List.length_drop, List.length_take]; rfl)) ?_; (with_reducible refine (chroma_Token_Clone.calls gb145 ((rd_T65 l0 x11_1).f0) (rdOf ByteArray.empty t150 1) t154 t155 _ ?side1 A11.out).mono ?_); (case side1 => (with_reducible repeat (first | refine blk_drewN ?_ _ | refine blk_drew ?_ | refine blk_alloc ?_ _)); refine blk_put (cs := #[.int .i64 ((rd_T65 l0 x11_1).f0), .string x146001_2]) ?_ 1 _ rfl; (with_reducible repeat (first | refine blk_drewN ?_ _ | refine blk_drew ?_ | refine blk_alloc ?_ _)); exact BK145.out); rintro e w36 ⟨rfl, hb⟩; refine ⟨_, rfl, ?_⟩; have n0_ := Aside0.mk (Kd.S_below (by (with_reducible repeat (first | apply Kd.S_alloc | apply Kd.S_drewN | apply Kd.S_drew)); exact (Kd.S_mono (Kd.S_far (p := ⟨gb145, 1, none⟩) (Kd.S_mono HO_2.out (fun k_ hk => (⟨hk, hk.2⟩ : _ ∧ k_ ≠ gb145))) (fun _ hk => hk.2) (.string (rdOf ByteArray.empty t150 1))) (fun _ h_ => h_.1))) hb); have n1_ := Aside0.mk (Kd.R_below (by (with_reducible repeat (first | apply Kd.R_alloc | apply Kd.R_drewN | apply Kd.R_drew)); exact (Kd.R_mono (Kd.R_far (p := ⟨gb145, 1, none⟩) (Kd.R_mono HO_3.out (fun k_ hk => (⟨hk, hk⟩ : _ ∧ k_ ≠ gb145))) (fun _ hk => hk.2) (.string (rdOf ByteArray.empty t150 1))) (fun _ h_ => h_.1))) hb); have n2_ := Aside0.mk (Kd.R_below (by (with_reducible repeat (first | apply Kd.R_alloc | apply Kd.R_drewN | apply Kd.R_drew)); exact (Kd.R_mono (Kd.R_far (p := ⟨gb145, 1, none⟩) (Kd.R_types HO152.out BK145.out (by decide)) (fun _ hk => hk.2) (.string (rdOf ByteArray.empty t150 1))) (fun _ h_ => h_.1))) hb); have n3_ := Aside0.mk (blk_below (g := gb145) (o := .cells #[.int .i64 ((rd_T65 l0 x11_1).f0), .string (rdOf ByteArray.empty t150 1)] 65 (0, 0)) (by (with_reducible repeat (first | refine blk_drewN ?_ _ | refine blk_drew ?_ | refine blk_alloc ?_ _)); refine blk_put (cs := #[.int .i64 ((rd_T65 l0 x11_1).f0), .string x146001_2]) ?_ 1 _ rfl; (with_reducible repeat (first | refine blk_drewN ?_ _ | refine blk_drew ?_ | refine blk_alloc ?_ _)); exact BK145.out) hb); have n4_ := Aside0.mk (below_step (by repeat (first | (with_reducible first | exact HB.out | apply below_alloc | apply pw_below_drewN | apply below_drew1 | refine below_set ?_ GE145.out) | exact HB.out)) hb); clear HO_2; clear HO_3; clear HO152; clear BK145; clear HB; have HO_2 := n0_; have HO_3 := n1_; have HO152 := n2_; have BK145 := n3_; have HB := n4_; clear n0_ n1_ n2_ n3_ n4_; (try clear hb); (try clear hb2); (try clear hk); (try clear hi)) | ((with_reducible refine gate_dst (N := 7) rfl ?_); refine box_event ?hg (N := 7) ?hd (cs := #[.int .i64 0, .string (⟨#[]⟩ : ByteArray)]) (t := 65) ?hr ?_; (case hd => rfl); (case hg => rfl); (case hr => first | (go_simp; done) | (go_simp; rfl)); intro gb156 hg w37 hbox hb; have n0_ := Aside0.mk (Kd.S_below (Kd.S_elderB (by (with_reducible repeat (first | apply Kd.S_alloc | apply Kd.S_drewN | apply Kd.S_drew)); exact HO_2.out) gb156 (Nat.le_of_eq hg.symm)) hb); have n1_ := Aside0.mk (Kd.R_below (Kd.R_elderB (by (with_reducible repeat (first | apply Kd.R_alloc | apply Kd.R_drewN | apply Kd.R_drew)); exact HO_3.out) gb156 (Nat.le_of_eq hg.symm)) hb); have n2_ := Aside0.mk (Kd.R_below (by (with_reducible repeat (first | apply Kd.R_alloc | apply Kd.R_drewN | apply Kd.R_drew)); exact HO152.out) hb); have n3_ := Aside0.mk (blk_below (g := gb145) (o := .cells #[.int .i64 ((rd_T65 l0 x11_1).f0), .string (rdOf ByteArray.empty t150 1)] 65 (0, 0)) (by (with_reducible repeat (first | refine blk_drewN ?_ _ | refine blk_drew ?_ | refine blk_alloc ?_ _)); exact BK145.out) hb); have n4_ := Aside0.mk (below_step (by repeat (first | (with_reducible first | exact HB.out | apply below_alloc | apply pw_below_drewN | apply below_drew1 | refine below_set ?_ GE145.out) | exact HB.out)) hb); have n5_ := Aside0.mk (hbox); have n6_ := Aside0.mk ((by rw [hg]; exact (below_size (by repeat (first | (with_reducible first | exact HB.out | apply below_alloc | apply pw_below_drewN | apply below_drew1 | refine below_set ?_ GE145.out) | exact HB.out))) : w.heap.size ≤ gb156)); have n7_ := Aside0.mk ((by rw [hg]; exact (below_size (by repeat (first | (with_reducible first | exact HB.out | apply below_alloc | apply pw_below_drewN | apply below_drew1 | refine below_set ?_ GE145.out) | exact HB.out))) : w.heap.size ≤ gb156)); have n8_ := Aside0.mk ((by rw [hg]; exact Nat.ne_of_lt (blk_lt (g := gb145) (o := .cells #[.int .i64 ((rd_T65 l0 x11_1).f0), .string (rdOf ByteArray.empty t150 1)] 65 (0, 0)) (by (with_reducible repeat (first | refine blk_drewN ?_ _ | refine blk_drew ?_ | refine blk_alloc ?_ _)); exact BK145.out)) : gb145 ≠ gb156)); have n9_ := Aside0.mk ((by rw [hg]; exact Nat.ne_of_gt (blk_lt (g := gb145) (o := .cells #[.int .i64 ((rd_T65 l0 x11_1).f0), .string (rdOf ByteArray.empty t150 1)] 65 (0, 0)) (by (with_reducible repeat (first | refine blk_drewN ?_ _ | refine blk_drew ?_ | refine blk_alloc ?_ _)); exact BK145.out)) : gb156 ≠ gb145)); clear HO_2; clear HO_3; clear HO152; clear BK145; clear HB; have HO_2 := n0_; have HO_3 := n1_; have HO152 := n2_; have BK145 := n3_; have HB := n4_; have BK156 := n5_; have GW156 := n6_; have GE156 := n7_; have NB145_156 := n8_; have NB156_145 := n9_; clear n0_ n1_ n2_ n3_ n4_ n5_ n6_ n7_ n8_ n9_; clear hb hbox hg; have hnb38 := NB156_145.out; have hnc38 := NB145_156.out; have hcz39_0 : w37.cell? ⟨gb156, 0, none⟩ = some (.int .i64 0) := (blk_cell BK156.out 0).trans rfl; have hcz39_1 : w37.cell? ⟨gb156, 1, none⟩ = some (.string (⟨#[]⟩ : ByteArray)) := (blk_cell BK156.out 1).trans rfl; have hfz39_0 := blk_frozen BK156.out 0; have hfz39_1 := blk_frozen BK156.out 1) | ((with_reducible refine gate_store (t := 65) (p := 7) rfl ?_); refine store_event (t := 65) (p := 7) (v := ?vo_w40) (w1 := ((w37.setCell ⟨gb156, 0, none⟩ (.int .i64 t154)).setCell ⟨gb156, 1, none⟩ (.string t155))) ?hg ?ho ?hn ?hr ?_; (case ho => rfl); (case hg => rfl); (case hn => rfl); (case hr => first | (go_simp; done) | (go_simp; rfl)); intro w40 hw; have n0_ : Aside0 (Kd.S (Kd.slice 65 k65) 50 w40 w.heap.size (fun k_ => some k_ ≠ (u3 : Value).ownBlock ∧ k_ ≠ gb145 ∧ k_ ≠ gb156) u2 x2_2) := ⟨(by rw [hw]; exact (by (with_reducible repeat (first | apply Kd.S_alloc | apply Kd.S_drewN | apply Kd.S_drew)); exact Kd.S_mono (Kd.S_far (p := ⟨gb156, 1, none⟩) (Kd.S_far (p := ⟨gb156, 0, none⟩) (Kd.S_mono HO_2.out (fun k_ hk => (⟨hk, hk.2⟩ : _ ∧ k_ ≠ gb156))) (fun _ hk => hk.2) (.int .i64 t154)) (fun _ hk => hk.2) (.string t155)) (fun _ hk => ⟨hk.1.1.1, ⟨hk.1.1.2, hk.1.2⟩⟩)))⟩; have n1_ : Aside0 (Kd.R k65 65 w40 w.heap.size (fun k_ => k_ ≠ gb145 ∧ k_ ≠ gb156) u3 x3_2) := ⟨(by rw [hw]; exact (by (with_reducible repeat (first | apply Kd.R_alloc | apply Kd.R_drewN | apply Kd.R_drew)); exact Kd.R_mono (Kd.R_far (p := ⟨gb156, 1, none⟩) (Kd.R_far (p := ⟨gb156, 0, none⟩) (Kd.R_mono HO_3.out (fun k_ hk => (⟨hk, hk.2⟩ : _ ∧ k_ ≠ gb156))) (fun _ hk => hk.2) (.int .i64 t154)) (fun _ hk => hk.2) (.string t155)) (fun _ hk => ⟨hk.1.1, hk.1.2⟩)))⟩; have n2_ : Aside0 (Kd.R Kd.string 9 w40 w.heap.size (fun _ => True) (.slice (some ad153) t150.length co34) t150) := ⟨(by rw [hw]; exact (by (with_reducible repeat (first | apply Kd.R_alloc | apply Kd.R_drewN | apply Kd.R_drew)); exact Kd.R_mono (Kd.R_far (p := ⟨gb156, 1, none⟩) (Kd.R_far (p := ⟨gb156, 0, none⟩) (Kd.R_types HO152.out BK156.out (by decide)) (fun _ hk => hk.2) (.int .i64 t154)) (fun _ hk => hk.2) (.string t155)) (fun _ hk => trivial)))⟩; have n3_ : Aside0 (w40.heap[gb145]? = some (.cells #[.int .i64 ((rd_T65 l0 x11_1).f0), .string (rdOf ByteArray.empty t150 1)] 65 (0, 0))) := ⟨(by rw [hw]; exact (by (with_reducible repeat (first | refine blk_drewN ?_ _ | refine blk_drew ?_ | refine blk_alloc ?_ _)); refine blk_far ?_ NB145_156.out _; (with_reducible repeat (first | refine blk_drewN ?_ _ | refine blk_drew ?_ | refine blk_alloc ?_ _)); refine blk_far ?_ NB145_156.out _; (with_reducible repeat (first | refine blk_drewN ?_ _ | refine blk_drew ?_ | refine blk_alloc ?_ _)); exact BK145.out))⟩; have n4_ : Aside0 (w40.heap[gb156]? = some (.cells #[.int .i64 t154, .string t155] 65 (0, 0))) := ⟨(by rw [hw]; exact (by (with_reducible repeat (first | refine blk_drewN ?_ _ | refine blk_drew ?_ | refine blk_alloc ?_ _)); refine blk_put (cs := #[.int .i64 t154, .string (⟨#[]⟩ : ByteArray)]) ?_ 1 _ rfl; (with_reducible repeat (first | refine blk_drewN ?_ _ | refine blk_drew ?_ | refine blk_alloc ?_ _)); refine blk_put (cs := #[.int .i64 0, .string (⟨#[]⟩ : ByteArray)]) ?_ 0 _ rfl; (with_reducible repeat (first | refine blk_drewN ?_ _ | refine blk_drew ?_ | refine blk_alloc ?_ _)); exact BK156.out))⟩; have n5_ : Aside0 (Below w.heap.size w w40) := ⟨(by rw [hw]; exact (by repeat (first | (with_reducible first | exact HB.out | apply below_alloc | apply pw_below_drewN | apply below_drew1 | refine below_set ?_ GE145.out | refine below_set ?_ GE156.out) | exact HB.out)))⟩; clear hw; clear HO_2; clear HO_3; clear HO152; clear BK145; clear BK156; clear HB; have HO_2 := n0_; have HO_3 := n1_; have HO152 := n2_; have BK145 := n3_; have BK156 := n4_; have HB := n5_; clear n0_ n1_ n2_ n3_ n4_ n5_; have p157 : 0 ≤ (0 : Int) := (by omega); have q157 : 0 < (t150.length : Int) := of_decide_eq_true (by first | (with_reducible assumption) | assumption); obtain ⟨ad157, e157, hx157_0⟩ := Kd.at_string (Kd.R_reads' HO152.out).2.2 0 p157 q157; obtain rfl : ad153 = ad157 := (by injection e157); have qi157 : (0 < t150.length) = True := eq_true (by omega); (try rw [show ((0 : Int)).toNat = 0 from rfl] at hx157_0); (try rw [Addr.add_zero'] at hx157_0); replace p157 := eq_true p157; replace q157 := eq_true q157; have hcz41_0 : w40.cell? ⟨gb156, 0, none⟩ = some (.int .i64 t154) := (blk_cell BK156.out 0).trans rfl; have hcz41_1 : w40.cell? ⟨gb156, 1, none⟩ = some (.string t155) := (blk_cell BK156.out 1).trans rfl; have hfz41_0 := blk_frozen BK156.out 0; have hfz41_1 := blk_frozen BK156.out 1) | ((with_reducible refine gate_builtin (b := .append) (xs := #[.tmp 30, .tmp 32]) rfl ?_); at_builtin; refine Kd.R_append k65 (w0 := w) w.heap.size rfl (.tmp 30) (.tmp 32) 50 65 (.agg #[(.int .i64 0), (.string ⟨#[]⟩)]) 24 rfl Tryd.underlying50 info65 rfl (by decide) (by omega) u3 x3_2 (⟨t154, rdOf ByteArray.empty t150 0⟩ : S65) [.int .i64 t154, .string (rdOf ByteArray.empty t150 0)] (fun k_ => k_ ≠ gb145 ∧ k_ ≠ gb156) (fun _ => False) rfl (by first | (go_simp; done) | (go_simp; rfl)) ?aP (fun _ hk => hk.elim) ?aF ?aO ?aB ?aS ?aL ?_; (case aP => exact k65_mkM _ _ _ (⟨t154, rdOf ByteArray.empty t150 0⟩ : S65)); (case aB => exact (by repeat (first | (with_reducible first | exact HB.out | apply below_alloc | apply pw_below_drewN | apply below_drew1 | refine below_set ?_ GE145.out | refine below_set ?_ GE156.out) | exact HB.out))); (case aF => exact (fun k_ hk => ⟨Kd.freshB (g := gb145) (o := .cells #[.int .i64 ((rd_T65 l0 x11_1).f0), .string (rdOf ByteArray.empty t150 1)] 65 (0, 0)) (by (with_reducible repeat (first | refine blk_drewN ?_ _ | refine blk_drew ?_ | refine blk_alloc ?_ _)); refine blk_far ?_ NB145_156.out _; (with_reducible repeat (first | refine blk_drewN ?_ _ | refine blk_drew ?_ | refine blk_alloc ?_ _)); exact BK145.out) k_ hk, Kd.freshB (g := gb156) (o := .cells #[.int .i64 t154, .string (rdOf ByteArray.empty t150 0)] 65 (0, 0)) (by (with_reducible repeat (first | refine blk_drewN ?_ _ | refine blk_drew ?_ | refine blk_alloc ?_ _)); refine blk_put (cs := #[.int .i64 t154, .string t155]) ?_ 1 _ rfl; (with_reducible repeat (first | refine blk_drewN ?_ _ | refine blk_drew ?_ | refine blk_alloc ?_ _)); exact BK156.out) k_ hk⟩)); (case aO => exact (by (with_reducible repeat (first | apply Kd.R_alloc | apply Kd.R_drewN | apply Kd.R_drew)); exact Kd.R_mono (Kd.R_far (p := ⟨gb156, 1, none⟩) (Kd.R_mono HO_3.out (fun k_ hk => (⟨hk, hk.2⟩ : _ ∧ k_ ≠ gb156))) (fun _ hk => hk.2) (.string (rdOf ByteArray.empty t150 0))) (fun _ hk => ⟨hk.1.1, hk.1.2⟩))); (case aS => exact (below_size (by repeat (first | (with_reducible first | exact HB.out | apply below_alloc | apply pw_below_drewN | apply below_drew1 | refine below_set ?_ GE145.out | refine below_set ?_ GE156.out) | exact HB.out)))); (case aL => have := LMc13.out; omega); intro v159 w42 ho hb hg hat; rw [← Ny158.out] at ho; have n0_ := Aside0.mk (Kd.S_after (ok := (fun k_ => k_ ≠ gb145 ∧ k_ ≠ gb156)) (by (with_reducible repeat (first | apply Kd.S_alloc | apply Kd.S_drewN | apply Kd.S_drew)); exact Kd.S_mono (Kd.S_far (p := ⟨gb156, 1, none⟩) (Kd.S_mono HO_2.out (fun k_ hk => (⟨hk, hk.2.2⟩ : _ ∧ k_ ≠ gb156))) (fun _ hk => hk.2) (.string (rdOf ByteArray.empty t150 0))) (fun _ hk => ⟨⟨hk.1.2.1, hk.1.2.2⟩, hk.1.1⟩)) hg hat); have n1_ := Aside0.mk (blk_grown (g := gb145) (o := .cells #[.int .i64 ((rd_T65 l0 x11_1).f0), .string (rdOf ByteArray.empty t150 1)] 65 (0, 0)) (by (with_reducible repeat (first | refine blk_drewN ?_ _ | refine blk_drew ?_ | refine blk_alloc ?_ _)); refine blk_far ?_ NB145_156.out _; (with_reducible repeat (first | refine blk_drewN ?_ _ | refine blk_drew ?_ | refine blk_alloc ?_ _)); exact BK145.out) hg (Kd.R_away HO_3.out (fun _ hk => hk.1))); have n2_ := Aside0.mk (Kd.R_over' (by (with_reducible repeat (first | apply Kd.R_alloc | apply Kd.R_drewN | apply Kd.R_drew)); exact (Kd.R_mono (Kd.R_far (p := ⟨gb156, 1, none⟩) (Kd.R_types HO152.out BK156.out (by decide)) (fun _ hk => hk.2) (.string (rdOf ByteArray.empty t150 0))) (fun _ h_ => h_.1))) (Kd.R_typed (by (with_reducible repeat (first | apply Kd.R_alloc | apply Kd.R_drewN | apply Kd.R_drew)); exact (Kd.R_mono (Kd.R_far (p := ⟨gb156, 1, none⟩) (Kd.R_mono HO_3.out (fun k_ hk => (⟨hk, hk.2⟩ : _ ∧ k_ ≠ gb156))) (fun _ hk => hk.2) (.string (rdOf ByteArray.empty t150 0))) (fun _ h_ => h_.1)))) (by decide) hg); have n3_ := Aside0.mk (blk_grown (g := gb156) (o := .cells #[.int .i64 t154, .string (rdOf ByteArray.empty t150 0)] 65 (0, 0)) (by (with_reducible repeat (first | refine blk_drewN ?_ _ | refine blk_drew ?_ | refine blk_alloc ?_ _)); refine blk_put (cs := #[.int .i64 t154, .string t155]) ?_ 1 _ rfl; (with_reducible repeat (first | refine blk_drewN ?_ _ | refine blk_drew ?_ | refine blk_alloc ?_ _)); exact BK156.out) hg (Kd.R_away HO_3.out (fun _ hk => hk.2))); have n4_ := Aside0.mk (hb); have n5_ := Aside0.mk (ho); clear HO_2; clear BK145; clear HO152; clear BK156; clear HB; clear HO_3; have HO_2 := n0_; have BK145 := n1_; have HO152 := n2_; have BK156 := n3_; have HB := n4_; have HO160 := n5_; clear n0_ n1_ n2_ n3_ n4_ n5_; clear ho hb hg hat; obtain ⟨Ao44, co44, eo44⟩ := Kd.R_slice HO160.out; subst eo44) | ((with_reducible refine gate_builtin (b := .append) (xs := #[.tmp 34, .tmp 36]) rfl ?_); at_builtin; refine Kd.S_append (Kd.slice 65 k65) (w0 := w) w.heap.size rfl (.tmp 34) (.tmp 36) 76 50 (.slice none 0 0) 24 rfl Tryd.underlying76 info50 rfl (by decide) (by omega) u2 x2_2 y158 [.slice Ao44 y158.length co44] (fun k_ => k_ ≠ gb145 ∧ k_ ≠ gb156) (fun k_ => some k_ = (.slice Ao44 y158.length co44 : Value).ownBlock) rfl rfl ?aP (fun k_ hk_ => ((Kd.R_mono (ok' := fun k_ => ((fun k_ => k_ ≠ gb145 ∧ k_ ≠ gb156)) k_ ∧ some k_ ≠ (u2 : Value).ownBlock) (Kd.R_apart' (HO160.out) (Kd.S_typed HO_2.out) (by decide)) (fun k_ hk => ⟨⟨hk.1.1, hk.1.2⟩, hk.2⟩))).1 k_ hk_.symm) ?aF ?aO ?aB ?aS ?aL ?_; (case aP => exact Kd.M_row (Kd.R_mono (Kd.R_tight rfl (Kd.R_mono (ok' := fun k_ => ((fun k_ => k_ ≠ gb145 ∧ k_ ≠ gb156)) k_ ∧ some k_ ≠ (u2 : Value).ownBlock) (Kd.R_apart' (HO160.out) (Kd.S_typed HO_2.out) (by decide)) (fun k_ hk => ⟨⟨hk.1.1, hk.1.2⟩, hk.2⟩))) (fun _ h_ => h_))); (case aB => exact (by repeat (first | (with_reducible first | exact HB.out | apply below_alloc | apply pw_below_drewN | apply below_drew1 | refine below_set ?_ GE145.out | refine below_set ?_ GE156.out) | exact HB.out))); (case aF => exact (fun k_ hk => ⟨Kd.freshB (g := gb145) (o := .cells #[.int .i64 ((rd_T65 l0 x11_1).f0), .string (rdOf ByteArray.empty t150 1)] 65 (0, 0)) (by (with_reducible repeat (first | refine blk_drewN ?_ _ | refine blk_drew ?_ | refine blk_alloc ?_ _)); exact BK145.out) k_ hk, Kd.freshB (g := gb156) (o := .cells #[.int .i64 t154, .string (rdOf ByteArray.empty t150 0)] 65 (0, 0)) (by (with_reducible repeat (first | refine blk_drewN ?_ _ | refine blk_drew ?_ | refine blk_alloc ?_ _)); exact BK156.out) k_ hk⟩)); (case aO => exact (by (with_reducible repeat (first | apply Kd.S_alloc | apply Kd.S_drewN | apply Kd.S_drew)); exact Kd.S_mono HO_2.out (fun k_ hk => ⟨⟨hk.1.1, hk.1.2⟩, fun e_ => hk.2 e_⟩))); (case aS => exact (below_size (by repeat (first | (with_reducible first | exact HB.out | apply below_alloc | apply pw_below_drewN | apply below_drew1 | refine below_set ?_ GE145.out | refine below_set ?_ GE156.out) | exact HB.out)))); (case aL => have := LMc14.out; omega); intro v162 w43 ho hb hg hat; rw [← Ny161.out] at ho; have n0_ := Aside0.mk (blk_grown (g := gb145) (o := .cells #[.int .i64 ((rd_T65 l0 x11_1).f0), .string (rdOf ByteArray.empty t150 1)] 65 (0, 0)) (by (with_reducible repeat (first | refine blk_drewN ?_ _ | refine blk_drew ?_ | refine blk_alloc ?_ _)); exact BK145.out) hg (Kd.S_ne HO_2.out BK145.out (by decide))); have n1_ := Aside0.mk (Kd.R_over' (by (with_reducible repeat (first | apply Kd.R_alloc | apply Kd.R_drewN | apply Kd.R_drew)); exact HO152.out) (Kd.S_typed (by (with_reducible repeat (first | apply Kd.S_alloc | apply Kd.S_drewN | apply Kd.S_drew)); exact HO_2.out)) (by decide) hg); have n2_ := Aside0.mk (blk_grown (g := gb156) (o := .cells #[.int .i64 t154, .string (rdOf ByteArray.empty t150 0)] 65 (0, 0)) (by (with_reducible repeat (first | refine blk_drewN ?_ _ | refine blk_drew ?_ | refine blk_alloc ?_ _)); exact BK156.out) hg (Kd.S_ne HO_2.out BK156.out (by decide))); have n3_ := Aside0.mk (hb); have n4_ := Aside0.mk (ho); clear BK145; clear HO152; clear BK156; clear HB; clear HO_2; clear HO160; have BK145 := n0_; have HO152 := n1_; have BK156 := n2_; have HB := n3_; have HO163 := n4_; clear n0_ n1_ n2_ n3_ n4_; clear ho hb hg hat; have hcz45_0 : w43.cell? ⟨gb145, 0, none⟩ = some (.int .i64 ((rd_T65 l0 x11_1).f0)) := (blk_cell BK145.out 0).trans rfl; have hcz45_1 : w43.cell? ⟨gb145, 1, none⟩ = some (.string (rdOf ByteArray.empty t150 1)) := (blk_cell BK145.out 1).trans rfl; have hfz45_0 := blk_frozen BK145.out 0; have hfz45_1 := blk_frozen BK145.out 1))
                            go_roundg k2
                            case measure => have := HK1.out; have := HK2.out; omega
                            case rel => exact ⟨(y161), (([] : List (S65))), (rdOf ByteArray.empty t150 1), H', ⟨by have := HK1.out; have := HK2.out; omega⟩, ⟨by (with_reducible repeat (first | apply Kd.S_alloc | apply Kd.S_drewN | apply Kd.S_drew)); exact Kd.S_mono HO163.out (fun _ hk => ⟨(by simp [Value.ownBlock]), hk.1⟩)⟩, ⟨by first | exact Kd.R_nil _ _ _ _ _ | exact Kd.N_nil _ _ _ _ _ | exact Kd.V_nil _ _ _ _ _ | exact Kd.Q_nil _ _ _ _ _ | exact Kd.S_nil _ _ _ _ _⟩, ⟨by (with_reducible repeat (first | refine blk_drewN ?_ _ | refine blk_drew ?_ | refine blk_alloc ?_ _)); exact BK145.out⟩, ⟨by repeat (first | (with_reducible first | exact HB.out | apply below_alloc | apply pw_below_drewN | apply below_drew1 | refine below_set ?_ GE145.out | refine below_set ?_ GE156.out) | exact HB.out)⟩⟩
                        · rw [if_neg c14] at H
                          exact absurd H (by simp)
                      · rw [if_neg c13] at H
                        exact absurd H (by simp)
                    · rw [if_neg c12] at H
                      exact absurd H (by simp)
                  · rw [if_neg c10] at H
                    exact absurd H (by simp)
                · replace c8 := Bool.eq_false_iff.mpr c8
                  subst c8
                  have H1 : (if x3_2.length < 5864062014805 then (chroma_SplitTokensIntoLines.l0 k2 x2_2 (x3_2 ++ [(⟨((rd_T65 l0 x11_1).f0), x146001_2⟩ : S65)]) l0 (l0.length : Int) (wrap64 (x11_1 + 1))) else (none)) = some r := by rw [if_neg (show ¬ (false = true) by decide)] at H; exact H
                  clear H
                  have H := H1
                  clear H1
                  by_cases c46 : x3_2.length < 5864062014805
                  · rw [if_pos c46] at H
                    have LMc46 := Aside0.mk c46
                    clear c46
                    obtain ⟨y147, hy147⟩ : ∃ y_ : List (S65), y_ = (x3_2 ++ [(⟨((rd_T65 l0 x11_1).f0), x146001_2⟩ : S65)]) := ⟨_, rfl⟩
                    replace H : (chroma_SplitTokensIntoLines.l0 k2 x2_2 y147 l0 (l0.length : Int) (wrap64 (x11_1 + 1))) = some r := by first | (rw [hy147]; with_reducible exact H) | (have H2_ := (Option.bind_some _ _).symm.trans H; rw [hy147]; with_reducible exact H2_) | (have H2_ := (Option.bind_some _ _).symm.trans H; with_reducible exact H2_) | with_reducible exact H | (rw [hy147]; exact H) | exact H
                    have Ny147 := Aside0.mk hy147
                    clear hy147
                    have H' := Aside0.mk H
                    clear H
                    have hcz47_0 : wr.cell? ⟨gb145, 0, none⟩ = some (.int .i64 ((rd_T65 l0 x11_1).f0)) := (blk_cell BK145.out 0).trans rfl
                    have hcz47_1 : wr.cell? ⟨gb145, 1, none⟩ = some (.string x146001_2) := (blk_cell BK145.out 1).trans rfl
                    have hfz47_0 := blk_frozen BK145.out 0
                    have hfz47_1 := blk_frozen BK145.out 1
                    go_wp2_with (first | ((with_reducible refine gate_callee (f := 35) rfl ?_); refine goesL_ (some 17) rfl rfl Tryd.func35 (by kernel_rfl) rfl #[.string x146001_2, .string (⟨#[10]⟩ : ByteArray)] rfl (by (try simp only [List.map_toArray, List.map_cons, List.map_nil]); first | done | rfl | (simp only [List.length_drop, List.length_take]; rfl)) ?_; (with_reducible refine (chroma_zzContains.calls k2 x146001_2 (⟨#[10]⟩ : ByteArray) false _ A7.out).mono ?_); rintro e w' ⟨rfl, ⟨nd, rfl⟩⟩; refine ⟨_, rfl, ?_⟩) | ((with_reducible refine gate_builtin (b := .append) (xs := #[.tmp 42, .tmp 44]) rfl ?_); at_builtin; refine Kd.R_append k65 (w0 := w) w.heap.size rfl (.tmp 42) (.tmp 44) 50 65 (.agg #[(.int .i64 0), (.string ⟨#[]⟩)]) 24 rfl Tryd.underlying50 info65 rfl (by decide) (by omega) u3 x3_2 (⟨((rd_T65 l0 x11_1).f0), x146001_2⟩ : S65) [.int .i64 ((rd_T65 l0 x11_1).f0), .string x146001_2] (fun k_ => k_ ≠ gb145) (fun _ => False) rfl rfl ?aP (fun _ hk => hk.elim) ?aF ?aO ?aB ?aS ?aL ?_; (case aP => exact k65_mkM _ _ _ (⟨((rd_T65 l0 x11_1).f0), x146001_2⟩ : S65)); (case aB => exact (by repeat (first | (with_reducible first | exact HB.out | apply below_alloc | apply pw_below_drewN | apply below_drew1 | refine below_set ?_ GE145.out) | exact HB.out))); (case aF => exact (fun k_ hk => Kd.freshB (g := gb145) (o := .cells #[.int .i64 ((rd_T65 l0 x11_1).f0), .string x146001_2] 65 (0, 0)) (by (with_reducible repeat (first | refine blk_drewN ?_ _ | refine blk_drew ?_ | refine blk_alloc ?_ _)); exact BK145.out) k_ hk)); (case aO => exact (by (with_reducible repeat (first | apply Kd.R_alloc | apply Kd.R_drewN | apply Kd.R_drew)); exact HO_3.out)); (case aS => exact (below_size (by repeat (first | (with_reducible first | exact HB.out | apply below_alloc | apply pw_below_drewN | apply below_drew1 | refine below_set ?_ GE145.out) | exact HB.out)))); (case aL => have := LMc46.out; omega); intro v148 w48 ho hb hg hat; rw [← Ny147.out] at ho; have n0_ := Aside0.mk (Kd.S_after (ok := (fun k_ => k_ ≠ gb145)) (by (with_reducible repeat (first | apply Kd.S_alloc | apply Kd.S_drewN | apply Kd.S_drew)); exact Kd.S_mono HO_2.out (fun _ hk => ⟨hk.2, hk.1⟩)) hg hat); have n1_ := Aside0.mk (blk_grown (g := gb145) (o := .cells #[.int .i64 ((rd_T65 l0 x11_1).f0), .string x146001_2] 65 (0, 0)) (by (with_reducible repeat (first | refine blk_drewN ?_ _ | refine blk_drew ?_ | refine blk_alloc ?_ _)); exact BK145.out) hg (Kd.R_away HO_3.out (fun _ hk => hk))); have n2_ := Aside0.mk (hb); have n3_ := Aside0.mk (ho); clear HO_2; clear BK145; clear HB; clear HO_3; have HO_2 := n0_; have BK145 := n1_; have HB := n2_; have HO149 := n3_; clear n0_ n1_ n2_ n3_; clear ho hb hg hat))
                    go_roundg k2
                    case measure => have := HK1.out; have := HK2.out; omega
                    case rel => exact ⟨(x2_2), (y147), (wrap64 (x11_1 + 1)), (by first | rfl | (simp; done) | (simp [*]; done)), H', ⟨by have := HK1.out; have := HK2.out; omega⟩, ⟨by (with_reducible repeat (first | apply Kd.S_alloc | apply Kd.S_drewN | apply Kd.S_drew)); exact Kd.S_mono HO_2.out (fun _ hk => hk.2)⟩, ⟨by (with_reducible repeat (first | apply Kd.R_alloc | apply Kd.R_drewN | apply Kd.R_drew)); exact Kd.R_mono HO149.out (fun _ hk => trivial)⟩, ⟨by repeat (first | (with_reducible first | exact HB.out | apply below_alloc | apply pw_below_drewN | apply below_drew1 | refine below_set ?_ GE145.out) | exact HB.out)⟩⟩
                  · rw [if_neg c46] at H
                    exact absurd H (by simp)
          · rw [if_neg c4] at H
            exact absurd H (by simp)
        · rw [if_neg c3] at H
          exact absurd H (by simp)
      · rw [if_neg c2] at H
        have c2b0 : decide (x11_1 < (l0.length : Int)) = false := decide_eq_false c2
        clear c2
        have HC49 := Aside0.mk H
        clear H
        obtain ⟨Ao50, co50, eo50⟩ := Kd.R_slice HO_3.out
        subst eo50
        go_upto_if 49 with (fail)
        go_cut [2] (fun v2 wc => ∃ (kq : Nat) (x2_48 : List (List (S65))), Aside0 (chroma_SplitTokensIntoLines.j2 kq x2_48 = some r) ∧ Aside0 (kq ≤ k1) ∧ Aside0 (Kd.S (Kd.slice 65 k65) 50 wc w.heap.size (fun _ => True) v2 x2_48) ∧ Aside0 (Below w.heap.size w wc))
        case first =>
          have H := HC49.out
          clear HC49
          by_cases c51 : (x3_1.length : Int) > 0
          · rw [if_pos c51] at H
            have c51b0 : decide (0 < (x3_1.length : Int)) = true := decide_eq_true c51
            have c51b1 : decide (0 < x3_1.length) = true := decide_eq_true (by omega)
            clear c51
            (try (have c51b2 := c51b0; simp only [ByteArray.size_extract, Nat.min_self] at c51b2)); (first | rw [c51b0] | (simp only [i64_w, i32_w]; rw [c51b0]) | rw [c51b1] | skip)
            by_cases c52 : x2_1.length < 5864062014805
            · rw [if_pos c52] at H
              have LMc52 := Aside0.mk c52
              clear c52
              obtain ⟨y164, hy164⟩ : ∃ y_ : List (List (S65)), y_ = (x2_1 ++ [x3_1]) := ⟨_, rfl⟩
              replace H : (chroma_SplitTokensIntoLines.j2 k1 y164) = some r := by first | (rw [hy164]; with_reducible exact H) | (have H2_ := (Option.bind_some _ _).symm.trans H; rw [hy164]; with_reducible exact H2_) | (have H2_ := (Option.bind_some _ _).symm.trans H; with_reducible exact H2_) | with_reducible exact H | (rw [hy164]; exact H) | exact H
              have Ny164 := Aside0.mk hy164
              clear hy164
              have H' := Aside0.mk H
              clear H
              go_wp2_with (first | ((with_reducible refine gate_builtin (b := .append) (xs := #[.tmp 50, .tmp 52]) rfl ?_); at_builtin; refine Kd.S_append (Kd.slice 65 k65) (w0 := w) w.heap.size rfl (.tmp 50) (.tmp 52) 76 50 (.slice none 0 0) 24 rfl Tryd.underlying76 info50 rfl (by decide) (by omega) u2 x2_1 x3_1 [.slice Ao50 x3_1.length co50] (fun _ => True) (fun k_ => some k_ = (.slice Ao50 x3_1.length co50 : Value).ownBlock) rfl rfl ?aP (fun k_ hk_ => ((Kd.R_mono (ok' := fun k_ => ((fun _ => True)) k_ ∧ some k_ ≠ (u2 : Value).ownBlock) (Kd.R_apart' (HO_3.out) (Kd.S_typed HO_2.out) (by decide)) (fun k_ hk => ⟨trivial, hk.2⟩))).1 k_ hk_.symm) ?aF ?aO ?aB ?aS ?aL ?_; (case aP => exact Kd.M_row (Kd.R_mono (Kd.R_tight rfl (Kd.R_mono (ok' := fun k_ => ((fun _ => True)) k_ ∧ some k_ ≠ (u2 : Value).ownBlock) (Kd.R_apart' (HO_3.out) (Kd.S_typed HO_2.out) (by decide)) (fun k_ hk => ⟨trivial, hk.2⟩))) (fun _ h_ => h_))); (case aB => exact (by repeat (first | (with_reducible first | exact HB.out | apply below_alloc | apply pw_below_drewN | apply below_drew1) | exact HB.out))); (case aF => exact (fun _ _ => trivial)); (case aO => exact (by (with_reducible repeat (first | apply Kd.S_alloc | apply Kd.S_drewN | apply Kd.S_drew)); exact Kd.S_mono HO_2.out (fun k_ hk => ⟨trivial, fun e_ => hk e_⟩))); (case aS => exact (below_size (by repeat (first | (with_reducible first | exact HB.out | apply below_alloc | apply pw_below_drewN | apply below_drew1) | exact HB.out)))); (case aL => have := LMc52.out; omega); intro v165 w53 ho hb hg hat; rw [← Ny164.out] at ho; have n0_ := Aside0.mk (hb); have n1_ := Aside0.mk (ho); clear HB; clear HO_2; clear HO_3; have HB := n0_; have HO166 := n1_; clear n0_ n1_; clear ho hb hg hat))
              go_meet
              case rel => exact ⟨_, (y164), H', ⟨by have := HK1.out; first | omega | exact Nat.le_refl _⟩, ⟨by (with_reducible repeat (first | apply Kd.S_alloc | apply Kd.S_drewN | apply Kd.S_drew)); exact HO166.out⟩, ⟨by repeat (first | (with_reducible first | exact HB.out | apply below_alloc | apply pw_below_drewN | apply below_drew1) | exact HB.out)⟩⟩
            · rw [if_neg c52] at H
              exact absurd H (by simp)
          · rw [if_neg c51] at H
            have c51b0 : decide (0 < (x3_1.length : Int)) = false := decide_eq_false c51
            have c51b1 : decide (0 < x3_1.length) = false := decide_eq_false (by omega)
            clear c51
            (try (have c51b2 := c51b0; simp only [ByteArray.size_extract, Nat.min_self] at c51b2)); (first | rw [c51b0] | (simp only [i64_w, i32_w]; rw [c51b0]) | rw [c51b1] | skip)
            have H' := Aside0.mk H
            clear H
            go_wp2
            go_meet
            case rel => exact ⟨_, (x2_1), H', ⟨by have := HK1.out; first | omega | exact Nat.le_refl _⟩, ⟨by (with_reducible repeat (first | apply Kd.S_alloc | apply Kd.S_drewN | apply Kd.S_drew)); exact Kd.S_mono HO_2.out (fun _ hk => trivial)⟩, ⟨by repeat (first | (with_reducible first | exact HB.out | apply below_alloc | apply pw_below_drewN | apply below_drew1) | exact HB.out)⟩⟩
        case rest =>
          clear HC49
          try clear c1
          try clear p1
          try clear q1
          try clear hx1
          try clear qi1
          try clear c2
          try clear c2b0
          try clear p2
          try clear c3
          try clear c3b0
          try clear p3
          try clear c4
          try clear c4b0
          try clear c5
          try clear p6
          try clear c8
          try clear c10
          try clear c10b0
          try clear c10b1
          try clear c12
          try clear c12b0
          try clear c12b1
          try clear c13
          try clear c14
          try clear p14
          try clear q14
          try clear hx14
          try clear c15
          try clear c15b0
          try clear c15b1
          try clear p15
          try clear q15
          try clear hx15
          try clear qi15
          try clear c23
          try clear c33
          try clear c35
          try clear c36
          try clear c37
          try clear c38
          try clear c46
          try clear c51
          try clear c51b0
          try clear c51b1
          try clear c51b2
          try clear c52
          try clear hcz16_0
          try clear hcz16_1
          try clear hcz17_0
          try clear hcz17_1
          try clear hcz20_0
          try clear hcz20_1
          try clear hcz24_0
          try clear hcz24_1
          try clear hcz26_0
          try clear hcz26_1
          try clear hcz30_0
          try clear hcz30_1
          try clear hcz31_0
          try clear hcz31_1
          try clear hcz32_0
          try clear hcz32_1
          try clear hcz35_0
          try clear hcz35_1
          try clear hcz39_0
          try clear hcz39_1
          try clear hcz41_0
          try clear hcz41_1
          try clear hcz45_0
          try clear hcz45_1
          try clear hcz47_0
          try clear hcz47_1
          try clear hcz6_0
          try clear hcz6_1
          try clear hfz16_0
          try clear hfz16_1
          try clear hfz17_0
          try clear hfz17_1
          try clear hfz20_0
          try clear hfz20_1
          try clear hfz24_0
          try clear hfz24_1
          try clear hfz26_0
          try clear hfz26_1
          try clear hfz30_0
          try clear hfz30_1
          try clear hfz31_0
          try clear hfz31_1
          try clear hfz32_0
          try clear hfz32_1
          try clear hfz35_0
          try clear hfz35_1
          try clear hfz39_0
          try clear hfz39_1
          try clear hfz41_0
          try clear hfz41_1
          try clear hfz45_0
          try clear hfz45_1
          try clear hfz47_0
          try clear hfz47_1
          try clear hfz6_0
          try clear hfz6_1
          try clear hx144_0
          try clear hx144_1
          try clear hx153_0
          try clear hx157_0
          try clear p1
          try clear p144
          try clear p153
          try clear p157
          try clear p2
          try clear p3
          try clear q1
          try clear q144
          try clear q153
          try clear q157
          obtain ⟨kq, x2_48, HA, HJ48, HO_2, HB⟩ := hcut
          cases kq with
          | zero => exact absurd HA.out (by simp [chroma_SplitTokensIntoLines.j2])
          | succ kj48 =>
            have H := HA.out
            clear HA
            simp only [chroma_SplitTokensIntoLines.j2] at H
            by_cases c54 : (x2_48.length : Int) > 0
            · rw [if_pos c54] at H
              have c54b0 : decide (0 < (x2_48.length : Int)) = true := decide_eq_true c54
              have c54b1 : decide (0 < x2_48.length) = true := decide_eq_true (by omega)
              clear c54
              obtain ⟨ji55, hji55⟩ : ∃ j_ : Int, (wrap64 ((x2_48.length : Int) - 1)) = j_ := ⟨_, rfl⟩
              replace H : (if 0 ≤ (ji55) then (if (ji55) < (x2_48.length : Int) then (if ((rd_L6 x2_48 (ji55)).length : Int) = 1 then (if 0 < ((rd_L6 x2_48 (ji55)).length : Int) then (if ((rd_T65 (rd_L6 x2_48 (ji55)) 0).f1).toList = ([] : List UInt8) then (if (ji55) ≤ (x2_48.length : Int) then (some (x2_48.take ((ji55) : Int).toNat)) else (none)) else (some x2_48)) else (none)) else (some x2_48)) else (none)) else (none)) = some r := by first | (rw [hji55] at H; exact H) | (simp only [hji55] at H ⊢; exact H)
              have hji55w : (IntKind.i64.wrap ((x2_48.length : Int) - 1)) = ji55 := (i64_w _).trans hji55
              by_cases c56 : 0 ≤ (ji55)
              · rw [if_pos c56] at H
                have c56b0 : decide (0 ≤ (ji55)) = true := decide_eq_true c56
                clear c56
                by_cases c57 : (ji55) < (x2_48.length : Int)
                · rw [if_pos c57] at H
                  have c57b0 : decide ((ji55) < (x2_48.length : Int)) = true := decide_eq_true c57
                  clear c57
                  by_cases c58 : ((rd_L6 x2_48 (ji55)).length : Int) = 1
                  · rw [if_pos c58] at H
                    have c58b0 : (((rd_L6 x2_48 (ji55)).length : Int) == 1) = true := beq_iff_eq.mpr c58
                    have c58b1 : (((rd_L6 x2_48 (ji55)).length : Int) != 1) = false := bne_eq_false_iff_eq.mpr c58
                    clear c58
                    by_cases c59 : 0 < ((rd_L6 x2_48 (ji55)).length : Int)
                    · rw [if_pos c59] at H
                      have c59b0 : decide (0 < ((rd_L6 x2_48 (ji55)).length : Int)) = true := decide_eq_true c59
                      have c59b1 : decide (0 < (rd_L6 x2_48 (ji55)).length) = true := decide_eq_true (by omega)
                      clear c59
                      by_cases c60 : ((rd_T65 (rd_L6 x2_48 (ji55)) 0).f1).toList = ([] : List UInt8)
                      · rw [if_pos c60] at H
                        have c60b0 : (((rd_T65 (rd_L6 x2_48 (ji55)) 0).f1).toList == ([] : List UInt8)) = true := beq_iff_eq.mpr c60
                        have c60b1 : (((rd_T65 (rd_L6 x2_48 (ji55)) 0).f1).toList != ([] : List UInt8)) = false := bne_eq_false_iff_eq.mpr c60
                        clear c60
                        by_cases c61 : (ji55) ≤ (x2_48.length : Int)
                        · rw [if_pos c61] at H
                          have c61b0 := eq_true c61
                          have c61b1 : decide ((ji55) ≤ (x2_48.length : Int)) = true := decide_eq_true c61
                          clear c61
                          obtain ⟨y169, hy169⟩ : ∃ y_ : List (List (S65)), y_ = (x2_48.take ((ji55) : Int).toNat) := ⟨_, rfl⟩
                          replace H : (some y169) = some r := by first | (rw [hy169]; with_reducible exact H) | (have H2_ := (Option.bind_some _ _).symm.trans H; rw [hy169]; with_reducible exact H2_) | (have H2_ := (Option.bind_some _ _).symm.trans H; with_reducible exact H2_) | with_reducible exact H | (rw [hy169]; exact H) | exact H
                          have Ny169 := Aside0.mk hy169
                          clear hy169
                          obtain rfl := Option.some.inj H
                          obtain ⟨Ao62, co62, eo62⟩ := Kd.S_slice HO_2.out
                          subst eo62
                          have p167 : 0 ≤ ((ji55) : Int) := of_decide_eq_true (by first | (with_reducible assumption) | assumption)
                          have q167 : (ji55) < (x2_48.length : Int) := of_decide_eq_true (by first | (with_reducible assumption) | assumption)
                          obtain ⟨ad167, A167_0, c167_0, e167, hx167_0, hl167_0, hi167_0⟩ := at_L6 (Kd.S_reads' HO_2.out).2.2 (ji55) p167 q167
                          cases e167
                          obtain ⟨ce167, hce167, hMe167, hcc167⟩ := Kd.S_get HO_2.out [] (ji55) p167 (by first | exact q167 | exact of_decide_eq_true (by first | (with_reducible assumption) | assumption) | (have e_ := (Kd.S_reads' HO_2.out).1; omega))
                          obtain ⟨ve167_0, rfl, ge167_0⟩ := hMe167
                          have hv167_0 := hcc167 0 _ rfl
                          rw [Nat.add_zero, show ((Kd.slice 65 k65)).sz = 1 from rfl, Nat.mul_one] at hv167_0
                          replace hv167_0 := Option.some.inj (hv167_0.symm.trans hx167_0)
                          rw [hv167_0] at ge167_0
                          have HL167_0 := Aside0.mk (show Kd.R k65 65 _ _ _ _ (rd_L6 x2_48 (ji55)) from ge167_0)
                          clear hv167_0 ge167_0
                          clear hcc167 hce167
                          have HR167_0 := Aside0.mk hi167_0
                          have HC167_0 := Aside0.mk hl167_0
                          clear hi167_0 hl167_0
                          replace p167 := eq_true p167
                          replace q167 := eq_true q167
                          have p168 : 0 ≤ (0 : Int) := (by omega)
                          have q168 : 0 < ((rd_L6 x2_48 (ji55)).length : Int) := of_decide_eq_true (by first | (with_reducible assumption) | assumption)
                          obtain ⟨ad168, e168, hx168_0, hx168_1⟩ := at_T65 (by repeat (first | (with_reducible exact HR167_0.out) | (with_reducible refine Kd.C_alloc ?_ _) | (with_reducible refine Kd.C_drewN ?_ _) | (with_reducible refine Kd.C_drew ?_) | exact HR167_0.out)) 0 p168 q168
                          cases e168
                          have qi168 : (0 < (rd_L6 x2_48 (ji55)).length) = True := eq_true (by omega)
                          (try rw [show ((0 : Int)).toNat = 0 from rfl] at hx168_0)
                          (try rw [show 0 * 2 = 0 from rfl] at hx168_0)
                          (try rw [Addr.add_zero'] at hx168_0)
                          (try rw [show ((0 : Int)).toNat = 0 from rfl] at hx168_1)
                          (try rw [show 0 * 2 = 0 from rfl] at hx168_1)
                          (try rw [Addr.add_zero'] at hx168_1)
                          replace p168 := eq_true p168
                          replace q168 := eq_true q168
                          have q63 : ((ji55) : Int) ≤ ((x2_48.length : Int) : Int) := of_decide_eq_true (by first | (with_reducible assumption) | assumption)
                          obtain ⟨i063, hi063, _, hsz63, _⟩ := info_parts info50
                          have hcut63 := cut_to (P := Tryd.prog) 76 50 .i64 Tryd.underlying76 hi063 (some ad167) x2_48.length co62 (ji55) (of_decide_eq_true (by first | (with_reducible assumption) | assumption)) q63 (Kd.S_reads' HO_2.out).2.1
                          have hr63 := Kd.S_take (m := ((ji55) : Int).toNat) HO_2.out (by omega)
                          have hy63 : y169.length = ((ji55) : Int).toNat := (by rw [Ny169.out, List.length_take]; omega)
                          rw [← Ny169.out] at hr63
                          rw [← hy63] at hr63 hcut63
                          clear hy63 hi063 hsz63 HO_2
                          have HO171 := Aside0.mk hr63
                          clear hr63
                          replace q63 := eq_true q63
                          go_wp2
                          (try rw [Exit.noGoto_ret])
                          go_ret
                          exact ⟨_, by first | rfl | (simp [errW_none, errW_some] <;> rfl) | (simp only [← hji55]; first | rfl | (simp [errW_none, errW_some] <;> rfl)) | (simp [*, errW_none, errW_some] <;> rfl), by (with_reducible repeat (first | apply Kd.S_alloc | apply Kd.S_drewN | apply Kd.S_drew)); exact HO171.out, by repeat (first | (with_reducible first | exact HB.out | apply below_alloc | apply pw_below_drewN | apply below_drew1) | exact HB.out)⟩
                        · rw [if_neg c61] at H
                          exact absurd H (by simp)
                      · rw [if_neg c60] at H
                        have c60b0 : (((rd_T65 (rd_L6 x2_48 (ji55)) 0).f1).toList == ([] : List UInt8)) = false := beq_eq_false_iff_ne.mpr c60
                        have c60b1 : (((rd_T65 (rd_L6 x2_48 (ji55)) 0).f1).toList != ([] : List UInt8)) = true := bne_iff_ne.mpr c60
                        obtain rfl := Option.some.inj H
                        obtain ⟨Ao64, co64, eo64⟩ := Kd.S_slice HO_2.out
                        subst eo64
                        have p167 : 0 ≤ ((ji55) : Int) := of_decide_eq_true (by first | (with_reducible assumption) | assumption)
                        have q167 : (ji55) < (x2_48.length : Int) := of_decide_eq_true (by first | (with_reducible assumption) | assumption)
                        obtain ⟨ad167, A167_0, c167_0, e167, hx167_0, hl167_0, hi167_0⟩ := at_L6 (Kd.S_reads' HO_2.out).2.2 (ji55) p167 q167
                        cases e167
                        obtain ⟨ce167, hce167, hMe167, hcc167⟩ := Kd.S_get HO_2.out [] (ji55) p167 (by first | exact q167 | exact of_decide_eq_true (by first | (with_reducible assumption) | assumption) | (have e_ := (Kd.S_reads' HO_2.out).1; omega))
                        obtain ⟨ve167_0, rfl, ge167_0⟩ := hMe167
                        have hv167_0 := hcc167 0 _ rfl
                        rw [Nat.add_zero, show ((Kd.slice 65 k65)).sz = 1 from rfl, Nat.mul_one] at hv167_0
                        replace hv167_0 := Option.some.inj (hv167_0.symm.trans hx167_0)
                        rw [hv167_0] at ge167_0
                        have HL167_0 := Aside0.mk (show Kd.R k65 65 _ _ _ _ (rd_L6 x2_48 (ji55)) from ge167_0)
                        clear hv167_0 ge167_0
                        clear hcc167 hce167
                        have HR167_0 := Aside0.mk hi167_0
                        have HC167_0 := Aside0.mk hl167_0
                        clear hi167_0 hl167_0
                        replace p167 := eq_true p167
                        replace q167 := eq_true q167
                        have p168 : 0 ≤ (0 : Int) := (by omega)
                        have q168 : 0 < ((rd_L6 x2_48 (ji55)).length : Int) := of_decide_eq_true (by first | (with_reducible assumption) | assumption)
                        obtain ⟨ad168, e168, hx168_0, hx168_1⟩ := at_T65 (by repeat (first | (with_reducible exact HR167_0.out) | (with_reducible refine Kd.C_alloc ?_ _) | (with_reducible refine Kd.C_drewN ?_ _) | (with_reducible refine Kd.C_drew ?_) | exact HR167_0.out)) 0 p168 q168
                        cases e168
                        have qi168 : (0 < (rd_L6 x2_48 (ji55)).length) = True := eq_true (by omega)
                        (try rw [show ((0 : Int)).toNat = 0 from rfl] at hx168_0)
                        (try rw [show 0 * 2 = 0 from rfl] at hx168_0)
                        (try rw [Addr.add_zero'] at hx168_0)
                        (try rw [show ((0 : Int)).toNat = 0 from rfl] at hx168_1)
                        (try rw [show 0 * 2 = 0 from rfl] at hx168_1)
                        (try rw [Addr.add_zero'] at hx168_1)
                        replace p168 := eq_true p168
                        replace q168 := eq_true q168
                        go_wp2
                        (try rw [Exit.noGoto_ret])
                        go_ret
                        exact ⟨_, by first | rfl | (simp [errW_none, errW_some] <;> rfl) | (simp only [← hji55]; first | rfl | (simp [errW_none, errW_some] <;> rfl)) | (simp [*, errW_none, errW_some] <;> rfl), by (with_reducible repeat (first | apply Kd.S_alloc | apply Kd.S_drewN | apply Kd.S_drew)); exact HO_2.out, by repeat (first | (with_reducible first | exact HB.out | apply below_alloc | apply pw_below_drewN | apply below_drew1) | exact HB.out)⟩
                    · rw [if_neg c59] at H
                      exact absurd H (by simp)
                  · rw [if_neg c58] at H
                    have c58b0 : (((rd_L6 x2_48 (ji55)).length : Int) == 1) = false := beq_eq_false_iff_ne.mpr c58
                    have c58b1 : (((rd_L6 x2_48 (ji55)).length : Int) != 1) = true := bne_iff_ne.mpr c58
                    obtain rfl := Option.some.inj H
                    obtain ⟨Ao65, co65, eo65⟩ := Kd.S_slice HO_2.out
                    subst eo65
                    have p167 : 0 ≤ ((ji55) : Int) := of_decide_eq_true (by first | (with_reducible assumption) | assumption)
                    have q167 : (ji55) < (x2_48.length : Int) := of_decide_eq_true (by first | (with_reducible assumption) | assumption)
                    obtain ⟨ad167, A167_0, c167_0, e167, hx167_0, hl167_0, hi167_0⟩ := at_L6 (Kd.S_reads' HO_2.out).2.2 (ji55) p167 q167
                    cases e167
                    obtain ⟨ce167, hce167, hMe167, hcc167⟩ := Kd.S_get HO_2.out [] (ji55) p167 (by first | exact q167 | exact of_decide_eq_true (by first | (with_reducible assumption) | assumption) | (have e_ := (Kd.S_reads' HO_2.out).1; omega))
                    obtain ⟨ve167_0, rfl, ge167_0⟩ := hMe167
                    have hv167_0 := hcc167 0 _ rfl
                    rw [Nat.add_zero, show ((Kd.slice 65 k65)).sz = 1 from rfl, Nat.mul_one] at hv167_0
                    replace hv167_0 := Option.some.inj (hv167_0.symm.trans hx167_0)
                    rw [hv167_0] at ge167_0
                    have HL167_0 := Aside0.mk (show Kd.R k65 65 _ _ _ _ (rd_L6 x2_48 (ji55)) from ge167_0)
                    clear hv167_0 ge167_0
                    clear hcc167 hce167
                    have HR167_0 := Aside0.mk hi167_0
                    have HC167_0 := Aside0.mk hl167_0
                    clear hi167_0 hl167_0
                    replace p167 := eq_true p167
                    replace q167 := eq_true q167
                    go_wp2
                    (try rw [Exit.noGoto_ret])
                    go_ret
                    exact ⟨_, by first | rfl | (simp [errW_none, errW_some] <;> rfl) | (simp only [← hji55]; first | rfl | (simp [errW_none, errW_some] <;> rfl)) | (simp [*, errW_none, errW_some] <;> rfl), by (with_reducible repeat (first | apply Kd.S_alloc | apply Kd.S_drewN | apply Kd.S_drew)); exact HO_2.out, by repeat (first | (with_reducible first | exact HB.out | apply below_alloc | apply pw_below_drewN | apply below_drew1) | exact HB.out)⟩
                · rw [if_neg c57] at H
                  exact absurd H (by simp)
              · rw [if_neg c56] at H
                exact absurd H (by simp)
            · rw [if_neg c54] at H
              have c54b0 : decide (0 < (x2_48.length : Int)) = false := decide_eq_false c54
              have c54b1 : decide (0 < x2_48.length) = false := decide_eq_false (by omega)
              clear c54
              obtain rfl := Option.some.inj H
              obtain ⟨Ao66, co66, eo66⟩ := Kd.S_slice HO_2.out
              subst eo66
              go_wp2
              (try rw [Exit.noGoto_ret])
              go_ret
              exact ⟨_, by first | rfl | (simp [errW_none, errW_some] <;> rfl) | (simp [*, errW_none, errW_some] <;> rfl), by (with_reducible repeat (first | apply Kd.S_alloc | apply Kd.S_drewN | apply Kd.S_drew)); exact HO_2.out, by repeat (first | (with_reducible first | exact HB.out | apply below_alloc | apply pw_below_drewN | apply below_drew1) | exact HB.out)⟩

/-! ### impl_SplitLines: function 27 -/
def impl_SplitLines.l0 : Nat → List (List (S27)) → List (List (S65)) → Int → Int → Option ((List (List (S27))))
  | 0, _, _, _, _ => none
  | k + 1, x3, x8, x9, x10 => if x10 < x9 then (if 0 ≤ x10 then (if x10 < (x8.length : Int) then ((impl_outer.f k (rd_L6 x8 x10)).bind fun t179 => (if x3.length < 5864062014805 then (impl_SplitLines.l0 k (x3 ++ [t179]) x8 x9 (wrap64 (x10 + 1))) else (none))) else (none)) else (none)) else (some x3)
def impl_SplitLines.f (k : Nat) (l0 : List (S27)) : Option ((List (List (S27)))) := (impl_inner.f k l0).bind fun t172 => ((chroma_SplitTokensIntoLines.f k t172).bind fun t175 => (impl_SplitLines.l0 k ([] : List (List (S27))) t175 (t175.length : Int) 0))
theorem impl_SplitLines.mono_l : ∀ k, (∀ y0 y1 y2 y3, LeO (impl_SplitLines.l0 k y0 y1 y2 y3) (impl_SplitLines.l0 (k + 1) y0 y1 y2 y3))
  | 0 => fun _ _ _ _ r h => by simp [impl_SplitLines.l0] at h
  | k + 1 => by
    have ih0 := impl_SplitLines.mono_l k
    · intro y0 y1 y2 y3
      unfold impl_SplitLines.l0
      repeat' first
      | (with_reducible exact ih0 _ _ _ _)
      | (with_reducible exact chroma_SplitTokensIntoLines.mono _ _)
      | (with_reducible exact impl_inner.mono _ _)
      | (with_reducible exact impl_outer.mono _ _)
      | (with_reducible exact LeO.refl _)
      | (with_reducible exact LeO.none _)
      | (with_reducible refine LeO.ite ?_ ?_)
      | (with_reducible refine LeO.bind ?_ (fun _ => ?_))
      | exact ih0 _ _ _ _
      | exact chroma_SplitTokensIntoLines.mono _ _
      | exact impl_inner.mono _ _
      | exact impl_outer.mono _ _
      | exact LeO.none _
      | refine LeO.ite ?_ ?_
      | refine LeO.bind ?_ (fun _ => ?_)
theorem impl_SplitLines.mono : ∀ a0 k, LeO (impl_SplitLines.f k a0) (impl_SplitLines.f (k + 1) a0) := by
  intro a0 k
  have ih0 := impl_SplitLines.mono_l k
  unfold impl_SplitLines.f
  repeat' first
      | (with_reducible exact ih0 _ _ _ _)
      | (with_reducible exact chroma_SplitTokensIntoLines.mono _ _)
      | (with_reducible exact impl_inner.mono _ _)
      | (with_reducible exact impl_outer.mono _ _)
      | (with_reducible exact LeO.refl _)
      | (with_reducible exact LeO.none _)
      | (with_reducible refine LeO.ite ?_ ?_)
      | (with_reducible refine LeO.bind ?_ (fun _ => ?_))
      | exact ih0 _ _ _ _
      | exact chroma_SplitTokensIntoLines.mono _ _
      | exact impl_inner.mono _ _
      | exact impl_outer.mono _ _
      | exact LeO.none _
      | refine LeO.ite ?_ ?_
      | refine LeO.bind ?_ (fun _ => ?_)
set_option maxHeartbeats 8000000 in
set_option maxRecDepth 100000 in
theorem impl_SplitLines.calls (k : Nat) (A0 : Option Addr) (c0 : Nat) (l0 : List (S27)) (r : List (List (S27))) (w : World) (hr0 : Kd.C k27 w A0 l0.length l0) (hc0 : l0.length ≤ c0) (h : impl_SplitLines.f k l0 = some r) :
    Calls Tryd.prog 27 #[.slice A0 l0.length c0] w fun e w' => ∃ v0_ : Value, e = .returned (v0_) ∧ Kd.S (Kd.slice 27 k27) 23 w' w.heap.size (fun _ => True) v0_ r ∧ Below w.heap.size w w' := by
  have HR0 := Aside0.mk hr0
  have HC0 := Aside0.mk hc0
  clear hr0 hc0
  have HB := Aside0.mk (Below.refl w.heap.size w)
  have H : ((impl_inner.f k l0).bind fun t172 => ((chroma_SplitTokensIntoLines.f k t172).bind fun t175 => (impl_SplitLines.l0 k ([] : List (List (S27))) t175 (t175.length : Int) 0))) = some r := h
  clear h
  replace H := Option.bind_eq_some_iff.mp H
  obtain ⟨t172, A20, H⟩ := H
  replace H : ((chroma_SplitTokensIntoLines.f k t172).bind fun t175 => (impl_SplitLines.l0 k ([] : List (List (S27))) t175 (t175.length : Int) 0)) = some r := H
  have A2 := Aside0.mk A20
  clear A20
  replace H := Option.bind_eq_some_iff.mp H
  obtain ⟨t175, A30, H⟩ := H
  replace H : (impl_SplitLines.l0 k ([] : List (List (S27))) t175 (t175.length : Int) 0) = some r := H
  have A3 := Aside0.mk A30
  clear A30
  have H' := Aside0.mk H
  clear H
  go_enter Tryd.func27, Tryd.ntmps27
  go_wp2_with (first | ((with_reducible refine gate_callee (f := 31) rfl ?_); refine goesL_ (some 7) rfl rfl Tryd.func31 (by kernel_rfl) rfl #[.slice A0 l0.length c0] rfl (by (try simp only [List.map_toArray, List.map_cons, List.map_nil]); first | done | rfl | (simp only [List.length_drop, List.length_take]; rfl)) ?_; (with_reducible refine (impl_inner.calls k _ _ l0 t172 _ ?side1 ?side2 A2.out).mono ?_); (case side1 => repeat (first | exact HR0.out | (with_reducible refine Kd.C_alloc ?_ _) | (with_reducible refine Kd.C_drewN ?_ _) | (with_reducible refine Kd.C_drew ?_))); (case side2 => exact HC0.out); rintro e w4 ⟨v173, rfl, ho0, hb⟩; refine ⟨_, rfl, ?_⟩; have n0_ := Aside0.mk (Kd.R_lower ho0 (below_size (by repeat (first | (with_reducible first | exact HB.out | apply below_alloc | apply pw_below_drewN | apply below_drew1) | exact HB.out)))); have n1_ := Aside0.mk (below_step (by repeat (first | (with_reducible first | exact HB.out | apply below_alloc | apply pw_below_drewN | apply below_drew1) | exact HB.out)) hb); clear HB; have HO174 := n0_; have HB := n1_; clear n0_ n1_; (try clear hb); (try clear hb2); (try clear hk); (try clear hi); (try clear ho0); obtain ⟨Ao5, co5, eo5⟩ := Kd.R_slice HO174.out; subst eo5) | ((with_reducible refine gate_callee (f := 33) rfl ?_); refine goesL_ (some 8) rfl rfl Tryd.func33 (by kernel_rfl) rfl #[.slice Ao5 t172.length co5] rfl (by (try simp only [List.map_toArray, List.map_cons, List.map_nil]); first | done | rfl | (simp only [List.length_drop, List.length_take]; rfl)) ?_; (with_reducible refine (chroma_SplitTokensIntoLines.calls k _ _ t172 t175 _ ?side1 ?side2 A3.out).mono ?_); (case side1 => repeat (first | exact (Kd.R_reads' HO174.out).2.2 | (with_reducible refine Kd.C_alloc ?_ _) | (with_reducible refine Kd.C_drewN ?_ _) | (with_reducible refine Kd.C_drew ?_))); (case side2 => exact (Kd.R_reads' HO174.out).2.1); rintro e w6 ⟨v176, rfl, ho0, hb⟩; refine ⟨_, rfl, ?_⟩; have n0_ := Aside0.mk (Kd.R_below (by (with_reducible repeat (first | apply Kd.R_alloc | apply Kd.R_drewN | apply Kd.R_drew)); exact HO174.out) hb); have n1_ := Aside0.mk (Kd.S_lower (Kd.S_new' ho0 (Kd.R_lt (by (with_reducible repeat (first | apply Kd.R_alloc | apply Kd.R_drewN | apply Kd.R_drew)); exact HO174.out))) (below_size (by repeat (first | (with_reducible first | exact HB.out | apply below_alloc | apply pw_below_drewN | apply below_drew1) | exact HB.out)))); have n2_ := Aside0.mk (below_step (by repeat (first | (with_reducible first | exact HB.out | apply below_alloc | apply pw_below_drewN | apply below_drew1) | exact HB.out)) hb); clear HO174; clear HB; have HO174 := n0_; have HO177 := n1_; have HB := n2_; clear n0_ n1_ n2_; (try clear hb); (try clear hb2); (try clear hk); (try clear hi); (try clear ho0); obtain ⟨Ao7, co7, eo7⟩ := Kd.S_slice HO177.out; subst eo7))
  go_loopg [3, 10] k (fun kq v3 v10 w' => ∃ (x3_1 : List (List (S27))) (x10_1 : Int), v10 = .int .i64 x10_1 ∧ Aside0 (impl_SplitLines.l0 kq x3_1 t175 (t175.length : Int) x10_1 = some r) ∧ Aside0 (kq ≤ k) ∧ Aside0 (Kd.S (Kd.slice 27 k27) 23 w' w.heap.size (fun _ => True) v3 x3_1) ∧ Aside0 (Kd.S (Kd.slice 65 k65) 50 w' w.heap.size (fun _ => True) (.slice Ao7 t175.length co7) t175) ∧ Aside0 (Below w.heap.size w w'))
  case atStart => exact ⟨(([] : List (List (S27)))), (0), (by first | rfl | (simp; done) | (simp [*]; done)), H', ⟨Nat.le_refl _⟩, ⟨by first | exact Kd.S_nil _ _ _ _ _ | exact Kd.N_nil _ _ _ _ _ | exact Kd.V_nil _ _ _ _ _ | exact Kd.Q_nil _ _ _ _ _ | exact Kd.R_nil _ _ _ _ _⟩, ⟨by (with_reducible repeat (first | apply Kd.S_alloc | apply Kd.S_drewN | apply Kd.S_drew)); exact Kd.S_mono HO177.out (fun _ hk => trivial)⟩, ⟨by repeat (first | (with_reducible first | exact HB.out | apply below_alloc | apply pw_below_drewN | apply below_drew1) | exact HB.out)⟩⟩
  case round =>
    clear H'
    try clear c2
    try clear p2
    try clear c3
    obtain ⟨x3_1, x10_1, rfl, HA, HK1, HO_3, HO_8, HB⟩ := hrel
    cases gk with
    | zero => exact absurd HA.out (by simp [impl_SplitLines.l0])
    | succ k1 =>
      have H := HA.out
      clear HA
      simp only [impl_SplitLines.l0] at H
      by_cases c8 : x10_1 < (t175.length : Int)
      · rw [if_pos c8] at H
        have c8b0 : decide (x10_1 < (t175.length : Int)) = true := decide_eq_true c8
        clear c8
        by_cases c9 : 0 ≤ x10_1
        · rw [if_pos c9] at H
          have c9b0 : decide (0 ≤ x10_1) = true := decide_eq_true c9
          clear c9
          by_cases c10 : x10_1 < (t175.length : Int)
          · rw [if_pos c10] at H
            have c10b0 : decide (x10_1 < (t175.length : Int)) = true := decide_eq_true c10
            clear c10
            replace H := Option.bind_eq_some_iff.mp H
            obtain ⟨t179, A110, H⟩ := H
            replace H : (if x3_1.length < 5864062014805 then (impl_SplitLines.l0 k1 (x3_1 ++ [t179]) t175 (t175.length : Int) (wrap64 (x10_1 + 1))) else (none)) = some r := H
            have A11 := Aside0.mk A110
            clear A110
            by_cases c12 : x3_1.length < 5864062014805
            · rw [if_pos c12] at H
              have LMc12 := Aside0.mk c12
              clear c12
              obtain ⟨y182, hy182⟩ : ∃ y_ : List (List (S27)), y_ = (x3_1 ++ [t179]) := ⟨_, rfl⟩
              replace H : (impl_SplitLines.l0 k1 y182 t175 (t175.length : Int) (wrap64 (x10_1 + 1))) = some r := by first | (rw [hy182]; with_reducible exact H) | (have H2_ := (Option.bind_some _ _).symm.trans H; rw [hy182]; with_reducible exact H2_) | (have H2_ := (Option.bind_some _ _).symm.trans H; with_reducible exact H2_) | with_reducible exact H | (rw [hy182]; exact H) | exact H
              have Ny182 := Aside0.mk hy182
              clear hy182
              have H' := Aside0.mk H
              clear H
              have p178 : 0 ≤ (x10_1 : Int) := of_decide_eq_true (by first | (with_reducible assumption) | assumption)
              have q178 : x10_1 < (t175.length : Int) := of_decide_eq_true (by first | (with_reducible assumption) | assumption)
              obtain ⟨ad178, A178_0, c178_0, e178, hx178_0, hl178_0, hi178_0⟩ := at_L6 (Kd.S_reads' HO_8.out).2.2 x10_1 p178 q178
              cases e178
              obtain ⟨ce178, hce178, hMe178, hcc178⟩ := Kd.S_get HO_8.out [] x10_1 p178 (by first | exact q178 | exact of_decide_eq_true (by first | (with_reducible assumption) | assumption) | (have e_ := (Kd.S_reads' HO_8.out).1; omega))
              obtain ⟨ve178_0, rfl, ge178_0⟩ := hMe178
              have hv178_0 := hcc178 0 _ rfl
              rw [Nat.add_zero, show ((Kd.slice 65 k65)).sz = 1 from rfl, Nat.mul_one] at hv178_0
              replace hv178_0 := Option.some.inj (hv178_0.symm.trans hx178_0)
              rw [hv178_0] at ge178_0
              have HL178_0 := Aside0.mk (show Kd.R k65 65 _ _ _ _ (rd_L6 t175 x10_1) from ge178_0)
              clear hv178_0 ge178_0
              clear hcc178 hce178
              have HR178_0 := Aside0.mk hi178_0
              have HC178_0 := Aside0.mk hl178_0
              clear hi178_0 hl178_0
              replace p178 := eq_true p178
              replace q178 := eq_true q178
              go_wp2_with (first | ((with_reducible refine gate_callee (f := 29) rfl ?_); refine goesL_ (some 16) rfl rfl Tryd.func29 (by kernel_rfl) rfl #[.slice A178_0 (rd_L6 t175 x10_1).length c178_0] rfl (by (try simp only [List.map_toArray, List.map_cons, List.map_nil]); first | done | rfl | (simp only [List.length_drop, List.length_take]; rfl)) ?_; (with_reducible refine (impl_outer.calls k1 _ _ (rd_L6 t175 x10_1) t179 _ ?side1 ?side2 A11.out).mono ?_); (case side1 => repeat (first | exact (by repeat (first | (with_reducible exact HR178_0.out) | (with_reducible refine Kd.C_alloc ?_ _) | (with_reducible refine Kd.C_drewN ?_ _) | (with_reducible refine Kd.C_drew ?_) | exact HR178_0.out)) | (with_reducible refine Kd.C_alloc ?_ _) | (with_reducible refine Kd.C_drewN ?_ _) | (with_reducible refine Kd.C_drew ?_))); (case side2 => exact HC178_0.out); rintro e w13 ⟨v180, rfl, ho0, hb⟩; refine ⟨_, rfl, ?_⟩; have n0_ := Aside0.mk (Kd.S_elder' (by (with_reducible repeat (first | apply Kd.S_alloc | apply Kd.S_drewN | apply Kd.S_drew)); exact HO_3.out) (Kd.R_base ho0) hb); have n1_ := Aside0.mk (Kd.S_below (by (with_reducible repeat (first | apply Kd.S_alloc | apply Kd.S_drewN | apply Kd.S_drew)); exact HO_8.out) hb); have n2_ := Aside0.mk (Kd.R_below (by (with_reducible repeat (first | apply Kd.R_alloc | apply Kd.R_drewN | apply Kd.R_drew)); exact HL178_0.out) hb); have n3_ := Aside0.mk (Kd.R_lower ho0 (below_size (by repeat (first | (with_reducible first | exact HB.out | apply below_alloc | apply pw_below_drewN | apply below_drew1) | exact HB.out)))); have n4_ := Aside0.mk (Kd.C_below (by repeat (first | (with_reducible exact HR178_0.out) | (with_reducible refine Kd.C_alloc ?_ _) | (with_reducible refine Kd.C_drewN ?_ _) | (with_reducible refine Kd.C_drew ?_) | exact HR178_0.out)) hb); have n5_ := Aside0.mk (below_step (by repeat (first | (with_reducible first | exact HB.out | apply below_alloc | apply pw_below_drewN | apply below_drew1) | exact HB.out)) hb); clear HO_3; clear HO_8; clear HL178_0; clear HR178_0; clear HB; have HO_3 := n0_; have HO_8 := n1_; have HL178_0 := n2_; have HO181 := n3_; have HR178_0 := n4_; have HB := n5_; clear n0_ n1_ n2_ n3_ n4_ n5_; (try clear hb); (try clear hb2); (try clear hk); (try clear hi); (try clear ho0); obtain ⟨Ao15, co15, eo15⟩ := Kd.R_slice HO181.out; subst eo15) | ((with_reducible refine gate_builtin (b := .append) (xs := #[.tmp 14, .tmp 17]) rfl ?_); at_builtin; refine Kd.S_append (Kd.slice 27 k27) (w0 := w) w.heap.size rfl (.tmp 14) (.tmp 17) 61 23 (.slice none 0 0) 24 rfl Tryd.underlying61 info23 rfl (by decide) (by omega) u3 x3_1 t179 [.slice Ao15 t179.length co15] (fun _ => True) (fun k_ => some k_ = (.slice Ao15 t179.length co15 : Value).ownBlock) rfl rfl ?aP (fun k_ hk_ => ((Kd.R_mono (ok' := fun k_ => ((fun _ => True)) k_ ∧ some k_ ≠ (u3 : Value).ownBlock) (Kd.R_apart' (HO181.out) (Kd.S_typed HO_3.out) (by decide)) (fun k_ hk => ⟨trivial, hk.2⟩))).1 k_ hk_.symm) ?aF ?aO ?aB ?aS ?aL ?_; (case aP => exact Kd.M_row (Kd.R_mono (Kd.R_tight rfl (Kd.R_mono (ok' := fun k_ => ((fun _ => True)) k_ ∧ some k_ ≠ (u3 : Value).ownBlock) (Kd.R_apart' (HO181.out) (Kd.S_typed HO_3.out) (by decide)) (fun k_ hk => ⟨trivial, hk.2⟩))) (fun _ h_ => h_))); (case aB => exact (by repeat (first | (with_reducible first | exact HB.out | apply below_alloc | apply pw_below_drewN | apply below_drew1) | exact HB.out))); (case aF => exact (fun _ _ => trivial)); (case aO => exact (by (with_reducible repeat (first | apply Kd.S_alloc | apply Kd.S_drewN | apply Kd.S_drew)); exact Kd.S_mono HO_3.out (fun k_ hk => ⟨trivial, fun e_ => hk.2 e_⟩))); (case aS => exact (below_size (by repeat (first | (with_reducible first | exact HB.out | apply below_alloc | apply pw_below_drewN | apply below_drew1) | exact HB.out)))); (case aL => have := LMc12.out; omega); intro v183 w14 ho hb hg hat; rw [← Ny182.out] at ho; have n0_ := Aside0.mk (Kd.S_over' (by (with_reducible repeat (first | apply Kd.S_alloc | apply Kd.S_drewN | apply Kd.S_drew)); exact HO_8.out) (Kd.S_typed (by (with_reducible repeat (first | apply Kd.S_alloc | apply Kd.S_drewN | apply Kd.S_drew)); exact HO_3.out)) (by decide) hg); have n1_ := Aside0.mk (Kd.R_over' (by (with_reducible repeat (first | apply Kd.R_alloc | apply Kd.R_drewN | apply Kd.R_drew)); exact HL178_0.out) (Kd.S_typed (by (with_reducible repeat (first | apply Kd.S_alloc | apply Kd.S_drewN | apply Kd.S_drew)); exact HO_3.out)) (by decide) hg); have n2_ := Aside0.mk (hb); have n3_ := Aside0.mk (ho); clear HO_8; clear HL178_0; clear HB; clear HO_3; clear HO181; have HO_8 := n0_; have HL178_0 := n1_; have HB := n2_; have HO184 := n3_; clear n0_ n1_ n2_ n3_; clear ho hb hg hat))
              go_roundg k1
              case measure => have := HK1.out; omega
              case rel => exact ⟨(y182), (wrap64 (x10_1 + 1)), (by first | rfl | (simp; done) | (simp [*]; done)), H', ⟨by have := HK1.out; omega⟩, ⟨by (with_reducible repeat (first | apply Kd.S_alloc | apply Kd.S_drewN | apply Kd.S_drew)); exact HO184.out⟩, ⟨by (with_reducible repeat (first | apply Kd.S_alloc | apply Kd.S_drewN | apply Kd.S_drew)); exact HO_8.out⟩, ⟨by repeat (first | (with_reducible first | exact HB.out | apply below_alloc | apply pw_below_drewN | apply below_drew1) | exact HB.out)⟩⟩
            · rw [if_neg c12] at H
              exact absurd H (by simp)
          · rw [if_neg c10] at H
            exact absurd H (by simp)
        · rw [if_neg c9] at H
          exact absurd H (by simp)
      · rw [if_neg c8] at H
        have c8b0 : decide (x10_1 < (t175.length : Int)) = false := decide_eq_false c8
        clear c8
        obtain rfl := Option.some.inj H
        go_wp2
        go_ret
        exact ⟨_, by first | rfl | (simp [errW_none, errW_some] <;> rfl) | (simp [*, errW_none, errW_some] <;> rfl), by (with_reducible repeat (first | apply Kd.S_alloc | apply Kd.S_drewN | apply Kd.S_drew)); exact HO_3.out, by repeat (first | (with_reducible first | exact HB.out | apply below_alloc | apply pw_below_drewN | apply below_drew1) | exact HB.out)⟩

/-! ### laws_waking: function 14 -/
def laws_waking.f (k : Nat)  : Option (Bool) := (impl_SplitLines.f k (([(⟨1000, (⟨#[105, 102, 10, 120]⟩ : ByteArray)⟩ : S27), (⟨2000, (⟨#[121]⟩ : ByteArray)⟩ : S27)] : List (S27)))).bind fun t188 => (if (t188.length : Int) = 2 then (if 0 < (t188.length : Int) then ((laws_text.f k (rd_L7 t188 0)).bind fun t192 => (if t192.toList = ([105, 102, 10] : List UInt8) then (if 1 < (t188.length : Int) then ((laws_text.f k (rd_L7 t188 1)).bind fun t194 => (some (t194.toList == ([120, 121] : List UInt8)))) else (none)) else (some false))) else (none)) else (some false))
theorem laws_waking.mono : ∀ k, LeO (laws_waking.f k ) (laws_waking.f (k + 1) ) := by
  intro  k
  unfold laws_waking.f
  repeat' first
      | (with_reducible exact impl_SplitLines.mono _ _)
      | (with_reducible exact laws_text.mono _ _)
      | (with_reducible exact LeO.refl _)
      | (with_reducible exact LeO.none _)
      | (with_reducible refine LeO.ite ?_ ?_)
      | (with_reducible refine LeO.bind ?_ (fun _ => ?_))
      | exact impl_SplitLines.mono _ _
      | exact laws_text.mono _ _
      | exact LeO.none _
      | refine LeO.ite ?_ ?_
      | refine LeO.bind ?_ (fun _ => ?_)
set_option maxHeartbeats 8000000 in
set_option maxRecDepth 100000 in
theorem laws_waking.calls (k : Nat)  (r : Bool) (w : World) (h : laws_waking.f k  = some r) :
    Calls Tryd.prog 14 #[] w fun e w' => e = .returned (.bool r) ∧ Below w.heap.size w w' := by
  have hu27 := Tryd.underlying27
  have HB := Aside0.mk (Below.refl w.heap.size w)
  have H : ((impl_SplitLines.f k (([(⟨1000, (⟨#[105, 102, 10, 120]⟩ : ByteArray)⟩ : S27), (⟨2000, (⟨#[121]⟩ : ByteArray)⟩ : S27)] : List (S27)))).bind fun t188 => (if (t188.length : Int) = 2 then (if 0 < (t188.length : Int) then ((laws_text.f k (rd_L7 t188 0)).bind fun t192 => (if t192.toList = ([105, 102, 10] : List UInt8) then (if 1 < (t188.length : Int) then ((laws_text.f k (rd_L7 t188 1)).bind fun t194 => (some (t194.toList == ([120, 121] : List UInt8)))) else (none)) else (some false))) else (none)) else (some false))) = some r := h
  clear h
  obtain ⟨y185, hy185⟩ : ∃ y_ : List (S27), y_ = (([(⟨1000, (⟨#[105, 102, 10, 120]⟩ : ByteArray)⟩ : S27), (⟨2000, (⟨#[121]⟩ : ByteArray)⟩ : S27)] : List (S27))) := ⟨_, rfl⟩
  replace H : ((impl_SplitLines.f k y185).bind fun t188 => (if (t188.length : Int) = 2 then (if 0 < (t188.length : Int) then ((laws_text.f k (rd_L7 t188 0)).bind fun t192 => (if t192.toList = ([105, 102, 10] : List UInt8) then (if 1 < (t188.length : Int) then ((laws_text.f k (rd_L7 t188 1)).bind fun t194 => (some (t194.toList == ([120, 121] : List UInt8)))) else (none)) else (some false))) else (none)) else (some false))) = some r := by first | (rw [hy185]; with_reducible exact H) | (have H2_ := (Option.bind_some _ _).symm.trans H; rw [hy185]; with_reducible exact H2_) | (have H2_ := (Option.bind_some _ _).symm.trans H; with_reducible exact H2_) | with_reducible exact H | (rw [hy185]; exact H) | exact H
  have Ny185 := Aside0.mk hy185
  clear hy185
  replace H := Option.bind_eq_some_iff.mp H
  obtain ⟨t188, A10, H⟩ := H
  replace H : (if (t188.length : Int) = 2 then (if 0 < (t188.length : Int) then ((laws_text.f k (rd_L7 t188 0)).bind fun t192 => (if t192.toList = ([105, 102, 10] : List UInt8) then (if 1 < (t188.length : Int) then ((laws_text.f k (rd_L7 t188 1)).bind fun t194 => (some (t194.toList == ([120, 121] : List UInt8)))) else (none)) else (some false))) else (none)) else (some false)) = some r := H
  have A1 := Aside0.mk A10
  clear A10
  by_cases c2 : (t188.length : Int) = 2
  · rw [if_pos c2] at H
    have c2b0 : ((t188.length : Int) == 2) = true := beq_iff_eq.mpr c2
    have c2b1 : ((t188.length : Int) != 2) = false := bne_eq_false_iff_eq.mpr c2
    clear c2
    by_cases c3 : 0 < (t188.length : Int)
    · rw [if_pos c3] at H
      have c3b0 : decide (0 < (t188.length : Int)) = true := decide_eq_true c3
      have c3b1 : decide (0 < t188.length) = true := decide_eq_true (by omega)
      clear c3
      replace H := Option.bind_eq_some_iff.mp H
      obtain ⟨t192, A40, H⟩ := H
      replace H : (if t192.toList = ([105, 102, 10] : List UInt8) then (if 1 < (t188.length : Int) then ((laws_text.f k (rd_L7 t188 1)).bind fun t194 => (some (t194.toList == ([120, 121] : List UInt8)))) else (none)) else (some false)) = some r := H
      have A4 := Aside0.mk A40
      clear A40
      by_cases c5 : t192.toList = ([105, 102, 10] : List UInt8)
      · rw [if_pos c5] at H
        have c5b0 : (t192.toList == ([105, 102, 10] : List UInt8)) = true := beq_iff_eq.mpr c5
        have c5b1 : (t192.toList != ([105, 102, 10] : List UInt8)) = false := bne_eq_false_iff_eq.mpr c5
        clear c5
        by_cases c6 : 1 < (t188.length : Int)
        · rw [if_pos c6] at H
          have c6b0 : decide (1 < (t188.length : Int)) = true := decide_eq_true c6
          have c6b1 : decide (1 < t188.length) = true := decide_eq_true (by omega)
          clear c6
          replace H := Option.bind_eq_some_iff.mp H
          obtain ⟨t194, A70, H⟩ := H
          replace H : (some (t194.toList == ([120, 121] : List UInt8))) = some r := H
          have A7 := Aside0.mk A70
          clear A70
          obtain rfl := Option.some.inj H
          go_enter Tryd.func14, Tryd.ntmps14
          go_wp2_with (first | ((with_reducible refine gate_dst (N := 4) rfl ?_); refine Kd.R_lit k27 _ 27 ?hg (N := 4) ?hd (xs := ([(⟨1000, (⟨#[105, 102, 10, 120]⟩ : ByteArray)⟩ : S27), (⟨2000, (⟨#[121]⟩ : ByteArray)⟩ : S27)] : List (S27))) (inner := [.int .i64 1000, .string (⟨#[105, 102, 10, 120]⟩ : ByteArray), .int .i64 2000, .string (⟨#[121]⟩ : ByteArray)]) (ok := fun _ => True) (okp := fun _ => True) ?hr ?hp (fun _ hk => hk) trivial (Below.refl _ _) (Nat.le_refl _) (by simp) ?_; (case hd => rfl); (case hg => rfl); (case hr => first | (go_simp; done) | (go_simp; rfl)); (case hp => exact (Reps.c2 (show Kd.M k27 _ _ _ (⟨1000, (⟨#[105, 102, 10, 120]⟩ : ByteArray)⟩ : S27) [.int .i64 1000, .string (⟨#[105, 102, 10, 120]⟩ : ByteArray)] from (k27_mkM _ _ _ (⟨1000, (⟨#[105, 102, 10, 120]⟩ : ByteArray)⟩ : S27) )) (Reps.c2 (show Kd.M k27 _ _ _ (⟨2000, (⟨#[121]⟩ : ByteArray)⟩ : S27) [.int .i64 2000, .string (⟨#[121]⟩ : ByteArray)] from (k27_mkM _ _ _ (⟨2000, (⟨#[121]⟩ : ByteArray)⟩ : S27) )) (Reps.none _ _)))); intro v186 w8 ho9 hb hg_ hnew_; clear hg_ hnew_; (first | rw [← Ny185.out] at ho9 | (simp only [Int.reduceToNat] at ho9; rw [← Ny185.out] at ho9)); have n0_ := Aside0.mk (Kd.R_lower ho9 (below_size (by repeat (first | (with_reducible first | exact HB.out | apply below_alloc | apply pw_below_drewN | apply below_drew1) | exact HB.out)))); have n1_ := Aside0.mk (below_step (by repeat (first | (with_reducible first | exact HB.out | apply below_alloc | apply pw_below_drewN | apply below_drew1) | exact HB.out)) hb); clear HB; have HO187 := n0_; have HB := n1_; clear n0_ n1_; clear hb ho9; obtain ⟨Ao10, co10, eo10⟩ := Kd.R_slice HO187.out; subst eo10) | ((with_reducible refine gate_callee (f := 27) rfl ?_); refine goesL_ (some 5) rfl rfl Tryd.func27 (by kernel_rfl) rfl #[.slice Ao10 y185.length co10] rfl (by (try simp only [List.map_toArray, List.map_cons, List.map_nil]); first | done | rfl | (simp only [List.length_drop, List.length_take]; rfl)) ?_; (with_reducible refine (impl_SplitLines.calls k _ _ y185 t188 _ ?side1 ?side2 A1.out).mono ?_); (case side1 => repeat (first | exact (Kd.R_reads' HO187.out).2.2 | (with_reducible refine Kd.C_alloc ?_ _) | (with_reducible refine Kd.C_drewN ?_ _) | (with_reducible refine Kd.C_drew ?_))); (case side2 => exact (Kd.R_reads' HO187.out).2.1); rintro e w11 ⟨v189, rfl, ho0, hb⟩; refine ⟨_, rfl, ?_⟩; have n0_ := Aside0.mk (Kd.R_below (by (with_reducible repeat (first | apply Kd.R_alloc | apply Kd.R_drewN | apply Kd.R_drew)); exact HO187.out) hb); have n1_ := Aside0.mk (Kd.S_lower (Kd.S_new' ho0 (Kd.R_lt (by (with_reducible repeat (first | apply Kd.R_alloc | apply Kd.R_drewN | apply Kd.R_drew)); exact HO187.out))) (below_size (by repeat (first | (with_reducible first | exact HB.out | apply below_alloc | apply pw_below_drewN | apply below_drew1) | exact HB.out)))); have n2_ := Aside0.mk (below_step (by repeat (first | (with_reducible first | exact HB.out | apply below_alloc | apply pw_below_drewN | apply below_drew1) | exact HB.out)) hb); clear HO187; clear HB; have HO187 := n0_; have HO190 := n1_; have HB := n2_; clear n0_ n1_ n2_; (try clear hb); (try clear hb2); (try clear hk); (try clear hi); (try clear ho0); obtain ⟨Ao12, co12, eo12⟩ := Kd.S_slice HO190.out; subst eo12; have p191 : 0 ≤ (0 : Int) := (by omega); have q191 : 0 < (t188.length : Int) := of_decide_eq_true (by first | (with_reducible assumption) | assumption); obtain ⟨ad191, A191_0, c191_0, e191, hx191_0, hl191_0, hi191_0⟩ := at_L7 (Kd.S_reads' HO190.out).2.2 0 p191 q191; cases e191; obtain ⟨ce191, hce191, hMe191, hcc191⟩ := Kd.S_get HO190.out [] 0 p191 (by first | exact q191 | exact of_decide_eq_true (by first | (with_reducible assumption) | assumption) | (have e_ := (Kd.S_reads' HO190.out).1; omega)); obtain ⟨ve191_0, rfl, ge191_0⟩ := hMe191; have hv191_0 := hcc191 0 _ rfl; rw [Nat.add_zero, show ((Kd.slice 27 k27)).sz = 1 from rfl, Nat.mul_one] at hv191_0; replace hv191_0 := Option.some.inj (hv191_0.symm.trans hx191_0); rw [hv191_0] at ge191_0; have HL191_0 := Aside0.mk (show Kd.R k27 27 _ _ _ _ (rd_L7 t188 0) from ge191_0); clear hv191_0 ge191_0; clear hcc191 hce191; have qi191 : (0 < t188.length) = True := eq_true (by omega); (try rw [show ((0 : Int)).toNat = 0 from rfl] at hx191_0); (try rw [Addr.add_zero'] at hx191_0); have HR191_0 := Aside0.mk hi191_0; have HC191_0 := Aside0.mk hl191_0; clear hi191_0 hl191_0; replace p191 := eq_true p191; replace q191 := eq_true q191) | (go_at_call 15; (with_reducible refine (laws_text.calls k _ _ (rd_L7 t188 0) t192 _ ?side1 ?side2 A4.out).mono ?_); (case side1 => repeat (first | exact (by repeat (first | (with_reducible exact HR191_0.out) | (with_reducible refine Kd.C_alloc ?_ _) | (with_reducible refine Kd.C_drewN ?_ _) | (with_reducible refine Kd.C_drew ?_) | exact HR191_0.out)) | (with_reducible refine Kd.C_alloc ?_ _) | (with_reducible refine Kd.C_drewN ?_ _) | (with_reducible refine Kd.C_drew ?_))); (case side2 => exact HC191_0.out); rintro e w13 ⟨rfl, hb⟩; have n0_ := Aside0.mk (Kd.R_below (by (with_reducible repeat (first | apply Kd.R_alloc | apply Kd.R_drewN | apply Kd.R_drew)); exact HO187.out) hb); have n1_ := Aside0.mk (Kd.S_below (by (with_reducible repeat (first | apply Kd.S_alloc | apply Kd.S_drewN | apply Kd.S_drew)); exact HO190.out) hb); have n2_ := Aside0.mk (Kd.R_below (by (with_reducible repeat (first | apply Kd.R_alloc | apply Kd.R_drewN | apply Kd.R_drew)); exact HL191_0.out) hb); have n3_ := Aside0.mk (Kd.C_below (by repeat (first | (with_reducible exact HR191_0.out) | (with_reducible refine Kd.C_alloc ?_ _) | (with_reducible refine Kd.C_drewN ?_ _) | (with_reducible refine Kd.C_drew ?_) | exact HR191_0.out)) hb); have n4_ := Aside0.mk (below_step (by repeat (first | (with_reducible first | exact HB.out | apply below_alloc | apply pw_below_drewN | apply below_drew1) | exact HB.out)) hb); clear HO187; clear HO190; clear HL191_0; clear HR191_0; clear HB; have HO187 := n0_; have HO190 := n1_; have HL191_0 := n2_; have HR191_0 := n3_; have HB := n4_; clear n0_ n1_ n2_ n3_ n4_; (try clear hb); (try clear hb2); (try clear hk); (try clear hi); have p193 : 0 ≤ (1 : Int) := (by omega); have q193 : 1 < (t188.length : Int) := of_decide_eq_true (by first | (with_reducible assumption) | assumption); obtain ⟨ad193, A193_0, c193_0, e193, hx193_0, hl193_0, hi193_0⟩ := at_L7 (Kd.S_reads' HO190.out).2.2 1 p193 q193; obtain rfl : ad191 = ad193 := (by injection e193); obtain ⟨ce193, hce193, hMe193, hcc193⟩ := Kd.S_get HO190.out [] 1 p193 (by first | exact q193 | exact of_decide_eq_true (by first | (with_reducible assumption) | assumption) | (have e_ := (Kd.S_reads' HO190.out).1; omega)); obtain ⟨ve193_0, rfl, ge193_0⟩ := hMe193; have hv193_0 := hcc193 0 _ rfl; rw [Nat.add_zero, show ((Kd.slice 27 k27)).sz = 1 from rfl, Nat.mul_one] at hv193_0; replace hv193_0 := Option.some.inj (hv193_0.symm.trans hx193_0); rw [hv193_0] at ge193_0; have HL193_0 := Aside0.mk (show Kd.R k27 27 _ _ _ _ (rd_L7 t188 1) from ge193_0); clear hv193_0 ge193_0; clear hcc193 hce193; (try simp only [show (1 : Int).toNat = 1 from rfl, Nat.reduceMul, Nat.reduceEqDiff, Go.Addr.add, ↓reduceIte] at hx193_0); have qi193 : (1 < t188.length) = True := eq_true (by omega); (try rw [show ((1 : Int)).toNat = 1 from rfl] at hx193_0); have HR193_0 := Aside0.mk hi193_0; have HC193_0 := Aside0.mk hl193_0; clear hi193_0 hl193_0; replace p193 := eq_true p193; replace q193 := eq_true q193) | (go_at_call 15; (with_reducible refine (laws_text.calls k _ _ (rd_L7 t188 1) t194 _ ?side1 ?side2 A7.out).mono ?_); (case side1 => repeat (first | exact (by repeat (first | (with_reducible exact HR193_0.out) | (with_reducible refine Kd.C_alloc ?_ _) | (with_reducible refine Kd.C_drewN ?_ _) | (with_reducible refine Kd.C_drew ?_) | exact HR193_0.out)) | (with_reducible refine Kd.C_alloc ?_ _) | (with_reducible refine Kd.C_drewN ?_ _) | (with_reducible refine Kd.C_drew ?_))); (case side2 => exact HC193_0.out); rintro e w14 ⟨rfl, hb⟩; have n0_ := Aside0.mk (Kd.R_below (by (with_reducible repeat (first | apply Kd.R_alloc | apply Kd.R_drewN | apply Kd.R_drew)); exact HO187.out) hb); have n1_ := Aside0.mk (Kd.S_below (by (with_reducible repeat (first | apply Kd.S_alloc | apply Kd.S_drewN | apply Kd.S_drew)); exact HO190.out) hb); have n2_ := Aside0.mk (Kd.R_below (by (with_reducible repeat (first | apply Kd.R_alloc | apply Kd.R_drewN | apply Kd.R_drew)); exact HL191_0.out) hb); have n3_ := Aside0.mk (Kd.R_below (by (with_reducible repeat (first | apply Kd.R_alloc | apply Kd.R_drewN | apply Kd.R_drew)); exact HL193_0.out) hb); have n4_ := Aside0.mk (Kd.C_below (by repeat (first | (with_reducible exact HR191_0.out) | (with_reducible refine Kd.C_alloc ?_ _) | (with_reducible refine Kd.C_drewN ?_ _) | (with_reducible refine Kd.C_drew ?_) | exact HR191_0.out)) hb); have n5_ := Aside0.mk (Kd.C_below (by repeat (first | (with_reducible exact HR193_0.out) | (with_reducible refine Kd.C_alloc ?_ _) | (with_reducible refine Kd.C_drewN ?_ _) | (with_reducible refine Kd.C_drew ?_) | exact HR193_0.out)) hb); have n6_ := Aside0.mk (below_step (by repeat (first | (with_reducible first | exact HB.out | apply below_alloc | apply pw_below_drewN | apply below_drew1) | exact HB.out)) hb); clear HO187; clear HO190; clear HL191_0; clear HL193_0; clear HR191_0; clear HR193_0; clear HB; have HO187 := n0_; have HO190 := n1_; have HL191_0 := n2_; have HL193_0 := n3_; have HR191_0 := n4_; have HR193_0 := n5_; have HB := n6_; clear n0_ n1_ n2_ n3_ n4_ n5_ n6_; (try clear hb); (try clear hb2); (try clear hk); (try clear hi)))
          go_ret
          exact ⟨by first | rfl | (simp [errW_none, errW_some] <;> rfl) | (simp [*, errW_none, errW_some] <;> rfl), by repeat (first | (with_reducible first | exact HB.out | apply below_alloc | apply pw_below_drewN | apply below_drew1) | exact HB.out)⟩
        · rw [if_neg c6] at H
          exact absurd H (by simp)
      · rw [if_neg c5] at H
        have c5b0 : (t192.toList == ([105, 102, 10] : List UInt8)) = false := beq_eq_false_iff_ne.mpr c5
        have c5b1 : (t192.toList != ([105, 102, 10] : List UInt8)) = true := bne_iff_ne.mpr c5
        obtain rfl := Option.some.inj H
        go_enter Tryd.func14, Tryd.ntmps14
        go_wp2_with (first | ((with_reducible refine gate_dst (N := 4) rfl ?_); refine Kd.R_lit k27 _ 27 ?hg (N := 4) ?hd (xs := ([(⟨1000, (⟨#[105, 102, 10, 120]⟩ : ByteArray)⟩ : S27), (⟨2000, (⟨#[121]⟩ : ByteArray)⟩ : S27)] : List (S27))) (inner := [.int .i64 1000, .string (⟨#[105, 102, 10, 120]⟩ : ByteArray), .int .i64 2000, .string (⟨#[121]⟩ : ByteArray)]) (ok := fun _ => True) (okp := fun _ => True) ?hr ?hp (fun _ hk => hk) trivial (Below.refl _ _) (Nat.le_refl _) (by simp) ?_; (case hd => rfl); (case hg => rfl); (case hr => first | (go_simp; done) | (go_simp; rfl)); (case hp => exact (Reps.c2 (show Kd.M k27 _ _ _ (⟨1000, (⟨#[105, 102, 10, 120]⟩ : ByteArray)⟩ : S27) [.int .i64 1000, .string (⟨#[105, 102, 10, 120]⟩ : ByteArray)] from (k27_mkM _ _ _ (⟨1000, (⟨#[105, 102, 10, 120]⟩ : ByteArray)⟩ : S27) )) (Reps.c2 (show Kd.M k27 _ _ _ (⟨2000, (⟨#[121]⟩ : ByteArray)⟩ : S27) [.int .i64 2000, .string (⟨#[121]⟩ : ByteArray)] from (k27_mkM _ _ _ (⟨2000, (⟨#[121]⟩ : ByteArray)⟩ : S27) )) (Reps.none _ _)))); intro v186 w15 ho16 hb hg_ hnew_; clear hg_ hnew_; (first | rw [← Ny185.out] at ho16 | (simp only [Int.reduceToNat] at ho16; rw [← Ny185.out] at ho16)); have n0_ := Aside0.mk (Kd.R_lower ho16 (below_size (by repeat (first | (with_reducible first | exact HB.out | apply below_alloc | apply pw_below_drewN | apply below_drew1) | exact HB.out)))); have n1_ := Aside0.mk (below_step (by repeat (first | (with_reducible first | exact HB.out | apply below_alloc | apply pw_below_drewN | apply below_drew1) | exact HB.out)) hb); clear HB; have HO187 := n0_; have HB := n1_; clear n0_ n1_; clear hb ho16; obtain ⟨Ao17, co17, eo17⟩ := Kd.R_slice HO187.out; subst eo17) | ((with_reducible refine gate_callee (f := 27) rfl ?_); refine goesL_ (some 5) rfl rfl Tryd.func27 (by kernel_rfl) rfl #[.slice Ao17 y185.length co17] rfl (by (try simp only [List.map_toArray, List.map_cons, List.map_nil]); first | done | rfl | (simp only [List.length_drop, List.length_take]; rfl)) ?_; (with_reducible refine (impl_SplitLines.calls k _ _ y185 t188 _ ?side1 ?side2 A1.out).mono ?_); (case side1 => repeat (first | exact (Kd.R_reads' HO187.out).2.2 | (with_reducible refine Kd.C_alloc ?_ _) | (with_reducible refine Kd.C_drewN ?_ _) | (with_reducible refine Kd.C_drew ?_))); (case side2 => exact (Kd.R_reads' HO187.out).2.1); rintro e w18 ⟨v189, rfl, ho0, hb⟩; refine ⟨_, rfl, ?_⟩; have n0_ := Aside0.mk (Kd.R_below (by (with_reducible repeat (first | apply Kd.R_alloc | apply Kd.R_drewN | apply Kd.R_drew)); exact HO187.out) hb); have n1_ := Aside0.mk (Kd.S_lower (Kd.S_new' ho0 (Kd.R_lt (by (with_reducible repeat (first | apply Kd.R_alloc | apply Kd.R_drewN | apply Kd.R_drew)); exact HO187.out))) (below_size (by repeat (first | (with_reducible first | exact HB.out | apply below_alloc | apply pw_below_drewN | apply below_drew1) | exact HB.out)))); have n2_ := Aside0.mk (below_step (by repeat (first | (with_reducible first | exact HB.out | apply below_alloc | apply pw_below_drewN | apply below_drew1) | exact HB.out)) hb); clear HO187; clear HB; have HO187 := n0_; have HO190 := n1_; have HB := n2_; clear n0_ n1_ n2_; (try clear hb); (try clear hb2); (try clear hk); (try clear hi); (try clear ho0); obtain ⟨Ao19, co19, eo19⟩ := Kd.S_slice HO190.out; subst eo19; have p191 : 0 ≤ (0 : Int) := (by omega); have q191 : 0 < (t188.length : Int) := of_decide_eq_true (by first | (with_reducible assumption) | assumption); obtain ⟨ad191, A191_0, c191_0, e191, hx191_0, hl191_0, hi191_0⟩ := at_L7 (Kd.S_reads' HO190.out).2.2 0 p191 q191; cases e191; obtain ⟨ce191, hce191, hMe191, hcc191⟩ := Kd.S_get HO190.out [] 0 p191 (by first | exact q191 | exact of_decide_eq_true (by first | (with_reducible assumption) | assumption) | (have e_ := (Kd.S_reads' HO190.out).1; omega)); obtain ⟨ve191_0, rfl, ge191_0⟩ := hMe191; have hv191_0 := hcc191 0 _ rfl; rw [Nat.add_zero, show ((Kd.slice 27 k27)).sz = 1 from rfl, Nat.mul_one] at hv191_0; replace hv191_0 := Option.some.inj (hv191_0.symm.trans hx191_0); rw [hv191_0] at ge191_0; have HL191_0 := Aside0.mk (show Kd.R k27 27 _ _ _ _ (rd_L7 t188 0) from ge191_0); clear hv191_0 ge191_0; clear hcc191 hce191; have qi191 : (0 < t188.length) = True := eq_true (by omega); (try rw [show ((0 : Int)).toNat = 0 from rfl] at hx191_0); (try rw [Addr.add_zero'] at hx191_0); have HR191_0 := Aside0.mk hi191_0; have HC191_0 := Aside0.mk hl191_0; clear hi191_0 hl191_0; replace p191 := eq_true p191; replace q191 := eq_true q191) | (go_at_call 15; (with_reducible refine (laws_text.calls k _ _ (rd_L7 t188 0) t192 _ ?side1 ?side2 A4.out).mono ?_); (case side1 => repeat (first | exact (by repeat (first | (with_reducible exact HR191_0.out) | (with_reducible refine Kd.C_alloc ?_ _) | (with_reducible refine Kd.C_drewN ?_ _) | (with_reducible refine Kd.C_drew ?_) | exact HR191_0.out)) | (with_reducible refine Kd.C_alloc ?_ _) | (with_reducible refine Kd.C_drewN ?_ _) | (with_reducible refine Kd.C_drew ?_))); (case side2 => exact HC191_0.out); rintro e w20 ⟨rfl, hb⟩; have n0_ := Aside0.mk (Kd.R_below (by (with_reducible repeat (first | apply Kd.R_alloc | apply Kd.R_drewN | apply Kd.R_drew)); exact HO187.out) hb); have n1_ := Aside0.mk (Kd.S_below (by (with_reducible repeat (first | apply Kd.S_alloc | apply Kd.S_drewN | apply Kd.S_drew)); exact HO190.out) hb); have n2_ := Aside0.mk (Kd.R_below (by (with_reducible repeat (first | apply Kd.R_alloc | apply Kd.R_drewN | apply Kd.R_drew)); exact HL191_0.out) hb); have n3_ := Aside0.mk (Kd.C_below (by repeat (first | (with_reducible exact HR191_0.out) | (with_reducible refine Kd.C_alloc ?_ _) | (with_reducible refine Kd.C_drewN ?_ _) | (with_reducible refine Kd.C_drew ?_) | exact HR191_0.out)) hb); have n4_ := Aside0.mk (below_step (by repeat (first | (with_reducible first | exact HB.out | apply below_alloc | apply pw_below_drewN | apply below_drew1) | exact HB.out)) hb); clear HO187; clear HO190; clear HL191_0; clear HR191_0; clear HB; have HO187 := n0_; have HO190 := n1_; have HL191_0 := n2_; have HR191_0 := n3_; have HB := n4_; clear n0_ n1_ n2_ n3_ n4_; (try clear hb); (try clear hb2); (try clear hk); (try clear hi)))
        go_ret
        exact ⟨by first | rfl | (simp [errW_none, errW_some] <;> rfl) | (simp [*, errW_none, errW_some] <;> rfl), by repeat (first | (with_reducible first | exact HB.out | apply below_alloc | apply pw_below_drewN | apply below_drew1) | exact HB.out)⟩
    · rw [if_neg c3] at H
      exact absurd H (by simp)
  · rw [if_neg c2] at H
    have c2b0 : ((t188.length : Int) == 2) = false := beq_eq_false_iff_ne.mpr c2
    have c2b1 : ((t188.length : Int) != 2) = true := bne_iff_ne.mpr c2
    obtain rfl := Option.some.inj H
    go_enter Tryd.func14, Tryd.ntmps14
    go_wp2_with (first | ((with_reducible refine gate_dst (N := 4) rfl ?_); refine Kd.R_lit k27 _ 27 ?hg (N := 4) ?hd (xs := ([(⟨1000, (⟨#[105, 102, 10, 120]⟩ : ByteArray)⟩ : S27), (⟨2000, (⟨#[121]⟩ : ByteArray)⟩ : S27)] : List (S27))) (inner := [.int .i64 1000, .string (⟨#[105, 102, 10, 120]⟩ : ByteArray), .int .i64 2000, .string (⟨#[121]⟩ : ByteArray)]) (ok := fun _ => True) (okp := fun _ => True) ?hr ?hp (fun _ hk => hk) trivial (Below.refl _ _) (Nat.le_refl _) (by simp) ?_; (case hd => rfl); (case hg => rfl); (case hr => first | (go_simp; done) | (go_simp; rfl)); (case hp => exact (Reps.c2 (show Kd.M k27 _ _ _ (⟨1000, (⟨#[105, 102, 10, 120]⟩ : ByteArray)⟩ : S27) [.int .i64 1000, .string (⟨#[105, 102, 10, 120]⟩ : ByteArray)] from (k27_mkM _ _ _ (⟨1000, (⟨#[105, 102, 10, 120]⟩ : ByteArray)⟩ : S27) )) (Reps.c2 (show Kd.M k27 _ _ _ (⟨2000, (⟨#[121]⟩ : ByteArray)⟩ : S27) [.int .i64 2000, .string (⟨#[121]⟩ : ByteArray)] from (k27_mkM _ _ _ (⟨2000, (⟨#[121]⟩ : ByteArray)⟩ : S27) )) (Reps.none _ _)))); intro v186 w21 ho22 hb hg_ hnew_; clear hg_ hnew_; (first | rw [← Ny185.out] at ho22 | (simp only [Int.reduceToNat] at ho22; rw [← Ny185.out] at ho22)); have n0_ := Aside0.mk (Kd.R_lower ho22 (below_size (by repeat (first | (with_reducible first | exact HB.out | apply below_alloc | apply pw_below_drewN | apply below_drew1) | exact HB.out)))); have n1_ := Aside0.mk (below_step (by repeat (first | (with_reducible first | exact HB.out | apply below_alloc | apply pw_below_drewN | apply below_drew1) | exact HB.out)) hb); clear HB; have HO187 := n0_; have HB := n1_; clear n0_ n1_; clear hb ho22; obtain ⟨Ao23, co23, eo23⟩ := Kd.R_slice HO187.out; subst eo23) | ((with_reducible refine gate_callee (f := 27) rfl ?_); refine goesL_ (some 5) rfl rfl Tryd.func27 (by kernel_rfl) rfl #[.slice Ao23 y185.length co23] rfl (by (try simp only [List.map_toArray, List.map_cons, List.map_nil]); first | done | rfl | (simp only [List.length_drop, List.length_take]; rfl)) ?_; (with_reducible refine (impl_SplitLines.calls k _ _ y185 t188 _ ?side1 ?side2 A1.out).mono ?_); (case side1 => repeat (first | exact (Kd.R_reads' HO187.out).2.2 | (with_reducible refine Kd.C_alloc ?_ _) | (with_reducible refine Kd.C_drewN ?_ _) | (with_reducible refine Kd.C_drew ?_))); (case side2 => exact (Kd.R_reads' HO187.out).2.1); rintro e w24 ⟨v189, rfl, ho0, hb⟩; refine ⟨_, rfl, ?_⟩; have n0_ := Aside0.mk (Kd.R_below (by (with_reducible repeat (first | apply Kd.R_alloc | apply Kd.R_drewN | apply Kd.R_drew)); exact HO187.out) hb); have n1_ := Aside0.mk (Kd.S_lower (Kd.S_new' ho0 (Kd.R_lt (by (with_reducible repeat (first | apply Kd.R_alloc | apply Kd.R_drewN | apply Kd.R_drew)); exact HO187.out))) (below_size (by repeat (first | (with_reducible first | exact HB.out | apply below_alloc | apply pw_below_drewN | apply below_drew1) | exact HB.out)))); have n2_ := Aside0.mk (below_step (by repeat (first | (with_reducible first | exact HB.out | apply below_alloc | apply pw_below_drewN | apply below_drew1) | exact HB.out)) hb); clear HO187; clear HB; have HO187 := n0_; have HO190 := n1_; have HB := n2_; clear n0_ n1_ n2_; (try clear hb); (try clear hb2); (try clear hk); (try clear hi); (try clear ho0); obtain ⟨Ao25, co25, eo25⟩ := Kd.S_slice HO190.out; subst eo25))
    go_ret
    exact ⟨by first | rfl | (simp [errW_none, errW_some] <;> rfl) | (simp [*, errW_none, errW_some] <;> rfl), by repeat (first | (with_reducible first | exact HB.out | apply below_alloc | apply pw_below_drewN | apply below_drew1) | exact HB.out)⟩
def laws_waking.Pure : Prop := ∃ k, laws_waking.f k  = some true

end Go.Proofs.YtmldahejeobohaaDoor.K
