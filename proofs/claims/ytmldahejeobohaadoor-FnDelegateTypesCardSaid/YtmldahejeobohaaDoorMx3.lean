-- WRITTEN BY OUR myprint.py, a program of this session's over the kit's printer
import Derived.Test.YtmldahejeobohaaDoorMx0
import Derived.Test.YtmldahejeobohaaDoorMx1
import Derived.Test.YtmldahejeobohaaDoorMx2
namespace Go.Proofs.YtmldahejeobohaaDoor.M
open Go.RowKit Go.Proofs.YtmldahejeobohaaDoorW.PrintWords Go.Proofs.YtmldahejeobohaaDoorW.PrintLast Go.Proofs.YtmldahejeobohaaDoorW.PrintMore
attribute [local go_sem] max2_int min2_int max_two min_two max_three min_three max_four min_four   -- for this text's walks alone
set_option linter.unusedVariables false
set_option linter.unusedSimpArgs false

/-! ### chroma_SplitTokensIntoLines: function 33 -/
mutual
def chroma_SplitTokensIntoLines.l0 : Nat → List (List (S65)) → List (S65) → List (S65) → Int → Int → Option ((List (List (S65))))
  | 0, _, _, _, _, _ => none
  | k + 1, x2, x3, x9, x10, x11 => if x11 < x10 then (if 0 ≤ x11 then (if x11 < (x9.length : Int) then (chroma_SplitTokensIntoLines.l1 k x2 x3 x9 x10 x11 ((rd_T65 x9 x11).f0) ((rd_T65 x9 x11).f1)) else (none)) else (none)) else (if (x3.length : Int) > 0 then (if x2.length < 5864062014805 then (chroma_SplitTokensIntoLines.j2 k (x2 ++ [x3])) else (none)) else (chroma_SplitTokensIntoLines.j2 k x2))
def chroma_SplitTokensIntoLines.l1 : Nat → List (List (S65)) → List (S65) → List (S65) → Int → Int → Int → ByteArray → Option ((List (List (S65))))
  | 0, _, _, _, _, _, _, _ => none
  | k + 1, x2, x3, x9, x10, x11, x133000, x133001 => (chroma_zzContains.f k x133001 (⟨#[10]⟩ : ByteArray)).bind fun t133 => (if t133 = true then ((chroma_zzSplitAfter.f k x133001 (⟨#[10]⟩ : ByteArray)).bind fun t137 => (if 1 < (t137.length : Int) then ((chroma_Token_Clone.f x133000 (rdOf ByteArray.empty t137 1)).bind fun bt141 => (if 0 < (t137.length : Int) then (if x3.length < 5864062014805 then (if x2.length < 5864062014805 then ((some (x2 ++ [(x3 ++ [(⟨bt141.1, rdOf ByteArray.empty t137 0⟩ : S65)])] : List (List (S65)))).bind fun y148 => (if ((rdOf ByteArray.empty t137 1).size : Int) = 0 then (chroma_SplitTokensIntoLines.l0 k y148 ([] : List (S65)) x9 x10 (wrap64 (x11 + 1))) else (chroma_SplitTokensIntoLines.l1 k y148 ([] : List (S65)) x9 x10 x11 x133000 (rdOf ByteArray.empty t137 1)))) else (none)) else (none)) else (none))) else (none))) else (if x3.length < 5864062014805 then (chroma_SplitTokensIntoLines.l0 k x2 (x3 ++ [(⟨x133000, x133001⟩ : S65)]) x9 x10 (wrap64 (x11 + 1))) else (none)))
def chroma_SplitTokensIntoLines.j2 : Nat → List (List (S65)) → Option ((List (List (S65))))
  | 0, _ => none
  | k + 1, x2 => if (x2.length : Int) > 0 then (if 0 ≤ (wrap64 ((x2.length : Int) - 1)) then (if (wrap64 ((x2.length : Int) - 1)) < (x2.length : Int) then (if ((rd_L9 x2 (wrap64 ((x2.length : Int) - 1))).length : Int) = 1 then (if 0 < ((rd_L9 x2 (wrap64 ((x2.length : Int) - 1))).length : Int) then (if ((rd_T65 (rd_L9 x2 (wrap64 ((x2.length : Int) - 1))) 0).f1).toList = ([] : List UInt8) then (if (wrap64 ((x2.length : Int) - 1)) ≤ (x2.length : Int) then (some (x2.take ((wrap64 ((x2.length : Int) - 1)) : Int).toNat)) else (none)) else (some x2)) else (none)) else (some x2)) else (none)) else (none)) else (some x2)
end
def chroma_SplitTokensIntoLines.f (k : Nat) (l0 : List (S65)) : Option ((List (List (S65)))) := chroma_SplitTokensIntoLines.l0 k ([] : List (List (S65))) ([] : List (S65)) l0 (l0.length : Int) 0
theorem chroma_SplitTokensIntoLines.mono_l : ∀ k, (∀ y0 y1 y2 y3 y4, LeO (chroma_SplitTokensIntoLines.l0 k y0 y1 y2 y3 y4) (chroma_SplitTokensIntoLines.l0 (k + 1) y0 y1 y2 y3 y4)) ∧ (∀ y0 y1 y2 y3 y4 y5 y6, LeO (chroma_SplitTokensIntoLines.l1 k y0 y1 y2 y3 y4 y5 y6) (chroma_SplitTokensIntoLines.l1 (k + 1) y0 y1 y2 y3 y4 y5 y6)) ∧ (∀ y0, LeO (chroma_SplitTokensIntoLines.j2 k y0) (chroma_SplitTokensIntoLines.j2 (k + 1) y0))
  | 0 => ⟨fun _ _ _ _ _ r h => by simp [chroma_SplitTokensIntoLines.l0] at h, fun _ _ _ _ _ _ _ r h => by simp [chroma_SplitTokensIntoLines.l1] at h, fun _ r h => by simp [chroma_SplitTokensIntoLines.j2] at h⟩
  | k + 1 => by
    obtain ⟨ih0, ih1, ih2⟩ := chroma_SplitTokensIntoLines.mono_l k
    refine ⟨?_, ?_, ?_⟩
    · intro y0 y1 y2 y3 y4
      unfold chroma_SplitTokensIntoLines.l0
      repeat' first
      | (with_reducible exact ih0 _ _ _ _ _)
      | (with_reducible exact ih1 _ _ _ _ _ _ _)
      | (with_reducible exact ih2 _)
      | (with_reducible exact chroma_zzContains.mono _ _ _)
      | (with_reducible exact chroma_zzSplitAfter.mono _ _ _)
      | (with_reducible exact LeO.refl _)
      | (with_reducible exact LeO.none _)
      | (with_reducible refine LeO.ite ?_ ?_)
      | (with_reducible refine LeO.bind ?_ (fun _ => ?_))
      | exact ih0 _ _ _ _ _
      | exact ih1 _ _ _ _ _ _ _
      | exact ih2 _
      | exact chroma_zzContains.mono _ _ _
      | exact chroma_zzSplitAfter.mono _ _ _
      | exact LeO.none _
      | refine LeO.ite ?_ ?_
      | refine LeO.bind ?_ (fun _ => ?_)
    · intro y0 y1 y2 y3 y4 y5 y6
      unfold chroma_SplitTokensIntoLines.l1
      repeat' first
      | (with_reducible exact ih0 _ _ _ _ _)
      | (with_reducible exact ih1 _ _ _ _ _ _ _)
      | (with_reducible exact ih2 _)
      | (with_reducible exact chroma_zzContains.mono _ _ _)
      | (with_reducible exact chroma_zzSplitAfter.mono _ _ _)
      | (with_reducible exact LeO.refl _)
      | (with_reducible exact LeO.none _)
      | (with_reducible refine LeO.ite ?_ ?_)
      | (with_reducible refine LeO.bind ?_ (fun _ => ?_))
      | exact ih0 _ _ _ _ _
      | exact ih1 _ _ _ _ _ _ _
      | exact ih2 _
      | exact chroma_zzContains.mono _ _ _
      | exact chroma_zzSplitAfter.mono _ _ _
      | exact LeO.none _
      | refine LeO.ite ?_ ?_
      | refine LeO.bind ?_ (fun _ => ?_)
    · intro y0
      unfold chroma_SplitTokensIntoLines.j2
      repeat' first
      | (with_reducible exact ih0 _ _ _ _ _)
      | (with_reducible exact ih1 _ _ _ _ _ _ _)
      | (with_reducible exact ih2 _)
      | (with_reducible exact chroma_zzContains.mono _ _ _)
      | (with_reducible exact chroma_zzSplitAfter.mono _ _ _)
      | (with_reducible exact LeO.refl _)
      | (with_reducible exact LeO.none _)
      | (with_reducible refine LeO.ite ?_ ?_)
      | (with_reducible refine LeO.bind ?_ (fun _ => ?_))
      | exact ih0 _ _ _ _ _
      | exact ih1 _ _ _ _ _ _ _
      | exact ih2 _
      | exact chroma_zzContains.mono _ _ _
      | exact chroma_zzSplitAfter.mono _ _ _
      | exact LeO.none _
      | refine LeO.ite ?_ ?_
      | refine LeO.bind ?_ (fun _ => ?_)
theorem chroma_SplitTokensIntoLines.mono : ∀ a0 k, LeO (chroma_SplitTokensIntoLines.f k a0) (chroma_SplitTokensIntoLines.f (k + 1) a0) := by
  intro a0 k
  obtain ⟨ih0, ih1, ih2⟩ := chroma_SplitTokensIntoLines.mono_l k
  unfold chroma_SplitTokensIntoLines.f
  repeat' first
      | (with_reducible exact ih0 _ _ _ _ _)
      | (with_reducible exact ih1 _ _ _ _ _ _ _)
      | (with_reducible exact ih2 _)
      | (with_reducible exact chroma_zzContains.mono _ _ _)
      | (with_reducible exact chroma_zzSplitAfter.mono _ _ _)
      | (with_reducible exact LeO.refl _)
      | (with_reducible exact LeO.none _)
      | (with_reducible refine LeO.ite ?_ ?_)
      | (with_reducible refine LeO.bind ?_ (fun _ => ?_))
      | exact ih0 _ _ _ _ _
      | exact ih1 _ _ _ _ _ _ _
      | exact ih2 _
      | exact chroma_zzContains.mono _ _ _
      | exact chroma_zzSplitAfter.mono _ _ _
      | exact LeO.none _
      | refine LeO.ite ?_ ?_
      | refine LeO.bind ?_ (fun _ => ?_)
set_option maxHeartbeats 8000000 in
set_option maxRecDepth 100000 in
theorem chroma_SplitTokensIntoLines.calls (k : Nat) (A0 : Option Addr) (c0 : Nat) (l0 : List (S65)) (r : List (List (S65))) (w : World) (hr0 : Kd.C k65 w A0 l0.length l0) (hc0 : l0.length ≤ c0) (h : chroma_SplitTokensIntoLines.f k l0 = some r) :
    Calls Tryd.prog 33 #[.slice A0 l0.length c0] w fun e w' => ∃ v0_ : Value, e = .returned (v0_) ∧ Kd.S (Kd.slice 65 k65) 50 w' w.heap.size (fun _ => True) v0_ r ∧ Below w.heap.size w w' := by
  have hu65 := Tryd.underlying65
  have HR0 := Aside0.mk hr0
  have HC0 := Aside0.mk hc0
  clear hr0 hc0
  have HB := Aside0.mk (Below.refl w.heap.size w)
  have H : (chroma_SplitTokensIntoLines.l0 k ([] : List (List (S65))) ([] : List (S65)) l0 (l0.length : Int) 0) = some r := h
  clear h
  have H' := Aside0.mk H
  clear H
  go_enter Tryd.func33, Tryd.ntmps33
  repeat (go_wp2; go_step3)
  go_wp2
  go_loopg [2, 3, 11] k (fun kq v2 v3 v11 w' => ∃ (x2_1 : List (List (S65))) (x3_1 : List (S65)) (x11_1 : Int), v11 = .int .i64 x11_1 ∧ Aside0 (chroma_SplitTokensIntoLines.l0 kq x2_1 x3_1 l0 (l0.length : Int) x11_1 = some r) ∧ Aside0 (kq ≤ k) ∧ Aside0 (Kd.S (Kd.slice 65 k65) 50 w' w.heap.size (fun k_ => some k_ ≠ (v3 : Value).ownBlock) v2 x2_1) ∧ Aside0 (Kd.R k65 65 w' w.heap.size (fun _ => True) v3 x3_1) ∧ Aside0 (Below w.heap.size w w'))
  case atStart => exact ⟨(([] : List (List (S65)))), (([] : List (S65))), (0), (by first | rfl | (simp; done) | (simp [*]; done)), H', ⟨Nat.le_refl _⟩, ⟨by first | exact Kd.S_nil _ _ _ _ _ | exact Kd.N_nil _ _ _ _ _ | exact Kd.V_nil _ _ _ _ _ | exact Kd.Q_nil _ _ _ _ _ | exact Kd.R_nil _ _ _ _ _⟩, ⟨by first | exact Kd.R_nil _ _ _ _ _ | exact Kd.N_nil _ _ _ _ _ | exact Kd.V_nil _ _ _ _ _ | exact Kd.Q_nil _ _ _ _ _ | exact Kd.S_nil _ _ _ _ _⟩, ⟨by repeat (first | (with_reducible first | exact HB.out | apply below_alloc | apply pw_below_drewN | apply below_drew1) | exact HB.out)⟩⟩
  case round =>
    clear H'
    obtain ⟨x2_1, x3_1, x11_1, rfl, HA, HK1, HO_2, HO_3, HB⟩ := hrel
    cases gk with
    | zero => exact absurd HA.out (by simp [chroma_SplitTokensIntoLines.l0])
    | succ k1 =>
      have H := HA.out
      clear HA
      simp only [chroma_SplitTokensIntoLines.l0] at H
      by_cases c2 : x11_1 < (l0.length : Int)
      · rw [if_pos c2] at H
        have c2b0 : decide (x11_1 < (l0.length : Int)) = true := decide_eq_true c2
        clear c2
        by_cases c3 : 0 ≤ x11_1
        · rw [if_pos c3] at H
          have c3b0 : decide (0 ≤ x11_1) = true := decide_eq_true c3
          clear c3
          by_cases c4 : x11_1 < (l0.length : Int)
          · rw [if_pos c4] at H
            have c4b0 : decide (x11_1 < (l0.length : Int)) = true := decide_eq_true c4
            clear c4
            have H' := Aside0.mk H
            clear H
            have p131 : 0 ≤ (x11_1 : Int) := of_decide_eq_true (by first | (with_reducible assumption) | assumption)
            have q131 : x11_1 < (l0.length : Int) := of_decide_eq_true (by first | (with_reducible assumption) | assumption)
            obtain ⟨ad131, e131, hx131_0, hx131_1⟩ := at_T65 HR0.out x11_1 p131 q131
            cases e131
            replace hx131_0 := (HB.out.cell (World.block_lt_of_cell? w _ hx131_0)).trans hx131_0
            replace hx131_1 := (HB.out.cell (World.block_lt_of_cell? w _ hx131_1)).trans hx131_1
            replace p131 := eq_true p131
            replace q131 := eq_true q131
            go_wp2_with (first | ((with_reducible refine gate_dst (N := 5) rfl ?_); refine box_event ?hg (N := 5) ?hd (cs := #[.int .i64 0, .string (⟨#[]⟩ : ByteArray)]) (t := 65) ?hr ?_; (case hd => rfl); (case hg => rfl); (case hr => first | (go_simp; done) | (go_simp; rfl)); intro gb132 hg w5 hbox hb; have n0_ := Aside0.mk (Kd.S_below (Kd.S_elderB (by (with_reducible repeat (first | apply Kd.S_alloc | apply Kd.S_drewN | apply Kd.S_drew)); exact HO_2.out) gb132 (Nat.le_of_eq hg.symm)) hb); have n1_ := Aside0.mk (Kd.R_below (Kd.R_elderB (by (with_reducible repeat (first | apply Kd.R_alloc | apply Kd.R_drewN | apply Kd.R_drew)); exact HO_3.out) gb132 (Nat.le_of_eq hg.symm)) hb); have n2_ := Aside0.mk (below_step (by repeat (first | (with_reducible first | exact HB.out | apply below_alloc | apply pw_below_drewN | apply below_drew1) | exact HB.out)) hb); have n3_ := Aside0.mk (hbox); have n4_ := Aside0.mk ((by rw [hg]; exact (below_size (by repeat (first | (with_reducible first | exact HB.out | apply below_alloc | apply pw_below_drewN | apply below_drew1) | exact HB.out))) : w.heap.size ≤ gb132)); have n5_ := Aside0.mk ((by rw [hg]; exact (below_size (by repeat (first | (with_reducible first | exact HB.out | apply below_alloc | apply pw_below_drewN | apply below_drew1) | exact HB.out))) : w.heap.size ≤ gb132)); clear HO_2; clear HO_3; clear HB; have HO_2 := n0_; have HO_3 := n1_; have HB := n2_; have BK132 := n3_; have GW132 := n4_; have GE132 := n5_; clear n0_ n1_ n2_ n3_ n4_ n5_; clear hb hbox hg; have hcz6_0 : w5.cell? ⟨gb132, 0, none⟩ = some (.int .i64 0) := (blk_cell BK132.out 0).trans rfl; have hcz6_1 : w5.cell? ⟨gb132, 1, none⟩ = some (.string (⟨#[]⟩ : ByteArray)) := (blk_cell BK132.out 1).trans rfl; have hfz6_0 := blk_frozen BK132.out 0; have hfz6_1 := blk_frozen BK132.out 1))
            go_loopg [2, 3] k1 (fun kq v2 v3 w' => ∃ (x2_2 : List (List (S65))) (x3_2 : List (S65)) (x133001_2 : ByteArray), Aside0 (chroma_SplitTokensIntoLines.l1 kq x2_2 x3_2 l0 (l0.length : Int) x11_1 ((rd_T65 l0 x11_1).f0) x133001_2 = some r) ∧ Aside0 (kq ≤ k1) ∧ Aside0 (Kd.S (Kd.slice 65 k65) 50 w' w.heap.size (fun k_ => some k_ ≠ (v3 : Value).ownBlock ∧ k_ ≠ gb132) v2 x2_2) ∧ Aside0 (Kd.R k65 65 w' w.heap.size (fun k_ => k_ ≠ gb132) v3 x3_2) ∧ Aside0 (w'.heap[gb132]? = some (.cells #[.int .i64 ((rd_T65 l0 x11_1).f0), .string x133001_2] 65 (0, 0))) ∧ Aside0 (Below w.heap.size w w'))
            case atStart => exact ⟨(x2_1), (x3_1), ((rd_T65 l0 x11_1).f1), H', ⟨Nat.le_refl _⟩, ⟨by (with_reducible repeat (first | apply Kd.S_alloc | apply Kd.S_drewN | apply Kd.S_drew)); exact Kd.S_mono (Kd.S_far (p := ⟨gb132, 1, none⟩) (Kd.S_far (p := ⟨gb132, 0, none⟩) (Kd.S_mono HO_2.out (fun k_ hk => (⟨hk, hk.2⟩ : _ ∧ k_ ≠ gb132))) (fun _ hk => hk.2) (.int .i64 ((rd_T65 l0 x11_1).f0))) (fun _ hk => hk.2) (.string ((rd_T65 l0 x11_1).f1))) (fun _ hk => ⟨hk.1.1, hk.1.2⟩)⟩, ⟨by (with_reducible repeat (first | apply Kd.R_alloc | apply Kd.R_drewN | apply Kd.R_drew)); exact Kd.R_mono (Kd.R_far (p := ⟨gb132, 1, none⟩) (Kd.R_far (p := ⟨gb132, 0, none⟩) (Kd.R_mono HO_3.out (fun k_ hk => (⟨hk, hk.2⟩ : _ ∧ k_ ≠ gb132))) (fun _ hk => hk.2) (.int .i64 ((rd_T65 l0 x11_1).f0))) (fun _ hk => hk.2) (.string ((rd_T65 l0 x11_1).f1))) (fun _ hk => hk.1.2)⟩, ⟨by (with_reducible repeat (first | refine blk_drewN ?_ _ | refine blk_drew ?_ | refine blk_alloc ?_ _)); refine blk_put (cs := #[.int .i64 ((rd_T65 l0 x11_1).f0), .string (⟨#[]⟩ : ByteArray)]) ?_ 1 _ rfl; (with_reducible repeat (first | refine blk_drewN ?_ _ | refine blk_drew ?_ | refine blk_alloc ?_ _)); refine blk_put (cs := #[.int .i64 0, .string (⟨#[]⟩ : ByteArray)]) ?_ 0 _ rfl; (with_reducible repeat (first | refine blk_drewN ?_ _ | refine blk_drew ?_ | refine blk_alloc ?_ _)); exact BK132.out⟩, ⟨by repeat (first | (with_reducible first | exact HB.out | apply below_alloc | apply pw_below_drewN | apply below_drew1 | refine below_set ?_ GE132.out) | exact HB.out)⟩⟩
            case round =>
              clear H'
              try clear p1
              try clear q1
              try clear hx1
              try clear c2
              try clear c2b0
              try clear p2
              try clear c3
              try clear c3b0
              try clear p3
              try clear c4
              try clear c4b0
              try clear hcz6_0
              try clear hcz6_1
              try clear hfz6_0
              try clear hfz6_1
              try clear hx131_0
              try clear hx131_1
              try clear p131
              try clear q131
              obtain ⟨x2_2, x3_2, x133001_2, HA, HK2, HO_2, HO_3, BK132, HB⟩ := hrel
              cases gk with
              | zero => exact absurd HA.out (by simp [chroma_SplitTokensIntoLines.l1])
              | succ k2 =>
                have H := HA.out
                clear HA
                simp only [chroma_SplitTokensIntoLines.l1] at H
                replace H := Option.bind_eq_some_iff.mp H
                obtain ⟨t133, A70, H⟩ := H
                replace H : (if t133 = true then ((chroma_zzSplitAfter.f k2 x133001_2 (⟨#[10]⟩ : ByteArray)).bind fun t137 => (if 1 < (t137.length : Int) then ((chroma_Token_Clone.f ((rd_T65 l0 x11_1).f0) (rdOf ByteArray.empty t137 1)).bind fun bt141 => (if 0 < (t137.length : Int) then (if x3_2.length < 5864062014805 then (if x2_2.length < 5864062014805 then ((some (x2_2 ++ [(x3_2 ++ [(⟨bt141.1, rdOf ByteArray.empty t137 0⟩ : S65)])] : List (List (S65)))).bind fun y148 => (if ((rdOf ByteArray.empty t137 1).size : Int) = 0 then (chroma_SplitTokensIntoLines.l0 k2 y148 ([] : List (S65)) l0 (l0.length : Int) (wrap64 (x11_1 + 1))) else (chroma_SplitTokensIntoLines.l1 k2 y148 ([] : List (S65)) l0 (l0.length : Int) x11_1 ((rd_T65 l0 x11_1).f0) (rdOf ByteArray.empty t137 1)))) else (none)) else (none)) else (none))) else (none))) else (if x3_2.length < 5864062014805 then (chroma_SplitTokensIntoLines.l0 k2 x2_2 (x3_2 ++ [(⟨((rd_T65 l0 x11_1).f0), x133001_2⟩ : S65)]) l0 (l0.length : Int) (wrap64 (x11_1 + 1))) else (none))) = some r := H
                have A7 := Aside0.mk A70
                clear A70
                by_cases c8 : t133 = true
                · subst c8
                  have H1 : ((chroma_zzSplitAfter.f k2 x133001_2 (⟨#[10]⟩ : ByteArray)).bind fun t137 => (if 1 < (t137.length : Int) then ((chroma_Token_Clone.f ((rd_T65 l0 x11_1).f0) (rdOf ByteArray.empty t137 1)).bind fun bt141 => (if 0 < (t137.length : Int) then (if x3_2.length < 5864062014805 then (if x2_2.length < 5864062014805 then ((some (x2_2 ++ [(x3_2 ++ [(⟨bt141.1, rdOf ByteArray.empty t137 0⟩ : S65)])] : List (List (S65)))).bind fun y148 => (if ((rdOf ByteArray.empty t137 1).size : Int) = 0 then (chroma_SplitTokensIntoLines.l0 k2 y148 ([] : List (S65)) l0 (l0.length : Int) (wrap64 (x11_1 + 1))) else (chroma_SplitTokensIntoLines.l1 k2 y148 ([] : List (S65)) l0 (l0.length : Int) x11_1 ((rd_T65 l0 x11_1).f0) (rdOf ByteArray.empty t137 1)))) else (none)) else (none)) else (none))) else (none))) = some r := by rw [if_pos rfl] at H; exact H
                  clear H
                  have H := H1
                  clear H1
                  replace H := Option.bind_eq_some_iff.mp H
                  obtain ⟨t137, A90, H⟩ := H
                  replace H : (if 1 < (t137.length : Int) then ((chroma_Token_Clone.f ((rd_T65 l0 x11_1).f0) (rdOf ByteArray.empty t137 1)).bind fun bt141 => (if 0 < (t137.length : Int) then (if x3_2.length < 5864062014805 then (if x2_2.length < 5864062014805 then ((some (x2_2 ++ [(x3_2 ++ [(⟨bt141.1, rdOf ByteArray.empty t137 0⟩ : S65)])] : List (List (S65)))).bind fun y148 => (if ((rdOf ByteArray.empty t137 1).size : Int) = 0 then (chroma_SplitTokensIntoLines.l0 k2 y148 ([] : List (S65)) l0 (l0.length : Int) (wrap64 (x11_1 + 1))) else (chroma_SplitTokensIntoLines.l1 k2 y148 ([] : List (S65)) l0 (l0.length : Int) x11_1 ((rd_T65 l0 x11_1).f0) (rdOf ByteArray.empty t137 1)))) else (none)) else (none)) else (none))) else (none)) = some r := H
                  have A9 := Aside0.mk A90
                  clear A90
                  by_cases c10 : 1 < (t137.length : Int)
                  · rw [if_pos c10] at H
                    have c10b0 : decide (1 < (t137.length : Int)) = true := decide_eq_true c10
                    have c10b1 : decide (1 < t137.length) = true := decide_eq_true (by omega)
                    clear c10
                    replace H := Option.bind_eq_some_iff.mp H
                    obtain ⟨⟨t141, t142⟩, A110, H⟩ := H
                    replace H : (if 0 < (t137.length : Int) then (if x3_2.length < 5864062014805 then (if x2_2.length < 5864062014805 then ((some (x2_2 ++ [(x3_2 ++ [(⟨t141, rdOf ByteArray.empty t137 0⟩ : S65)])] : List (List (S65)))).bind fun y148 => (if ((rdOf ByteArray.empty t137 1).size : Int) = 0 then (chroma_SplitTokensIntoLines.l0 k2 y148 ([] : List (S65)) l0 (l0.length : Int) (wrap64 (x11_1 + 1))) else (chroma_SplitTokensIntoLines.l1 k2 y148 ([] : List (S65)) l0 (l0.length : Int) x11_1 ((rd_T65 l0 x11_1).f0) (rdOf ByteArray.empty t137 1)))) else (none)) else (none)) else (none)) = some r := H
                    have A11 := Aside0.mk A110
                    clear A110
                    by_cases c12 : 0 < (t137.length : Int)
                    · rw [if_pos c12] at H
                      have c12b0 : decide (0 < (t137.length : Int)) = true := decide_eq_true c12
                      have c12b1 : decide (0 < t137.length) = true := decide_eq_true (by omega)
                      clear c12
                      by_cases c13 : x3_2.length < 5864062014805
                      · rw [if_pos c13] at H
                        have LMc13 := Aside0.mk c13
                        clear c13
                        obtain ⟨y145, hy145⟩ : ∃ y_ : List (S65), y_ = (x3_2 ++ [(⟨t141, rdOf ByteArray.empty t137 0⟩ : S65)]) := ⟨_, rfl⟩
                        replace H : (if x2_2.length < 5864062014805 then ((some (x2_2 ++ [y145] : List (List (S65)))).bind fun y148 => (if ((rdOf ByteArray.empty t137 1).size : Int) = 0 then (chroma_SplitTokensIntoLines.l0 k2 y148 ([] : List (S65)) l0 (l0.length : Int) (wrap64 (x11_1 + 1))) else (chroma_SplitTokensIntoLines.l1 k2 y148 ([] : List (S65)) l0 (l0.length : Int) x11_1 ((rd_T65 l0 x11_1).f0) (rdOf ByteArray.empty t137 1)))) else (none)) = some r := by first | (rw [hy145]; with_reducible exact H) | (have H2_ := (Option.bind_some _ _).symm.trans H; rw [hy145]; with_reducible exact H2_) | (have H2_ := (Option.bind_some _ _).symm.trans H; with_reducible exact H2_) | with_reducible exact H | (rw [hy145]; exact H) | exact H
                        have Ny145 := Aside0.mk hy145
                        clear hy145
                        by_cases c14 : x2_2.length < 5864062014805
                        · rw [if_pos c14] at H
                          have LMc14 := Aside0.mk c14
                          clear c14
                          obtain ⟨y148, hy148⟩ : ∃ y_ : List (List (S65)), y_ = (x2_2 ++ [y145]) := ⟨_, rfl⟩
                          replace H : (if ((rdOf ByteArray.empty t137 1).size : Int) = 0 then (chroma_SplitTokensIntoLines.l0 k2 y148 ([] : List (S65)) l0 (l0.length : Int) (wrap64 (x11_1 + 1))) else (chroma_SplitTokensIntoLines.l1 k2 y148 ([] : List (S65)) l0 (l0.length : Int) x11_1 ((rd_T65 l0 x11_1).f0) (rdOf ByteArray.empty t137 1))) = some r := by first | (rw [hy148]; with_reducible exact H) | (have H2_ := (Option.bind_some _ _).symm.trans H; rw [hy148]; with_reducible exact H2_) | (have H2_ := (Option.bind_some _ _).symm.trans H; with_reducible exact H2_) | with_reducible exact H | (rw [hy148]; exact H) | exact H
                          have Ny148 := Aside0.mk hy148
                          clear hy148
                          by_cases c15 : ((rdOf ByteArray.empty t137 1).size : Int) = 0
                          · rw [if_pos c15] at H
                            have c15b0 : (((rdOf ByteArray.empty t137 1).size : Int) == 0) = true := beq_iff_eq.mpr c15
                            have c15b1 : (((rdOf ByteArray.empty t137 1).size : Int) != 0) = false := bne_eq_false_iff_eq.mpr c15
                            clear c15
                            have H' := Aside0.mk H
                            clear H
                            have hcz16_0 : wr.cell? ⟨gb132, 0, none⟩ = some (.int .i64 ((rd_T65 l0 x11_1).f0)) := (blk_cell BK132.out 0).trans rfl
                            have hcz16_1 : wr.cell? ⟨gb132, 1, none⟩ = some (.string x133001_2) := (blk_cell BK132.out 1).trans rfl
                            have hfz16_0 := blk_frozen BK132.out 0
                            have hfz16_1 := blk_frozen BK132.out 1
                            go_wp2_with (first | ((with_reducible refine gate_callee (f := 35) rfl ?_); refine goesL_ (some 17) rfl rfl Tryd.func35 (by kernel_rfl) rfl #[.string x133001_2, .string (⟨#[10]⟩ : ByteArray)] rfl (by (try simp only [List.map_toArray, List.map_cons, List.map_nil]); first | done | rfl | (simp only [List.length_drop, List.length_take]; rfl)) ?_; (with_reducible refine (chroma_zzContains.calls k2 x133001_2 (⟨#[10]⟩ : ByteArray) true _ A7.out).mono ?_); rintro e w' ⟨rfl, ⟨nd, rfl⟩⟩; refine ⟨_, rfl, ?_⟩; (try (rw [drewN_self wr]; generalize hq_ : World.drewN wr _ = wr; have n0_ : Aside0 (Kd.S (Kd.slice 65 k65) 50 wr w.heap.size (fun k_ => some k_ ≠ (u3 : Value).ownBlock ∧ k_ ≠ gb132) u2 x2_2) := ⟨by rw [← hq_]; exact (by (with_reducible repeat (first | apply Kd.S_alloc | apply Kd.S_drewN | apply Kd.S_drew)); exact HO_2.out)⟩; have n1_ : Aside0 (Kd.R k65 65 wr w.heap.size (fun k_ => k_ ≠ gb132) u3 x3_2) := ⟨by rw [← hq_]; exact (by (with_reducible repeat (first | apply Kd.R_alloc | apply Kd.R_drewN | apply Kd.R_drew)); exact HO_3.out)⟩; have n2_ : Aside0 (wr.heap[gb132]? = some (.cells #[.int .i64 ((rd_T65 l0 x11_1).f0), .string x133001_2] 65 (0, 0))) := ⟨by rw [← hq_]; exact (by (with_reducible repeat (first | refine blk_drewN ?_ _ | refine blk_drew ?_ | refine blk_alloc ?_ _)); exact BK132.out)⟩; have n3_ : Aside0 (Below w.heap.size w wr) := ⟨by rw [← hq_]; exact (by repeat (first | (with_reducible first | exact HB.out | apply below_alloc | apply pw_below_drewN | apply below_drew1 | refine below_set ?_ GE132.out) | exact HB.out))⟩; clear HO_2 HO_3 BK132 HB hq_; have HO_2 := n0_; have HO_3 := n1_; have BK132 := n2_; have HB := n3_; clear n0_ n1_ n2_ n3_)); have hcz17_0 : wr.cell? ⟨gb132, 0, none⟩ = some (.int .i64 ((rd_T65 l0 x11_1).f0)) := (blk_cell BK132.out 0).trans rfl; have hcz17_1 : wr.cell? ⟨gb132, 1, none⟩ = some (.string x133001_2) := (blk_cell BK132.out 1).trans rfl; have hfz17_0 := blk_frozen BK132.out 0; have hfz17_1 := blk_frozen BK132.out 1) | ((with_reducible refine gate_callee (f := 36) rfl ?_); refine goesL_ (some 20) rfl rfl Tryd.func36 (by kernel_rfl) rfl #[.string x133001_2, .string (⟨#[10]⟩ : ByteArray)] rfl (by (try simp only [List.map_toArray, List.map_cons, List.map_nil]); first | done | rfl | (simp only [List.length_drop, List.length_take]; rfl)) ?_; (with_reducible refine (chroma_zzSplitAfter.calls k2 x133001_2 (⟨#[10]⟩ : ByteArray) t137 _ A9.out).mono ?_); rintro e w18 ⟨v138, rfl, ho0, hb⟩; refine ⟨_, rfl, ?_⟩; have n0_ := Aside0.mk (Kd.S_below (by (with_reducible repeat (first | apply Kd.S_alloc | apply Kd.S_drewN | apply Kd.S_drew)); exact HO_2.out) hb); have n1_ := Aside0.mk (Kd.R_below (by (with_reducible repeat (first | apply Kd.R_alloc | apply Kd.R_drewN | apply Kd.R_drew)); exact HO_3.out) hb); have n2_ := Aside0.mk (Kd.R_lower ho0 (below_size (by repeat (first | (with_reducible first | exact HB.out | apply below_alloc | apply pw_below_drewN | apply below_drew1 | refine below_set ?_ GE132.out) | exact HB.out)))); have n3_ := Aside0.mk (blk_below (g := gb132) (o := .cells #[.int .i64 ((rd_T65 l0 x11_1).f0), .string x133001_2] 65 (0, 0)) (by (with_reducible repeat (first | refine blk_drewN ?_ _ | refine blk_drew ?_ | refine blk_alloc ?_ _)); exact BK132.out) hb); have n4_ := Aside0.mk (below_step (by repeat (first | (with_reducible first | exact HB.out | apply below_alloc | apply pw_below_drewN | apply below_drew1 | refine below_set ?_ GE132.out) | exact HB.out)) hb); clear HO_2; clear HO_3; clear BK132; clear HB; have HO_2 := n0_; have HO_3 := n1_; have HO139 := n2_; have BK132 := n3_; have HB := n4_; clear n0_ n1_ n2_ n3_ n4_; (try clear hb); (try clear hb2); (try clear hk); (try clear hi); (try clear ho0); obtain ⟨Ao19, co19, eo19⟩ := Kd.R_slice HO139.out; subst eo19; have p140 : 0 ≤ (1 : Int) := (by omega); have q140 : 1 < (t137.length : Int) := of_decide_eq_true (by first | (with_reducible assumption) | assumption); obtain ⟨ad140, e140, hx140_0⟩ := Kd.at_string (Kd.R_reads' HO139.out).2.2 1 p140 q140; cases e140; (try simp only [show (1 : Int).toNat = 1 from rfl, Nat.reduceMul, Nat.reduceEqDiff, Go.Addr.add, ↓reduceIte] at hx140_0); have qi140 : (1 < t137.length) = True := eq_true (by omega); (try rw [show ((1 : Int)).toNat = 1 from rfl] at hx140_0); replace p140 := eq_true p140; replace q140 := eq_true q140; have hcz20_0 : w18.cell? ⟨gb132, 0, none⟩ = some (.int .i64 ((rd_T65 l0 x11_1).f0)) := (blk_cell BK132.out 0).trans rfl; have hcz20_1 : w18.cell? ⟨gb132, 1, none⟩ = some (.string x133001_2) := (blk_cell BK132.out 1).trans rfl; have hfz20_0 := blk_frozen BK132.out 0; have hfz20_1 := blk_frozen BK132.out 1) | ((with_reducible refine gate_callee (f := 37) rfl ?_); refine goesL_ (some 25) rfl rfl Tryd.func37 (by kernel_rfl) rfl #[.pointer (some ⟨gb132, 0, none⟩)] rfl (by (try simp only [List.map_toArray, List.map_cons, List.map_nil]); first | done | rfl | (simp only [List.length_drop, List.length_take]; rfl)) ?_; (with_reducible refine (chroma_Token_Clone.calls gb132 ((rd_T65 l0 x11_1).f0) (rdOf ByteArray.empty t137 1) t141 t142 _ ?side1 A11.out).mono ?_); (case side1 => (with_reducible repeat (first | refine blk_drewN ?_ _ | refine blk_drew ?_ | refine blk_alloc ?_ _)); refine blk_put (cs := #[.int .i64 ((rd_T65 l0 x11_1).f0), .string x133001_2]) ?_ 1 _ rfl; (with_reducible repeat (first | refine blk_drewN ?_ _ | refine blk_drew ?_ | refine blk_alloc ?_ _)); exact BK132.out); rintro e w21 ⟨rfl, hb⟩; refine ⟨_, rfl, ?_⟩; have n0_ := Aside0.mk (Kd.S_below (by (with_reducible repeat (first | apply Kd.S_alloc | apply Kd.S_drewN | apply Kd.S_drew)); exact (Kd.S_mono (Kd.S_far (p := ⟨gb132, 1, none⟩) (Kd.S_mono HO_2.out (fun k_ hk => (⟨hk, hk.2⟩ : _ ∧ k_ ≠ gb132))) (fun _ hk => hk.2) (.string (rdOf ByteArray.empty t137 1))) (fun _ h_ => h_.1))) hb); have n1_ := Aside0.mk (Kd.R_below (by (with_reducible repeat (first | apply Kd.R_alloc | apply Kd.R_drewN | apply Kd.R_drew)); exact (Kd.R_mono (Kd.R_far (p := ⟨gb132, 1, none⟩) (Kd.R_mono HO_3.out (fun k_ hk => (⟨hk, hk⟩ : _ ∧ k_ ≠ gb132))) (fun _ hk => hk.2) (.string (rdOf ByteArray.empty t137 1))) (fun _ h_ => h_.1))) hb); have n2_ := Aside0.mk (Kd.R_below (by (with_reducible repeat (first | apply Kd.R_alloc | apply Kd.R_drewN | apply Kd.R_drew)); exact (Kd.R_mono (Kd.R_far (p := ⟨gb132, 1, none⟩) (Kd.R_types HO139.out BK132.out (by decide)) (fun _ hk => hk.2) (.string (rdOf ByteArray.empty t137 1))) (fun _ h_ => h_.1))) hb); have n3_ := Aside0.mk (blk_below (g := gb132) (o := .cells #[.int .i64 ((rd_T65 l0 x11_1).f0), .string (rdOf ByteArray.empty t137 1)] 65 (0, 0)) (by (with_reducible repeat (first | refine blk_drewN ?_ _ | refine blk_drew ?_ | refine blk_alloc ?_ _)); refine blk_put (cs := #[.int .i64 ((rd_T65 l0 x11_1).f0), .string x133001_2]) ?_ 1 _ rfl; (with_reducible repeat (first | refine blk_drewN ?_ _ | refine blk_drew ?_ | refine blk_alloc ?_ _)); exact BK132.out) hb); have n4_ := Aside0.mk (below_step (by repeat (first | (with_reducible first | exact HB.out | apply below_alloc | apply pw_below_drewN | apply below_drew1 | refine below_set ?_ GE132.out) | exact HB.out)) hb); clear HO_2; clear HO_3; clear HO139; clear BK132; clear HB; have HO_2 := n0_; have HO_3 := n1_; have HO139 := n2_; have BK132 := n3_; have HB := n4_; clear n0_ n1_ n2_ n3_ n4_; (try clear hb); (try clear hb2); (try clear hk); (try clear hi)) | ((with_reducible refine gate_dst (N := 7) rfl ?_); refine box_event ?hg (N := 7) ?hd (cs := #[.int .i64 0, .string (⟨#[]⟩ : ByteArray)]) (t := 65) ?hr ?_; (case hd => rfl); (case hg => rfl); (case hr => first | (go_simp; done) | (go_simp; rfl)); intro gb143 hg w22 hbox hb; have n0_ := Aside0.mk (Kd.S_below (Kd.S_elderB (by (with_reducible repeat (first | apply Kd.S_alloc | apply Kd.S_drewN | apply Kd.S_drew)); exact HO_2.out) gb143 (Nat.le_of_eq hg.symm)) hb); have n1_ := Aside0.mk (Kd.R_below (Kd.R_elderB (by (with_reducible repeat (first | apply Kd.R_alloc | apply Kd.R_drewN | apply Kd.R_drew)); exact HO_3.out) gb143 (Nat.le_of_eq hg.symm)) hb); have n2_ := Aside0.mk (Kd.R_below (by (with_reducible repeat (first | apply Kd.R_alloc | apply Kd.R_drewN | apply Kd.R_drew)); exact HO139.out) hb); have n3_ := Aside0.mk (blk_below (g := gb132) (o := .cells #[.int .i64 ((rd_T65 l0 x11_1).f0), .string (rdOf ByteArray.empty t137 1)] 65 (0, 0)) (by (with_reducible repeat (first | refine blk_drewN ?_ _ | refine blk_drew ?_ | refine blk_alloc ?_ _)); exact BK132.out) hb); have n4_ := Aside0.mk (below_step (by repeat (first | (with_reducible first | exact HB.out | apply below_alloc | apply pw_below_drewN | apply below_drew1 | refine below_set ?_ GE132.out) | exact HB.out)) hb); have n5_ := Aside0.mk (hbox); have n6_ := Aside0.mk ((by rw [hg]; exact (below_size (by repeat (first | (with_reducible first | exact HB.out | apply below_alloc | apply pw_below_drewN | apply below_drew1 | refine below_set ?_ GE132.out) | exact HB.out))) : w.heap.size ≤ gb143)); have n7_ := Aside0.mk ((by rw [hg]; exact (below_size (by repeat (first | (with_reducible first | exact HB.out | apply below_alloc | apply pw_below_drewN | apply below_drew1 | refine below_set ?_ GE132.out) | exact HB.out))) : w.heap.size ≤ gb143)); have n8_ := Aside0.mk ((by rw [hg]; exact Nat.ne_of_lt (blk_lt (g := gb132) (o := .cells #[.int .i64 ((rd_T65 l0 x11_1).f0), .string (rdOf ByteArray.empty t137 1)] 65 (0, 0)) (by (with_reducible repeat (first | refine blk_drewN ?_ _ | refine blk_drew ?_ | refine blk_alloc ?_ _)); exact BK132.out)) : gb132 ≠ gb143)); have n9_ := Aside0.mk ((by rw [hg]; exact Nat.ne_of_gt (blk_lt (g := gb132) (o := .cells #[.int .i64 ((rd_T65 l0 x11_1).f0), .string (rdOf ByteArray.empty t137 1)] 65 (0, 0)) (by (with_reducible repeat (first | refine blk_drewN ?_ _ | refine blk_drew ?_ | refine blk_alloc ?_ _)); exact BK132.out)) : gb143 ≠ gb132)); clear HO_2; clear HO_3; clear HO139; clear BK132; clear HB; have HO_2 := n0_; have HO_3 := n1_; have HO139 := n2_; have BK132 := n3_; have HB := n4_; have BK143 := n5_; have GW143 := n6_; have GE143 := n7_; have NB132_143 := n8_; have NB143_132 := n9_; clear n0_ n1_ n2_ n3_ n4_ n5_ n6_ n7_ n8_ n9_; clear hb hbox hg; have hnb23 := NB143_132.out; have hnc23 := NB132_143.out; have hcz24_0 : w22.cell? ⟨gb143, 0, none⟩ = some (.int .i64 0) := (blk_cell BK143.out 0).trans rfl; have hcz24_1 : w22.cell? ⟨gb143, 1, none⟩ = some (.string (⟨#[]⟩ : ByteArray)) := (blk_cell BK143.out 1).trans rfl; have hfz24_0 := blk_frozen BK143.out 0; have hfz24_1 := blk_frozen BK143.out 1) | ((with_reducible refine gate_store (t := 65) (p := 7) rfl ?_); refine store_event (t := 65) (p := 7) (v := ?vo_w25) (w1 := ((w22.setCell ⟨gb143, 0, none⟩ (.int .i64 t141)).setCell ⟨gb143, 1, none⟩ (.string t142))) ?hg ?ho ?hn ?hr ?_; (case ho => rfl); (case hg => rfl); (case hn => rfl); (case hr => first | (go_simp; done) | (go_simp; rfl)); intro w25 hw; have n0_ : Aside0 (Kd.S (Kd.slice 65 k65) 50 w25 w.heap.size (fun k_ => some k_ ≠ (u3 : Value).ownBlock ∧ k_ ≠ gb132 ∧ k_ ≠ gb143) u2 x2_2) := ⟨(by rw [hw]; exact (by (with_reducible repeat (first | apply Kd.S_alloc | apply Kd.S_drewN | apply Kd.S_drew)); exact Kd.S_mono (Kd.S_far (p := ⟨gb143, 1, none⟩) (Kd.S_far (p := ⟨gb143, 0, none⟩) (Kd.S_mono HO_2.out (fun k_ hk => (⟨hk, hk.2⟩ : _ ∧ k_ ≠ gb143))) (fun _ hk => hk.2) (.int .i64 t141)) (fun _ hk => hk.2) (.string t142)) (fun _ hk => ⟨hk.1.1.1, ⟨hk.1.1.2, hk.1.2⟩⟩)))⟩; have n1_ : Aside0 (Kd.R k65 65 w25 w.heap.size (fun k_ => k_ ≠ gb132 ∧ k_ ≠ gb143) u3 x3_2) := ⟨(by rw [hw]; exact (by (with_reducible repeat (first | apply Kd.R_alloc | apply Kd.R_drewN | apply Kd.R_drew)); exact Kd.R_mono (Kd.R_far (p := ⟨gb143, 1, none⟩) (Kd.R_far (p := ⟨gb143, 0, none⟩) (Kd.R_mono HO_3.out (fun k_ hk => (⟨hk, hk.2⟩ : _ ∧ k_ ≠ gb143))) (fun _ hk => hk.2) (.int .i64 t141)) (fun _ hk => hk.2) (.string t142)) (fun _ hk => ⟨hk.1.1, hk.1.2⟩)))⟩; have n2_ : Aside0 (Kd.R Kd.string 9 w25 w.heap.size (fun _ => True) (.slice (some ad140) t137.length co19) t137) := ⟨(by rw [hw]; exact (by (with_reducible repeat (first | apply Kd.R_alloc | apply Kd.R_drewN | apply Kd.R_drew)); exact Kd.R_mono (Kd.R_far (p := ⟨gb143, 1, none⟩) (Kd.R_far (p := ⟨gb143, 0, none⟩) (Kd.R_types HO139.out BK143.out (by decide)) (fun _ hk => hk.2) (.int .i64 t141)) (fun _ hk => hk.2) (.string t142)) (fun _ hk => trivial)))⟩; have n3_ : Aside0 (w25.heap[gb132]? = some (.cells #[.int .i64 ((rd_T65 l0 x11_1).f0), .string (rdOf ByteArray.empty t137 1)] 65 (0, 0))) := ⟨(by rw [hw]; exact (by (with_reducible repeat (first | refine blk_drewN ?_ _ | refine blk_drew ?_ | refine blk_alloc ?_ _)); refine blk_far ?_ NB132_143.out _; (with_reducible repeat (first | refine blk_drewN ?_ _ | refine blk_drew ?_ | refine blk_alloc ?_ _)); refine blk_far ?_ NB132_143.out _; (with_reducible repeat (first | refine blk_drewN ?_ _ | refine blk_drew ?_ | refine blk_alloc ?_ _)); exact BK132.out))⟩; have n4_ : Aside0 (w25.heap[gb143]? = some (.cells #[.int .i64 t141, .string t142] 65 (0, 0))) := ⟨(by rw [hw]; exact (by (with_reducible repeat (first | refine blk_drewN ?_ _ | refine blk_drew ?_ | refine blk_alloc ?_ _)); refine blk_put (cs := #[.int .i64 t141, .string (⟨#[]⟩ : ByteArray)]) ?_ 1 _ rfl; (with_reducible repeat (first | refine blk_drewN ?_ _ | refine blk_drew ?_ | refine blk_alloc ?_ _)); refine blk_put (cs := #[.int .i64 0, .string (⟨#[]⟩ : ByteArray)]) ?_ 0 _ rfl; (with_reducible repeat (first | refine blk_drewN ?_ _ | refine blk_drew ?_ | refine blk_alloc ?_ _)); exact BK143.out))⟩; have n5_ : Aside0 (Below w.heap.size w w25) := ⟨(by rw [hw]; exact (by repeat (first | (with_reducible first | exact HB.out | apply below_alloc | apply pw_below_drewN | apply below_drew1 | refine below_set ?_ GE132.out | refine below_set ?_ GE143.out) | exact HB.out)))⟩; clear hw; clear HO_2; clear HO_3; clear HO139; clear BK132; clear BK143; clear HB; have HO_2 := n0_; have HO_3 := n1_; have HO139 := n2_; have BK132 := n3_; have BK143 := n4_; have HB := n5_; clear n0_ n1_ n2_ n3_ n4_ n5_; have p144 : 0 ≤ (0 : Int) := (by omega); have q144 : 0 < (t137.length : Int) := of_decide_eq_true (by first | (with_reducible assumption) | assumption); obtain ⟨ad144, e144, hx144_0⟩ := Kd.at_string (Kd.R_reads' HO139.out).2.2 0 p144 q144; obtain rfl : ad140 = ad144 := (by injection e144); have qi144 : (0 < t137.length) = True := eq_true (by omega); (try rw [show ((0 : Int)).toNat = 0 from rfl] at hx144_0); (try rw [Addr.add_zero'] at hx144_0); replace p144 := eq_true p144; replace q144 := eq_true q144; have hcz26_0 : w25.cell? ⟨gb143, 0, none⟩ = some (.int .i64 t141) := (blk_cell BK143.out 0).trans rfl; have hcz26_1 : w25.cell? ⟨gb143, 1, none⟩ = some (.string t142) := (blk_cell BK143.out 1).trans rfl; have hfz26_0 := blk_frozen BK143.out 0; have hfz26_1 := blk_frozen BK143.out 1) | ((with_reducible refine gate_builtin (b := .append) (xs := #[.tmp 30, .tmp 32]) rfl ?_); at_builtin; refine Kd.R_append k65 (w0 := w) w.heap.size rfl (.tmp 30) (.tmp 32) 50 65 (.agg #[(.int .i64 0), (.string ⟨#[]⟩)]) 24 rfl Tryd.underlying50 info65 rfl (by decide) (by omega) u3 x3_2 (⟨t141, rdOf ByteArray.empty t137 0⟩ : S65) [.int .i64 t141, .string (rdOf ByteArray.empty t137 0)] (fun k_ => k_ ≠ gb132 ∧ k_ ≠ gb143) (fun _ => False) rfl (by first | (go_simp; done) | (go_simp; rfl)) ?aP (fun _ hk => hk.elim) ?aF ?aO ?aB ?aS ?aL ?_; (case aP => exact k65_mkM _ _ _ (⟨t141, rdOf ByteArray.empty t137 0⟩ : S65)); (case aB => exact (by repeat (first | (with_reducible first | exact HB.out | apply below_alloc | apply pw_below_drewN | apply below_drew1 | refine below_set ?_ GE132.out | refine below_set ?_ GE143.out) | exact HB.out))); (case aF => exact (fun k_ hk => ⟨Kd.freshB (g := gb132) (o := .cells #[.int .i64 ((rd_T65 l0 x11_1).f0), .string (rdOf ByteArray.empty t137 1)] 65 (0, 0)) (by (with_reducible repeat (first | refine blk_drewN ?_ _ | refine blk_drew ?_ | refine blk_alloc ?_ _)); refine blk_far ?_ NB132_143.out _; (with_reducible repeat (first | refine blk_drewN ?_ _ | refine blk_drew ?_ | refine blk_alloc ?_ _)); exact BK132.out) k_ hk, Kd.freshB (g := gb143) (o := .cells #[.int .i64 t141, .string (rdOf ByteArray.empty t137 0)] 65 (0, 0)) (by (with_reducible repeat (first | refine blk_drewN ?_ _ | refine blk_drew ?_ | refine blk_alloc ?_ _)); refine blk_put (cs := #[.int .i64 t141, .string t142]) ?_ 1 _ rfl; (with_reducible repeat (first | refine blk_drewN ?_ _ | refine blk_drew ?_ | refine blk_alloc ?_ _)); exact BK143.out) k_ hk⟩)); (case aO => exact (by (with_reducible repeat (first | apply Kd.R_alloc | apply Kd.R_drewN | apply Kd.R_drew)); exact Kd.R_mono (Kd.R_far (p := ⟨gb143, 1, none⟩) (Kd.R_mono HO_3.out (fun k_ hk => (⟨hk, hk.2⟩ : _ ∧ k_ ≠ gb143))) (fun _ hk => hk.2) (.string (rdOf ByteArray.empty t137 0))) (fun _ hk => ⟨hk.1.1, hk.1.2⟩))); (case aS => exact (below_size (by repeat (first | (with_reducible first | exact HB.out | apply below_alloc | apply pw_below_drewN | apply below_drew1 | refine below_set ?_ GE132.out | refine below_set ?_ GE143.out) | exact HB.out)))); (case aL => have := LMc13.out; omega); intro v146 w27 ho hb hg hat; rw [← Ny145.out] at ho; have n0_ := Aside0.mk (Kd.S_after (ok := (fun k_ => k_ ≠ gb132 ∧ k_ ≠ gb143)) (by (with_reducible repeat (first | apply Kd.S_alloc | apply Kd.S_drewN | apply Kd.S_drew)); exact Kd.S_mono (Kd.S_far (p := ⟨gb143, 1, none⟩) (Kd.S_mono HO_2.out (fun k_ hk => (⟨hk, hk.2.2⟩ : _ ∧ k_ ≠ gb143))) (fun _ hk => hk.2) (.string (rdOf ByteArray.empty t137 0))) (fun _ hk => ⟨⟨hk.1.2.1, hk.1.2.2⟩, hk.1.1⟩)) hg hat); have n1_ := Aside0.mk (blk_grown (g := gb132) (o := .cells #[.int .i64 ((rd_T65 l0 x11_1).f0), .string (rdOf ByteArray.empty t137 1)] 65 (0, 0)) (by (with_reducible repeat (first | refine blk_drewN ?_ _ | refine blk_drew ?_ | refine blk_alloc ?_ _)); refine blk_far ?_ NB132_143.out _; (with_reducible repeat (first | refine blk_drewN ?_ _ | refine blk_drew ?_ | refine blk_alloc ?_ _)); exact BK132.out) hg (Kd.R_away HO_3.out (fun _ hk => hk.1))); have n2_ := Aside0.mk (Kd.R_over' (by (with_reducible repeat (first | apply Kd.R_alloc | apply Kd.R_drewN | apply Kd.R_drew)); exact (Kd.R_mono (Kd.R_far (p := ⟨gb143, 1, none⟩) (Kd.R_types HO139.out BK143.out (by decide)) (fun _ hk => hk.2) (.string (rdOf ByteArray.empty t137 0))) (fun _ h_ => h_.1))) (Kd.R_typed (by (with_reducible repeat (first | apply Kd.R_alloc | apply Kd.R_drewN | apply Kd.R_drew)); exact (Kd.R_mono (Kd.R_far (p := ⟨gb143, 1, none⟩) (Kd.R_mono HO_3.out (fun k_ hk => (⟨hk, hk.2⟩ : _ ∧ k_ ≠ gb143))) (fun _ hk => hk.2) (.string (rdOf ByteArray.empty t137 0))) (fun _ h_ => h_.1)))) (by decide) hg); have n3_ := Aside0.mk (blk_grown (g := gb143) (o := .cells #[.int .i64 t141, .string (rdOf ByteArray.empty t137 0)] 65 (0, 0)) (by (with_reducible repeat (first | refine blk_drewN ?_ _ | refine blk_drew ?_ | refine blk_alloc ?_ _)); refine blk_put (cs := #[.int .i64 t141, .string t142]) ?_ 1 _ rfl; (with_reducible repeat (first | refine blk_drewN ?_ _ | refine blk_drew ?_ | refine blk_alloc ?_ _)); exact BK143.out) hg (Kd.R_away HO_3.out (fun _ hk => hk.2))); have n4_ := Aside0.mk (hb); have n5_ := Aside0.mk (ho); clear HO_2; clear BK132; clear HO139; clear BK143; clear HB; clear HO_3; have HO_2 := n0_; have BK132 := n1_; have HO139 := n2_; have BK143 := n3_; have HB := n4_; have HO147 := n5_; clear n0_ n1_ n2_ n3_ n4_ n5_; clear ho hb hg hat; obtain ⟨Ao29, co29, eo29⟩ := Kd.R_slice HO147.out; subst eo29) | ((with_reducible refine gate_builtin (b := .append) (xs := #[.tmp 34, .tmp 36]) rfl ?_); at_builtin; refine Kd.S_append (Kd.slice 65 k65) (w0 := w) w.heap.size rfl (.tmp 34) (.tmp 36) 76 50 (.slice none 0 0) 24 rfl Tryd.underlying76 info50 rfl (by decide) (by omega) u2 x2_2 y145 [.slice Ao29 y145.length co29] (fun k_ => k_ ≠ gb132 ∧ k_ ≠ gb143) (fun k_ => some k_ = (.slice Ao29 y145.length co29 : Value).ownBlock) rfl rfl ?aP (fun k_ hk_ => ((Kd.R_mono (ok' := fun k_ => ((fun k_ => k_ ≠ gb132 ∧ k_ ≠ gb143)) k_ ∧ some k_ ≠ (u2 : Value).ownBlock) (Kd.R_apart' (HO147.out) (Kd.S_typed HO_2.out) (by decide)) (fun k_ hk => ⟨⟨hk.1.1, hk.1.2⟩, hk.2⟩))).1 k_ hk_.symm) ?aF ?aO ?aB ?aS ?aL ?_; (case aP => exact Kd.M_row (Kd.R_mono (Kd.R_tight rfl (Kd.R_mono (ok' := fun k_ => ((fun k_ => k_ ≠ gb132 ∧ k_ ≠ gb143)) k_ ∧ some k_ ≠ (u2 : Value).ownBlock) (Kd.R_apart' (HO147.out) (Kd.S_typed HO_2.out) (by decide)) (fun k_ hk => ⟨⟨hk.1.1, hk.1.2⟩, hk.2⟩))) (fun _ h_ => h_))); (case aB => exact (by repeat (first | (with_reducible first | exact HB.out | apply below_alloc | apply pw_below_drewN | apply below_drew1 | refine below_set ?_ GE132.out | refine below_set ?_ GE143.out) | exact HB.out))); (case aF => exact (fun k_ hk => ⟨Kd.freshB (g := gb132) (o := .cells #[.int .i64 ((rd_T65 l0 x11_1).f0), .string (rdOf ByteArray.empty t137 1)] 65 (0, 0)) (by (with_reducible repeat (first | refine blk_drewN ?_ _ | refine blk_drew ?_ | refine blk_alloc ?_ _)); exact BK132.out) k_ hk, Kd.freshB (g := gb143) (o := .cells #[.int .i64 t141, .string (rdOf ByteArray.empty t137 0)] 65 (0, 0)) (by (with_reducible repeat (first | refine blk_drewN ?_ _ | refine blk_drew ?_ | refine blk_alloc ?_ _)); exact BK143.out) k_ hk⟩)); (case aO => exact (by (with_reducible repeat (first | apply Kd.S_alloc | apply Kd.S_drewN | apply Kd.S_drew)); exact Kd.S_mono HO_2.out (fun k_ hk => ⟨⟨hk.1.1, hk.1.2⟩, fun e_ => hk.2 e_⟩))); (case aS => exact (below_size (by repeat (first | (with_reducible first | exact HB.out | apply below_alloc | apply pw_below_drewN | apply below_drew1 | refine below_set ?_ GE132.out | refine below_set ?_ GE143.out) | exact HB.out)))); (case aL => have := LMc14.out; omega); intro v149 w28 ho hb hg hat; rw [← Ny148.out] at ho; have n0_ := Aside0.mk (blk_grown (g := gb132) (o := .cells #[.int .i64 ((rd_T65 l0 x11_1).f0), .string (rdOf ByteArray.empty t137 1)] 65 (0, 0)) (by (with_reducible repeat (first | refine blk_drewN ?_ _ | refine blk_drew ?_ | refine blk_alloc ?_ _)); exact BK132.out) hg (Kd.S_ne HO_2.out BK132.out (by decide))); have n1_ := Aside0.mk (Kd.R_over' (by (with_reducible repeat (first | apply Kd.R_alloc | apply Kd.R_drewN | apply Kd.R_drew)); exact HO139.out) (Kd.S_typed (by (with_reducible repeat (first | apply Kd.S_alloc | apply Kd.S_drewN | apply Kd.S_drew)); exact HO_2.out)) (by decide) hg); have n2_ := Aside0.mk (blk_grown (g := gb143) (o := .cells #[.int .i64 t141, .string (rdOf ByteArray.empty t137 0)] 65 (0, 0)) (by (with_reducible repeat (first | refine blk_drewN ?_ _ | refine blk_drew ?_ | refine blk_alloc ?_ _)); exact BK143.out) hg (Kd.S_ne HO_2.out BK143.out (by decide))); have n3_ := Aside0.mk (hb); have n4_ := Aside0.mk (ho); clear BK132; clear HO139; clear BK143; clear HB; clear HO_2; clear HO147; have BK132 := n0_; have HO139 := n1_; have BK143 := n2_; have HB := n3_; have HO150 := n4_; clear n0_ n1_ n2_ n3_ n4_; clear ho hb hg hat; have hcz30_0 : w28.cell? ⟨gb132, 0, none⟩ = some (.int .i64 ((rd_T65 l0 x11_1).f0)) := (blk_cell BK132.out 0).trans rfl; have hcz30_1 : w28.cell? ⟨gb132, 1, none⟩ = some (.string (rdOf ByteArray.empty t137 1)) := (blk_cell BK132.out 1).trans rfl; have hfz30_0 := blk_frozen BK132.out 0; have hfz30_1 := blk_frozen BK132.out 1))
                            go_roundg k2
                            case measure => have := HK1.out; have := HK2.out; omega
                            case rel => exact ⟨(y148), (([] : List (S65))), (wrap64 (x11_1 + 1)), (by first | rfl | (simp; done) | (simp [*]; done)), H', ⟨by have := HK1.out; have := HK2.out; omega⟩, ⟨by (with_reducible repeat (first | apply Kd.S_alloc | apply Kd.S_drewN | apply Kd.S_drew)); exact Kd.S_mono HO150.out (fun _ hk => (by simp [Value.ownBlock]))⟩, ⟨by first | exact Kd.R_nil _ _ _ _ _ | exact Kd.N_nil _ _ _ _ _ | exact Kd.V_nil _ _ _ _ _ | exact Kd.Q_nil _ _ _ _ _ | exact Kd.S_nil _ _ _ _ _⟩, ⟨by repeat (first | (with_reducible first | exact HB.out | apply below_alloc | apply pw_below_drewN | apply below_drew1 | refine below_set ?_ GE132.out | refine below_set ?_ GE143.out) | exact HB.out)⟩⟩
                          · rw [if_neg c15] at H
                            have c15b0 : (((rdOf ByteArray.empty t137 1).size : Int) == 0) = false := beq_eq_false_iff_ne.mpr c15
                            have c15b1 : (((rdOf ByteArray.empty t137 1).size : Int) != 0) = true := bne_iff_ne.mpr c15
                            have H' := Aside0.mk H
                            clear H
                            have hcz31_0 : wr.cell? ⟨gb132, 0, none⟩ = some (.int .i64 ((rd_T65 l0 x11_1).f0)) := (blk_cell BK132.out 0).trans rfl
                            have hcz31_1 : wr.cell? ⟨gb132, 1, none⟩ = some (.string x133001_2) := (blk_cell BK132.out 1).trans rfl
                            have hfz31_0 := blk_frozen BK132.out 0
                            have hfz31_1 := blk_frozen BK132.out 1
                            go_wp2_with (first | ((with_reducible refine gate_callee (f := 35) rfl ?_); refine goesL_ (some 17) rfl rfl Tryd.func35 (by kernel_rfl) rfl #[.string x133001_2, .string (⟨#[10]⟩ : ByteArray)] rfl (by (try simp only [List.map_toArray, List.map_cons, List.map_nil]); first | done | rfl | (simp only [List.length_drop, List.length_take]; rfl)) ?_; (with_reducible refine (chroma_zzContains.calls k2 x133001_2 (⟨#[10]⟩ : ByteArray) true _ A7.out).mono ?_); rintro e w' ⟨rfl, ⟨nd, rfl⟩⟩; refine ⟨_, rfl, ?_⟩; (try (rw [drewN_self wr]; generalize hq_ : World.drewN wr _ = wr; have n0_ : Aside0 (Kd.S (Kd.slice 65 k65) 50 wr w.heap.size (fun k_ => some k_ ≠ (u3 : Value).ownBlock ∧ k_ ≠ gb132) u2 x2_2) := ⟨by rw [← hq_]; exact (by (with_reducible repeat (first | apply Kd.S_alloc | apply Kd.S_drewN | apply Kd.S_drew)); exact HO_2.out)⟩; have n1_ : Aside0 (Kd.R k65 65 wr w.heap.size (fun k_ => k_ ≠ gb132) u3 x3_2) := ⟨by rw [← hq_]; exact (by (with_reducible repeat (first | apply Kd.R_alloc | apply Kd.R_drewN | apply Kd.R_drew)); exact HO_3.out)⟩; have n2_ : Aside0 (wr.heap[gb132]? = some (.cells #[.int .i64 ((rd_T65 l0 x11_1).f0), .string x133001_2] 65 (0, 0))) := ⟨by rw [← hq_]; exact (by (with_reducible repeat (first | refine blk_drewN ?_ _ | refine blk_drew ?_ | refine blk_alloc ?_ _)); exact BK132.out)⟩; have n3_ : Aside0 (Below w.heap.size w wr) := ⟨by rw [← hq_]; exact (by repeat (first | (with_reducible first | exact HB.out | apply below_alloc | apply pw_below_drewN | apply below_drew1 | refine below_set ?_ GE132.out) | exact HB.out))⟩; clear HO_2 HO_3 BK132 HB hq_; have HO_2 := n0_; have HO_3 := n1_; have BK132 := n2_; have HB := n3_; clear n0_ n1_ n2_ n3_)); have hcz32_0 : wr.cell? ⟨gb132, 0, none⟩ = some (.int .i64 ((rd_T65 l0 x11_1).f0)) := (blk_cell BK132.out 0).trans rfl; have hcz32_1 : wr.cell? ⟨gb132, 1, none⟩ = some (.string x133001_2) := (blk_cell BK132.out 1).trans rfl; have hfz32_0 := blk_frozen BK132.out 0; have hfz32_1 := blk_frozen BK132.out 1) | ((with_reducible refine gate_callee (f := 36) rfl ?_); refine goesL_ (some 20) rfl rfl Tryd.func36 (by kernel_rfl) rfl #[.string x133001_2, .string (⟨#[10]⟩ : ByteArray)] rfl (by (try simp only [List.map_toArray, List.map_cons, List.map_nil]); first | done | rfl | (simp only [List.length_drop, List.length_take]; rfl)) ?_; (with_reducible refine (chroma_zzSplitAfter.calls k2 x133001_2 (⟨#[10]⟩ : ByteArray) t137 _ A9.out).mono ?_); rintro e w33 ⟨v138, rfl, ho0, hb⟩; refine ⟨_, rfl, ?_⟩; have n0_ := Aside0.mk (Kd.S_below (by (with_reducible repeat (first | apply Kd.S_alloc | apply Kd.S_drewN | apply Kd.S_drew)); exact HO_2.out) hb); have n1_ := Aside0.mk (Kd.R_below (by (with_reducible repeat (first | apply Kd.R_alloc | apply Kd.R_drewN | apply Kd.R_drew)); exact HO_3.out) hb); have n2_ := Aside0.mk (Kd.R_lower ho0 (below_size (by repeat (first | (with_reducible first | exact HB.out | apply below_alloc | apply pw_below_drewN | apply below_drew1 | refine below_set ?_ GE132.out) | exact HB.out)))); have n3_ := Aside0.mk (blk_below (g := gb132) (o := .cells #[.int .i64 ((rd_T65 l0 x11_1).f0), .string x133001_2] 65 (0, 0)) (by (with_reducible repeat (first | refine blk_drewN ?_ _ | refine blk_drew ?_ | refine blk_alloc ?_ _)); exact BK132.out) hb); have n4_ := Aside0.mk (below_step (by repeat (first | (with_reducible first | exact HB.out | apply below_alloc | apply pw_below_drewN | apply below_drew1 | refine below_set ?_ GE132.out) | exact HB.out)) hb); clear HO_2; clear HO_3; clear BK132; clear HB; have HO_2 := n0_; have HO_3 := n1_; have HO139 := n2_; have BK132 := n3_; have HB := n4_; clear n0_ n1_ n2_ n3_ n4_; (try clear hb); (try clear hb2); (try clear hk); (try clear hi); (try clear ho0); obtain ⟨Ao34, co34, eo34⟩ := Kd.R_slice HO139.out; subst eo34; have p140 : 0 ≤ (1 : Int) := (by omega); have q140 : 1 < (t137.length : Int) := of_decide_eq_true (by first | (with_reducible assumption) | assumption); obtain ⟨ad140, e140, hx140_0⟩ := Kd.at_string (Kd.R_reads' HO139.out).2.2 1 p140 q140; cases e140; (try simp only [show (1 : Int).toNat = 1 from rfl, Nat.reduceMul, Nat.reduceEqDiff, Go.Addr.add, ↓reduceIte] at hx140_0); have qi140 : (1 < t137.length) = True := eq_true (by omega); (try rw [show ((1 : Int)).toNat = 1 from rfl] at hx140_0); replace p140 := eq_true p140; replace q140 := eq_true q140; have hcz35_0 : w33.cell? ⟨gb132, 0, none⟩ = some (.int .i64 ((rd_T65 l0 x11_1).f0)) := (blk_cell BK132.out 0).trans rfl; have hcz35_1 : w33.cell? ⟨gb132, 1, none⟩ = some (.string x133001_2) := (blk_cell BK132.out 1).trans rfl; have hfz35_0 := blk_frozen BK132.out 0; have hfz35_1 := blk_frozen BK132.out 1) | ((with_reducible refine gate_callee (f := 37) rfl ?_); refine goesL_ (some 25) rfl rfl Tryd.func37 (by kernel_rfl) rfl #[.pointer (some ⟨gb132, 0, none⟩)] rfl (by (try simp only [List.map_toArray, List.map_cons, List.map_nil]); first | done | rfl | (simp only [List.length_drop, List.length_take]; rfl)) ?_; (with_reducible refine (chroma_Token_Clone.calls gb132 ((rd_T65 l0 x11_1).f0) (rdOf ByteArray.empty t137 1) t141 t142 _ ?side1 A11.out).mono ?_); (case side1 => (with_reducible repeat (first | refine blk_drewN ?_ _ | refine blk_drew ?_ | refine blk_alloc ?_ _)); refine blk_put (cs := #[.int .i64 ((rd_T65 l0 x11_1).f0), .string x133001_2]) ?_ 1 _ rfl; (with_reducible repeat (first | refine blk_drewN ?_ _ | refine blk_drew ?_ | refine blk_alloc ?_ _)); exact BK132.out); rintro e w36 ⟨rfl, hb⟩; refine ⟨_, rfl, ?_⟩; have n0_ := Aside0.mk (Kd.S_below (by (with_reducible repeat (first | apply Kd.S_alloc | apply Kd.S_drewN | apply Kd.S_drew)); exact (Kd.S_mono (Kd.S_far (p := ⟨gb132, 1, none⟩) (Kd.S_mono HO_2.out (fun k_ hk => (⟨hk, hk.2⟩ : _ ∧ k_ ≠ gb132))) (fun _ hk => hk.2) (.string (rdOf ByteArray.empty t137 1))) (fun _ h_ => h_.1))) hb); have n1_ := Aside0.mk (Kd.R_below (by (with_reducible repeat (first | apply Kd.R_alloc | apply Kd.R_drewN | apply Kd.R_drew)); exact (Kd.R_mono (Kd.R_far (p := ⟨gb132, 1, none⟩) (Kd.R_mono HO_3.out (fun k_ hk => (⟨hk, hk⟩ : _ ∧ k_ ≠ gb132))) (fun _ hk => hk.2) (.string (rdOf ByteArray.empty t137 1))) (fun _ h_ => h_.1))) hb); have n2_ := Aside0.mk (Kd.R_below (by (with_reducible repeat (first | apply Kd.R_alloc | apply Kd.R_drewN | apply Kd.R_drew)); exact (Kd.R_mono (Kd.R_far (p := ⟨gb132, 1, none⟩) (Kd.R_types HO139.out BK132.out (by decide)) (fun _ hk => hk.2) (.string (rdOf ByteArray.empty t137 1))) (fun _ h_ => h_.1))) hb); have n3_ := Aside0.mk (blk_below (g := gb132) (o := .cells #[.int .i64 ((rd_T65 l0 x11_1).f0), .string (rdOf ByteArray.empty t137 1)] 65 (0, 0)) (by (with_reducible repeat (first | refine blk_drewN ?_ _ | refine blk_drew ?_ | refine blk_alloc ?_ _)); refine blk_put (cs := #[.int .i64 ((rd_T65 l0 x11_1).f0), .string x133001_2]) ?_ 1 _ rfl; (with_reducible repeat (first | refine blk_drewN ?_ _ | refine blk_drew ?_ | refine blk_alloc ?_ _)); exact BK132.out) hb); have n4_ := Aside0.mk (below_step (by repeat (first | (with_reducible first | exact HB.out | apply below_alloc | apply pw_below_drewN | apply below_drew1 | refine below_set ?_ GE132.out) | exact HB.out)) hb); clear HO_2; clear HO_3; clear HO139; clear BK132; clear HB; have HO_2 := n0_; have HO_3 := n1_; have HO139 := n2_; have BK132 := n3_; have HB := n4_; clear n0_ n1_ n2_ n3_ n4_; (try clear hb); (try clear hb2); (try clear hk); (try clear hi)) | ((with_reducible refine gate_dst (N := 7) rfl ?_); refine box_event ?hg (N := 7) ?hd (cs := #[.int .i64 0, .string (⟨#[]⟩ : ByteArray)]) (t := 65) ?hr ?_; (case hd => rfl); (case hg => rfl); (case hr => first | (go_simp; done) | (go_simp; rfl)); intro gb143 hg w37 hbox hb; have n0_ := Aside0.mk (Kd.S_below (Kd.S_elderB (by (with_reducible repeat (first | apply Kd.S_alloc | apply Kd.S_drewN | apply Kd.S_drew)); exact HO_2.out) gb143 (Nat.le_of_eq hg.symm)) hb); have n1_ := Aside0.mk (Kd.R_below (Kd.R_elderB (by (with_reducible repeat (first | apply Kd.R_alloc | apply Kd.R_drewN | apply Kd.R_drew)); exact HO_3.out) gb143 (Nat.le_of_eq hg.symm)) hb); have n2_ := Aside0.mk (Kd.R_below (by (with_reducible repeat (first | apply Kd.R_alloc | apply Kd.R_drewN | apply Kd.R_drew)); exact HO139.out) hb); have n3_ := Aside0.mk (blk_below (g := gb132) (o := .cells #[.int .i64 ((rd_T65 l0 x11_1).f0), .string (rdOf ByteArray.empty t137 1)] 65 (0, 0)) (by (with_reducible repeat (first | refine blk_drewN ?_ _ | refine blk_drew ?_ | refine blk_alloc ?_ _)); exact BK132.out) hb); have n4_ := Aside0.mk (below_step (by repeat (first | (with_reducible first | exact HB.out | apply below_alloc | apply pw_below_drewN | apply below_drew1 | refine below_set ?_ GE132.out) | exact HB.out)) hb); have n5_ := Aside0.mk (hbox); have n6_ := Aside0.mk ((by rw [hg]; exact (below_size (by repeat (first | (with_reducible first | exact HB.out | apply below_alloc | apply pw_below_drewN | apply below_drew1 | refine below_set ?_ GE132.out) | exact HB.out))) : w.heap.size ≤ gb143)); have n7_ := Aside0.mk ((by rw [hg]; exact (below_size (by repeat (first | (with_reducible first | exact HB.out | apply below_alloc | apply pw_below_drewN | apply below_drew1 | refine below_set ?_ GE132.out) | exact HB.out))) : w.heap.size ≤ gb143)); have n8_ := Aside0.mk ((by rw [hg]; exact Nat.ne_of_lt (blk_lt (g := gb132) (o := .cells #[.int .i64 ((rd_T65 l0 x11_1).f0), .string (rdOf ByteArray.empty t137 1)] 65 (0, 0)) (by (with_reducible repeat (first | refine blk_drewN ?_ _ | refine blk_drew ?_ | refine blk_alloc ?_ _)); exact BK132.out)) : gb132 ≠ gb143)); have n9_ := Aside0.mk ((by rw [hg]; exact Nat.ne_of_gt (blk_lt (g := gb132) (o := .cells #[.int .i64 ((rd_T65 l0 x11_1).f0), .string (rdOf ByteArray.empty t137 1)] 65 (0, 0)) (by (with_reducible repeat (first | refine blk_drewN ?_ _ | refine blk_drew ?_ | refine blk_alloc ?_ _)); exact BK132.out)) : gb143 ≠ gb132)); clear HO_2; clear HO_3; clear HO139; clear BK132; clear HB; have HO_2 := n0_; have HO_3 := n1_; have HO139 := n2_; have BK132 := n3_; have HB := n4_; have BK143 := n5_; have GW143 := n6_; have GE143 := n7_; have NB132_143 := n8_; have NB143_132 := n9_; clear n0_ n1_ n2_ n3_ n4_ n5_ n6_ n7_ n8_ n9_; clear hb hbox hg; have hnb38 := NB143_132.out; have hnc38 := NB132_143.out; have hcz39_0 : w37.cell? ⟨gb143, 0, none⟩ = some (.int .i64 0) := (blk_cell BK143.out 0).trans rfl; have hcz39_1 : w37.cell? ⟨gb143, 1, none⟩ = some (.string (⟨#[]⟩ : ByteArray)) := (blk_cell BK143.out 1).trans rfl; have hfz39_0 := blk_frozen BK143.out 0; have hfz39_1 := blk_frozen BK143.out 1) | ((with_reducible refine gate_store (t := 65) (p := 7) rfl ?_); refine store_event (t := 65) (p := 7) (v := ?vo_w40) (w1 := ((w37.setCell ⟨gb143, 0, none⟩ (.int .i64 t141)).setCell ⟨gb143, 1, none⟩ (.string t142))) ?hg ?ho ?hn ?hr ?_; (case ho => rfl); (case hg => rfl); (case hn => rfl); (case hr => first | (go_simp; done) | (go_simp; rfl)); intro w40 hw; have n0_ : Aside0 (Kd.S (Kd.slice 65 k65) 50 w40 w.heap.size (fun k_ => some k_ ≠ (u3 : Value).ownBlock ∧ k_ ≠ gb132 ∧ k_ ≠ gb143) u2 x2_2) := ⟨(by rw [hw]; exact (by (with_reducible repeat (first | apply Kd.S_alloc | apply Kd.S_drewN | apply Kd.S_drew)); exact Kd.S_mono (Kd.S_far (p := ⟨gb143, 1, none⟩) (Kd.S_far (p := ⟨gb143, 0, none⟩) (Kd.S_mono HO_2.out (fun k_ hk => (⟨hk, hk.2⟩ : _ ∧ k_ ≠ gb143))) (fun _ hk => hk.2) (.int .i64 t141)) (fun _ hk => hk.2) (.string t142)) (fun _ hk => ⟨hk.1.1.1, ⟨hk.1.1.2, hk.1.2⟩⟩)))⟩; have n1_ : Aside0 (Kd.R k65 65 w40 w.heap.size (fun k_ => k_ ≠ gb132 ∧ k_ ≠ gb143) u3 x3_2) := ⟨(by rw [hw]; exact (by (with_reducible repeat (first | apply Kd.R_alloc | apply Kd.R_drewN | apply Kd.R_drew)); exact Kd.R_mono (Kd.R_far (p := ⟨gb143, 1, none⟩) (Kd.R_far (p := ⟨gb143, 0, none⟩) (Kd.R_mono HO_3.out (fun k_ hk => (⟨hk, hk.2⟩ : _ ∧ k_ ≠ gb143))) (fun _ hk => hk.2) (.int .i64 t141)) (fun _ hk => hk.2) (.string t142)) (fun _ hk => ⟨hk.1.1, hk.1.2⟩)))⟩; have n2_ : Aside0 (Kd.R Kd.string 9 w40 w.heap.size (fun _ => True) (.slice (some ad140) t137.length co34) t137) := ⟨(by rw [hw]; exact (by (with_reducible repeat (first | apply Kd.R_alloc | apply Kd.R_drewN | apply Kd.R_drew)); exact Kd.R_mono (Kd.R_far (p := ⟨gb143, 1, none⟩) (Kd.R_far (p := ⟨gb143, 0, none⟩) (Kd.R_types HO139.out BK143.out (by decide)) (fun _ hk => hk.2) (.int .i64 t141)) (fun _ hk => hk.2) (.string t142)) (fun _ hk => trivial)))⟩; have n3_ : Aside0 (w40.heap[gb132]? = some (.cells #[.int .i64 ((rd_T65 l0 x11_1).f0), .string (rdOf ByteArray.empty t137 1)] 65 (0, 0))) := ⟨(by rw [hw]; exact (by (with_reducible repeat (first | refine blk_drewN ?_ _ | refine blk_drew ?_ | refine blk_alloc ?_ _)); refine blk_far ?_ NB132_143.out _; (with_reducible repeat (first | refine blk_drewN ?_ _ | refine blk_drew ?_ | refine blk_alloc ?_ _)); refine blk_far ?_ NB132_143.out _; (with_reducible repeat (first | refine blk_drewN ?_ _ | refine blk_drew ?_ | refine blk_alloc ?_ _)); exact BK132.out))⟩; have n4_ : Aside0 (w40.heap[gb143]? = some (.cells #[.int .i64 t141, .string t142] 65 (0, 0))) := ⟨(by rw [hw]; exact (by (with_reducible repeat (first | refine blk_drewN ?_ _ | refine blk_drew ?_ | refine blk_alloc ?_ _)); refine blk_put (cs := #[.int .i64 t141, .string (⟨#[]⟩ : ByteArray)]) ?_ 1 _ rfl; (with_reducible repeat (first | refine blk_drewN ?_ _ | refine blk_drew ?_ | refine blk_alloc ?_ _)); refine blk_put (cs := #[.int .i64 0, .string (⟨#[]⟩ : ByteArray)]) ?_ 0 _ rfl; (with_reducible repeat (first | refine blk_drewN ?_ _ | refine blk_drew ?_ | refine blk_alloc ?_ _)); exact BK143.out))⟩; have n5_ : Aside0 (Below w.heap.size w w40) := ⟨(by rw [hw]; exact (by repeat (first | (with_reducible first | exact HB.out | apply below_alloc | apply pw_below_drewN | apply below_drew1 | refine below_set ?_ GE132.out | refine below_set ?_ GE143.out) | exact HB.out)))⟩; clear hw; clear HO_2; clear HO_3; clear HO139; clear BK132; clear BK143; clear HB; have HO_2 := n0_; have HO_3 := n1_; have HO139 := n2_; have BK132 := n3_; have BK143 := n4_; have HB := n5_; clear n0_ n1_ n2_ n3_ n4_ n5_; have p144 : 0 ≤ (0 : Int) := (by omega); have q144 : 0 < (t137.length : Int) := of_decide_eq_true (by first | (with_reducible assumption) | assumption); obtain ⟨ad144, e144, hx144_0⟩ := Kd.at_string (Kd.R_reads' HO139.out).2.2 0 p144 q144; obtain rfl : ad140 = ad144 := (by injection e144); have qi144 : (0 < t137.length) = True := eq_true (by omega); (try rw [show ((0 : Int)).toNat = 0 from rfl] at hx144_0); (try rw [Addr.add_zero'] at hx144_0); replace p144 := eq_true p144; replace q144 := eq_true q144; have hcz41_0 : w40.cell? ⟨gb143, 0, none⟩ = some (.int .i64 t141) := (blk_cell BK143.out 0).trans rfl; have hcz41_1 : w40.cell? ⟨gb143, 1, none⟩ = some (.string t142) := (blk_cell BK143.out 1).trans rfl; have hfz41_0 := blk_frozen BK143.out 0; have hfz41_1 := blk_frozen BK143.out 1) | ((with_reducible refine gate_builtin (b := .append) (xs := #[.tmp 30, .tmp 32]) rfl ?_); at_builtin; refine Kd.R_append k65 (w0 := w) w.heap.size rfl (.tmp 30) (.tmp 32) 50 65 (.agg #[(.int .i64 0), (.string ⟨#[]⟩)]) 24 rfl Tryd.underlying50 info65 rfl (by decide) (by omega) u3 x3_2 (⟨t141, rdOf ByteArray.empty t137 0⟩ : S65) [.int .i64 t141, .string (rdOf ByteArray.empty t137 0)] (fun k_ => k_ ≠ gb132 ∧ k_ ≠ gb143) (fun _ => False) rfl (by first | (go_simp; done) | (go_simp; rfl)) ?aP (fun _ hk => hk.elim) ?aF ?aO ?aB ?aS ?aL ?_; (case aP => exact k65_mkM _ _ _ (⟨t141, rdOf ByteArray.empty t137 0⟩ : S65)); (case aB => exact (by repeat (first | (with_reducible first | exact HB.out | apply below_alloc | apply pw_below_drewN | apply below_drew1 | refine below_set ?_ GE132.out | refine below_set ?_ GE143.out) | exact HB.out))); (case aF => exact (fun k_ hk => ⟨Kd.freshB (g := gb132) (o := .cells #[.int .i64 ((rd_T65 l0 x11_1).f0), .string (rdOf ByteArray.empty t137 1)] 65 (0, 0)) (by (with_reducible repeat (first | refine blk_drewN ?_ _ | refine blk_drew ?_ | refine blk_alloc ?_ _)); refine blk_far ?_ NB132_143.out _; (with_reducible repeat (first | refine blk_drewN ?_ _ | refine blk_drew ?_ | refine blk_alloc ?_ _)); exact BK132.out) k_ hk, Kd.freshB (g := gb143) (o := .cells #[.int .i64 t141, .string (rdOf ByteArray.empty t137 0)] 65 (0, 0)) (by (with_reducible repeat (first | refine blk_drewN ?_ _ | refine blk_drew ?_ | refine blk_alloc ?_ _)); refine blk_put (cs := #[.int .i64 t141, .string t142]) ?_ 1 _ rfl; (with_reducible repeat (first | refine blk_drewN ?_ _ | refine blk_drew ?_ | refine blk_alloc ?_ _)); exact BK143.out) k_ hk⟩)); (case aO => exact (by (with_reducible repeat (first | apply Kd.R_alloc | apply Kd.R_drewN | apply Kd.R_drew)); exact Kd.R_mono (Kd.R_far (p := ⟨gb143, 1, none⟩) (Kd.R_mono HO_3.out (fun k_ hk => (⟨hk, hk.2⟩ : _ ∧ k_ ≠ gb143))) (fun _ hk => hk.2) (.string (rdOf ByteArray.empty t137 0))) (fun _ hk => ⟨hk.1.1, hk.1.2⟩))); (case aS => exact (below_size (by repeat (first | (with_reducible first | exact HB.out | apply below_alloc | apply pw_below_drewN | apply below_drew1 | refine below_set ?_ GE132.out | refine below_set ?_ GE143.out) | exact HB.out)))); (case aL => have := LMc13.out; omega); intro v146 w42 ho hb hg hat; rw [← Ny145.out] at ho; have n0_ := Aside0.mk (Kd.S_after (ok := (fun k_ => k_ ≠ gb132 ∧ k_ ≠ gb143)) (by (with_reducible repeat (first | apply Kd.S_alloc | apply Kd.S_drewN | apply Kd.S_drew)); exact Kd.S_mono (Kd.S_far (p := ⟨gb143, 1, none⟩) (Kd.S_mono HO_2.out (fun k_ hk => (⟨hk, hk.2.2⟩ : _ ∧ k_ ≠ gb143))) (fun _ hk => hk.2) (.string (rdOf ByteArray.empty t137 0))) (fun _ hk => ⟨⟨hk.1.2.1, hk.1.2.2⟩, hk.1.1⟩)) hg hat); have n1_ := Aside0.mk (blk_grown (g := gb132) (o := .cells #[.int .i64 ((rd_T65 l0 x11_1).f0), .string (rdOf ByteArray.empty t137 1)] 65 (0, 0)) (by (with_reducible repeat (first | refine blk_drewN ?_ _ | refine blk_drew ?_ | refine blk_alloc ?_ _)); refine blk_far ?_ NB132_143.out _; (with_reducible repeat (first | refine blk_drewN ?_ _ | refine blk_drew ?_ | refine blk_alloc ?_ _)); exact BK132.out) hg (Kd.R_away HO_3.out (fun _ hk => hk.1))); have n2_ := Aside0.mk (Kd.R_over' (by (with_reducible repeat (first | apply Kd.R_alloc | apply Kd.R_drewN | apply Kd.R_drew)); exact (Kd.R_mono (Kd.R_far (p := ⟨gb143, 1, none⟩) (Kd.R_types HO139.out BK143.out (by decide)) (fun _ hk => hk.2) (.string (rdOf ByteArray.empty t137 0))) (fun _ h_ => h_.1))) (Kd.R_typed (by (with_reducible repeat (first | apply Kd.R_alloc | apply Kd.R_drewN | apply Kd.R_drew)); exact (Kd.R_mono (Kd.R_far (p := ⟨gb143, 1, none⟩) (Kd.R_mono HO_3.out (fun k_ hk => (⟨hk, hk.2⟩ : _ ∧ k_ ≠ gb143))) (fun _ hk => hk.2) (.string (rdOf ByteArray.empty t137 0))) (fun _ h_ => h_.1)))) (by decide) hg); have n3_ := Aside0.mk (blk_grown (g := gb143) (o := .cells #[.int .i64 t141, .string (rdOf ByteArray.empty t137 0)] 65 (0, 0)) (by (with_reducible repeat (first | refine blk_drewN ?_ _ | refine blk_drew ?_ | refine blk_alloc ?_ _)); refine blk_put (cs := #[.int .i64 t141, .string t142]) ?_ 1 _ rfl; (with_reducible repeat (first | refine blk_drewN ?_ _ | refine blk_drew ?_ | refine blk_alloc ?_ _)); exact BK143.out) hg (Kd.R_away HO_3.out (fun _ hk => hk.2))); have n4_ := Aside0.mk (hb); have n5_ := Aside0.mk (ho); clear HO_2; clear BK132; clear HO139; clear BK143; clear HB; clear HO_3; have HO_2 := n0_; have BK132 := n1_; have HO139 := n2_; have BK143 := n3_; have HB := n4_; have HO147 := n5_; clear n0_ n1_ n2_ n3_ n4_ n5_; clear ho hb hg hat; obtain ⟨Ao44, co44, eo44⟩ := Kd.R_slice HO147.out; subst eo44) | ((with_reducible refine gate_builtin (b := .append) (xs := #[.tmp 34, .tmp 36]) rfl ?_); at_builtin; refine Kd.S_append (Kd.slice 65 k65) (w0 := w) w.heap.size rfl (.tmp 34) (.tmp 36) 76 50 (.slice none 0 0) 24 rfl Tryd.underlying76 info50 rfl (by decide) (by omega) u2 x2_2 y145 [.slice Ao44 y145.length co44] (fun k_ => k_ ≠ gb132 ∧ k_ ≠ gb143) (fun k_ => some k_ = (.slice Ao44 y145.length co44 : Value).ownBlock) rfl rfl ?aP (fun k_ hk_ => ((Kd.R_mono (ok' := fun k_ => ((fun k_ => k_ ≠ gb132 ∧ k_ ≠ gb143)) k_ ∧ some k_ ≠ (u2 : Value).ownBlock) (Kd.R_apart' (HO147.out) (Kd.S_typed HO_2.out) (by decide)) (fun k_ hk => ⟨⟨hk.1.1, hk.1.2⟩, hk.2⟩))).1 k_ hk_.symm) ?aF ?aO ?aB ?aS ?aL ?_; (case aP => exact Kd.M_row (Kd.R_mono (Kd.R_tight rfl (Kd.R_mono (ok' := fun k_ => ((fun k_ => k_ ≠ gb132 ∧ k_ ≠ gb143)) k_ ∧ some k_ ≠ (u2 : Value).ownBlock) (Kd.R_apart' (HO147.out) (Kd.S_typed HO_2.out) (by decide)) (fun k_ hk => ⟨⟨hk.1.1, hk.1.2⟩, hk.2⟩))) (fun _ h_ => h_))); (case aB => exact (by repeat (first | (with_reducible first | exact HB.out | apply below_alloc | apply pw_below_drewN | apply below_drew1 | refine below_set ?_ GE132.out | refine below_set ?_ GE143.out) | exact HB.out))); (case aF => exact (fun k_ hk => ⟨Kd.freshB (g := gb132) (o := .cells #[.int .i64 ((rd_T65 l0 x11_1).f0), .string (rdOf ByteArray.empty t137 1)] 65 (0, 0)) (by (with_reducible repeat (first | refine blk_drewN ?_ _ | refine blk_drew ?_ | refine blk_alloc ?_ _)); exact BK132.out) k_ hk, Kd.freshB (g := gb143) (o := .cells #[.int .i64 t141, .string (rdOf ByteArray.empty t137 0)] 65 (0, 0)) (by (with_reducible repeat (first | refine blk_drewN ?_ _ | refine blk_drew ?_ | refine blk_alloc ?_ _)); exact BK143.out) k_ hk⟩)); (case aO => exact (by (with_reducible repeat (first | apply Kd.S_alloc | apply Kd.S_drewN | apply Kd.S_drew)); exact Kd.S_mono HO_2.out (fun k_ hk => ⟨⟨hk.1.1, hk.1.2⟩, fun e_ => hk.2 e_⟩))); (case aS => exact (below_size (by repeat (first | (with_reducible first | exact HB.out | apply below_alloc | apply pw_below_drewN | apply below_drew1 | refine below_set ?_ GE132.out | refine below_set ?_ GE143.out) | exact HB.out)))); (case aL => have := LMc14.out; omega); intro v149 w43 ho hb hg hat; rw [← Ny148.out] at ho; have n0_ := Aside0.mk (blk_grown (g := gb132) (o := .cells #[.int .i64 ((rd_T65 l0 x11_1).f0), .string (rdOf ByteArray.empty t137 1)] 65 (0, 0)) (by (with_reducible repeat (first | refine blk_drewN ?_ _ | refine blk_drew ?_ | refine blk_alloc ?_ _)); exact BK132.out) hg (Kd.S_ne HO_2.out BK132.out (by decide))); have n1_ := Aside0.mk (Kd.R_over' (by (with_reducible repeat (first | apply Kd.R_alloc | apply Kd.R_drewN | apply Kd.R_drew)); exact HO139.out) (Kd.S_typed (by (with_reducible repeat (first | apply Kd.S_alloc | apply Kd.S_drewN | apply Kd.S_drew)); exact HO_2.out)) (by decide) hg); have n2_ := Aside0.mk (blk_grown (g := gb143) (o := .cells #[.int .i64 t141, .string (rdOf ByteArray.empty t137 0)] 65 (0, 0)) (by (with_reducible repeat (first | refine blk_drewN ?_ _ | refine blk_drew ?_ | refine blk_alloc ?_ _)); exact BK143.out) hg (Kd.S_ne HO_2.out BK143.out (by decide))); have n3_ := Aside0.mk (hb); have n4_ := Aside0.mk (ho); clear BK132; clear HO139; clear BK143; clear HB; clear HO_2; clear HO147; have BK132 := n0_; have HO139 := n1_; have BK143 := n2_; have HB := n3_; have HO150 := n4_; clear n0_ n1_ n2_ n3_ n4_; clear ho hb hg hat; have hcz45_0 : w43.cell? ⟨gb132, 0, none⟩ = some (.int .i64 ((rd_T65 l0 x11_1).f0)) := (blk_cell BK132.out 0).trans rfl; have hcz45_1 : w43.cell? ⟨gb132, 1, none⟩ = some (.string (rdOf ByteArray.empty t137 1)) := (blk_cell BK132.out 1).trans rfl; have hfz45_0 := blk_frozen BK132.out 0; have hfz45_1 := blk_frozen BK132.out 1))
                            go_roundg k2
                            case measure => have := HK1.out; have := HK2.out; omega
                            case rel => exact ⟨(y148), (([] : List (S65))), (rdOf ByteArray.empty t137 1), H', ⟨by have := HK1.out; have := HK2.out; omega⟩, ⟨by (with_reducible repeat (first | apply Kd.S_alloc | apply Kd.S_drewN | apply Kd.S_drew)); exact Kd.S_mono HO150.out (fun _ hk => ⟨(by simp [Value.ownBlock]), hk.1⟩)⟩, ⟨by first | exact Kd.R_nil _ _ _ _ _ | exact Kd.N_nil _ _ _ _ _ | exact Kd.V_nil _ _ _ _ _ | exact Kd.Q_nil _ _ _ _ _ | exact Kd.S_nil _ _ _ _ _⟩, ⟨by (with_reducible repeat (first | refine blk_drewN ?_ _ | refine blk_drew ?_ | refine blk_alloc ?_ _)); exact BK132.out⟩, ⟨by repeat (first | (with_reducible first | exact HB.out | apply below_alloc | apply pw_below_drewN | apply below_drew1 | refine below_set ?_ GE132.out | refine below_set ?_ GE143.out) | exact HB.out)⟩⟩
                        · rw [if_neg c14] at H
                          exact absurd H (by simp)
                      · rw [if_neg c13] at H
                        exact absurd H (by simp)
                    · rw [if_neg c12] at H
                      exact absurd H (by simp)
                  · rw [if_neg c10] at H
                    exact absurd H (by simp)
                · replace c8 := Bool.eq_false_iff.mpr c8
                  subst c8
                  have H1 : (if x3_2.length < 5864062014805 then (chroma_SplitTokensIntoLines.l0 k2 x2_2 (x3_2 ++ [(⟨((rd_T65 l0 x11_1).f0), x133001_2⟩ : S65)]) l0 (l0.length : Int) (wrap64 (x11_1 + 1))) else (none)) = some r := by rw [if_neg (show ¬ (false = true) by decide)] at H; exact H
                  clear H
                  have H := H1
                  clear H1
                  by_cases c46 : x3_2.length < 5864062014805
                  · rw [if_pos c46] at H
                    have LMc46 := Aside0.mk c46
                    clear c46
                    obtain ⟨y134, hy134⟩ : ∃ y_ : List (S65), y_ = (x3_2 ++ [(⟨((rd_T65 l0 x11_1).f0), x133001_2⟩ : S65)]) := ⟨_, rfl⟩
                    replace H : (chroma_SplitTokensIntoLines.l0 k2 x2_2 y134 l0 (l0.length : Int) (wrap64 (x11_1 + 1))) = some r := by first | (rw [hy134]; with_reducible exact H) | (have H2_ := (Option.bind_some _ _).symm.trans H; rw [hy134]; with_reducible exact H2_) | (have H2_ := (Option.bind_some _ _).symm.trans H; with_reducible exact H2_) | with_reducible exact H | (rw [hy134]; exact H) | exact H
                    have Ny134 := Aside0.mk hy134
                    clear hy134
                    have H' := Aside0.mk H
                    clear H
                    have hcz47_0 : wr.cell? ⟨gb132, 0, none⟩ = some (.int .i64 ((rd_T65 l0 x11_1).f0)) := (blk_cell BK132.out 0).trans rfl
                    have hcz47_1 : wr.cell? ⟨gb132, 1, none⟩ = some (.string x133001_2) := (blk_cell BK132.out 1).trans rfl
                    have hfz47_0 := blk_frozen BK132.out 0
                    have hfz47_1 := blk_frozen BK132.out 1
                    go_wp2_with (first | ((with_reducible refine gate_callee (f := 35) rfl ?_); refine goesL_ (some 17) rfl rfl Tryd.func35 (by kernel_rfl) rfl #[.string x133001_2, .string (⟨#[10]⟩ : ByteArray)] rfl (by (try simp only [List.map_toArray, List.map_cons, List.map_nil]); first | done | rfl | (simp only [List.length_drop, List.length_take]; rfl)) ?_; (with_reducible refine (chroma_zzContains.calls k2 x133001_2 (⟨#[10]⟩ : ByteArray) false _ A7.out).mono ?_); rintro e w' ⟨rfl, ⟨nd, rfl⟩⟩; refine ⟨_, rfl, ?_⟩) | ((with_reducible refine gate_builtin (b := .append) (xs := #[.tmp 42, .tmp 44]) rfl ?_); at_builtin; refine Kd.R_append k65 (w0 := w) w.heap.size rfl (.tmp 42) (.tmp 44) 50 65 (.agg #[(.int .i64 0), (.string ⟨#[]⟩)]) 24 rfl Tryd.underlying50 info65 rfl (by decide) (by omega) u3 x3_2 (⟨((rd_T65 l0 x11_1).f0), x133001_2⟩ : S65) [.int .i64 ((rd_T65 l0 x11_1).f0), .string x133001_2] (fun k_ => k_ ≠ gb132) (fun _ => False) rfl rfl ?aP (fun _ hk => hk.elim) ?aF ?aO ?aB ?aS ?aL ?_; (case aP => exact k65_mkM _ _ _ (⟨((rd_T65 l0 x11_1).f0), x133001_2⟩ : S65)); (case aB => exact (by repeat (first | (with_reducible first | exact HB.out | apply below_alloc | apply pw_below_drewN | apply below_drew1 | refine below_set ?_ GE132.out) | exact HB.out))); (case aF => exact (fun k_ hk => Kd.freshB (g := gb132) (o := .cells #[.int .i64 ((rd_T65 l0 x11_1).f0), .string x133001_2] 65 (0, 0)) (by (with_reducible repeat (first | refine blk_drewN ?_ _ | refine blk_drew ?_ | refine blk_alloc ?_ _)); exact BK132.out) k_ hk)); (case aO => exact (by (with_reducible repeat (first | apply Kd.R_alloc | apply Kd.R_drewN | apply Kd.R_drew)); exact HO_3.out)); (case aS => exact (below_size (by repeat (first | (with_reducible first | exact HB.out | apply below_alloc | apply pw_below_drewN | apply below_drew1 | refine below_set ?_ GE132.out) | exact HB.out)))); (case aL => have := LMc46.out; omega); intro v135 w48 ho hb hg hat; rw [← Ny134.out] at ho; have n0_ := Aside0.mk (Kd.S_after (ok := (fun k_ => k_ ≠ gb132)) (by (with_reducible repeat (first | apply Kd.S_alloc | apply Kd.S_drewN | apply Kd.S_drew)); exact Kd.S_mono HO_2.out (fun _ hk => ⟨hk.2, hk.1⟩)) hg hat); have n1_ := Aside0.mk (blk_grown (g := gb132) (o := .cells #[.int .i64 ((rd_T65 l0 x11_1).f0), .string x133001_2] 65 (0, 0)) (by (with_reducible repeat (first | refine blk_drewN ?_ _ | refine blk_drew ?_ | refine blk_alloc ?_ _)); exact BK132.out) hg (Kd.R_away HO_3.out (fun _ hk => hk))); have n2_ := Aside0.mk (hb); have n3_ := Aside0.mk (ho); clear HO_2; clear BK132; clear HB; clear HO_3; have HO_2 := n0_; have BK132 := n1_; have HB := n2_; have HO136 := n3_; clear n0_ n1_ n2_ n3_; clear ho hb hg hat))
                    go_roundg k2
                    case measure => have := HK1.out; have := HK2.out; omega
                    case rel => exact ⟨(x2_2), (y134), (wrap64 (x11_1 + 1)), (by first | rfl | (simp; done) | (simp [*]; done)), H', ⟨by have := HK1.out; have := HK2.out; omega⟩, ⟨by (with_reducible repeat (first | apply Kd.S_alloc | apply Kd.S_drewN | apply Kd.S_drew)); exact Kd.S_mono HO_2.out (fun _ hk => hk.2)⟩, ⟨by (with_reducible repeat (first | apply Kd.R_alloc | apply Kd.R_drewN | apply Kd.R_drew)); exact Kd.R_mono HO136.out (fun _ hk => trivial)⟩, ⟨by repeat (first | (with_reducible first | exact HB.out | apply below_alloc | apply pw_below_drewN | apply below_drew1 | refine below_set ?_ GE132.out) | exact HB.out)⟩⟩
                  · rw [if_neg c46] at H
                    exact absurd H (by simp)
          · rw [if_neg c4] at H
            exact absurd H (by simp)
        · rw [if_neg c3] at H
          exact absurd H (by simp)
      · rw [if_neg c2] at H
        have c2b0 : decide (x11_1 < (l0.length : Int)) = false := decide_eq_false c2
        clear c2
        have HC49 := Aside0.mk H
        clear H
        obtain ⟨Ao50, co50, eo50⟩ := Kd.R_slice HO_3.out
        subst eo50
        go_upto_if 49 with (fail)
        go_cut [2] (fun v2 wc => ∃ (kq : Nat) (x2_48 : List (List (S65))), Aside0 (chroma_SplitTokensIntoLines.j2 kq x2_48 = some r) ∧ Aside0 (kq ≤ k1) ∧ Aside0 (Kd.S (Kd.slice 65 k65) 50 wc w.heap.size (fun _ => True) v2 x2_48) ∧ Aside0 (Below w.heap.size w wc))
        case first =>
          have H := HC49.out
          clear HC49
          by_cases c51 : (x3_1.length : Int) > 0
          · rw [if_pos c51] at H
            have c51b0 : decide (0 < (x3_1.length : Int)) = true := decide_eq_true c51
            have c51b1 : decide (0 < x3_1.length) = true := decide_eq_true (by omega)
            clear c51
            (try (have c51b2 := c51b0; simp only [ByteArray.size_extract, Nat.min_self] at c51b2)); (first | rw [c51b0] | (simp only [i64_w, i32_w]; rw [c51b0]) | rw [c51b1] | skip)
            by_cases c52 : x2_1.length < 5864062014805
            · rw [if_pos c52] at H
              have LMc52 := Aside0.mk c52
              clear c52
              obtain ⟨y151, hy151⟩ : ∃ y_ : List (List (S65)), y_ = (x2_1 ++ [x3_1]) := ⟨_, rfl⟩
              replace H : (chroma_SplitTokensIntoLines.j2 k1 y151) = some r := by first | (rw [hy151]; with_reducible exact H) | (have H2_ := (Option.bind_some _ _).symm.trans H; rw [hy151]; with_reducible exact H2_) | (have H2_ := (Option.bind_some _ _).symm.trans H; with_reducible exact H2_) | with_reducible exact H | (rw [hy151]; exact H) | exact H
              have Ny151 := Aside0.mk hy151
              clear hy151
              have H' := Aside0.mk H
              clear H
              go_wp2_with (first | ((with_reducible refine gate_builtin (b := .append) (xs := #[.tmp 50, .tmp 52]) rfl ?_); at_builtin; refine Kd.S_append (Kd.slice 65 k65) (w0 := w) w.heap.size rfl (.tmp 50) (.tmp 52) 76 50 (.slice none 0 0) 24 rfl Tryd.underlying76 info50 rfl (by decide) (by omega) u2 x2_1 x3_1 [.slice Ao50 x3_1.length co50] (fun _ => True) (fun k_ => some k_ = (.slice Ao50 x3_1.length co50 : Value).ownBlock) rfl rfl ?aP (fun k_ hk_ => ((Kd.R_mono (ok' := fun k_ => ((fun _ => True)) k_ ∧ some k_ ≠ (u2 : Value).ownBlock) (Kd.R_apart' (HO_3.out) (Kd.S_typed HO_2.out) (by decide)) (fun k_ hk => ⟨trivial, hk.2⟩))).1 k_ hk_.symm) ?aF ?aO ?aB ?aS ?aL ?_; (case aP => exact Kd.M_row (Kd.R_mono (Kd.R_tight rfl (Kd.R_mono (ok' := fun k_ => ((fun _ => True)) k_ ∧ some k_ ≠ (u2 : Value).ownBlock) (Kd.R_apart' (HO_3.out) (Kd.S_typed HO_2.out) (by decide)) (fun k_ hk => ⟨trivial, hk.2⟩))) (fun _ h_ => h_))); (case aB => exact (by repeat (first | (with_reducible first | exact HB.out | apply below_alloc | apply pw_below_drewN | apply below_drew1) | exact HB.out))); (case aF => exact (fun _ _ => trivial)); (case aO => exact (by (with_reducible repeat (first | apply Kd.S_alloc | apply Kd.S_drewN | apply Kd.S_drew)); exact Kd.S_mono HO_2.out (fun k_ hk => ⟨trivial, fun e_ => hk e_⟩))); (case aS => exact (below_size (by repeat (first | (with_reducible first | exact HB.out | apply below_alloc | apply pw_below_drewN | apply below_drew1) | exact HB.out)))); (case aL => have := LMc52.out; omega); intro v152 w53 ho hb hg hat; rw [← Ny151.out] at ho; have n0_ := Aside0.mk (hb); have n1_ := Aside0.mk (ho); clear HB; clear HO_2; clear HO_3; have HB := n0_; have HO153 := n1_; clear n0_ n1_; clear ho hb hg hat))
              go_meet
              case rel => exact ⟨_, (y151), H', ⟨by have := HK1.out; first | omega | exact Nat.le_refl _⟩, ⟨by (with_reducible repeat (first | apply Kd.S_alloc | apply Kd.S_drewN | apply Kd.S_drew)); exact HO153.out⟩, ⟨by repeat (first | (with_reducible first | exact HB.out | apply below_alloc | apply pw_below_drewN | apply below_drew1) | exact HB.out)⟩⟩
            · rw [if_neg c52] at H
              exact absurd H (by simp)
          · rw [if_neg c51] at H
            have c51b0 : decide (0 < (x3_1.length : Int)) = false := decide_eq_false c51
            have c51b1 : decide (0 < x3_1.length) = false := decide_eq_false (by omega)
            clear c51
            (try (have c51b2 := c51b0; simp only [ByteArray.size_extract, Nat.min_self] at c51b2)); (first | rw [c51b0] | (simp only [i64_w, i32_w]; rw [c51b0]) | rw [c51b1] | skip)
            have H' := Aside0.mk H
            clear H
            go_wp2
            go_meet
            case rel => exact ⟨_, (x2_1), H', ⟨by have := HK1.out; first | omega | exact Nat.le_refl _⟩, ⟨by (with_reducible repeat (first | apply Kd.S_alloc | apply Kd.S_drewN | apply Kd.S_drew)); exact Kd.S_mono HO_2.out (fun _ hk => trivial)⟩, ⟨by repeat (first | (with_reducible first | exact HB.out | apply below_alloc | apply pw_below_drewN | apply below_drew1) | exact HB.out)⟩⟩
        case rest =>
          clear HC49
          try clear c1
          try clear p1
          try clear q1
          try clear hx1
          try clear qi1
          try clear c2
          try clear c2b0
          try clear p2
          try clear c3
          try clear c3b0
          try clear p3
          try clear c4
          try clear c4b0
          try clear c5
          try clear p6
          try clear c8
          try clear c10
          try clear c10b0
          try clear c10b1
          try clear c12
          try clear c12b0
          try clear c12b1
          try clear c13
          try clear p13
          try clear q13
          try clear hx13
          try clear c14
          try clear p14
          try clear q14
          try clear hx14
          try clear qi14
          try clear c15
          try clear c15b0
          try clear c15b1
          try clear c23
          try clear c33
          try clear c35
          try clear c36
          try clear c37
          try clear c38
          try clear c46
          try clear c51
          try clear c51b0
          try clear c51b1
          try clear c51b2
          try clear c52
          try clear hcz16_0
          try clear hcz16_1
          try clear hcz17_0
          try clear hcz17_1
          try clear hcz20_0
          try clear hcz20_1
          try clear hcz24_0
          try clear hcz24_1
          try clear hcz26_0
          try clear hcz26_1
          try clear hcz30_0
          try clear hcz30_1
          try clear hcz31_0
          try clear hcz31_1
          try clear hcz32_0
          try clear hcz32_1
          try clear hcz35_0
          try clear hcz35_1
          try clear hcz39_0
          try clear hcz39_1
          try clear hcz41_0
          try clear hcz41_1
          try clear hcz45_0
          try clear hcz45_1
          try clear hcz47_0
          try clear hcz47_1
          try clear hcz6_0
          try clear hcz6_1
          try clear hfz16_0
          try clear hfz16_1
          try clear hfz17_0
          try clear hfz17_1
          try clear hfz20_0
          try clear hfz20_1
          try clear hfz24_0
          try clear hfz24_1
          try clear hfz26_0
          try clear hfz26_1
          try clear hfz30_0
          try clear hfz30_1
          try clear hfz31_0
          try clear hfz31_1
          try clear hfz32_0
          try clear hfz32_1
          try clear hfz35_0
          try clear hfz35_1
          try clear hfz39_0
          try clear hfz39_1
          try clear hfz41_0
          try clear hfz41_1
          try clear hfz45_0
          try clear hfz45_1
          try clear hfz47_0
          try clear hfz47_1
          try clear hfz6_0
          try clear hfz6_1
          try clear hx131_0
          try clear hx131_1
          try clear hx140_0
          try clear hx144_0
          try clear p1
          try clear p131
          try clear p140
          try clear p144
          try clear p2
          try clear p3
          try clear q1
          try clear q131
          try clear q140
          try clear q144
          obtain ⟨kq, x2_48, HA, HJ48, HO_2, HB⟩ := hcut
          cases kq with
          | zero => exact absurd HA.out (by simp [chroma_SplitTokensIntoLines.j2])
          | succ kj48 =>
            have H := HA.out
            clear HA
            simp only [chroma_SplitTokensIntoLines.j2] at H
            by_cases c54 : (x2_48.length : Int) > 0
            · rw [if_pos c54] at H
              have c54b0 : decide (0 < (x2_48.length : Int)) = true := decide_eq_true c54
              have c54b1 : decide (0 < x2_48.length) = true := decide_eq_true (by omega)
              clear c54
              obtain ⟨ji55, hji55⟩ : ∃ j_ : Int, (wrap64 ((x2_48.length : Int) - 1)) = j_ := ⟨_, rfl⟩
              replace H : (if 0 ≤ (ji55) then (if (ji55) < (x2_48.length : Int) then (if ((rd_L9 x2_48 (ji55)).length : Int) = 1 then (if 0 < ((rd_L9 x2_48 (ji55)).length : Int) then (if ((rd_T65 (rd_L9 x2_48 (ji55)) 0).f1).toList = ([] : List UInt8) then (if (ji55) ≤ (x2_48.length : Int) then (some (x2_48.take ((ji55) : Int).toNat)) else (none)) else (some x2_48)) else (none)) else (some x2_48)) else (none)) else (none)) = some r := by first | (rw [hji55] at H; exact H) | (simp only [hji55] at H ⊢; exact H)
              have hji55w : (IntKind.i64.wrap ((x2_48.length : Int) - 1)) = ji55 := (i64_w _).trans hji55
              by_cases c56 : 0 ≤ (ji55)
              · rw [if_pos c56] at H
                have c56b0 : decide (0 ≤ (ji55)) = true := decide_eq_true c56
                clear c56
                by_cases c57 : (ji55) < (x2_48.length : Int)
                · rw [if_pos c57] at H
                  have c57b0 : decide ((ji55) < (x2_48.length : Int)) = true := decide_eq_true c57
                  clear c57
                  by_cases c58 : ((rd_L9 x2_48 (ji55)).length : Int) = 1
                  · rw [if_pos c58] at H
                    have c58b0 : (((rd_L9 x2_48 (ji55)).length : Int) == 1) = true := beq_iff_eq.mpr c58
                    have c58b1 : (((rd_L9 x2_48 (ji55)).length : Int) != 1) = false := bne_eq_false_iff_eq.mpr c58
                    clear c58
                    by_cases c59 : 0 < ((rd_L9 x2_48 (ji55)).length : Int)
                    · rw [if_pos c59] at H
                      have c59b0 : decide (0 < ((rd_L9 x2_48 (ji55)).length : Int)) = true := decide_eq_true c59
                      have c59b1 : decide (0 < (rd_L9 x2_48 (ji55)).length) = true := decide_eq_true (by omega)
                      clear c59
                      by_cases c60 : ((rd_T65 (rd_L9 x2_48 (ji55)) 0).f1).toList = ([] : List UInt8)
                      · rw [if_pos c60] at H
                        have c60b0 : (((rd_T65 (rd_L9 x2_48 (ji55)) 0).f1).toList == ([] : List UInt8)) = true := beq_iff_eq.mpr c60
                        have c60b1 : (((rd_T65 (rd_L9 x2_48 (ji55)) 0).f1).toList != ([] : List UInt8)) = false := bne_eq_false_iff_eq.mpr c60
                        clear c60
                        by_cases c61 : (ji55) ≤ (x2_48.length : Int)
                        · rw [if_pos c61] at H
                          have c61b0 := eq_true c61
                          have c61b1 : decide ((ji55) ≤ (x2_48.length : Int)) = true := decide_eq_true c61
                          clear c61
                          obtain ⟨y156, hy156⟩ : ∃ y_ : List (List (S65)), y_ = (x2_48.take ((ji55) : Int).toNat) := ⟨_, rfl⟩
                          replace H : (some y156) = some r := by first | (rw [hy156]; with_reducible exact H) | (have H2_ := (Option.bind_some _ _).symm.trans H; rw [hy156]; with_reducible exact H2_) | (have H2_ := (Option.bind_some _ _).symm.trans H; with_reducible exact H2_) | with_reducible exact H | (rw [hy156]; exact H) | exact H
                          have Ny156 := Aside0.mk hy156
                          clear hy156
                          obtain rfl := Option.some.inj H
                          obtain ⟨Ao62, co62, eo62⟩ := Kd.S_slice HO_2.out
                          subst eo62
                          have p154 : 0 ≤ ((ji55) : Int) := of_decide_eq_true (by first | (with_reducible assumption) | assumption)
                          have q154 : (ji55) < (x2_48.length : Int) := of_decide_eq_true (by first | (with_reducible assumption) | assumption)
                          obtain ⟨ad154, A154_0, c154_0, e154, hx154_0, hl154_0, hi154_0⟩ := at_L9 (Kd.S_reads' HO_2.out).2.2 (ji55) p154 q154
                          cases e154
                          obtain ⟨ce154, hce154, hMe154, hcc154⟩ := Kd.S_get HO_2.out [] (ji55) p154 (by first | exact q154 | exact of_decide_eq_true (by first | (with_reducible assumption) | assumption) | (have e_ := (Kd.S_reads' HO_2.out).1; omega))
                          obtain ⟨ve154_0, rfl, ge154_0⟩ := hMe154
                          have hv154_0 := hcc154 0 _ rfl
                          rw [Nat.add_zero, show ((Kd.slice 65 k65)).sz = 1 from rfl, Nat.mul_one] at hv154_0
                          replace hv154_0 := Option.some.inj (hv154_0.symm.trans hx154_0)
                          rw [hv154_0] at ge154_0
                          have HL154_0 := Aside0.mk (show Kd.R k65 65 _ _ _ _ (rd_L9 x2_48 (ji55)) from ge154_0)
                          clear hv154_0 ge154_0
                          clear hcc154 hce154
                          have HR154_0 := Aside0.mk hi154_0
                          have HC154_0 := Aside0.mk hl154_0
                          clear hi154_0 hl154_0
                          replace p154 := eq_true p154
                          replace q154 := eq_true q154
                          have p155 : 0 ≤ (0 : Int) := (by omega)
                          have q155 : 0 < ((rd_L9 x2_48 (ji55)).length : Int) := of_decide_eq_true (by first | (with_reducible assumption) | assumption)
                          obtain ⟨ad155, e155, hx155_0, hx155_1⟩ := at_T65 (by repeat (first | (with_reducible exact HR154_0.out) | (with_reducible refine Kd.C_alloc ?_ _) | (with_reducible refine Kd.C_drewN ?_ _) | (with_reducible refine Kd.C_drew ?_) | exact HR154_0.out)) 0 p155 q155
                          cases e155
                          have qi155 : (0 < (rd_L9 x2_48 (ji55)).length) = True := eq_true (by omega)
                          (try rw [show ((0 : Int)).toNat = 0 from rfl] at hx155_0)
                          (try rw [show 0 * 2 = 0 from rfl] at hx155_0)
                          (try rw [Addr.add_zero'] at hx155_0)
                          (try rw [show ((0 : Int)).toNat = 0 from rfl] at hx155_1)
                          (try rw [show 0 * 2 = 0 from rfl] at hx155_1)
                          (try rw [Addr.add_zero'] at hx155_1)
                          replace p155 := eq_true p155
                          replace q155 := eq_true q155
                          have q63 : ((ji55) : Int) ≤ ((x2_48.length : Int) : Int) := of_decide_eq_true (by first | (with_reducible assumption) | assumption)
                          obtain ⟨i063, hi063, _, hsz63, _⟩ := info_parts info50
                          have hcut63 := cut_to (P := Tryd.prog) 76 50 .i64 Tryd.underlying76 hi063 (some ad154) x2_48.length co62 (ji55) (of_decide_eq_true (by first | (with_reducible assumption) | assumption)) q63 (Kd.S_reads' HO_2.out).2.1
                          have hr63 := Kd.S_take (m := ((ji55) : Int).toNat) HO_2.out (by omega)
                          have hy63 : y156.length = ((ji55) : Int).toNat := (by rw [Ny156.out, List.length_take]; omega)
                          rw [← Ny156.out] at hr63
                          rw [← hy63] at hr63 hcut63
                          clear hy63 hi063 hsz63 HO_2
                          have HO158 := Aside0.mk hr63
                          clear hr63
                          replace q63 := eq_true q63
                          go_wp2
                          (try rw [Exit.noGoto_ret])
                          go_ret
                          exact ⟨_, by first | rfl | (simp [errW_none, errW_some] <;> rfl) | (simp only [← hji55]; first | rfl | (simp [errW_none, errW_some] <;> rfl)) | (simp [*, errW_none, errW_some] <;> rfl), by (with_reducible repeat (first | apply Kd.S_alloc | apply Kd.S_drewN | apply Kd.S_drew)); exact HO158.out, by repeat (first | (with_reducible first | exact HB.out | apply below_alloc | apply pw_below_drewN | apply below_drew1) | exact HB.out)⟩
                        · rw [if_neg c61] at H
                          exact absurd H (by simp)
                      · rw [if_neg c60] at H
                        have c60b0 : (((rd_T65 (rd_L9 x2_48 (ji55)) 0).f1).toList == ([] : List UInt8)) = false := beq_eq_false_iff_ne.mpr c60
                        have c60b1 : (((rd_T65 (rd_L9 x2_48 (ji55)) 0).f1).toList != ([] : List UInt8)) = true := bne_iff_ne.mpr c60
                        obtain rfl := Option.some.inj H
                        obtain ⟨Ao64, co64, eo64⟩ := Kd.S_slice HO_2.out
                        subst eo64
                        have p154 : 0 ≤ ((ji55) : Int) := of_decide_eq_true (by first | (with_reducible assumption) | assumption)
                        have q154 : (ji55) < (x2_48.length : Int) := of_decide_eq_true (by first | (with_reducible assumption) | assumption)
                        obtain ⟨ad154, A154_0, c154_0, e154, hx154_0, hl154_0, hi154_0⟩ := at_L9 (Kd.S_reads' HO_2.out).2.2 (ji55) p154 q154
                        cases e154
                        obtain ⟨ce154, hce154, hMe154, hcc154⟩ := Kd.S_get HO_2.out [] (ji55) p154 (by first | exact q154 | exact of_decide_eq_true (by first | (with_reducible assumption) | assumption) | (have e_ := (Kd.S_reads' HO_2.out).1; omega))
                        obtain ⟨ve154_0, rfl, ge154_0⟩ := hMe154
                        have hv154_0 := hcc154 0 _ rfl
                        rw [Nat.add_zero, show ((Kd.slice 65 k65)).sz = 1 from rfl, Nat.mul_one] at hv154_0
                        replace hv154_0 := Option.some.inj (hv154_0.symm.trans hx154_0)
                        rw [hv154_0] at ge154_0
                        have HL154_0 := Aside0.mk (show Kd.R k65 65 _ _ _ _ (rd_L9 x2_48 (ji55)) from ge154_0)
                        clear hv154_0 ge154_0
                        clear hcc154 hce154
                        have HR154_0 := Aside0.mk hi154_0
                        have HC154_0 := Aside0.mk hl154_0
                        clear hi154_0 hl154_0
                        replace p154 := eq_true p154
                        replace q154 := eq_true q154
                        have p155 : 0 ≤ (0 : Int) := (by omega)
                        have q155 : 0 < ((rd_L9 x2_48 (ji55)).length : Int) := of_decide_eq_true (by first | (with_reducible assumption) | assumption)
                        obtain ⟨ad155, e155, hx155_0, hx155_1⟩ := at_T65 (by repeat (first | (with_reducible exact HR154_0.out) | (with_reducible refine Kd.C_alloc ?_ _) | (with_reducible refine Kd.C_drewN ?_ _) | (with_reducible refine Kd.C_drew ?_) | exact HR154_0.out)) 0 p155 q155
                        cases e155
                        have qi155 : (0 < (rd_L9 x2_48 (ji55)).length) = True := eq_true (by omega)
                        (try rw [show ((0 : Int)).toNat = 0 from rfl] at hx155_0)
                        (try rw [show 0 * 2 = 0 from rfl] at hx155_0)
                        (try rw [Addr.add_zero'] at hx155_0)
                        (try rw [show ((0 : Int)).toNat = 0 from rfl] at hx155_1)
                        (try rw [show 0 * 2 = 0 from rfl] at hx155_1)
                        (try rw [Addr.add_zero'] at hx155_1)
                        replace p155 := eq_true p155
                        replace q155 := eq_true q155
                        go_wp2
                        (try rw [Exit.noGoto_ret])
                        go_ret
                        exact ⟨_, by first | rfl | (simp [errW_none, errW_some] <;> rfl) | (simp only [← hji55]; first | rfl | (simp [errW_none, errW_some] <;> rfl)) | (simp [*, errW_none, errW_some] <;> rfl), by (with_reducible repeat (first | apply Kd.S_alloc | apply Kd.S_drewN | apply Kd.S_drew)); exact HO_2.out, by repeat (first | (with_reducible first | exact HB.out | apply below_alloc | apply pw_below_drewN | apply below_drew1) | exact HB.out)⟩
                    · rw [if_neg c59] at H
                      exact absurd H (by simp)
                  · rw [if_neg c58] at H
                    have c58b0 : (((rd_L9 x2_48 (ji55)).length : Int) == 1) = false := beq_eq_false_iff_ne.mpr c58
                    have c58b1 : (((rd_L9 x2_48 (ji55)).length : Int) != 1) = true := bne_iff_ne.mpr c58
                    obtain rfl := Option.some.inj H
                    obtain ⟨Ao65, co65, eo65⟩ := Kd.S_slice HO_2.out
                    subst eo65
                    have p154 : 0 ≤ ((ji55) : Int) := of_decide_eq_true (by first | (with_reducible assumption) | assumption)
                    have q154 : (ji55) < (x2_48.length : Int) := of_decide_eq_true (by first | (with_reducible assumption) | assumption)
                    obtain ⟨ad154, A154_0, c154_0, e154, hx154_0, hl154_0, hi154_0⟩ := at_L9 (Kd.S_reads' HO_2.out).2.2 (ji55) p154 q154
                    cases e154
                    obtain ⟨ce154, hce154, hMe154, hcc154⟩ := Kd.S_get HO_2.out [] (ji55) p154 (by first | exact q154 | exact of_decide_eq_true (by first | (with_reducible assumption) | assumption) | (have e_ := (Kd.S_reads' HO_2.out).1; omega))
                    obtain ⟨ve154_0, rfl, ge154_0⟩ := hMe154
                    have hv154_0 := hcc154 0 _ rfl
                    rw [Nat.add_zero, show ((Kd.slice 65 k65)).sz = 1 from rfl, Nat.mul_one] at hv154_0
                    replace hv154_0 := Option.some.inj (hv154_0.symm.trans hx154_0)
                    rw [hv154_0] at ge154_0
                    have HL154_0 := Aside0.mk (show Kd.R k65 65 _ _ _ _ (rd_L9 x2_48 (ji55)) from ge154_0)
                    clear hv154_0 ge154_0
                    clear hcc154 hce154
                    have HR154_0 := Aside0.mk hi154_0
                    have HC154_0 := Aside0.mk hl154_0
                    clear hi154_0 hl154_0
                    replace p154 := eq_true p154
                    replace q154 := eq_true q154
                    go_wp2
                    (try rw [Exit.noGoto_ret])
                    go_ret
                    exact ⟨_, by first | rfl | (simp [errW_none, errW_some] <;> rfl) | (simp only [← hji55]; first | rfl | (simp [errW_none, errW_some] <;> rfl)) | (simp [*, errW_none, errW_some] <;> rfl), by (with_reducible repeat (first | apply Kd.S_alloc | apply Kd.S_drewN | apply Kd.S_drew)); exact HO_2.out, by repeat (first | (with_reducible first | exact HB.out | apply below_alloc | apply pw_below_drewN | apply below_drew1) | exact HB.out)⟩
                · rw [if_neg c57] at H
                  exact absurd H (by simp)
              · rw [if_neg c56] at H
                exact absurd H (by simp)
            · rw [if_neg c54] at H
              have c54b0 : decide (0 < (x2_48.length : Int)) = false := decide_eq_false c54
              have c54b1 : decide (0 < x2_48.length) = false := decide_eq_false (by omega)
              clear c54
              obtain rfl := Option.some.inj H
              obtain ⟨Ao66, co66, eo66⟩ := Kd.S_slice HO_2.out
              subst eo66
              go_wp2
              (try rw [Exit.noGoto_ret])
              go_ret
              exact ⟨_, by first | rfl | (simp [errW_none, errW_some] <;> rfl) | (simp [*, errW_none, errW_some] <;> rfl), by (with_reducible repeat (first | apply Kd.S_alloc | apply Kd.S_drewN | apply Kd.S_drew)); exact HO_2.out, by repeat (first | (with_reducible first | exact HB.out | apply below_alloc | apply pw_below_drewN | apply below_drew1) | exact HB.out)⟩

/-! ### impl_SplitLines: function 27 -/
def impl_SplitLines.l0 : Nat → List (List (S27)) → List (List (S65)) → Int → Int → Option ((List (List (S27))))
  | 0, _, _, _, _ => none
  | k + 1, x3, x8, x9, x10 => if x10 < x9 then (if 0 ≤ x10 then (if x10 < (x8.length : Int) then ((impl_outer.f k (rd_L9 x8 x10)).bind fun t166 => (if x3.length < 5864062014805 then (impl_SplitLines.l0 k (x3 ++ [t166]) x8 x9 (wrap64 (x10 + 1))) else (none))) else (none)) else (none)) else (some x3)
def impl_SplitLines.f (k : Nat) (l0 : List (S27)) : Option ((List (List (S27)))) := (impl_inner.f k l0).bind fun t159 => ((chroma_SplitTokensIntoLines.f k t159).bind fun t162 => (impl_SplitLines.l0 k ([] : List (List (S27))) t162 (t162.length : Int) 0))
theorem impl_SplitLines.mono_l : ∀ k, (∀ y0 y1 y2 y3, LeO (impl_SplitLines.l0 k y0 y1 y2 y3) (impl_SplitLines.l0 (k + 1) y0 y1 y2 y3))
  | 0 => fun _ _ _ _ r h => by simp [impl_SplitLines.l0] at h
  | k + 1 => by
    have ih0 := impl_SplitLines.mono_l k
    · intro y0 y1 y2 y3
      unfold impl_SplitLines.l0
      repeat' first
      | (with_reducible exact ih0 _ _ _ _)
      | (with_reducible exact chroma_SplitTokensIntoLines.mono _ _)
      | (with_reducible exact impl_inner.mono _ _)
      | (with_reducible exact impl_outer.mono _ _)
      | (with_reducible exact LeO.refl _)
      | (with_reducible exact LeO.none _)
      | (with_reducible refine LeO.ite ?_ ?_)
      | (with_reducible refine LeO.bind ?_ (fun _ => ?_))
      | exact ih0 _ _ _ _
      | exact chroma_SplitTokensIntoLines.mono _ _
      | exact impl_inner.mono _ _
      | exact impl_outer.mono _ _
      | exact LeO.none _
      | refine LeO.ite ?_ ?_
      | refine LeO.bind ?_ (fun _ => ?_)
theorem impl_SplitLines.mono : ∀ a0 k, LeO (impl_SplitLines.f k a0) (impl_SplitLines.f (k + 1) a0) := by
  intro a0 k
  have ih0 := impl_SplitLines.mono_l k
  unfold impl_SplitLines.f
  repeat' first
      | (with_reducible exact ih0 _ _ _ _)
      | (with_reducible exact chroma_SplitTokensIntoLines.mono _ _)
      | (with_reducible exact impl_inner.mono _ _)
      | (with_reducible exact impl_outer.mono _ _)
      | (with_reducible exact LeO.refl _)
      | (with_reducible exact LeO.none _)
      | (with_reducible refine LeO.ite ?_ ?_)
      | (with_reducible refine LeO.bind ?_ (fun _ => ?_))
      | exact ih0 _ _ _ _
      | exact chroma_SplitTokensIntoLines.mono _ _
      | exact impl_inner.mono _ _
      | exact impl_outer.mono _ _
      | exact LeO.none _
      | refine LeO.ite ?_ ?_
      | refine LeO.bind ?_ (fun _ => ?_)
set_option maxHeartbeats 8000000 in
set_option maxRecDepth 100000 in
theorem impl_SplitLines.calls (k : Nat) (A0 : Option Addr) (c0 : Nat) (l0 : List (S27)) (r : List (List (S27))) (w : World) (hr0 : Kd.C k27 w A0 l0.length l0) (hc0 : l0.length ≤ c0) (h : impl_SplitLines.f k l0 = some r) :
    Calls Tryd.prog 27 #[.slice A0 l0.length c0] w fun e w' => ∃ v0_ : Value, e = .returned (v0_) ∧ Kd.S (Kd.slice 27 k27) 23 w' w.heap.size (fun _ => True) v0_ r ∧ Below w.heap.size w w' := by
  have HR0 := Aside0.mk hr0
  have HC0 := Aside0.mk hc0
  clear hr0 hc0
  have HB := Aside0.mk (Below.refl w.heap.size w)
  have H : ((impl_inner.f k l0).bind fun t159 => ((chroma_SplitTokensIntoLines.f k t159).bind fun t162 => (impl_SplitLines.l0 k ([] : List (List (S27))) t162 (t162.length : Int) 0))) = some r := h
  clear h
  replace H := Option.bind_eq_some_iff.mp H
  obtain ⟨t159, A20, H⟩ := H
  replace H : ((chroma_SplitTokensIntoLines.f k t159).bind fun t162 => (impl_SplitLines.l0 k ([] : List (List (S27))) t162 (t162.length : Int) 0)) = some r := H
  have A2 := Aside0.mk A20
  clear A20
  replace H := Option.bind_eq_some_iff.mp H
  obtain ⟨t162, A30, H⟩ := H
  replace H : (impl_SplitLines.l0 k ([] : List (List (S27))) t162 (t162.length : Int) 0) = some r := H
  have A3 := Aside0.mk A30
  clear A30
  have H' := Aside0.mk H
  clear H
  go_enter Tryd.func27, Tryd.ntmps27
  go_wp2_with (first | ((with_reducible refine gate_callee (f := 31) rfl ?_); refine goesL_ (some 7) rfl rfl Tryd.func31 (by kernel_rfl) rfl #[.slice A0 l0.length c0] rfl (by (try simp only [List.map_toArray, List.map_cons, List.map_nil]); first | done | rfl | (simp only [List.length_drop, List.length_take]; rfl)) ?_; (with_reducible refine (impl_inner.calls k _ _ l0 t159 _ ?side1 ?side2 A2.out).mono ?_); (case side1 => repeat (first | exact HR0.out | (with_reducible refine Kd.C_alloc ?_ _) | (with_reducible refine Kd.C_drewN ?_ _) | (with_reducible refine Kd.C_drew ?_))); (case side2 => exact HC0.out); rintro e w4 ⟨v160, rfl, ho0, hb⟩; refine ⟨_, rfl, ?_⟩; have n0_ := Aside0.mk (Kd.R_lower ho0 (below_size (by repeat (first | (with_reducible first | exact HB.out | apply below_alloc | apply pw_below_drewN | apply below_drew1) | exact HB.out)))); have n1_ := Aside0.mk (below_step (by repeat (first | (with_reducible first | exact HB.out | apply below_alloc | apply pw_below_drewN | apply below_drew1) | exact HB.out)) hb); clear HB; have HO161 := n0_; have HB := n1_; clear n0_ n1_; (try clear hb); (try clear hb2); (try clear hk); (try clear hi); (try clear ho0); obtain ⟨Ao5, co5, eo5⟩ := Kd.R_slice HO161.out; subst eo5) | ((with_reducible refine gate_callee (f := 33) rfl ?_); refine goesL_ (some 8) rfl rfl Tryd.func33 (by kernel_rfl) rfl #[.slice Ao5 t159.length co5] rfl (by (try simp only [List.map_toArray, List.map_cons, List.map_nil]); first | done | rfl | (simp only [List.length_drop, List.length_take]; rfl)) ?_; (with_reducible refine (chroma_SplitTokensIntoLines.calls k _ _ t159 t162 _ ?side1 ?side2 A3.out).mono ?_); (case side1 => repeat (first | exact (Kd.R_reads' HO161.out).2.2 | (with_reducible refine Kd.C_alloc ?_ _) | (with_reducible refine Kd.C_drewN ?_ _) | (with_reducible refine Kd.C_drew ?_))); (case side2 => exact (Kd.R_reads' HO161.out).2.1); rintro e w6 ⟨v163, rfl, ho0, hb⟩; refine ⟨_, rfl, ?_⟩; have n0_ := Aside0.mk (Kd.R_below (by (with_reducible repeat (first | apply Kd.R_alloc | apply Kd.R_drewN | apply Kd.R_drew)); exact HO161.out) hb); have n1_ := Aside0.mk (Kd.S_lower (Kd.S_new' ho0 (Kd.R_lt (by (with_reducible repeat (first | apply Kd.R_alloc | apply Kd.R_drewN | apply Kd.R_drew)); exact HO161.out))) (below_size (by repeat (first | (with_reducible first | exact HB.out | apply below_alloc | apply pw_below_drewN | apply below_drew1) | exact HB.out)))); have n2_ := Aside0.mk (below_step (by repeat (first | (with_reducible first | exact HB.out | apply below_alloc | apply pw_below_drewN | apply below_drew1) | exact HB.out)) hb); clear HO161; clear HB; have HO161 := n0_; have HO164 := n1_; have HB := n2_; clear n0_ n1_ n2_; (try clear hb); (try clear hb2); (try clear hk); (try clear hi); (try clear ho0); obtain ⟨Ao7, co7, eo7⟩ := Kd.S_slice HO164.out; subst eo7))
  go_loopg [3, 10] k (fun kq v3 v10 w' => ∃ (x3_1 : List (List (S27))) (x10_1 : Int), v10 = .int .i64 x10_1 ∧ Aside0 (impl_SplitLines.l0 kq x3_1 t162 (t162.length : Int) x10_1 = some r) ∧ Aside0 (kq ≤ k) ∧ Aside0 (Kd.S (Kd.slice 27 k27) 23 w' w.heap.size (fun _ => True) v3 x3_1) ∧ Aside0 (Kd.S (Kd.slice 65 k65) 50 w' w.heap.size (fun _ => True) (.slice Ao7 t162.length co7) t162) ∧ Aside0 (Below w.heap.size w w'))
  case atStart => exact ⟨(([] : List (List (S27)))), (0), (by first | rfl | (simp; done) | (simp [*]; done)), H', ⟨Nat.le_refl _⟩, ⟨by first | exact Kd.S_nil _ _ _ _ _ | exact Kd.N_nil _ _ _ _ _ | exact Kd.V_nil _ _ _ _ _ | exact Kd.Q_nil _ _ _ _ _ | exact Kd.R_nil _ _ _ _ _⟩, ⟨by (with_reducible repeat (first | apply Kd.S_alloc | apply Kd.S_drewN | apply Kd.S_drew)); exact Kd.S_mono HO164.out (fun _ hk => trivial)⟩, ⟨by repeat (first | (with_reducible first | exact HB.out | apply below_alloc | apply pw_below_drewN | apply below_drew1) | exact HB.out)⟩⟩
  case round =>
    clear H'
    try clear c2
    try clear p2
    try clear c3
    obtain ⟨x3_1, x10_1, rfl, HA, HK1, HO_3, HO_8, HB⟩ := hrel
    cases gk with
    | zero => exact absurd HA.out (by simp [impl_SplitLines.l0])
    | succ k1 =>
      have H := HA.out
      clear HA
      simp only [impl_SplitLines.l0] at H
      by_cases c8 : x10_1 < (t162.length : Int)
      · rw [if_pos c8] at H
        have c8b0 : decide (x10_1 < (t162.length : Int)) = true := decide_eq_true c8
        clear c8
        by_cases c9 : 0 ≤ x10_1
        · rw [if_pos c9] at H
          have c9b0 : decide (0 ≤ x10_1) = true := decide_eq_true c9
          clear c9
          by_cases c10 : x10_1 < (t162.length : Int)
          · rw [if_pos c10] at H
            have c10b0 : decide (x10_1 < (t162.length : Int)) = true := decide_eq_true c10
            clear c10
            replace H := Option.bind_eq_some_iff.mp H
            obtain ⟨t166, A110, H⟩ := H
            replace H : (if x3_1.length < 5864062014805 then (impl_SplitLines.l0 k1 (x3_1 ++ [t166]) t162 (t162.length : Int) (wrap64 (x10_1 + 1))) else (none)) = some r := H
            have A11 := Aside0.mk A110
            clear A110
            by_cases c12 : x3_1.length < 5864062014805
            · rw [if_pos c12] at H
              have LMc12 := Aside0.mk c12
              clear c12
              obtain ⟨y169, hy169⟩ : ∃ y_ : List (List (S27)), y_ = (x3_1 ++ [t166]) := ⟨_, rfl⟩
              replace H : (impl_SplitLines.l0 k1 y169 t162 (t162.length : Int) (wrap64 (x10_1 + 1))) = some r := by first | (rw [hy169]; with_reducible exact H) | (have H2_ := (Option.bind_some _ _).symm.trans H; rw [hy169]; with_reducible exact H2_) | (have H2_ := (Option.bind_some _ _).symm.trans H; with_reducible exact H2_) | with_reducible exact H | (rw [hy169]; exact H) | exact H
              have Ny169 := Aside0.mk hy169
              clear hy169
              have H' := Aside0.mk H
              clear H
              have p165 : 0 ≤ (x10_1 : Int) := of_decide_eq_true (by first | (with_reducible assumption) | assumption)
              have q165 : x10_1 < (t162.length : Int) := of_decide_eq_true (by first | (with_reducible assumption) | assumption)
              obtain ⟨ad165, A165_0, c165_0, e165, hx165_0, hl165_0, hi165_0⟩ := at_L9 (Kd.S_reads' HO_8.out).2.2 x10_1 p165 q165
              cases e165
              obtain ⟨ce165, hce165, hMe165, hcc165⟩ := Kd.S_get HO_8.out [] x10_1 p165 (by first | exact q165 | exact of_decide_eq_true (by first | (with_reducible assumption) | assumption) | (have e_ := (Kd.S_reads' HO_8.out).1; omega))
              obtain ⟨ve165_0, rfl, ge165_0⟩ := hMe165
              have hv165_0 := hcc165 0 _ rfl
              rw [Nat.add_zero, show ((Kd.slice 65 k65)).sz = 1 from rfl, Nat.mul_one] at hv165_0
              replace hv165_0 := Option.some.inj (hv165_0.symm.trans hx165_0)
              rw [hv165_0] at ge165_0
              have HL165_0 := Aside0.mk (show Kd.R k65 65 _ _ _ _ (rd_L9 t162 x10_1) from ge165_0)
              clear hv165_0 ge165_0
              clear hcc165 hce165
              have HR165_0 := Aside0.mk hi165_0
              have HC165_0 := Aside0.mk hl165_0
              clear hi165_0 hl165_0
              replace p165 := eq_true p165
              replace q165 := eq_true q165
              go_wp2_with (first | ((with_reducible refine gate_callee (f := 29) rfl ?_); refine goesL_ (some 16) rfl rfl Tryd.func29 (by kernel_rfl) rfl #[.slice A165_0 (rd_L9 t162 x10_1).length c165_0] rfl (by (try simp only [List.map_toArray, List.map_cons, List.map_nil]); first | done | rfl | (simp only [List.length_drop, List.length_take]; rfl)) ?_; (with_reducible refine (impl_outer.calls k1 _ _ (rd_L9 t162 x10_1) t166 _ ?side1 ?side2 A11.out).mono ?_); (case side1 => repeat (first | exact (by repeat (first | (with_reducible exact HR165_0.out) | (with_reducible refine Kd.C_alloc ?_ _) | (with_reducible refine Kd.C_drewN ?_ _) | (with_reducible refine Kd.C_drew ?_) | exact HR165_0.out)) | (with_reducible refine Kd.C_alloc ?_ _) | (with_reducible refine Kd.C_drewN ?_ _) | (with_reducible refine Kd.C_drew ?_))); (case side2 => exact HC165_0.out); rintro e w13 ⟨v167, rfl, ho0, hb⟩; refine ⟨_, rfl, ?_⟩; have n0_ := Aside0.mk (Kd.S_elder' (by (with_reducible repeat (first | apply Kd.S_alloc | apply Kd.S_drewN | apply Kd.S_drew)); exact HO_3.out) (Kd.R_base ho0) hb); have n1_ := Aside0.mk (Kd.S_below (by (with_reducible repeat (first | apply Kd.S_alloc | apply Kd.S_drewN | apply Kd.S_drew)); exact HO_8.out) hb); have n2_ := Aside0.mk (Kd.R_below (by (with_reducible repeat (first | apply Kd.R_alloc | apply Kd.R_drewN | apply Kd.R_drew)); exact HL165_0.out) hb); have n3_ := Aside0.mk (Kd.R_lower ho0 (below_size (by repeat (first | (with_reducible first | exact HB.out | apply below_alloc | apply pw_below_drewN | apply below_drew1) | exact HB.out)))); have n4_ := Aside0.mk (Kd.C_below (by repeat (first | (with_reducible exact HR165_0.out) | (with_reducible refine Kd.C_alloc ?_ _) | (with_reducible refine Kd.C_drewN ?_ _) | (with_reducible refine Kd.C_drew ?_) | exact HR165_0.out)) hb); have n5_ := Aside0.mk (below_step (by repeat (first | (with_reducible first | exact HB.out | apply below_alloc | apply pw_below_drewN | apply below_drew1) | exact HB.out)) hb); clear HO_3; clear HO_8; clear HL165_0; clear HR165_0; clear HB; have HO_3 := n0_; have HO_8 := n1_; have HL165_0 := n2_; have HO168 := n3_; have HR165_0 := n4_; have HB := n5_; clear n0_ n1_ n2_ n3_ n4_ n5_; (try clear hb); (try clear hb2); (try clear hk); (try clear hi); (try clear ho0); obtain ⟨Ao15, co15, eo15⟩ := Kd.R_slice HO168.out; subst eo15) | ((with_reducible refine gate_builtin (b := .append) (xs := #[.tmp 14, .tmp 17]) rfl ?_); at_builtin; refine Kd.S_append (Kd.slice 27 k27) (w0 := w) w.heap.size rfl (.tmp 14) (.tmp 17) 61 23 (.slice none 0 0) 24 rfl Tryd.underlying61 info23 rfl (by decide) (by omega) u3 x3_1 t166 [.slice Ao15 t166.length co15] (fun _ => True) (fun k_ => some k_ = (.slice Ao15 t166.length co15 : Value).ownBlock) rfl rfl ?aP (fun k_ hk_ => ((Kd.R_mono (ok' := fun k_ => ((fun _ => True)) k_ ∧ some k_ ≠ (u3 : Value).ownBlock) (Kd.R_apart' (HO168.out) (Kd.S_typed HO_3.out) (by decide)) (fun k_ hk => ⟨trivial, hk.2⟩))).1 k_ hk_.symm) ?aF ?aO ?aB ?aS ?aL ?_; (case aP => exact Kd.M_row (Kd.R_mono (Kd.R_tight rfl (Kd.R_mono (ok' := fun k_ => ((fun _ => True)) k_ ∧ some k_ ≠ (u3 : Value).ownBlock) (Kd.R_apart' (HO168.out) (Kd.S_typed HO_3.out) (by decide)) (fun k_ hk => ⟨trivial, hk.2⟩))) (fun _ h_ => h_))); (case aB => exact (by repeat (first | (with_reducible first | exact HB.out | apply below_alloc | apply pw_below_drewN | apply below_drew1) | exact HB.out))); (case aF => exact (fun _ _ => trivial)); (case aO => exact (by (with_reducible repeat (first | apply Kd.S_alloc | apply Kd.S_drewN | apply Kd.S_drew)); exact Kd.S_mono HO_3.out (fun k_ hk => ⟨trivial, fun e_ => hk.2 e_⟩))); (case aS => exact (below_size (by repeat (first | (with_reducible first | exact HB.out | apply below_alloc | apply pw_below_drewN | apply below_drew1) | exact HB.out)))); (case aL => have := LMc12.out; omega); intro v170 w14 ho hb hg hat; rw [← Ny169.out] at ho; have n0_ := Aside0.mk (Kd.S_over' (by (with_reducible repeat (first | apply Kd.S_alloc | apply Kd.S_drewN | apply Kd.S_drew)); exact HO_8.out) (Kd.S_typed (by (with_reducible repeat (first | apply Kd.S_alloc | apply Kd.S_drewN | apply Kd.S_drew)); exact HO_3.out)) (by decide) hg); have n1_ := Aside0.mk (Kd.R_over' (by (with_reducible repeat (first | apply Kd.R_alloc | apply Kd.R_drewN | apply Kd.R_drew)); exact HL165_0.out) (Kd.S_typed (by (with_reducible repeat (first | apply Kd.S_alloc | apply Kd.S_drewN | apply Kd.S_drew)); exact HO_3.out)) (by decide) hg); have n2_ := Aside0.mk (hb); have n3_ := Aside0.mk (ho); clear HO_8; clear HL165_0; clear HB; clear HO_3; clear HO168; have HO_8 := n0_; have HL165_0 := n1_; have HB := n2_; have HO171 := n3_; clear n0_ n1_ n2_ n3_; clear ho hb hg hat))
              go_roundg k1
              case measure => have := HK1.out; omega
              case rel => exact ⟨(y169), (wrap64 (x10_1 + 1)), (by first | rfl | (simp; done) | (simp [*]; done)), H', ⟨by have := HK1.out; omega⟩, ⟨by (with_reducible repeat (first | apply Kd.S_alloc | apply Kd.S_drewN | apply Kd.S_drew)); exact HO171.out⟩, ⟨by (with_reducible repeat (first | apply Kd.S_alloc | apply Kd.S_drewN | apply Kd.S_drew)); exact HO_8.out⟩, ⟨by repeat (first | (with_reducible first | exact HB.out | apply below_alloc | apply pw_below_drewN | apply below_drew1) | exact HB.out)⟩⟩
            · rw [if_neg c12] at H
              exact absurd H (by simp)
          · rw [if_neg c10] at H
            exact absurd H (by simp)
        · rw [if_neg c9] at H
          exact absurd H (by simp)
      · rw [if_neg c8] at H
        have c8b0 : decide (x10_1 < (t162.length : Int)) = false := decide_eq_false c8
        clear c8
        obtain rfl := Option.some.inj H
        go_wp2
        go_ret
        exact ⟨_, by first | rfl | (simp [errW_none, errW_some] <;> rfl) | (simp [*, errW_none, errW_some] <;> rfl), by (with_reducible repeat (first | apply Kd.S_alloc | apply Kd.S_drewN | apply Kd.S_drew)); exact HO_3.out, by repeat (first | (with_reducible first | exact HB.out | apply below_alloc | apply pw_below_drewN | apply below_drew1) | exact HB.out)⟩

/-! ### laws_waking: function 14 -/
def laws_waking.f (k : Nat)  : Option (Bool) := (impl_SplitLines.f k (([(⟨1000, (⟨#[105, 102, 10, 120]⟩ : ByteArray)⟩ : S27), (⟨2000, (⟨#[121]⟩ : ByteArray)⟩ : S27)] : List (S27)))).bind fun t175 => (if (t175.length : Int) = 2 then (if 0 < (t175.length : Int) then ((laws_text.f k (rd_L5 t175 0)).bind fun t179 => (if t179.toList = ([105, 102, 10] : List UInt8) then (if 1 < (t175.length : Int) then ((laws_text.f k (rd_L5 t175 1)).bind fun t181 => (some (t181.toList == ([120, 121] : List UInt8)))) else (none)) else (some false))) else (none)) else (some false))
theorem laws_waking.mono : ∀ k, LeO (laws_waking.f k ) (laws_waking.f (k + 1) ) := by
  intro  k
  unfold laws_waking.f
  repeat' first
      | (with_reducible exact impl_SplitLines.mono _ _)
      | (with_reducible exact laws_text.mono _ _)
      | (with_reducible exact LeO.refl _)
      | (with_reducible exact LeO.none _)
      | (with_reducible refine LeO.ite ?_ ?_)
      | (with_reducible refine LeO.bind ?_ (fun _ => ?_))
      | exact impl_SplitLines.mono _ _
      | exact laws_text.mono _ _
      | exact LeO.none _
      | refine LeO.ite ?_ ?_
      | refine LeO.bind ?_ (fun _ => ?_)
set_option maxHeartbeats 8000000 in
set_option maxRecDepth 100000 in
theorem laws_waking.calls (k : Nat)  (r : Bool) (w : World) (h : laws_waking.f k  = some r) :
    Calls Tryd.prog 14 #[] w fun e w' => e = .returned (.bool r) ∧ Below w.heap.size w w' := by
  have hu27 := Tryd.underlying27
  have HB := Aside0.mk (Below.refl w.heap.size w)
  have H : ((impl_SplitLines.f k (([(⟨1000, (⟨#[105, 102, 10, 120]⟩ : ByteArray)⟩ : S27), (⟨2000, (⟨#[121]⟩ : ByteArray)⟩ : S27)] : List (S27)))).bind fun t175 => (if (t175.length : Int) = 2 then (if 0 < (t175.length : Int) then ((laws_text.f k (rd_L5 t175 0)).bind fun t179 => (if t179.toList = ([105, 102, 10] : List UInt8) then (if 1 < (t175.length : Int) then ((laws_text.f k (rd_L5 t175 1)).bind fun t181 => (some (t181.toList == ([120, 121] : List UInt8)))) else (none)) else (some false))) else (none)) else (some false))) = some r := h
  clear h
  obtain ⟨y172, hy172⟩ : ∃ y_ : List (S27), y_ = (([(⟨1000, (⟨#[105, 102, 10, 120]⟩ : ByteArray)⟩ : S27), (⟨2000, (⟨#[121]⟩ : ByteArray)⟩ : S27)] : List (S27))) := ⟨_, rfl⟩
  replace H : ((impl_SplitLines.f k y172).bind fun t175 => (if (t175.length : Int) = 2 then (if 0 < (t175.length : Int) then ((laws_text.f k (rd_L5 t175 0)).bind fun t179 => (if t179.toList = ([105, 102, 10] : List UInt8) then (if 1 < (t175.length : Int) then ((laws_text.f k (rd_L5 t175 1)).bind fun t181 => (some (t181.toList == ([120, 121] : List UInt8)))) else (none)) else (some false))) else (none)) else (some false))) = some r := by first | (rw [hy172]; with_reducible exact H) | (have H2_ := (Option.bind_some _ _).symm.trans H; rw [hy172]; with_reducible exact H2_) | (have H2_ := (Option.bind_some _ _).symm.trans H; with_reducible exact H2_) | with_reducible exact H | (rw [hy172]; exact H) | exact H
  have Ny172 := Aside0.mk hy172
  clear hy172
  replace H := Option.bind_eq_some_iff.mp H
  obtain ⟨t175, A10, H⟩ := H
  replace H : (if (t175.length : Int) = 2 then (if 0 < (t175.length : Int) then ((laws_text.f k (rd_L5 t175 0)).bind fun t179 => (if t179.toList = ([105, 102, 10] : List UInt8) then (if 1 < (t175.length : Int) then ((laws_text.f k (rd_L5 t175 1)).bind fun t181 => (some (t181.toList == ([120, 121] : List UInt8)))) else (none)) else (some false))) else (none)) else (some false)) = some r := H
  have A1 := Aside0.mk A10
  clear A10
  by_cases c2 : (t175.length : Int) = 2
  · rw [if_pos c2] at H
    have c2b0 : ((t175.length : Int) == 2) = true := beq_iff_eq.mpr c2
    have c2b1 : ((t175.length : Int) != 2) = false := bne_eq_false_iff_eq.mpr c2
    clear c2
    by_cases c3 : 0 < (t175.length : Int)
    · rw [if_pos c3] at H
      have c3b0 : decide (0 < (t175.length : Int)) = true := decide_eq_true c3
      have c3b1 : decide (0 < t175.length) = true := decide_eq_true (by omega)
      clear c3
      replace H := Option.bind_eq_some_iff.mp H
      obtain ⟨t179, A40, H⟩ := H
      replace H : (if t179.toList = ([105, 102, 10] : List UInt8) then (if 1 < (t175.length : Int) then ((laws_text.f k (rd_L5 t175 1)).bind fun t181 => (some (t181.toList == ([120, 121] : List UInt8)))) else (none)) else (some false)) = some r := H
      have A4 := Aside0.mk A40
      clear A40
      by_cases c5 : t179.toList = ([105, 102, 10] : List UInt8)
      · rw [if_pos c5] at H
        have c5b0 : (t179.toList == ([105, 102, 10] : List UInt8)) = true := beq_iff_eq.mpr c5
        have c5b1 : (t179.toList != ([105, 102, 10] : List UInt8)) = false := bne_eq_false_iff_eq.mpr c5
        clear c5
        by_cases c6 : 1 < (t175.length : Int)
        · rw [if_pos c6] at H
          have c6b0 : decide (1 < (t175.length : Int)) = true := decide_eq_true c6
          have c6b1 : decide (1 < t175.length) = true := decide_eq_true (by omega)
          clear c6
          replace H := Option.bind_eq_some_iff.mp H
          obtain ⟨t181, A70, H⟩ := H
          replace H : (some (t181.toList == ([120, 121] : List UInt8))) = some r := H
          have A7 := Aside0.mk A70
          clear A70
          obtain rfl := Option.some.inj H
          go_enter Tryd.func14, Tryd.ntmps14
          go_wp2_with (first | ((with_reducible refine gate_dst (N := 4) rfl ?_); refine Kd.R_lit k27 _ 27 ?hg (N := 4) ?hd (xs := ([(⟨1000, (⟨#[105, 102, 10, 120]⟩ : ByteArray)⟩ : S27), (⟨2000, (⟨#[121]⟩ : ByteArray)⟩ : S27)] : List (S27))) (inner := [.int .i64 1000, .string (⟨#[105, 102, 10, 120]⟩ : ByteArray), .int .i64 2000, .string (⟨#[121]⟩ : ByteArray)]) (ok := fun _ => True) (okp := fun _ => True) ?hr ?hp (fun _ hk => hk) trivial (Below.refl _ _) (Nat.le_refl _) (by simp) ?_; (case hd => rfl); (case hg => rfl); (case hr => first | (go_simp; done) | (go_simp; rfl)); (case hp => exact (Reps.c2 (show Kd.M k27 _ _ _ (⟨1000, (⟨#[105, 102, 10, 120]⟩ : ByteArray)⟩ : S27) [.int .i64 1000, .string (⟨#[105, 102, 10, 120]⟩ : ByteArray)] from (k27_mkM _ _ _ (⟨1000, (⟨#[105, 102, 10, 120]⟩ : ByteArray)⟩ : S27) )) (Reps.c2 (show Kd.M k27 _ _ _ (⟨2000, (⟨#[121]⟩ : ByteArray)⟩ : S27) [.int .i64 2000, .string (⟨#[121]⟩ : ByteArray)] from (k27_mkM _ _ _ (⟨2000, (⟨#[121]⟩ : ByteArray)⟩ : S27) )) (Reps.none _ _)))); intro v173 w8 ho9 hb hg_ hnew_; clear hg_ hnew_; (first | rw [← Ny172.out] at ho9 | (simp only [Int.reduceToNat] at ho9; rw [← Ny172.out] at ho9)); have n0_ := Aside0.mk (Kd.R_lower ho9 (below_size (by repeat (first | (with_reducible first | exact HB.out | apply below_alloc | apply pw_below_drewN | apply below_drew1) | exact HB.out)))); have n1_ := Aside0.mk (below_step (by repeat (first | (with_reducible first | exact HB.out | apply below_alloc | apply pw_below_drewN | apply below_drew1) | exact HB.out)) hb); clear HB; have HO174 := n0_; have HB := n1_; clear n0_ n1_; clear hb ho9; obtain ⟨Ao10, co10, eo10⟩ := Kd.R_slice HO174.out; subst eo10) | ((with_reducible refine gate_callee (f := 27) rfl ?_); refine goesL_ (some 5) rfl rfl Tryd.func27 (by kernel_rfl) rfl #[.slice Ao10 y172.length co10] rfl (by (try simp only [List.map_toArray, List.map_cons, List.map_nil]); first | done | rfl | (simp only [List.length_drop, List.length_take]; rfl)) ?_; (with_reducible refine (impl_SplitLines.calls k _ _ y172 t175 _ ?side1 ?side2 A1.out).mono ?_); (case side1 => repeat (first | exact (Kd.R_reads' HO174.out).2.2 | (with_reducible refine Kd.C_alloc ?_ _) | (with_reducible refine Kd.C_drewN ?_ _) | (with_reducible refine Kd.C_drew ?_))); (case side2 => exact (Kd.R_reads' HO174.out).2.1); rintro e w11 ⟨v176, rfl, ho0, hb⟩; refine ⟨_, rfl, ?_⟩; have n0_ := Aside0.mk (Kd.R_below (by (with_reducible repeat (first | apply Kd.R_alloc | apply Kd.R_drewN | apply Kd.R_drew)); exact HO174.out) hb); have n1_ := Aside0.mk (Kd.S_lower (Kd.S_new' ho0 (Kd.R_lt (by (with_reducible repeat (first | apply Kd.R_alloc | apply Kd.R_drewN | apply Kd.R_drew)); exact HO174.out))) (below_size (by repeat (first | (with_reducible first | exact HB.out | apply below_alloc | apply pw_below_drewN | apply below_drew1) | exact HB.out)))); have n2_ := Aside0.mk (below_step (by repeat (first | (with_reducible first | exact HB.out | apply below_alloc | apply pw_below_drewN | apply below_drew1) | exact HB.out)) hb); clear HO174; clear HB; have HO174 := n0_; have HO177 := n1_; have HB := n2_; clear n0_ n1_ n2_; (try clear hb); (try clear hb2); (try clear hk); (try clear hi); (try clear ho0); obtain ⟨Ao12, co12, eo12⟩ := Kd.S_slice HO177.out; subst eo12; have p178 : 0 ≤ (0 : Int) := (by omega); have q178 : 0 < (t175.length : Int) := of_decide_eq_true (by first | (with_reducible assumption) | assumption); obtain ⟨ad178, A178_0, c178_0, e178, hx178_0, hl178_0, hi178_0⟩ := at_L5 (Kd.S_reads' HO177.out).2.2 0 p178 q178; cases e178; obtain ⟨ce178, hce178, hMe178, hcc178⟩ := Kd.S_get HO177.out [] 0 p178 (by first | exact q178 | exact of_decide_eq_true (by first | (with_reducible assumption) | assumption) | (have e_ := (Kd.S_reads' HO177.out).1; omega)); obtain ⟨ve178_0, rfl, ge178_0⟩ := hMe178; have hv178_0 := hcc178 0 _ rfl; rw [Nat.add_zero, show ((Kd.slice 27 k27)).sz = 1 from rfl, Nat.mul_one] at hv178_0; replace hv178_0 := Option.some.inj (hv178_0.symm.trans hx178_0); rw [hv178_0] at ge178_0; have HL178_0 := Aside0.mk (show Kd.R k27 27 _ _ _ _ (rd_L5 t175 0) from ge178_0); clear hv178_0 ge178_0; clear hcc178 hce178; have qi178 : (0 < t175.length) = True := eq_true (by omega); (try rw [show ((0 : Int)).toNat = 0 from rfl] at hx178_0); (try rw [Addr.add_zero'] at hx178_0); have HR178_0 := Aside0.mk hi178_0; have HC178_0 := Aside0.mk hl178_0; clear hi178_0 hl178_0; replace p178 := eq_true p178; replace q178 := eq_true q178) | (go_at_call 15; (with_reducible refine (laws_text.calls k _ _ (rd_L5 t175 0) t179 _ ?side1 ?side2 A4.out).mono ?_); (case side1 => repeat (first | exact (by repeat (first | (with_reducible exact HR178_0.out) | (with_reducible refine Kd.C_alloc ?_ _) | (with_reducible refine Kd.C_drewN ?_ _) | (with_reducible refine Kd.C_drew ?_) | exact HR178_0.out)) | (with_reducible refine Kd.C_alloc ?_ _) | (with_reducible refine Kd.C_drewN ?_ _) | (with_reducible refine Kd.C_drew ?_))); (case side2 => exact HC178_0.out); rintro e w13 ⟨rfl, hb⟩; have n0_ := Aside0.mk (Kd.R_below (by (with_reducible repeat (first | apply Kd.R_alloc | apply Kd.R_drewN | apply Kd.R_drew)); exact HO174.out) hb); have n1_ := Aside0.mk (Kd.S_below (by (with_reducible repeat (first | apply Kd.S_alloc | apply Kd.S_drewN | apply Kd.S_drew)); exact HO177.out) hb); have n2_ := Aside0.mk (Kd.R_below (by (with_reducible repeat (first | apply Kd.R_alloc | apply Kd.R_drewN | apply Kd.R_drew)); exact HL178_0.out) hb); have n3_ := Aside0.mk (Kd.C_below (by repeat (first | (with_reducible exact HR178_0.out) | (with_reducible refine Kd.C_alloc ?_ _) | (with_reducible refine Kd.C_drewN ?_ _) | (with_reducible refine Kd.C_drew ?_) | exact HR178_0.out)) hb); have n4_ := Aside0.mk (below_step (by repeat (first | (with_reducible first | exact HB.out | apply below_alloc | apply pw_below_drewN | apply below_drew1) | exact HB.out)) hb); clear HO174; clear HO177; clear HL178_0; clear HR178_0; clear HB; have HO174 := n0_; have HO177 := n1_; have HL178_0 := n2_; have HR178_0 := n3_; have HB := n4_; clear n0_ n1_ n2_ n3_ n4_; (try clear hb); (try clear hb2); (try clear hk); (try clear hi); have p180 : 0 ≤ (1 : Int) := (by omega); have q180 : 1 < (t175.length : Int) := of_decide_eq_true (by first | (with_reducible assumption) | assumption); obtain ⟨ad180, A180_0, c180_0, e180, hx180_0, hl180_0, hi180_0⟩ := at_L5 (Kd.S_reads' HO177.out).2.2 1 p180 q180; obtain rfl : ad178 = ad180 := (by injection e180); obtain ⟨ce180, hce180, hMe180, hcc180⟩ := Kd.S_get HO177.out [] 1 p180 (by first | exact q180 | exact of_decide_eq_true (by first | (with_reducible assumption) | assumption) | (have e_ := (Kd.S_reads' HO177.out).1; omega)); obtain ⟨ve180_0, rfl, ge180_0⟩ := hMe180; have hv180_0 := hcc180 0 _ rfl; rw [Nat.add_zero, show ((Kd.slice 27 k27)).sz = 1 from rfl, Nat.mul_one] at hv180_0; replace hv180_0 := Option.some.inj (hv180_0.symm.trans hx180_0); rw [hv180_0] at ge180_0; have HL180_0 := Aside0.mk (show Kd.R k27 27 _ _ _ _ (rd_L5 t175 1) from ge180_0); clear hv180_0 ge180_0; clear hcc180 hce180; (try simp only [show (1 : Int).toNat = 1 from rfl, Nat.reduceMul, Nat.reduceEqDiff, Go.Addr.add, ↓reduceIte] at hx180_0); have qi180 : (1 < t175.length) = True := eq_true (by omega); (try rw [show ((1 : Int)).toNat = 1 from rfl] at hx180_0); have HR180_0 := Aside0.mk hi180_0; have HC180_0 := Aside0.mk hl180_0; clear hi180_0 hl180_0; replace p180 := eq_true p180; replace q180 := eq_true q180) | (go_at_call 15; (with_reducible refine (laws_text.calls k _ _ (rd_L5 t175 1) t181 _ ?side1 ?side2 A7.out).mono ?_); (case side1 => repeat (first | exact (by repeat (first | (with_reducible exact HR180_0.out) | (with_reducible refine Kd.C_alloc ?_ _) | (with_reducible refine Kd.C_drewN ?_ _) | (with_reducible refine Kd.C_drew ?_) | exact HR180_0.out)) | (with_reducible refine Kd.C_alloc ?_ _) | (with_reducible refine Kd.C_drewN ?_ _) | (with_reducible refine Kd.C_drew ?_))); (case side2 => exact HC180_0.out); rintro e w14 ⟨rfl, hb⟩; have n0_ := Aside0.mk (Kd.R_below (by (with_reducible repeat (first | apply Kd.R_alloc | apply Kd.R_drewN | apply Kd.R_drew)); exact HO174.out) hb); have n1_ := Aside0.mk (Kd.S_below (by (with_reducible repeat (first | apply Kd.S_alloc | apply Kd.S_drewN | apply Kd.S_drew)); exact HO177.out) hb); have n2_ := Aside0.mk (Kd.R_below (by (with_reducible repeat (first | apply Kd.R_alloc | apply Kd.R_drewN | apply Kd.R_drew)); exact HL178_0.out) hb); have n3_ := Aside0.mk (Kd.R_below (by (with_reducible repeat (first | apply Kd.R_alloc | apply Kd.R_drewN | apply Kd.R_drew)); exact HL180_0.out) hb); have n4_ := Aside0.mk (Kd.C_below (by repeat (first | (with_reducible exact HR178_0.out) | (with_reducible refine Kd.C_alloc ?_ _) | (with_reducible refine Kd.C_drewN ?_ _) | (with_reducible refine Kd.C_drew ?_) | exact HR178_0.out)) hb); have n5_ := Aside0.mk (Kd.C_below (by repeat (first | (with_reducible exact HR180_0.out) | (with_reducible refine Kd.C_alloc ?_ _) | (with_reducible refine Kd.C_drewN ?_ _) | (with_reducible refine Kd.C_drew ?_) | exact HR180_0.out)) hb); have n6_ := Aside0.mk (below_step (by repeat (first | (with_reducible first | exact HB.out | apply below_alloc | apply pw_below_drewN | apply below_drew1) | exact HB.out)) hb); clear HO174; clear HO177; clear HL178_0; clear HL180_0; clear HR178_0; clear HR180_0; clear HB; have HO174 := n0_; have HO177 := n1_; have HL178_0 := n2_; have HL180_0 := n3_; have HR178_0 := n4_; have HR180_0 := n5_; have HB := n6_; clear n0_ n1_ n2_ n3_ n4_ n5_ n6_; (try clear hb); (try clear hb2); (try clear hk); (try clear hi)))
          go_ret
          exact ⟨by first | rfl | (simp [errW_none, errW_some] <;> rfl) | (simp [*, errW_none, errW_some] <;> rfl), by repeat (first | (with_reducible first | exact HB.out | apply below_alloc | apply pw_below_drewN | apply below_drew1) | exact HB.out)⟩
        · rw [if_neg c6] at H
          exact absurd H (by simp)
      · rw [if_neg c5] at H
        have c5b0 : (t179.toList == ([105, 102, 10] : List UInt8)) = false := beq_eq_false_iff_ne.mpr c5
        have c5b1 : (t179.toList != ([105, 102, 10] : List UInt8)) = true := bne_iff_ne.mpr c5
        obtain rfl := Option.some.inj H
        go_enter Tryd.func14, Tryd.ntmps14
        go_wp2_with (first | ((with_reducible refine gate_dst (N := 4) rfl ?_); refine Kd.R_lit k27 _ 27 ?hg (N := 4) ?hd (xs := ([(⟨1000, (⟨#[105, 102, 10, 120]⟩ : ByteArray)⟩ : S27), (⟨2000, (⟨#[121]⟩ : ByteArray)⟩ : S27)] : List (S27))) (inner := [.int .i64 1000, .string (⟨#[105, 102, 10, 120]⟩ : ByteArray), .int .i64 2000, .string (⟨#[121]⟩ : ByteArray)]) (ok := fun _ => True) (okp := fun _ => True) ?hr ?hp (fun _ hk => hk) trivial (Below.refl _ _) (Nat.le_refl _) (by simp) ?_; (case hd => rfl); (case hg => rfl); (case hr => first | (go_simp; done) | (go_simp; rfl)); (case hp => exact (Reps.c2 (show Kd.M k27 _ _ _ (⟨1000, (⟨#[105, 102, 10, 120]⟩ : ByteArray)⟩ : S27) [.int .i64 1000, .string (⟨#[105, 102, 10, 120]⟩ : ByteArray)] from (k27_mkM _ _ _ (⟨1000, (⟨#[105, 102, 10, 120]⟩ : ByteArray)⟩ : S27) )) (Reps.c2 (show Kd.M k27 _ _ _ (⟨2000, (⟨#[121]⟩ : ByteArray)⟩ : S27) [.int .i64 2000, .string (⟨#[121]⟩ : ByteArray)] from (k27_mkM _ _ _ (⟨2000, (⟨#[121]⟩ : ByteArray)⟩ : S27) )) (Reps.none _ _)))); intro v173 w15 ho16 hb hg_ hnew_; clear hg_ hnew_; (first | rw [← Ny172.out] at ho16 | (simp only [Int.reduceToNat] at ho16; rw [← Ny172.out] at ho16)); have n0_ := Aside0.mk (Kd.R_lower ho16 (below_size (by repeat (first | (with_reducible first | exact HB.out | apply below_alloc | apply pw_below_drewN | apply below_drew1) | exact HB.out)))); have n1_ := Aside0.mk (below_step (by repeat (first | (with_reducible first | exact HB.out | apply below_alloc | apply pw_below_drewN | apply below_drew1) | exact HB.out)) hb); clear HB; have HO174 := n0_; have HB := n1_; clear n0_ n1_; clear hb ho16; obtain ⟨Ao17, co17, eo17⟩ := Kd.R_slice HO174.out; subst eo17) | ((with_reducible refine gate_callee (f := 27) rfl ?_); refine goesL_ (some 5) rfl rfl Tryd.func27 (by kernel_rfl) rfl #[.slice Ao17 y172.length co17] rfl (by (try simp only [List.map_toArray, List.map_cons, List.map_nil]); first | done | rfl | (simp only [List.length_drop, List.length_take]; rfl)) ?_; (with_reducible refine (impl_SplitLines.calls k _ _ y172 t175 _ ?side1 ?side2 A1.out).mono ?_); (case side1 => repeat (first | exact (Kd.R_reads' HO174.out).2.2 | (with_reducible refine Kd.C_alloc ?_ _) | (with_reducible refine Kd.C_drewN ?_ _) | (with_reducible refine Kd.C_drew ?_))); (case side2 => exact (Kd.R_reads' HO174.out).2.1); rintro e w18 ⟨v176, rfl, ho0, hb⟩; refine ⟨_, rfl, ?_⟩; have n0_ := Aside0.mk (Kd.R_below (by (with_reducible repeat (first | apply Kd.R_alloc | apply Kd.R_drewN | apply Kd.R_drew)); exact HO174.out) hb); have n1_ := Aside0.mk (Kd.S_lower (Kd.S_new' ho0 (Kd.R_lt (by (with_reducible repeat (first | apply Kd.R_alloc | apply Kd.R_drewN | apply Kd.R_drew)); exact HO174.out))) (below_size (by repeat (first | (with_reducible first | exact HB.out | apply below_alloc | apply pw_below_drewN | apply below_drew1) | exact HB.out)))); have n2_ := Aside0.mk (below_step (by repeat (first | (with_reducible first | exact HB.out | apply below_alloc | apply pw_below_drewN | apply below_drew1) | exact HB.out)) hb); clear HO174; clear HB; have HO174 := n0_; have HO177 := n1_; have HB := n2_; clear n0_ n1_ n2_; (try clear hb); (try clear hb2); (try clear hk); (try clear hi); (try clear ho0); obtain ⟨Ao19, co19, eo19⟩ := Kd.S_slice HO177.out; subst eo19; have p178 : 0 ≤ (0 : Int) := (by omega); have q178 : 0 < (t175.length : Int) := of_decide_eq_true (by first | (with_reducible assumption) | assumption); obtain ⟨ad178, A178_0, c178_0, e178, hx178_0, hl178_0, hi178_0⟩ := at_L5 (Kd.S_reads' HO177.out).2.2 0 p178 q178; cases e178; obtain ⟨ce178, hce178, hMe178, hcc178⟩ := Kd.S_get HO177.out [] 0 p178 (by first | exact q178 | exact of_decide_eq_true (by first | (with_reducible assumption) | assumption) | (have e_ := (Kd.S_reads' HO177.out).1; omega)); obtain ⟨ve178_0, rfl, ge178_0⟩ := hMe178; have hv178_0 := hcc178 0 _ rfl; rw [Nat.add_zero, show ((Kd.slice 27 k27)).sz = 1 from rfl, Nat.mul_one] at hv178_0; replace hv178_0 := Option.some.inj (hv178_0.symm.trans hx178_0); rw [hv178_0] at ge178_0; have HL178_0 := Aside0.mk (show Kd.R k27 27 _ _ _ _ (rd_L5 t175 0) from ge178_0); clear hv178_0 ge178_0; clear hcc178 hce178; have qi178 : (0 < t175.length) = True := eq_true (by omega); (try rw [show ((0 : Int)).toNat = 0 from rfl] at hx178_0); (try rw [Addr.add_zero'] at hx178_0); have HR178_0 := Aside0.mk hi178_0; have HC178_0 := Aside0.mk hl178_0; clear hi178_0 hl178_0; replace p178 := eq_true p178; replace q178 := eq_true q178) | (go_at_call 15; (with_reducible refine (laws_text.calls k _ _ (rd_L5 t175 0) t179 _ ?side1 ?side2 A4.out).mono ?_); (case side1 => repeat (first | exact (by repeat (first | (with_reducible exact HR178_0.out) | (with_reducible refine Kd.C_alloc ?_ _) | (with_reducible refine Kd.C_drewN ?_ _) | (with_reducible refine Kd.C_drew ?_) | exact HR178_0.out)) | (with_reducible refine Kd.C_alloc ?_ _) | (with_reducible refine Kd.C_drewN ?_ _) | (with_reducible refine Kd.C_drew ?_))); (case side2 => exact HC178_0.out); rintro e w20 ⟨rfl, hb⟩; have n0_ := Aside0.mk (Kd.R_below (by (with_reducible repeat (first | apply Kd.R_alloc | apply Kd.R_drewN | apply Kd.R_drew)); exact HO174.out) hb); have n1_ := Aside0.mk (Kd.S_below (by (with_reducible repeat (first | apply Kd.S_alloc | apply Kd.S_drewN | apply Kd.S_drew)); exact HO177.out) hb); have n2_ := Aside0.mk (Kd.R_below (by (with_reducible repeat (first | apply Kd.R_alloc | apply Kd.R_drewN | apply Kd.R_drew)); exact HL178_0.out) hb); have n3_ := Aside0.mk (Kd.C_below (by repeat (first | (with_reducible exact HR178_0.out) | (with_reducible refine Kd.C_alloc ?_ _) | (with_reducible refine Kd.C_drewN ?_ _) | (with_reducible refine Kd.C_drew ?_) | exact HR178_0.out)) hb); have n4_ := Aside0.mk (below_step (by repeat (first | (with_reducible first | exact HB.out | apply below_alloc | apply pw_below_drewN | apply below_drew1) | exact HB.out)) hb); clear HO174; clear HO177; clear HL178_0; clear HR178_0; clear HB; have HO174 := n0_; have HO177 := n1_; have HL178_0 := n2_; have HR178_0 := n3_; have HB := n4_; clear n0_ n1_ n2_ n3_ n4_; (try clear hb); (try clear hb2); (try clear hk); (try clear hi)))
        go_ret
        exact ⟨by first | rfl | (simp [errW_none, errW_some] <;> rfl) | (simp [*, errW_none, errW_some] <;> rfl), by repeat (first | (with_reducible first | exact HB.out | apply below_alloc | apply pw_below_drewN | apply below_drew1) | exact HB.out)⟩
    · rw [if_neg c3] at H
      exact absurd H (by simp)
  · rw [if_neg c2] at H
    have c2b0 : ((t175.length : Int) == 2) = false := beq_eq_false_iff_ne.mpr c2
    have c2b1 : ((t175.length : Int) != 2) = true := bne_iff_ne.mpr c2
    obtain rfl := Option.some.inj H
    go_enter Tryd.func14, Tryd.ntmps14
    go_wp2_with (first | ((with_reducible refine gate_dst (N := 4) rfl ?_); refine Kd.R_lit k27 _ 27 ?hg (N := 4) ?hd (xs := ([(⟨1000, (⟨#[105, 102, 10, 120]⟩ : ByteArray)⟩ : S27), (⟨2000, (⟨#[121]⟩ : ByteArray)⟩ : S27)] : List (S27))) (inner := [.int .i64 1000, .string (⟨#[105, 102, 10, 120]⟩ : ByteArray), .int .i64 2000, .string (⟨#[121]⟩ : ByteArray)]) (ok := fun _ => True) (okp := fun _ => True) ?hr ?hp (fun _ hk => hk) trivial (Below.refl _ _) (Nat.le_refl _) (by simp) ?_; (case hd => rfl); (case hg => rfl); (case hr => first | (go_simp; done) | (go_simp; rfl)); (case hp => exact (Reps.c2 (show Kd.M k27 _ _ _ (⟨1000, (⟨#[105, 102, 10, 120]⟩ : ByteArray)⟩ : S27) [.int .i64 1000, .string (⟨#[105, 102, 10, 120]⟩ : ByteArray)] from (k27_mkM _ _ _ (⟨1000, (⟨#[105, 102, 10, 120]⟩ : ByteArray)⟩ : S27) )) (Reps.c2 (show Kd.M k27 _ _ _ (⟨2000, (⟨#[121]⟩ : ByteArray)⟩ : S27) [.int .i64 2000, .string (⟨#[121]⟩ : ByteArray)] from (k27_mkM _ _ _ (⟨2000, (⟨#[121]⟩ : ByteArray)⟩ : S27) )) (Reps.none _ _)))); intro v173 w21 ho22 hb hg_ hnew_; clear hg_ hnew_; (first | rw [← Ny172.out] at ho22 | (simp only [Int.reduceToNat] at ho22; rw [← Ny172.out] at ho22)); have n0_ := Aside0.mk (Kd.R_lower ho22 (below_size (by repeat (first | (with_reducible first | exact HB.out | apply below_alloc | apply pw_below_drewN | apply below_drew1) | exact HB.out)))); have n1_ := Aside0.mk (below_step (by repeat (first | (with_reducible first | exact HB.out | apply below_alloc | apply pw_below_drewN | apply below_drew1) | exact HB.out)) hb); clear HB; have HO174 := n0_; have HB := n1_; clear n0_ n1_; clear hb ho22; obtain ⟨Ao23, co23, eo23⟩ := Kd.R_slice HO174.out; subst eo23) | ((with_reducible refine gate_callee (f := 27) rfl ?_); refine goesL_ (some 5) rfl rfl Tryd.func27 (by kernel_rfl) rfl #[.slice Ao23 y172.length co23] rfl (by (try simp only [List.map_toArray, List.map_cons, List.map_nil]); first | done | rfl | (simp only [List.length_drop, List.length_take]; rfl)) ?_; (with_reducible refine (impl_SplitLines.calls k _ _ y172 t175 _ ?side1 ?side2 A1.out).mono ?_); (case side1 => repeat (first | exact (Kd.R_reads' HO174.out).2.2 | (with_reducible refine Kd.C_alloc ?_ _) | (with_reducible refine Kd.C_drewN ?_ _) | (with_reducible refine Kd.C_drew ?_))); (case side2 => exact (Kd.R_reads' HO174.out).2.1); rintro e w24 ⟨v176, rfl, ho0, hb⟩; refine ⟨_, rfl, ?_⟩; have n0_ := Aside0.mk (Kd.R_below (by (with_reducible repeat (first | apply Kd.R_alloc | apply Kd.R_drewN | apply Kd.R_drew)); exact HO174.out) hb); have n1_ := Aside0.mk (Kd.S_lower (Kd.S_new' ho0 (Kd.R_lt (by (with_reducible repeat (first | apply Kd.R_alloc | apply Kd.R_drewN | apply Kd.R_drew)); exact HO174.out))) (below_size (by repeat (first | (with_reducible first | exact HB.out | apply below_alloc | apply pw_below_drewN | apply below_drew1) | exact HB.out)))); have n2_ := Aside0.mk (below_step (by repeat (first | (with_reducible first | exact HB.out | apply below_alloc | apply pw_below_drewN | apply below_drew1) | exact HB.out)) hb); clear HO174; clear HB; have HO174 := n0_; have HO177 := n1_; have HB := n2_; clear n0_ n1_ n2_; (try clear hb); (try clear hb2); (try clear hk); (try clear hi); (try clear ho0); obtain ⟨Ao25, co25, eo25⟩ := Kd.S_slice HO177.out; subst eo25))
    go_ret
    exact ⟨by first | rfl | (simp [errW_none, errW_some] <;> rfl) | (simp [*, errW_none, errW_some] <;> rfl), by repeat (first | (with_reducible first | exact HB.out | apply below_alloc | apply pw_below_drewN | apply below_drew1) | exact HB.out)⟩

end Go.Proofs.YtmldahejeobohaaDoor.M
