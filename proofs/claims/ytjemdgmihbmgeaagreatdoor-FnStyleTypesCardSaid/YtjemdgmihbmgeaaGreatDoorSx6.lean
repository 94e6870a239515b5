-- WRITTEN BY OUR myprint.py, a program of this session's over the kit's printer
import Derived.Test.YtjemdgmihbmgeaaGreatDoorSx0
namespace Go.Proofs.YtjemdgmihbmgeaaGreatDoor.S
open Go.RowKit Go.Proofs.YtjemdgmihbmgeaaGreatDoorW.PrintWords Go.Proofs.YtjemdgmihbmgeaaGreatDoorW.PrintLast Go.Proofs.YtjemdgmihbmgeaaGreatDoorW.PrintMore
attribute [local go_sem] max2_int min2_int max_two min_two max_three min_three max_four min_four   -- for this text's walks alone
set_option linter.unusedVariables false
set_option linter.unusedSimpArgs false

/-! ### spec_EntryInherit: function 36 -/
mutual
def spec_EntryInherit.l0 : Nat → List (S62) → Int → Int → Int → Int → Int → Int → Int → Bool → Option (Int × Int × Int × Int × Int × Int × Bool)
  | 0, _, _, _, _, _, _, _, _, _ => none
  | k + 1, x1, x5, x144000, x144001, x144002, x144003, x144004, x144005, x144006 => if x5 ≥ 0 then (if 0 ≤ x5 then (if x5 < (x1.length : Int) then (if x144000 = 0 then (spec_EntryInherit.j1 k x1 x5 ((rd_T62 x1 x5).f0) x144001 x144002 x144003 x144004 x144005 x144006 ((rd_T62 x1 x5).f0) ((rd_T62 x1 x5).f1) ((rd_T62 x1 x5).f2) ((rd_T62 x1 x5).f3) ((rd_T62 x1 x5).f4) ((rd_T62 x1 x5).f5) ((rd_T62 x1 x5).f6)) else (spec_EntryInherit.j1 k x1 x5 x144000 x144001 x144002 x144003 x144004 x144005 x144006 ((rd_T62 x1 x5).f0) ((rd_T62 x1 x5).f1) ((rd_T62 x1 x5).f2) ((rd_T62 x1 x5).f3) ((rd_T62 x1 x5).f4) ((rd_T62 x1 x5).f5) ((rd_T62 x1 x5).f6))) else (none)) else (none)) else (some (x144000, x144001, x144002, x144003, x144004, x144005, x144006))
def spec_EntryInherit.j1 : Nat → List (S62) → Int → Int → Int → Int → Int → Int → Int → Bool → Int → Int → Int → Int → Int → Int → Bool → Option (Int × Int × Int × Int × Int × Int × Bool)
  | 0, _, _, _, _, _, _, _, _, _, _, _, _, _, _, _, _ => none
  | k + 1, x1, x5, x144000, x144001, x144002, x144003, x144004, x144005, x144006, x147000, x147001, x147002, x147003, x147004, x147005, x147006 => if x144001 = 0 then (spec_EntryInherit.j2 k x1 x5 x144000 x147001 x144002 x144003 x144004 x144005 x144006 x147000 x147001 x147002 x147003 x147004 x147005 x147006) else (spec_EntryInherit.j2 k x1 x5 x144000 x144001 x144002 x144003 x144004 x144005 x144006 x147000 x147001 x147002 x147003 x147004 x147005 x147006)
def spec_EntryInherit.j2 : Nat → List (S62) → Int → Int → Int → Int → Int → Int → Int → Bool → Int → Int → Int → Int → Int → Int → Bool → Option (Int × Int × Int × Int × Int × Int × Bool)
  | 0, _, _, _, _, _, _, _, _, _, _, _, _, _, _, _, _ => none
  | k + 1, x1, x5, x144000, x144001, x144002, x144003, x144004, x144005, x144006, x147000, x147001, x147002, x147003, x147004, x147005, x147006 => if x144002 = 0 then (spec_EntryInherit.j3 k x1 x5 x144000 x144001 x147002 x144003 x144004 x144005 x144006 x147000 x147001 x147002 x147003 x147004 x147005 x147006) else (spec_EntryInherit.j3 k x1 x5 x144000 x144001 x144002 x144003 x144004 x144005 x144006 x147000 x147001 x147002 x147003 x147004 x147005 x147006)
def spec_EntryInherit.j3 : Nat → List (S62) → Int → Int → Int → Int → Int → Int → Int → Bool → Int → Int → Int → Int → Int → Int → Bool → Option (Int × Int × Int × Int × Int × Int × Bool)
  | 0, _, _, _, _, _, _, _, _, _, _, _, _, _, _, _, _ => none
  | k + 1, x1, x5, x144000, x144001, x144002, x144003, x144004, x144005, x144006, x147000, x147001, x147002, x147003, x147004, x147005, x147006 => if x144003 = 0 then (spec_EntryInherit.j4 k x1 x5 x144000 x144001 x144002 x147003 x144004 x144005 x144006 x147000 x147001 x147002 x147003 x147004 x147005 x147006) else (spec_EntryInherit.j4 k x1 x5 x144000 x144001 x144002 x144003 x144004 x144005 x144006 x147000 x147001 x147002 x147003 x147004 x147005 x147006)
def spec_EntryInherit.j4 : Nat → List (S62) → Int → Int → Int → Int → Int → Int → Int → Bool → Int → Int → Int → Int → Int → Int → Bool → Option (Int × Int × Int × Int × Int × Int × Bool)
  | 0, _, _, _, _, _, _, _, _, _, _, _, _, _, _, _, _ => none
  | k + 1, x1, x5, x144000, x144001, x144002, x144003, x144004, x144005, x144006, x147000, x147001, x147002, x147003, x147004, x147005, x147006 => if x144004 = 0 then (if x144005 = 0 then (spec_EntryInherit.l0 k x1 (wrap64 (x5 - 1)) x144000 x144001 x144002 x144003 x147004 x147005 x144006) else (spec_EntryInherit.l0 k x1 (wrap64 (x5 - 1)) x144000 x144001 x144002 x144003 x147004 x144005 x144006)) else (if x144005 = 0 then (spec_EntryInherit.l0 k x1 (wrap64 (x5 - 1)) x144000 x144001 x144002 x144003 x144004 x147005 x144006) else (spec_EntryInherit.l0 k x1 (wrap64 (x5 - 1)) x144000 x144001 x144002 x144003 x144004 x144005 x144006))
end
def spec_EntryInherit.f (k : Nat) (a0_0 : Int) (a0_1 : Int) (a0_2 : Int) (a0_3 : Int) (a0_4 : Int) (a0_5 : Int) (a0_6 : Bool) (l1 : List (S62)) : Option (Int × Int × Int × Int × Int × Int × Bool) := if a0_6 = true then (some (a0_0, a0_1, a0_2, a0_3, a0_4, a0_5, a0_6)) else (spec_EntryInherit.l0 k l1 (wrap64 ((l1.length : Int) - 1)) a0_0 a0_1 a0_2 a0_3 a0_4 a0_5 a0_6)
theorem spec_EntryInherit.mono_l : ∀ k, (∀ y0 y1 y2 y3 y4 y5 y6 y7 y8, LeO (spec_EntryInherit.l0 k y0 y1 y2 y3 y4 y5 y6 y7 y8) (spec_EntryInherit.l0 (k + 1) y0 y1 y2 y3 y4 y5 y6 y7 y8)) ∧ (∀ y0 y1 y2 y3 y4 y5 y6 y7 y8 y9 y10 y11 y12 y13 y14 y15, LeO (spec_EntryInherit.j1 k y0 y1 y2 y3 y4 y5 y6 y7 y8 y9 y10 y11 y12 y13 y14 y15) (spec_EntryInherit.j1 (k + 1) y0 y1 y2 y3 y4 y5 y6 y7 y8 y9 y10 y11 y12 y13 y14 y15)) ∧ (∀ y0 y1 y2 y3 y4 y5 y6 y7 y8 y9 y10 y11 y12 y13 y14 y15, LeO (spec_EntryInherit.j2 k y0 y1 y2 y3 y4 y5 y6 y7 y8 y9 y10 y11 y12 y13 y14 y15) (spec_EntryInherit.j2 (k + 1) y0 y1 y2 y3 y4 y5 y6 y7 y8 y9 y10 y11 y12 y13 y14 y15)) ∧ (∀ y0 y1 y2 y3 y4 y5 y6 y7 y8 y9 y10 y11 y12 y13 y14 y15, LeO (spec_EntryInherit.j3 k y0 y1 y2 y3 y4 y5 y6 y7 y8 y9 y10 y11 y12 y13 y14 y15) (spec_EntryInherit.j3 (k + 1) y0 y1 y2 y3 y4 y5 y6 y7 y8 y9 y10 y11 y12 y13 y14 y15)) ∧ (∀ y0 y1 y2 y3 y4 y5 y6 y7 y8 y9 y10 y11 y12 y13 y14 y15, LeO (spec_EntryInherit.j4 k y0 y1 y2 y3 y4 y5 y6 y7 y8 y9 y10 y11 y12 y13 y14 y15) (spec_EntryInherit.j4 (k + 1) y0 y1 y2 y3 y4 y5 y6 y7 y8 y9 y10 y11 y12 y13 y14 y15))
  | 0 => ⟨fun _ _ _ _ _ _ _ _ _ r h => by simp [spec_EntryInherit.l0] at h, fun _ _ _ _ _ _ _ _ _ _ _ _ _ _ _ _ r h => by simp [spec_EntryInherit.j1] at h, fun _ _ _ _ _ _ _ _ _ _ _ _ _ _ _ _ r h => by simp [spec_EntryInherit.j2] at h, fun _ _ _ _ _ _ _ _ _ _ _ _ _ _ _ _ r h => by simp [spec_EntryInherit.j3] at h, fun _ _ _ _ _ _ _ _ _ _ _ _ _ _ _ _ r h => by simp [spec_EntryInherit.j4] at h⟩
  | k + 1 => by
    obtain ⟨ih0, ih1, ih2, ih3, ih4⟩ := spec_EntryInherit.mono_l k
    refine ⟨?_, ?_, ?_, ?_, ?_⟩
    · intro y0 y1 y2 y3 y4 y5 y6 y7 y8
      unfold spec_EntryInherit.l0
      repeat' first
      | (with_reducible exact ih0 _ _ _ _ _ _ _ _ _)
      | (with_reducible exact ih1 _ _ _ _ _ _ _ _ _ _ _ _ _ _ _ _)
      | (with_reducible exact ih2 _ _ _ _ _ _ _ _ _ _ _ _ _ _ _ _)
      | (with_reducible exact ih3 _ _ _ _ _ _ _ _ _ _ _ _ _ _ _ _)
      | (with_reducible exact ih4 _ _ _ _ _ _ _ _ _ _ _ _ _ _ _ _)
      | (with_reducible exact LeO.refl _)
      | (with_reducible exact LeO.none _)
      | (with_reducible refine LeO.ite ?_ ?_)
      | (with_reducible refine LeO.bind ?_ (fun _ => ?_))
      | exact ih0 _ _ _ _ _ _ _ _ _
      | exact ih1 _ _ _ _ _ _ _ _ _ _ _ _ _ _ _ _
      | exact ih2 _ _ _ _ _ _ _ _ _ _ _ _ _ _ _ _
      | exact ih3 _ _ _ _ _ _ _ _ _ _ _ _ _ _ _ _
      | exact ih4 _ _ _ _ _ _ _ _ _ _ _ _ _ _ _ _
      | exact LeO.none _
      | refine LeO.ite ?_ ?_
      | refine LeO.bind ?_ (fun _ => ?_)
    · intro y0 y1 y2 y3 y4 y5 y6 y7 y8 y9 y10 y11 y12 y13 y14 y15
      unfold spec_EntryInherit.j1
      repeat' first
      | (with_reducible exact ih0 _ _ _ _ _ _ _ _ _)
      | (with_reducible exact ih1 _ _ _ _ _ _ _ _ _ _ _ _ _ _ _ _)
      | (with_reducible exact ih2 _ _ _ _ _ _ _ _ _ _ _ _ _ _ _ _)
      | (with_reducible exact ih3 _ _ _ _ _ _ _ _ _ _ _ _ _ _ _ _)
      | (with_reducible exact ih4 _ _ _ _ _ _ _ _ _ _ _ _ _ _ _ _)
      | (with_reducible exact LeO.refl _)
      | (with_reducible exact LeO.none _)
      | (with_reducible refine LeO.ite ?_ ?_)
      | (with_reducible refine LeO.bind ?_ (fun _ => ?_))
      | exact ih0 _ _ _ _ _ _ _ _ _
      | exact ih1 _ _ _ _ _ _ _ _ _ _ _ _ _ _ _ _
      | exact ih2 _ _ _ _ _ _ _ _ _ _ _ _ _ _ _ _
      | exact ih3 _ _ _ _ _ _ _ _ _ _ _ _ _ _ _ _
      | exact ih4 _ _ _ _ _ _ _ _ _ _ _ _ _ _ _ _
      | exact LeO.none _
      | refine LeO.ite ?_ ?_
      | refine LeO.bind ?_ (fun _ => ?_)
    · intro y0 y1 y2 y3 y4 y5 y6 y7 y8 y9 y10 y11 y12 y13 y14 y15
      unfold spec_EntryInherit.j2
      repeat' first
      | (with_reducible exact ih0 _ _ _ _ _ _ _ _ _)
      | (with_reducible exact ih1 _ _ _ _ _ _ _ _ _ _ _ _ _ _ _ _)
      | (with_reducible exact ih2 _ _ _ _ _ _ _ _ _ _ _ _ _ _ _ _)
      | (with_reducible exact ih3 _ _ _ _ _ _ _ _ _ _ _ _ _ _ _ _)
      | (with_reducible exact ih4 _ _ _ _ _ _ _ _ _ _ _ _ _ _ _ _)
      | (with_reducible exact LeO.refl _)
      | (with_reducible exact LeO.none _)
      | (with_reducible refine LeO.ite ?_ ?_)
      | (with_reducible refine LeO.bind ?_ (fun _ => ?_))
      | exact ih0 _ _ _ _ _ _ _ _ _
      | exact ih1 _ _ _ _ _ _ _ _ _ _ _ _ _ _ _ _
      | exact ih2 _ _ _ _ _ _ _ _ _ _ _ _ _ _ _ _
      | exact ih3 _ _ _ _ _ _ _ _ _ _ _ _ _ _ _ _
      | exact ih4 _ _ _ _ _ _ _ _ _ _ _ _ _ _ _ _
      | exact LeO.none _
      | refine LeO.ite ?_ ?_
      | refine LeO.bind ?_ (fun _ => ?_)
    · intro y0 y1 y2 y3 y4 y5 y6 y7 y8 y9 y10 y11 y12 y13 y14 y15
      unfold spec_EntryInherit.j3
      repeat' first
      | (with_reducible exact ih0 _ _ _ _ _ _ _ _ _)
      | (with_reducible exact ih1 _ _ _ _ _ _ _ _ _ _ _ _ _ _ _ _)
      | (with_reducible exact ih2 _ _ _ _ _ _ _ _ _ _ _ _ _ _ _ _)
      | (with_reducible exact ih3 _ _ _ _ _ _ _ _ _ _ _ _ _ _ _ _)
      | (with_reducible exact ih4 _ _ _ _ _ _ _ _ _ _ _ _ _ _ _ _)
      | (with_reducible exact LeO.refl _)
      | (with_reducible exact LeO.none _)
      | (with_reducible refine LeO.ite ?_ ?_)
      | (with_reducible refine LeO.bind ?_ (fun _ => ?_))
      | exact ih0 _ _ _ _ _ _ _ _ _
      | exact ih1 _ _ _ _ _ _ _ _ _ _ _ _ _ _ _ _
      | exact ih2 _ _ _ _ _ _ _ _ _ _ _ _ _ _ _ _
      | exact ih3 _ _ _ _ _ _ _ _ _ _ _ _ _ _ _ _
      | exact ih4 _ _ _ _ _ _ _ _ _ _ _ _ _ _ _ _
      | exact LeO.none _
      | refine LeO.ite ?_ ?_
      | refine LeO.bind ?_ (fun _ => ?_)
    · intro y0 y1 y2 y3 y4 y5 y6 y7 y8 y9 y10 y11 y12 y13 y14 y15
      unfold spec_EntryInherit.j4
      repeat' first
      | (with_reducible exact ih0 _ _ _ _ _ _ _ _ _)
      | (with_reducible exact ih1 _ _ _ _ _ _ _ _ _ _ _ _ _ _ _ _)
      | (with_reducible exact ih2 _ _ _ _ _ _ _ _ _ _ _ _ _ _ _ _)
      | (with_reducible exact ih3 _ _ _ _ _ _ _ _ _ _ _ _ _ _ _ _)
      | (with_reducible exact ih4 _ _ _ _ _ _ _ _ _ _ _ _ _ _ _ _)
      | (with_reducible exact LeO.refl _)
      | (with_reducible exact LeO.none _)
      | (with_reducible refine LeO.ite ?_ ?_)
      | (with_reducible refine LeO.bind ?_ (fun _ => ?_))
      | exact ih0 _ _ _ _ _ _ _ _ _
      | exact ih1 _ _ _ _ _ _ _ _ _ _ _ _ _ _ _ _
      | exact ih2 _ _ _ _ _ _ _ _ _ _ _ _ _ _ _ _
      | exact ih3 _ _ _ _ _ _ _ _ _ _ _ _ _ _ _ _
      | exact ih4 _ _ _ _ _ _ _ _ _ _ _ _ _ _ _ _
      | exact LeO.none _
      | refine LeO.ite ?_ ?_
      | refine LeO.bind ?_ (fun _ => ?_)
theorem spec_EntryInherit.mono : ∀ a0 a1 a2 a3 a4 a5 a6 a7 k, LeO (spec_EntryInherit.f k a0 a1 a2 a3 a4 a5 a6 a7) (spec_EntryInherit.f (k + 1) a0 a1 a2 a3 a4 a5 a6 a7) := by
  intro a0 a1 a2 a3 a4 a5 a6 a7 k
  obtain ⟨ih0, ih1, ih2, ih3, ih4⟩ := spec_EntryInherit.mono_l k
  unfold spec_EntryInherit.f
  repeat' first
      | (with_reducible exact ih0 _ _ _ _ _ _ _ _ _)
      | (with_reducible exact ih1 _ _ _ _ _ _ _ _ _ _ _ _ _ _ _ _)
      | (with_reducible exact ih2 _ _ _ _ _ _ _ _ _ _ _ _ _ _ _ _)
      | (with_reducible exact ih3 _ _ _ _ _ _ _ _ _ _ _ _ _ _ _ _)
      | (with_reducible exact ih4 _ _ _ _ _ _ _ _ _ _ _ _ _ _ _ _)
      | (with_reducible exact LeO.refl _)
      | (with_reducible exact LeO.none _)
      | (with_reducible refine LeO.ite ?_ ?_)
      | (with_reducible refine LeO.bind ?_ (fun _ => ?_))
      | exact ih0 _ _ _ _ _ _ _ _ _
      | exact ih1 _ _ _ _ _ _ _ _ _ _ _ _ _ _ _ _
      | exact ih2 _ _ _ _ _ _ _ _ _ _ _ _ _ _ _ _
      | exact ih3 _ _ _ _ _ _ _ _ _ _ _ _ _ _ _ _
      | exact ih4 _ _ _ _ _ _ _ _ _ _ _ _ _ _ _ _
      | exact LeO.none _
      | refine LeO.ite ?_ ?_
      | refine LeO.bind ?_ (fun _ => ?_)
set_option maxHeartbeats 8000000 in
set_option maxRecDepth 100000 in
theorem spec_EntryInherit.calls (k : Nat) (a0_0 : Int) (a0_1 : Int) (a0_2 : Int) (a0_3 : Int) (a0_4 : Int) (a0_5 : Int) (a0_6 : Bool) (A1 : Option Addr) (c1 : Nat) (l1 : List (S62)) (r1 : Int) (r2 : Int) (r3 : Int) (r4 : Int) (r5 : Int) (r6 : Int) (r7 : Bool) (w : World) (hr1 : Kd.C k62 w A1 l1.length l1) (hc1 : l1.length ≤ c1) (h : spec_EntryInherit.f k a0_0 a0_1 a0_2 a0_3 a0_4 a0_5 a0_6 l1 = some (r1, r2, r3, r4, r5, r6, r7)) :
    Calls Tryz.prog 36 #[.agg #[.int .i32 a0_0, .int .i32 a0_1, .int .i32 a0_2, .int .u8 a0_3, .int .u8 a0_4, .int .u8 a0_5, .bool a0_6], .slice A1 l1.length c1] w fun e w' => e = .returned (.agg #[.int .i32 r1, .int .i32 r2, .int .i32 r3, .int .u8 r4, .int .u8 r5, .int .u8 r6, .bool r7]) ∧ Below w.heap.size w w' := by
  have hu62 := Tryz.underlying62
  have HR1 := Aside0.mk hr1
  have HC1 := Aside0.mk hc1
  clear hr1 hc1
  have HB := Aside0.mk (Below.refl w.heap.size w)
  have H : (if a0_6 = true then (some (a0_0, a0_1, a0_2, a0_3, a0_4, a0_5, a0_6)) else (spec_EntryInherit.l0 k l1 (wrap64 ((l1.length : Int) - 1)) a0_0 a0_1 a0_2 a0_3 a0_4 a0_5 a0_6)) = some (r1, r2, r3, r4, r5, r6, r7) := h
  clear h
  by_cases c3 : a0_6 = true
  · subst c3
    have H1 : (some (a0_0, a0_1, a0_2, a0_3, a0_4, a0_5, true)) = some (r1, r2, r3, r4, r5, r6, r7) := by rw [if_pos rfl] at H; exact H
    clear H
    have H := H1
    clear H1
    simp only [Option.some.injEq, Prod.mk.injEq] at H
    obtain ⟨rfl, rfl, rfl, rfl, rfl, rfl, rfl⟩ := H
    go_enter Tryz.func36, Tryz.ntmps36
    go_wp2_with (first | ((with_reducible refine gate_dst (N := 2) rfl ?_); refine box_event ?hg (N := 2) ?hd (cs := #[.int .i32 a0_0, .int .i32 a0_1, .int .i32 a0_2, .int .u8 a0_3, .int .u8 a0_4, .int .u8 a0_5, .bool true]) (t := 62) ?hr ?_; (case hd => rfl); (case hg => rfl); (case hr => first | (go_simp; done) | (go_simp; rfl)); intro gb143 hg w4 hbox hb; have n0_ := Aside0.mk (below_step (by repeat (first | (with_reducible first | exact HB.out | apply below_alloc | apply pw_below_drewN | apply below_drew1) | exact HB.out)) hb); have n1_ := Aside0.mk (hbox); have n2_ := Aside0.mk ((by rw [hg]; exact (below_size (by repeat (first | (with_reducible first | exact HB.out | apply below_alloc | apply pw_below_drewN | apply below_drew1) | exact HB.out))) : w.heap.size ≤ gb143)); have n3_ := Aside0.mk ((by rw [hg]; exact (below_size (by repeat (first | (with_reducible first | exact HB.out | apply below_alloc | apply pw_below_drewN | apply below_drew1) | exact HB.out))) : w.heap.size ≤ gb143)); clear HB; have HB := n0_; have BK143 := n1_; have GW143 := n2_; have GE143 := n3_; clear n0_ n1_ n2_ n3_; clear hb hbox hg) | ((with_reducible refine gate_dst (N := 4) rfl ?_); refine box_event ?hg (N := 4) ?hd (cs := #[.int .i32 0, .int .i32 0, .int .i32 0, .int .u8 0, .int .u8 0, .int .u8 0, .bool false]) (t := 62) ?hr ?_; (case hd => rfl); (case hg => rfl); (case hr => first | (go_simp; done) | (go_simp; rfl)); intro gb144 hg w5 hbox hb; have n0_ := Aside0.mk (blk_below (g := gb143) (o := .cells #[.int .i32 a0_0, .int .i32 a0_1, .int .i32 a0_2, .int .u8 a0_3, .int .u8 a0_4, .int .u8 a0_5, .bool true] 62 (0, 0)) (by (with_reducible repeat (first | refine blk_drewN ?_ _ | refine blk_drew ?_ | refine blk_alloc ?_ _)); exact BK143.out) hb); have n1_ := Aside0.mk (below_step (by repeat (first | (with_reducible first | exact HB.out | apply below_alloc | apply pw_below_drewN | apply below_drew1 | refine below_set ?_ GE143.out) | exact HB.out)) hb); have n2_ := Aside0.mk (hbox); have n3_ := Aside0.mk ((by rw [hg]; exact (below_size (by repeat (first | (with_reducible first | exact HB.out | apply below_alloc | apply pw_below_drewN | apply below_drew1 | refine below_set ?_ GE143.out) | exact HB.out))) : w.heap.size ≤ gb144)); have n4_ := Aside0.mk ((by rw [hg]; exact (below_size (by repeat (first | (with_reducible first | exact HB.out | apply below_alloc | apply pw_below_drewN | apply below_drew1 | refine below_set ?_ GE143.out) | exact HB.out))) : w.heap.size ≤ gb144)); have n5_ := Aside0.mk ((by rw [hg]; exact Nat.ne_of_lt (blk_lt (g := gb143) (o := .cells #[.int .i32 a0_0, .int .i32 a0_1, .int .i32 a0_2, .int .u8 a0_3, .int .u8 a0_4, .int .u8 a0_5, .bool true] 62 (0, 0)) (by (with_reducible repeat (first | refine blk_drewN ?_ _ | refine blk_drew ?_ | refine blk_alloc ?_ _)); exact BK143.out)) : gb143 ≠ gb144)); have n6_ := Aside0.mk ((by rw [hg]; exact Nat.ne_of_gt (blk_lt (g := gb143) (o := .cells #[.int .i32 a0_0, .int .i32 a0_1, .int .i32 a0_2, .int .u8 a0_3, .int .u8 a0_4, .int .u8 a0_5, .bool true] 62 (0, 0)) (by (with_reducible repeat (first | refine blk_drewN ?_ _ | refine blk_drew ?_ | refine blk_alloc ?_ _)); exact BK143.out)) : gb144 ≠ gb143)); clear BK143; clear HB; have BK143 := n0_; have HB := n1_; have BK144 := n2_; have GW144 := n3_; have GE144 := n4_; have NB143_144 := n5_; have NB144_143 := n6_; clear n0_ n1_ n2_ n3_ n4_ n5_ n6_; clear hb hbox hg; have hnb6 := NB143_144.out; have hnc6 := NB144_143.out; have hcz7_0 : w5.cell? ⟨gb143, 0, none⟩ = some (.int .i32 a0_0) := (blk_cell BK143.out 0).trans rfl; have hcz7_1 : w5.cell? ⟨gb143, 1, none⟩ = some (.int .i32 a0_1) := (blk_cell BK143.out 1).trans rfl; have hcz7_2 : w5.cell? ⟨gb143, 2, none⟩ = some (.int .i32 a0_2) := (blk_cell BK143.out 2).trans rfl; have hcz7_3 : w5.cell? ⟨gb143, 3, none⟩ = some (.int .u8 a0_3) := (blk_cell BK143.out 3).trans rfl; have hcz7_4 : w5.cell? ⟨gb143, 4, none⟩ = some (.int .u8 a0_4) := (blk_cell BK143.out 4).trans rfl; have hcz7_5 : w5.cell? ⟨gb143, 5, none⟩ = some (.int .u8 a0_5) := (blk_cell BK143.out 5).trans rfl; have hcz7_6 : w5.cell? ⟨gb143, 6, none⟩ = some (.bool true) := (blk_cell BK143.out 6).trans rfl; have hfz7_0 := blk_frozen BK143.out 0; have hfz7_1 := blk_frozen BK143.out 1; have hfz7_2 := blk_frozen BK143.out 2; have hfz7_3 := blk_frozen BK143.out 3; have hfz7_4 := blk_frozen BK143.out 4; have hfz7_5 := blk_frozen BK143.out 5; have hfz7_6 := blk_frozen BK143.out 6; have hcz8_0 : w5.cell? ⟨gb144, 0, none⟩ = some (.int .i32 0) := (blk_cell BK144.out 0).trans rfl; have hcz8_1 : w5.cell? ⟨gb144, 1, none⟩ = some (.int .i32 0) := (blk_cell BK144.out 1).trans rfl; have hcz8_2 : w5.cell? ⟨gb144, 2, none⟩ = some (.int .i32 0) := (blk_cell BK144.out 2).trans rfl; have hcz8_3 : w5.cell? ⟨gb144, 3, none⟩ = some (.int .u8 0) := (blk_cell BK144.out 3).trans rfl; have hcz8_4 : w5.cell? ⟨gb144, 4, none⟩ = some (.int .u8 0) := (blk_cell BK144.out 4).trans rfl; have hcz8_5 : w5.cell? ⟨gb144, 5, none⟩ = some (.int .u8 0) := (blk_cell BK144.out 5).trans rfl; have hcz8_6 : w5.cell? ⟨gb144, 6, none⟩ = some (.bool false) := (blk_cell BK144.out 6).trans rfl; have hfz8_0 := blk_frozen BK144.out 0; have hfz8_1 := blk_frozen BK144.out 1; have hfz8_2 := blk_frozen BK144.out 2; have hfz8_3 := blk_frozen BK144.out 3; have hfz8_4 := blk_frozen BK144.out 4; have hfz8_5 := blk_frozen BK144.out 5; have hfz8_6 := blk_frozen BK144.out 6))
    refine bodyPost_ret (results_cell_row rfl _ _ gb144 62 #[.int .i32 a0_0, .int .i32 a0_1, .int .i32 a0_2, .int .u8 a0_3, .int .u8 a0_4, .int .u8 a0_5, .bool true] (0, 0) _ rfl (by (with_reducible repeat (first | refine blk_drewN ?_ _ | refine blk_drew ?_ | refine blk_alloc ?_ _)); refine blk_put (cs := #[.int .i32 a0_0, .int .i32 a0_1, .int .i32 a0_2, .int .u8 a0_3, .int .u8 a0_4, .int .u8 a0_5, .bool false]) ?_ 6 _ rfl; (with_reducible repeat (first | refine blk_drewN ?_ _ | refine blk_drew ?_ | refine blk_alloc ?_ _)); refine blk_put (cs := #[.int .i32 a0_0, .int .i32 a0_1, .int .i32 a0_2, .int .u8 a0_3, .int .u8 a0_4, .int .u8 0, .bool false]) ?_ 5 _ rfl; (with_reducible repeat (first | refine blk_drewN ?_ _ | refine blk_drew ?_ | refine blk_alloc ?_ _)); refine blk_put (cs := #[.int .i32 a0_0, .int .i32 a0_1, .int .i32 a0_2, .int .u8 a0_3, .int .u8 0, .int .u8 0, .bool false]) ?_ 4 _ rfl; (with_reducible repeat (first | refine blk_drewN ?_ _ | refine blk_drew ?_ | refine blk_alloc ?_ _)); refine blk_put (cs := #[.int .i32 a0_0, .int .i32 a0_1, .int .i32 a0_2, .int .u8 0, .int .u8 0, .int .u8 0, .bool false]) ?_ 3 _ rfl; (with_reducible repeat (first | refine blk_drewN ?_ _ | refine blk_drew ?_ | refine blk_alloc ?_ _)); refine blk_put (cs := #[.int .i32 a0_0, .int .i32 a0_1, .int .i32 0, .int .u8 0, .int .u8 0, .int .u8 0, .bool false]) ?_ 2 _ rfl; (with_reducible repeat (first | refine blk_drewN ?_ _ | refine blk_drew ?_ | refine blk_alloc ?_ _)); refine blk_put (cs := #[.int .i32 a0_0, .int .i32 0, .int .i32 0, .int .u8 0, .int .u8 0, .int .u8 0, .bool false]) ?_ 1 _ rfl; (with_reducible repeat (first | refine blk_drewN ?_ _ | refine blk_drew ?_ | refine blk_alloc ?_ _)); refine blk_put (cs := #[.int .i32 0, .int .i32 0, .int .i32 0, .int .u8 0, .int .u8 0, .int .u8 0, .bool false]) ?_ 0 _ rfl; (with_reducible repeat (first | refine blk_drewN ?_ _ | refine blk_drew ?_ | refine blk_alloc ?_ _)); exact BK144.out) Tryz.underlying62 rfl (by kernel_rfl)) rfl ?_
    exact ⟨by first | rfl | (simp [errW_none, errW_some] <;> rfl) | (simp [*, errW_none, errW_some] <;> rfl), by repeat (first | (with_reducible first | exact HB.out | apply below_alloc | apply pw_below_drewN | apply below_drew1 | refine below_set ?_ GE143.out | refine below_set ?_ GE144.out) | exact HB.out)⟩
  · replace c3 := Bool.eq_false_iff.mpr c3
    subst c3
    have H1 : (spec_EntryInherit.l0 k l1 (wrap64 ((l1.length : Int) - 1)) a0_0 a0_1 a0_2 a0_3 a0_4 a0_5 false) = some (r1, r2, r3, r4, r5, r6, r7) := by rw [if_neg (show ¬ (false = true) by decide)] at H; exact H
    clear H
    have H := H1
    clear H1
    have H' := Aside0.mk H
    clear H
    go_enter Tryz.func36, Tryz.ntmps36
    go_wp2_with (first | ((with_reducible refine gate_dst (N := 2) rfl ?_); refine box_event ?hg (N := 2) ?hd (cs := #[.int .i32 a0_0, .int .i32 a0_1, .int .i32 a0_2, .int .u8 a0_3, .int .u8 a0_4, .int .u8 a0_5, .bool false]) (t := 62) ?hr ?_; (case hd => rfl); (case hg => rfl); (case hr => first | (go_simp; done) | (go_simp; rfl)); intro gb143 hg w9 hbox hb; have n0_ := Aside0.mk (below_step (by repeat (first | (with_reducible first | exact HB.out | apply below_alloc | apply pw_below_drewN | apply below_drew1) | exact HB.out)) hb); have n1_ := Aside0.mk (hbox); have n2_ := Aside0.mk ((by rw [hg]; exact (below_size (by repeat (first | (with_reducible first | exact HB.out | apply below_alloc | apply pw_below_drewN | apply below_drew1) | exact HB.out))) : w.heap.size ≤ gb143)); have n3_ := Aside0.mk ((by rw [hg]; exact (below_size (by repeat (first | (with_reducible first | exact HB.out | apply below_alloc | apply pw_below_drewN | apply below_drew1) | exact HB.out))) : w.heap.size ≤ gb143)); clear HB; have HB := n0_; have BK143 := n1_; have GW143 := n2_; have GE143 := n3_; clear n0_ n1_ n2_ n3_; clear hb hbox hg) | ((with_reducible refine gate_dst (N := 4) rfl ?_); refine box_event ?hg (N := 4) ?hd (cs := #[.int .i32 0, .int .i32 0, .int .i32 0, .int .u8 0, .int .u8 0, .int .u8 0, .bool false]) (t := 62) ?hr ?_; (case hd => rfl); (case hg => rfl); (case hr => first | (go_simp; done) | (go_simp; rfl)); intro gb144 hg w10 hbox hb; have n0_ := Aside0.mk (blk_below (g := gb143) (o := .cells #[.int .i32 a0_0, .int .i32 a0_1, .int .i32 a0_2, .int .u8 a0_3, .int .u8 a0_4, .int .u8 a0_5, .bool false] 62 (0, 0)) (by (with_reducible repeat (first | refine blk_drewN ?_ _ | refine blk_drew ?_ | refine blk_alloc ?_ _)); exact BK143.out) hb); have n1_ := Aside0.mk (below_step (by repeat (first | (with_reducible first | exact HB.out | apply below_alloc | apply pw_below_drewN | apply below_drew1 | refine below_set ?_ GE143.out) | exact HB.out)) hb); have n2_ := Aside0.mk (hbox); have n3_ := Aside0.mk ((by rw [hg]; exact (below_size (by repeat (first | (with_reducible first | exact HB.out | apply below_alloc | apply pw_below_drewN | apply below_drew1 | refine below_set ?_ GE143.out) | exact HB.out))) : w.heap.size ≤ gb144)); have n4_ := Aside0.mk ((by rw [hg]; exact (below_size (by repeat (first | (with_reducible first | exact HB.out | apply below_alloc | apply pw_below_drewN | apply below_drew1 | refine below_set ?_ GE143.out) | exact HB.out))) : w.heap.size ≤ gb144)); have n5_ := Aside0.mk ((by rw [hg]; exact Nat.ne_of_lt (blk_lt (g := gb143) (o := .cells #[.int .i32 a0_0, .int .i32 a0_1, .int .i32 a0_2, .int .u8 a0_3, .int .u8 a0_4, .int .u8 a0_5, .bool false] 62 (0, 0)) (by (with_reducible repeat (first | refine blk_drewN ?_ _ | refine blk_drew ?_ | refine blk_alloc ?_ _)); exact BK143.out)) : gb143 ≠ gb144)); have n6_ := Aside0.mk ((by rw [hg]; exact Nat.ne_of_gt (blk_lt (g := gb143) (o := .cells #[.int .i32 a0_0, .int .i32 a0_1, .int .i32 a0_2, .int .u8 a0_3, .int .u8 a0_4, .int .u8 a0_5, .bool false] 62 (0, 0)) (by (with_reducible repeat (first | refine blk_drewN ?_ _ | refine blk_drew ?_ | refine blk_alloc ?_ _)); exact BK143.out)) : gb144 ≠ gb143)); clear BK143; clear HB; have BK143 := n0_; have HB := n1_; have BK144 := n2_; have GW144 := n3_; have GE144 := n4_; have NB143_144 := n5_; have NB144_143 := n6_; clear n0_ n1_ n2_ n3_ n4_ n5_ n6_; clear hb hbox hg; have hnb11 := NB143_144.out; have hnc11 := NB144_143.out; have hcz12_0 : w10.cell? ⟨gb143, 0, none⟩ = some (.int .i32 a0_0) := (blk_cell BK143.out 0).trans rfl; have hcz12_1 : w10.cell? ⟨gb143, 1, none⟩ = some (.int .i32 a0_1) := (blk_cell BK143.out 1).trans rfl; have hcz12_2 : w10.cell? ⟨gb143, 2, none⟩ = some (.int .i32 a0_2) := (blk_cell BK143.out 2).trans rfl; have hcz12_3 : w10.cell? ⟨gb143, 3, none⟩ = some (.int .u8 a0_3) := (blk_cell BK143.out 3).trans rfl; have hcz12_4 : w10.cell? ⟨gb143, 4, none⟩ = some (.int .u8 a0_4) := (blk_cell BK143.out 4).trans rfl; have hcz12_5 : w10.cell? ⟨gb143, 5, none⟩ = some (.int .u8 a0_5) := (blk_cell BK143.out 5).trans rfl; have hcz12_6 : w10.cell? ⟨gb143, 6, none⟩ = some (.bool false) := (blk_cell BK143.out 6).trans rfl; have hfz12_0 := blk_frozen BK143.out 0; have hfz12_1 := blk_frozen BK143.out 1; have hfz12_2 := blk_frozen BK143.out 2; have hfz12_3 := blk_frozen BK143.out 3; have hfz12_4 := blk_frozen BK143.out 4; have hfz12_5 := blk_frozen BK143.out 5; have hfz12_6 := blk_frozen BK143.out 6))
    go_loopg [5] k (fun kq v5 w' => ∃ (x5_1 : Int) (x144000_1 : Int) (x144001_1 : Int) (x144002_1 : Int) (x144003_1 : Int) (x144004_1 : Int) (x144005_1 : Int), v5 = .int .i64 x5_1 ∧ Aside0 (spec_EntryInherit.l0 kq l1 x5_1 x144000_1 x144001_1 x144002_1 x144003_1 x144004_1 x144005_1 false = some (r1, r2, r3, r4, r5, r6, r7)) ∧ Aside0 (kq ≤ k) ∧ Aside0 (w'.heap[gb143]? = some (.cells #[.int .i32 x144000_1, .int .i32 x144001_1, .int .i32 x144002_1, .int .u8 x144003_1, .int .u8 x144004_1, .int .u8 x144005_1, .bool false] 62 (0, 0))) ∧ Aside0 (w'.heap[gb144]? = some (.cells #[.int .i32 0, .int .i32 0, .int .i32 0, .int .u8 0, .int .u8 0, .int .u8 0, .bool false] 62 (0, 0))) ∧ Aside0 (Below w.heap.size w w'))
    case atStart => exact ⟨(wrap64 ((l1.length : Int) - 1)), (a0_0), (a0_1), (a0_2), (a0_3), (a0_4), (a0_5), (by first | rfl | (simp; done) | (simp [*]; done)), H', ⟨Nat.le_refl _⟩, ⟨by (with_reducible repeat (first | refine blk_drewN ?_ _ | refine blk_drew ?_ | refine blk_alloc ?_ _)); exact BK143.out⟩, ⟨by (with_reducible repeat (first | refine blk_drewN ?_ _ | refine blk_drew ?_ | refine blk_alloc ?_ _)); exact BK144.out⟩, ⟨by repeat (first | (with_reducible first | exact HB.out | apply below_alloc | apply pw_below_drewN | apply below_drew1 | refine below_set ?_ GE143.out | refine below_set ?_ GE144.out) | exact HB.out)⟩⟩
    case round =>
      clear H'
      try clear c1
      try clear p2
      try clear c3
      try clear c6
      try clear p6
      try clear c11
      try clear hcz12_0
      try clear hcz12_1
      try clear hcz12_2
      try clear hcz12_3
      try clear hcz12_4
      try clear hcz12_5
      try clear hcz12_6
      try clear hcz7_0
      try clear hcz7_1
      try clear hcz7_2
      try clear hcz7_3
      try clear hcz7_4
      try clear hcz7_5
      try clear hcz7_6
      try clear hcz8_0
      try clear hcz8_1
      try clear hcz8_2
      try clear hcz8_3
      try clear hcz8_4
      try clear hcz8_5
      try clear hcz8_6
      try clear hfz12_0
      try clear hfz12_1
      try clear hfz12_2
      try clear hfz12_3
      try clear hfz12_4
      try clear hfz12_5
      try clear hfz12_6
      try clear hfz7_0
      try clear hfz7_1
      try clear hfz7_2
      try clear hfz7_3
      try clear hfz7_4
      try clear hfz7_5
      try clear hfz7_6
      try clear hfz8_0
      try clear hfz8_1
      try clear hfz8_2
      try clear hfz8_3
      try clear hfz8_4
      try clear hfz8_5
      try clear hfz8_6
      obtain ⟨x5_1, x144000_1, x144001_1, x144002_1, x144003_1, x144004_1, x144005_1, rfl, HA, HK1, BK143, BK144, HB⟩ := hrel
      cases gk with
      | zero => exact absurd HA.out (by simp [spec_EntryInherit.l0])
      | succ k1 =>
        have H := HA.out
        clear HA
        simp only [spec_EntryInherit.l0] at H
        by_cases c13 : x5_1 ≥ 0
        · rw [if_pos c13] at H
          have c13b0 : decide (0 ≤ x5_1) = true := decide_eq_true c13
          clear c13
          by_cases c14 : 0 ≤ x5_1
          · rw [if_pos c14] at H
            have c14b0 : decide (0 ≤ x5_1) = true := decide_eq_true c14
            clear c14
            by_cases c15 : x5_1 < (l1.length : Int)
            · rw [if_pos c15] at H
              have c15b0 : decide (x5_1 < (l1.length : Int)) = true := decide_eq_true c15
              clear c15
              have HC16 := Aside0.mk H
              clear H
              have p145 : 0 ≤ (x5_1 : Int) := of_decide_eq_true (by first | (with_reducible assumption) | assumption)
              have q145 : x5_1 < (l1.length : Int) := of_decide_eq_true (by first | (with_reducible assumption) | assumption)
              obtain ⟨ad145, e145, hx145_0, hx145_1, hx145_2, hx145_3, hx145_4, hx145_5, hx145_6⟩ := at_T62 HR1.out x5_1 p145 q145
              cases e145
              replace hx145_0 := (HB.out.cell (World.block_lt_of_cell? w _ hx145_0)).trans hx145_0
              replace hx145_1 := (HB.out.cell (World.block_lt_of_cell? w _ hx145_1)).trans hx145_1
              replace hx145_2 := (HB.out.cell (World.block_lt_of_cell? w _ hx145_2)).trans hx145_2
              replace hx145_3 := (HB.out.cell (World.block_lt_of_cell? w _ hx145_3)).trans hx145_3
              replace hx145_4 := (HB.out.cell (World.block_lt_of_cell? w _ hx145_4)).trans hx145_4
              replace hx145_5 := (HB.out.cell (World.block_lt_of_cell? w _ hx145_5)).trans hx145_5
              replace hx145_6 := (HB.out.cell (World.block_lt_of_cell? w _ hx145_6)).trans hx145_6
              replace p145 := eq_true p145
              replace q145 := eq_true q145
              go_upto_if 23 with (first | ((with_reducible refine gate_dst (N := 6) rfl ?_); refine box_event ?hg (N := 6) ?hd (cs := #[.int .i32 0, .int .i32 0, .int .i32 0, .int .u8 0, .int .u8 0, .int .u8 0, .bool false]) (t := 62) ?hr ?_; (case hd => rfl); (case hg => rfl); (case hr => first | (go_simp; done) | (go_simp; rfl)); intro gb146 hg w17 hbox hb; have n0_ := Aside0.mk (blk_below (g := gb143) (o := .cells #[.int .i32 x144000_1, .int .i32 x144001_1, .int .i32 x144002_1, .int .u8 x144003_1, .int .u8 x144004_1, .int .u8 x144005_1, .bool false] 62 (0, 0)) (by (with_reducible repeat (first | refine blk_drewN ?_ _ | refine blk_drew ?_ | refine blk_alloc ?_ _)); exact BK143.out) hb); have n1_ := Aside0.mk (blk_below (g := gb144) (o := .cells #[.int .i32 0, .int .i32 0, .int .i32 0, .int .u8 0, .int .u8 0, .int .u8 0, .bool false] 62 (0, 0)) (by (with_reducible repeat (first | refine blk_drewN ?_ _ | refine blk_drew ?_ | refine blk_alloc ?_ _)); exact BK144.out) hb); have n2_ := Aside0.mk (below_step (by repeat (first | (with_reducible first | exact HB.out | apply below_alloc | apply pw_below_drewN | apply below_drew1 | refine below_set ?_ GE143.out | refine below_set ?_ GE144.out) | exact HB.out)) hb); have n3_ := Aside0.mk (hbox); have n4_ := Aside0.mk ((by rw [hg]; exact (below_size (by repeat (first | (with_reducible first | exact HB.out | apply below_alloc | apply pw_below_drewN | apply below_drew1 | refine below_set ?_ GE143.out | refine below_set ?_ GE144.out) | exact HB.out))) : w.heap.size ≤ gb146)); have n5_ := Aside0.mk ((by rw [hg]; exact (below_size (by repeat (first | (with_reducible first | exact HB.out | apply below_alloc | apply pw_below_drewN | apply below_drew1 | refine below_set ?_ GE143.out | refine below_set ?_ GE144.out) | exact HB.out))) : w.heap.size ≤ gb146)); have n6_ := Aside0.mk ((by rw [hg]; exact Nat.ne_of_lt (blk_lt (g := gb143) (o := .cells #[.int .i32 x144000_1, .int .i32 x144001_1, .int .i32 x144002_1, .int .u8 x144003_1, .int .u8 x144004_1, .int .u8 x144005_1, .bool false] 62 (0, 0)) (by (with_reducible repeat (first | refine blk_drewN ?_ _ | refine blk_drew ?_ | refine blk_alloc ?_ _)); exact BK143.out)) : gb143 ≠ gb146)); have n7_ := Aside0.mk ((by rw [hg]; exact Nat.ne_of_gt (blk_lt (g := gb143) (o := .cells #[.int .i32 x144000_1, .int .i32 x144001_1, .int .i32 x144002_1, .int .u8 x144003_1, .int .u8 x144004_1, .int .u8 x144005_1, .bool false] 62 (0, 0)) (by (with_reducible repeat (first | refine blk_drewN ?_ _ | refine blk_drew ?_ | refine blk_alloc ?_ _)); exact BK143.out)) : gb146 ≠ gb143)); have n8_ := Aside0.mk ((by rw [hg]; exact Nat.ne_of_lt (blk_lt (g := gb144) (o := .cells #[.int .i32 0, .int .i32 0, .int .i32 0, .int .u8 0, .int .u8 0, .int .u8 0, .bool false] 62 (0, 0)) (by (with_reducible repeat (first | refine blk_drewN ?_ _ | refine blk_drew ?_ | refine blk_alloc ?_ _)); exact BK144.out)) : gb144 ≠ gb146)); have n9_ := Aside0.mk ((by rw [hg]; exact Nat.ne_of_gt (blk_lt (g := gb144) (o := .cells #[.int .i32 0, .int .i32 0, .int .i32 0, .int .u8 0, .int .u8 0, .int .u8 0, .bool false] 62 (0, 0)) (by (with_reducible repeat (first | refine blk_drewN ?_ _ | refine blk_drew ?_ | refine blk_alloc ?_ _)); exact BK144.out)) : gb146 ≠ gb144)); clear BK143; clear BK144; clear HB; have BK143 := n0_; have BK144 := n1_; have HB := n2_; have BK146 := n3_; have GW146 := n4_; have GE146 := n5_; have NB143_146 := n6_; have NB146_143 := n7_; have NB144_146 := n8_; have NB146_144 := n9_; clear n0_ n1_ n2_ n3_ n4_ n5_ n6_ n7_ n8_ n9_; clear hb hbox hg; have hnb18 := NB146_143.out; have hnc18 := NB143_146.out; have hnb19 := NB146_144.out; have hnc19 := NB144_146.out; have hcz20_0 : w17.cell? ⟨gb146, 0, none⟩ = some (.int .i32 0) := (blk_cell BK146.out 0).trans rfl; have hcz20_1 : w17.cell? ⟨gb146, 1, none⟩ = some (.int .i32 0) := (blk_cell BK146.out 1).trans rfl; have hcz20_2 : w17.cell? ⟨gb146, 2, none⟩ = some (.int .i32 0) := (blk_cell BK146.out 2).trans rfl; have hcz20_3 : w17.cell? ⟨gb146, 3, none⟩ = some (.int .u8 0) := (blk_cell BK146.out 3).trans rfl; have hcz20_4 : w17.cell? ⟨gb146, 4, none⟩ = some (.int .u8 0) := (blk_cell BK146.out 4).trans rfl; have hcz20_5 : w17.cell? ⟨gb146, 5, none⟩ = some (.int .u8 0) := (blk_cell BK146.out 5).trans rfl; have hcz20_6 : w17.cell? ⟨gb146, 6, none⟩ = some (.bool false) := (blk_cell BK146.out 6).trans rfl; have hfz20_0 := blk_frozen BK146.out 0; have hfz20_1 := blk_frozen BK146.out 1; have hfz20_2 := blk_frozen BK146.out 2; have hfz20_3 := blk_frozen BK146.out 3; have hfz20_4 := blk_frozen BK146.out 4; have hfz20_5 := blk_frozen BK146.out 5; have hfz20_6 := blk_frozen BK146.out 6; have hnb21 := NB143_144.out; have hnc21 := NB144_143.out; have hcz22_0 : w17.cell? ⟨gb143, 0, none⟩ = some (.int .i32 x144000_1) := (blk_cell BK143.out 0).trans rfl; have hcz22_1 : w17.cell? ⟨gb143, 1, none⟩ = some (.int .i32 x144001_1) := (blk_cell BK143.out 1).trans rfl; have hcz22_2 : w17.cell? ⟨gb143, 2, none⟩ = some (.int .i32 x144002_1) := (blk_cell BK143.out 2).trans rfl; have hcz22_3 : w17.cell? ⟨gb143, 3, none⟩ = some (.int .u8 x144003_1) := (blk_cell BK143.out 3).trans rfl; have hcz22_4 : w17.cell? ⟨gb143, 4, none⟩ = some (.int .u8 x144004_1) := (blk_cell BK143.out 4).trans rfl; have hcz22_5 : w17.cell? ⟨gb143, 5, none⟩ = some (.int .u8 x144005_1) := (blk_cell BK143.out 5).trans rfl; have hcz22_6 : w17.cell? ⟨gb143, 6, none⟩ = some (.bool false) := (blk_cell BK143.out 6).trans rfl; have hfz22_0 := blk_frozen BK143.out 0; have hfz22_1 := blk_frozen BK143.out 1; have hfz22_2 := blk_frozen BK143.out 2; have hfz22_3 := blk_frozen BK143.out 3; have hfz22_4 := blk_frozen BK143.out 4; have hfz22_5 := blk_frozen BK143.out 5; have hfz22_6 := blk_frozen BK143.out 6))
              (try simp only [Act.put, List.setIfInBounds_toArray, List.set_cons_zero, List.set_cons_succ])
              go_cut [] (fun wc => ∃ (kq : Nat) (x144000_15 : Int), Aside0 (spec_EntryInherit.j1 kq l1 x5_1 x144000_15 x144001_1 x144002_1 x144003_1 x144004_1 x144005_1 false ((rd_T62 l1 x5_1).f0) ((rd_T62 l1 x5_1).f1) ((rd_T62 l1 x5_1).f2) ((rd_T62 l1 x5_1).f3) ((rd_T62 l1 x5_1).f4) ((rd_T62 l1 x5_1).f5) ((rd_T62 l1 x5_1).f6) = some (r1, r2, r3, r4, r5, r6, r7)) ∧ Aside0 (kq ≤ k1) ∧ Aside0 (wc.heap[gb143]? = some (.cells #[.int .i32 x144000_15, .int .i32 x144001_1, .int .i32 x144002_1, .int .u8 x144003_1, .int .u8 x144004_1, .int .u8 x144005_1, .bool false] 62 (0, 0))) ∧ Aside0 (wc.heap[gb144]? = some (.cells #[.int .i32 0, .int .i32 0, .int .i32 0, .int .u8 0, .int .u8 0, .int .u8 0, .bool false] 62 (0, 0))) ∧ Aside0 (wc.heap[gb146]? = some (.cells #[.int .i32 ((rd_T62 l1 x5_1).f0), .int .i32 ((rd_T62 l1 x5_1).f1), .int .i32 ((rd_T62 l1 x5_1).f2), .int .u8 ((rd_T62 l1 x5_1).f3), .int .u8 ((rd_T62 l1 x5_1).f4), .int .u8 ((rd_T62 l1 x5_1).f5), .bool ((rd_T62 l1 x5_1).f6)] 62 (0, 0))) ∧ Aside0 (Below w.heap.size w wc))
              case first =>
                have H := HC16.out
                clear HC16
                by_cases c23 : x144000_1 = 0
                · rw [if_pos c23] at H
                  have c23b0 : (x144000_1 == 0) = true := beq_iff_eq.mpr c23
                  have c23b1 : (x144000_1 != 0) = false := bne_eq_false_iff_eq.mpr c23
                  clear c23
                  (try (have c23b2 := c23b0; simp only [ByteArray.size_extract, Nat.min_self] at c23b2)); (first | rw [c23b0] | (simp only [i64_w, i32_w]; rw [c23b0]) | rw [c23b1] | skip)
                  have H' := Aside0.mk H
                  clear H
                  have hnb24 := NB146_143.out
                  have hnc24 := NB143_146.out
                  have hnb25 := NB146_144.out
                  have hnc25 := NB144_146.out
                  have hcz26_0 : w17.cell? ⟨gb146, 0, none⟩ = some (.int .i32 0) := (blk_cell BK146.out 0).trans rfl
                  have hcz26_1 : w17.cell? ⟨gb146, 1, none⟩ = some (.int .i32 0) := (blk_cell BK146.out 1).trans rfl
                  have hcz26_2 : w17.cell? ⟨gb146, 2, none⟩ = some (.int .i32 0) := (blk_cell BK146.out 2).trans rfl
                  have hcz26_3 : w17.cell? ⟨gb146, 3, none⟩ = some (.int .u8 0) := (blk_cell BK146.out 3).trans rfl
                  have hcz26_4 : w17.cell? ⟨gb146, 4, none⟩ = some (.int .u8 0) := (blk_cell BK146.out 4).trans rfl
                  have hcz26_5 : w17.cell? ⟨gb146, 5, none⟩ = some (.int .u8 0) := (blk_cell BK146.out 5).trans rfl
                  have hcz26_6 : w17.cell? ⟨gb146, 6, none⟩ = some (.bool false) := (blk_cell BK146.out 6).trans rfl
                  have hfz26_0 := blk_frozen BK146.out 0
                  have hfz26_1 := blk_frozen BK146.out 1
                  have hfz26_2 := blk_frozen BK146.out 2
                  have hfz26_3 := blk_frozen BK146.out 3
                  have hfz26_4 := blk_frozen BK146.out 4
                  have hfz26_5 := blk_frozen BK146.out 5
                  have hfz26_6 := blk_frozen BK146.out 6
                  have hnb27 := NB143_144.out
                  have hnc27 := NB144_143.out
                  have hcz28_0 : w17.cell? ⟨gb143, 0, none⟩ = some (.int .i32 x144000_1) := (blk_cell BK143.out 0).trans rfl
                  have hcz28_1 : w17.cell? ⟨gb143, 1, none⟩ = some (.int .i32 x144001_1) := (blk_cell BK143.out 1).trans rfl
                  have hcz28_2 : w17.cell? ⟨gb143, 2, none⟩ = some (.int .i32 x144002_1) := (blk_cell BK143.out 2).trans rfl
                  have hcz28_3 : w17.cell? ⟨gb143, 3, none⟩ = some (.int .u8 x144003_1) := (blk_cell BK143.out 3).trans rfl
                  have hcz28_4 : w17.cell? ⟨gb143, 4, none⟩ = some (.int .u8 x144004_1) := (blk_cell BK143.out 4).trans rfl
                  have hcz28_5 : w17.cell? ⟨gb143, 5, none⟩ = some (.int .u8 x144005_1) := (blk_cell BK143.out 5).trans rfl
                  have hcz28_6 : w17.cell? ⟨gb143, 6, none⟩ = some (.bool false) := (blk_cell BK143.out 6).trans rfl
                  have hfz28_0 := blk_frozen BK143.out 0
                  have hfz28_1 := blk_frozen BK143.out 1
                  have hfz28_2 := blk_frozen BK143.out 2
                  have hfz28_3 := blk_frozen BK143.out 3
                  have hfz28_4 := blk_frozen BK143.out 4
                  have hfz28_5 := blk_frozen BK143.out 5
                  have hfz28_6 := blk_frozen BK143.out 6
                  go_wp2
                  go_meet
                  case rel => exact ⟨_, ((rd_T62 l1 x5_1).f0), H', ⟨by have := HK1.out; first | omega | exact Nat.le_refl _⟩, ⟨by (with_reducible repeat (first | refine blk_drewN ?_ _ | refine blk_drew ?_ | refine blk_alloc ?_ _)); refine blk_put (cs := #[.int .i32 x144000_1, .int .i32 x144001_1, .int .i32 x144002_1, .int .u8 x144003_1, .int .u8 x144004_1, .int .u8 x144005_1, .bool false]) ?_ 0 _ rfl; (with_reducible repeat (first | refine blk_drewN ?_ _ | refine blk_drew ?_ | refine blk_alloc ?_ _)); refine blk_far ?_ NB143_146.out _; (with_reducible repeat (first | refine blk_drewN ?_ _ | refine blk_drew ?_ | refine blk_alloc ?_ _)); refine blk_far ?_ NB143_146.out _; (with_reducible repeat (first | refine blk_drewN ?_ _ | refine blk_drew ?_ | refine blk_alloc ?_ _)); refine blk_far ?_ NB143_146.out _; (with_reducible repeat (first | refine blk_drewN ?_ _ | refine blk_drew ?_ | refine blk_alloc ?_ _)); refine blk_far ?_ NB143_146.out _; (with_reducible repeat (first | refine blk_drewN ?_ _ | refine blk_drew ?_ | refine blk_alloc ?_ _)); refine blk_far ?_ NB143_146.out _; (with_reducible repeat (first | refine blk_drewN ?_ _ | refine blk_drew ?_ | refine blk_alloc ?_ _)); refine blk_far ?_ NB143_146.out _; (with_reducible repeat (first | refine blk_drewN ?_ _ | refine blk_drew ?_ | refine blk_alloc ?_ _)); refine blk_far ?_ NB143_146.out _; (with_reducible repeat (first | refine blk_drewN ?_ _ | refine blk_drew ?_ | refine blk_alloc ?_ _)); exact BK143.out⟩, ⟨by (with_reducible repeat (first | refine blk_drewN ?_ _ | refine blk_drew ?_ | refine blk_alloc ?_ _)); refine blk_far ?_ NB144_143.out _; (with_reducible repeat (first | refine blk_drewN ?_ _ | refine blk_drew ?_ | refine blk_alloc ?_ _)); refine blk_far ?_ NB144_146.out _; (with_reducible repeat (first | refine blk_drewN ?_ _ | refine blk_drew ?_ | refine blk_alloc ?_ _)); refine blk_far ?_ NB144_146.out _; (with_reducible repeat (first | refine blk_drewN ?_ _ | refine blk_drew ?_ | refine blk_alloc ?_ _)); refine blk_far ?_ NB144_146.out _; (with_reducible repeat (first | refine blk_drewN ?_ _ | refine blk_drew ?_ | refine blk_alloc ?_ _)); refine blk_far ?_ NB144_146.out _; (with_reducible repeat (first | refine blk_drewN ?_ _ | refine blk_drew ?_ | refine blk_alloc ?_ _)); refine blk_far ?_ NB144_146.out _; (with_reducible repeat (first | refine blk_drewN ?_ _ | refine blk_drew ?_ | refine blk_alloc ?_ _)); refine blk_far ?_ NB144_146.out _; (with_reducible repeat (first | refine blk_drewN ?_ _ | refine blk_drew ?_ | refine blk_alloc ?_ _)); refine blk_far ?_ NB144_146.out _; (with_reducible repeat (first | refine blk_drewN ?_ _ | refine blk_drew ?_ | refine blk_alloc ?_ _)); exact BK144.out⟩, ⟨by (with_reducible repeat (first | refine blk_drewN ?_ _ | refine blk_drew ?_ | refine blk_alloc ?_ _)); refine blk_far ?_ NB146_143.out _; (with_reducible repeat (first | refine blk_drewN ?_ _ | refine blk_drew ?_ | refine blk_alloc ?_ _)); refine blk_put (cs := #[.int .i32 ((rd_T62 l1 x5_1).f0), .int .i32 ((rd_T62 l1 x5_1).f1), .int .i32 ((rd_T62 l1 x5_1).f2), .int .u8 ((rd_T62 l1 x5_1).f3), .int .u8 ((rd_T62 l1 x5_1).f4), .int .u8 ((rd_T62 l1 x5_1).f5), .bool false]) ?_ 6 _ rfl; (with_reducible repeat (first | refine blk_drewN ?_ _ | refine blk_drew ?_ | refine blk_alloc ?_ _)); refine blk_put (cs := #[.int .i32 ((rd_T62 l1 x5_1).f0), .int .i32 ((rd_T62 l1 x5_1).f1), .int .i32 ((rd_T62 l1 x5_1).f2), .int .u8 ((rd_T62 l1 x5_1).f3), .int .u8 ((rd_T62 l1 x5_1).f4), .int .u8 0, .bool false]) ?_ 5 _ rfl; (with_reducible repeat (first | refine blk_drewN ?_ _ | refine blk_drew ?_ | refine blk_alloc ?_ _)); refine blk_put (cs := #[.int .i32 ((rd_T62 l1 x5_1).f0), .int .i32 ((rd_T62 l1 x5_1).f1), .int .i32 ((rd_T62 l1 x5_1).f2), .int .u8 ((rd_T62 l1 x5_1).f3), .int .u8 0, .int .u8 0, .bool false]) ?_ 4 _ rfl; (with_reducible repeat (first | refine blk_drewN ?_ _ | refine blk_drew ?_ | refine blk_alloc ?_ _)); refine blk_put (cs := #[.int .i32 ((rd_T62 l1 x5_1).f0), .int .i32 ((rd_T62 l1 x5_1).f1), .int .i32 ((rd_T62 l1 x5_1).f2), .int .u8 0, .int .u8 0, .int .u8 0, .bool false]) ?_ 3 _ rfl; (with_reducible repeat (first | refine blk_drewN ?_ _ | refine blk_drew ?_ | refine blk_alloc ?_ _)); refine blk_put (cs := #[.int .i32 ((rd_T62 l1 x5_1).f0), .int .i32 ((rd_T62 l1 x5_1).f1), .int .i32 0, .int .u8 0, .int .u8 0, .int .u8 0, .bool false]) ?_ 2 _ rfl; (with_reducible repeat (first | refine blk_drewN ?_ _ | refine blk_drew ?_ | refine blk_alloc ?_ _)); refine blk_put (cs := #[.int .i32 ((rd_T62 l1 x5_1).f0), .int .i32 0, .int .i32 0, .int .u8 0, .int .u8 0, .int .u8 0, .bool false]) ?_ 1 _ rfl; (with_reducible repeat (first | refine blk_drewN ?_ _ | refine blk_drew ?_ | refine blk_alloc ?_ _)); refine blk_put (cs := #[.int .i32 0, .int .i32 0, .int .i32 0, .int .u8 0, .int .u8 0, .int .u8 0, .bool false]) ?_ 0 _ rfl; (with_reducible repeat (first | refine blk_drewN ?_ _ | refine blk_drew ?_ | refine blk_alloc ?_ _)); exact BK146.out⟩, ⟨by repeat (first | (with_reducible first | exact HB.out | apply below_alloc | apply pw_below_drewN | apply below_drew1 | refine below_set ?_ GE143.out | refine below_set ?_ GE144.out | refine below_set ?_ GE146.out) | exact HB.out)⟩⟩
                · rw [if_neg c23] at H
                  have c23b0 : (x144000_1 == 0) = false := beq_eq_false_iff_ne.mpr c23
                  have c23b1 : (x144000_1 != 0) = true := bne_iff_ne.mpr c23
                  (try (have c23b2 := c23b0; simp only [ByteArray.size_extract, Nat.min_self] at c23b2)); (first | rw [c23b0] | (simp only [i64_w, i32_w]; rw [c23b0]) | rw [c23b1] | skip)
                  have H' := Aside0.mk H
                  clear H
                  go_wp2
                  go_meet
                  case rel => exact ⟨_, (x144000_1), H', ⟨by have := HK1.out; first | omega | exact Nat.le_refl _⟩, ⟨by (with_reducible repeat (first | refine blk_drewN ?_ _ | refine blk_drew ?_ | refine blk_alloc ?_ _)); refine blk_far ?_ NB143_146.out _; (with_reducible repeat (first | refine blk_drewN ?_ _ | refine blk_drew ?_ | refine blk_alloc ?_ _)); refine blk_far ?_ NB143_146.out _; (with_reducible repeat (first | refine blk_drewN ?_ _ | refine blk_drew ?_ | refine blk_alloc ?_ _)); refine blk_far ?_ NB143_146.out _; (with_reducible repeat (first | refine blk_drewN ?_ _ | refine blk_drew ?_ | refine blk_alloc ?_ _)); refine blk_far ?_ NB143_146.out _; (with_reducible repeat (first | refine blk_drewN ?_ _ | refine blk_drew ?_ | refine blk_alloc ?_ _)); refine blk_far ?_ NB143_146.out _; (with_reducible repeat (first | refine blk_drewN ?_ _ | refine blk_drew ?_ | refine blk_alloc ?_ _)); refine blk_far ?_ NB143_146.out _; (with_reducible repeat (first | refine blk_drewN ?_ _ | refine blk_drew ?_ | refine blk_alloc ?_ _)); refine blk_far ?_ NB143_146.out _; (with_reducible repeat (first | refine blk_drewN ?_ _ | refine blk_drew ?_ | refine blk_alloc ?_ _)); exact BK143.out⟩, ⟨by (with_reducible repeat (first | refine blk_drewN ?_ _ | refine blk_drew ?_ | refine blk_alloc ?_ _)); refine blk_far ?_ NB144_146.out _; (with_reducible repeat (first | refine blk_drewN ?_ _ | refine blk_drew ?_ | refine blk_alloc ?_ _)); refine blk_far ?_ NB144_146.out _; (with_reducible repeat (first | refine blk_drewN ?_ _ | refine blk_drew ?_ | refine blk_alloc ?_ _)); refine blk_far ?_ NB144_146.out _; (with_reducible repeat (first | refine blk_drewN ?_ _ | refine blk_drew ?_ | refine blk_alloc ?_ _)); refine blk_far ?_ NB144_146.out _; (with_reducible repeat (first | refine blk_drewN ?_ _ | refine blk_drew ?_ | refine blk_alloc ?_ _)); refine blk_far ?_ NB144_146.out _; (with_reducible repeat (first | refine blk_drewN ?_ _ | refine blk_drew ?_ | refine blk_alloc ?_ _)); refine blk_far ?_ NB144_146.out _; (with_reducible repeat (first | refine blk_drewN ?_ _ | refine blk_drew ?_ | refine blk_alloc ?_ _)); refine blk_far ?_ NB144_146.out _; (with_reducible repeat (first | refine blk_drewN ?_ _ | refine blk_drew ?_ | refine blk_alloc ?_ _)); exact BK144.out⟩, ⟨by (with_reducible repeat (first | refine blk_drewN ?_ _ | refine blk_drew ?_ | refine blk_alloc ?_ _)); refine blk_put (cs := #[.int .i32 ((rd_T62 l1 x5_1).f0), .int .i32 ((rd_T62 l1 x5_1).f1), .int .i32 ((rd_T62 l1 x5_1).f2), .int .u8 ((rd_T62 l1 x5_1).f3), .int .u8 ((rd_T62 l1 x5_1).f4), .int .u8 ((rd_T62 l1 x5_1).f5), .bool false]) ?_ 6 _ rfl; (with_reducible repeat (first | refine blk_drewN ?_ _ | refine blk_drew ?_ | refine blk_alloc ?_ _)); refine blk_put (cs := #[.int .i32 ((rd_T62 l1 x5_1).f0), .int .i32 ((rd_T62 l1 x5_1).f1), .int .i32 ((rd_T62 l1 x5_1).f2), .int .u8 ((rd_T62 l1 x5_1).f3), .int .u8 ((rd_T62 l1 x5_1).f4), .int .u8 0, .bool false]) ?_ 5 _ rfl; (with_reducible repeat (first | refine blk_drewN ?_ _ | refine blk_drew ?_ | refine blk_alloc ?_ _)); refine blk_put (cs := #[.int .i32 ((rd_T62 l1 x5_1).f0), .int .i32 ((rd_T62 l1 x5_1).f1), .int .i32 ((rd_T62 l1 x5_1).f2), .int .u8 ((rd_T62 l1 x5_1).f3), .int .u8 0, .int .u8 0, .bool false]) ?_ 4 _ rfl; (with_reducible repeat (first | refine blk_drewN ?_ _ | refine blk_drew ?_ | refine blk_alloc ?_ _)); refine blk_put (cs := #[.int .i32 ((rd_T62 l1 x5_1).f0), .int .i32 ((rd_T62 l1 x5_1).f1), .int .i32 ((rd_T62 l1 x5_1).f2), .int .u8 0, .int .u8 0, .int .u8 0, .bool false]) ?_ 3 _ rfl; (with_reducible repeat (first | refine blk_drewN ?_ _ | refine blk_drew ?_ | refine blk_alloc ?_ _)); refine blk_put (cs := #[.int .i32 ((rd_T62 l1 x5_1).f0), .int .i32 ((rd_T62 l1 x5_1).f1), .int .i32 0, .int .u8 0, .int .u8 0, .int .u8 0, .bool false]) ?_ 2 _ rfl; (with_reducible repeat (first | refine blk_drewN ?_ _ | refine blk_drew ?_ | refine blk_alloc ?_ _)); refine blk_put (cs := #[.int .i32 ((rd_T62 l1 x5_1).f0), .int .i32 0, .int .i32 0, .int .u8 0, .int .u8 0, .int .u8 0, .bool false]) ?_ 1 _ rfl; (with_reducible repeat (first | refine blk_drewN ?_ _ | refine blk_drew ?_ | refine blk_alloc ?_ _)); refine blk_put (cs := #[.int .i32 0, .int .i32 0, .int .i32 0, .int .u8 0, .int .u8 0, .int .u8 0, .bool false]) ?_ 0 _ rfl; (with_reducible repeat (first | refine blk_drewN ?_ _ | refine blk_drew ?_ | refine blk_alloc ?_ _)); exact BK146.out⟩, ⟨by repeat (first | (with_reducible first | exact HB.out | apply below_alloc | apply pw_below_drewN | apply below_drew1 | refine below_set ?_ GE143.out | refine below_set ?_ GE144.out | refine below_set ?_ GE146.out) | exact HB.out)⟩⟩
              case rest =>
                clear HC16
                try clear c1
                try clear p1
                try clear q1
                try clear hx1
                try clear c2
                try clear p2
                try clear c3
                try clear c6
                try clear p6
                try clear c11
                try clear c13
                try clear c13b0
                try clear c14
                try clear c14b0
                try clear p14
                try clear q14
                try clear hx14
                try clear c15
                try clear c15b0
                try clear c18
                try clear c19
                try clear c21
                try clear c23
                try clear c23b0
                try clear c23b1
                try clear c23b2
                try clear c24
                try clear c25
                try clear c27
                try clear hcz12_0
                try clear hcz12_1
                try clear hcz12_2
                try clear hcz12_3
                try clear hcz12_4
                try clear hcz12_5
                try clear hcz12_6
                try clear hcz20_0
                try clear hcz20_1
                try clear hcz20_2
                try clear hcz20_3
                try clear hcz20_4
                try clear hcz20_5
                try clear hcz20_6
                try clear hcz22_0
                try clear hcz22_1
                try clear hcz22_2
                try clear hcz22_3
                try clear hcz22_4
                try clear hcz22_5
                try clear hcz22_6
                try clear hcz26_0
                try clear hcz26_1
                try clear hcz26_2
                try clear hcz26_3
                try clear hcz26_4
                try clear hcz26_5
                try clear hcz26_6
                try clear hcz28_0
                try clear hcz28_1
                try clear hcz28_2
                try clear hcz28_3
                try clear hcz28_4
                try clear hcz28_5
                try clear hcz28_6
                try clear hcz7_0
                try clear hcz7_1
                try clear hcz7_2
                try clear hcz7_3
                try clear hcz7_4
                try clear hcz7_5
                try clear hcz7_6
                try clear hcz8_0
                try clear hcz8_1
                try clear hcz8_2
                try clear hcz8_3
                try clear hcz8_4
                try clear hcz8_5
                try clear hcz8_6
                try clear hfz12_0
                try clear hfz12_1
                try clear hfz12_2
                try clear hfz12_3
                try clear hfz12_4
                try clear hfz12_5
                try clear hfz12_6
                try clear hfz20_0
                try clear hfz20_1
                try clear hfz20_2
                try clear hfz20_3
                try clear hfz20_4
                try clear hfz20_5
                try clear hfz20_6
                try clear hfz22_0
                try clear hfz22_1
                try clear hfz22_2
                try clear hfz22_3
                try clear hfz22_4
                try clear hfz22_5
                try clear hfz22_6
                try clear hfz26_0
                try clear hfz26_1
                try clear hfz26_2
                try clear hfz26_3
                try clear hfz26_4
                try clear hfz26_5
                try clear hfz26_6
                try clear hfz28_0
                try clear hfz28_1
                try clear hfz28_2
                try clear hfz28_3
                try clear hfz28_4
                try clear hfz28_5
                try clear hfz28_6
                try clear hfz7_0
                try clear hfz7_1
                try clear hfz7_2
                try clear hfz7_3
                try clear hfz7_4
                try clear hfz7_5
                try clear hfz7_6
                try clear hfz8_0
                try clear hfz8_1
                try clear hfz8_2
                try clear hfz8_3
                try clear hfz8_4
                try clear hfz8_5
                try clear hfz8_6
                try clear hx145_0
                try clear hx145_1
                try clear hx145_2
                try clear hx145_3
                try clear hx145_4
                try clear hx145_5
                try clear hx145_6
                try clear p145
                try clear p2
                try clear p6
                try clear q145
                obtain ⟨kq, x144000_15, HA, HJ15, BK143, BK144, BK146, HB⟩ := hcut
                cases kq with
                | zero => exact absurd HA.out (by simp [spec_EntryInherit.j1])
                | succ kj15 =>
                  have H := HA.out
                  clear HA
                  simp only [spec_EntryInherit.j1] at H
                  have HC29 := Aside0.mk H
                  clear H
                  have hnb30 := NB143_144.out
                  have hnc30 := NB144_143.out
                  have hnb31 := NB143_146.out
                  have hnc31 := NB146_143.out
                  have hcz32_0 : wc.cell? ⟨gb143, 0, none⟩ = some (.int .i32 x144000_15) := (blk_cell BK143.out 0).trans rfl
                  have hcz32_1 : wc.cell? ⟨gb143, 1, none⟩ = some (.int .i32 x144001_1) := (blk_cell BK143.out 1).trans rfl
                  have hcz32_2 : wc.cell? ⟨gb143, 2, none⟩ = some (.int .i32 x144002_1) := (blk_cell BK143.out 2).trans rfl
                  have hcz32_3 : wc.cell? ⟨gb143, 3, none⟩ = some (.int .u8 x144003_1) := (blk_cell BK143.out 3).trans rfl
                  have hcz32_4 : wc.cell? ⟨gb143, 4, none⟩ = some (.int .u8 x144004_1) := (blk_cell BK143.out 4).trans rfl
                  have hcz32_5 : wc.cell? ⟨gb143, 5, none⟩ = some (.int .u8 x144005_1) := (blk_cell BK143.out 5).trans rfl
                  have hcz32_6 : wc.cell? ⟨gb143, 6, none⟩ = some (.bool false) := (blk_cell BK143.out 6).trans rfl
                  have hfz32_0 := blk_frozen BK143.out 0
                  have hfz32_1 := blk_frozen BK143.out 1
                  have hfz32_2 := blk_frozen BK143.out 2
                  have hfz32_3 := blk_frozen BK143.out 3
                  have hfz32_4 := blk_frozen BK143.out 4
                  have hfz32_5 := blk_frozen BK143.out 5
                  have hfz32_6 := blk_frozen BK143.out 6
                  go_upto_if 29 with (fail)
                  go_cut [] (fun wc => ∃ (kq : Nat) (x144001_28 : Int), Aside0 (spec_EntryInherit.j2 kq l1 x5_1 x144000_15 x144001_28 x144002_1 x144003_1 x144004_1 x144005_1 false ((rd_T62 l1 x5_1).f0) ((rd_T62 l1 x5_1).f1) ((rd_T62 l1 x5_1).f2) ((rd_T62 l1 x5_1).f3) ((rd_T62 l1 x5_1).f4) ((rd_T62 l1 x5_1).f5) ((rd_T62 l1 x5_1).f6) = some (r1, r2, r3, r4, r5, r6, r7)) ∧ Aside0 (kq ≤ kj15) ∧ Aside0 (wc.heap[gb143]? = some (.cells #[.int .i32 x144000_15, .int .i32 x144001_28, .int .i32 x144002_1, .int .u8 x144003_1, .int .u8 x144004_1, .int .u8 x144005_1, .bool false] 62 (0, 0))) ∧ Aside0 (wc.heap[gb144]? = some (.cells #[.int .i32 0, .int .i32 0, .int .i32 0, .int .u8 0, .int .u8 0, .int .u8 0, .bool false] 62 (0, 0))) ∧ Aside0 (wc.heap[gb146]? = some (.cells #[.int .i32 ((rd_T62 l1 x5_1).f0), .int .i32 ((rd_T62 l1 x5_1).f1), .int .i32 ((rd_T62 l1 x5_1).f2), .int .u8 ((rd_T62 l1 x5_1).f3), .int .u8 ((rd_T62 l1 x5_1).f4), .int .u8 ((rd_T62 l1 x5_1).f5), .bool ((rd_T62 l1 x5_1).f6)] 62 (0, 0))) ∧ Aside0 (Below w.heap.size w wc))
                  case first =>
                    have H := HC29.out
                    clear HC29
                    by_cases c33 : x144001_1 = 0
                    · rw [if_pos c33] at H
                      have c33b0 : (x144001_1 == 0) = true := beq_iff_eq.mpr c33
                      have c33b1 : (x144001_1 != 0) = false := bne_eq_false_iff_eq.mpr c33
                      clear c33
                      (try (have c33b2 := c33b0; simp only [ByteArray.size_extract, Nat.min_self] at c33b2)); (first | rw [c33b0] | (simp only [i64_w, i32_w]; rw [c33b0]) | rw [c33b1] | skip)
                      have H' := Aside0.mk H
                      clear H
                      have hnb34 := NB146_143.out
                      have hnc34 := NB143_146.out
                      have hnb35 := NB146_144.out
                      have hnc35 := NB144_146.out
                      have hcz36_0 : wc.cell? ⟨gb146, 0, none⟩ = some (.int .i32 ((rd_T62 l1 x5_1).f0)) := (blk_cell BK146.out 0).trans rfl
                      have hcz36_1 : wc.cell? ⟨gb146, 1, none⟩ = some (.int .i32 ((rd_T62 l1 x5_1).f1)) := (blk_cell BK146.out 1).trans rfl
                      have hcz36_2 : wc.cell? ⟨gb146, 2, none⟩ = some (.int .i32 ((rd_T62 l1 x5_1).f2)) := (blk_cell BK146.out 2).trans rfl
                      have hcz36_3 : wc.cell? ⟨gb146, 3, none⟩ = some (.int .u8 ((rd_T62 l1 x5_1).f3)) := (blk_cell BK146.out 3).trans rfl
                      have hcz36_4 : wc.cell? ⟨gb146, 4, none⟩ = some (.int .u8 ((rd_T62 l1 x5_1).f4)) := (blk_cell BK146.out 4).trans rfl
                      have hcz36_5 : wc.cell? ⟨gb146, 5, none⟩ = some (.int .u8 ((rd_T62 l1 x5_1).f5)) := (blk_cell BK146.out 5).trans rfl
                      have hcz36_6 : wc.cell? ⟨gb146, 6, none⟩ = some (.bool ((rd_T62 l1 x5_1).f6)) := (blk_cell BK146.out 6).trans rfl
                      have hfz36_0 := blk_frozen BK146.out 0
                      have hfz36_1 := blk_frozen BK146.out 1
                      have hfz36_2 := blk_frozen BK146.out 2
                      have hfz36_3 := blk_frozen BK146.out 3
                      have hfz36_4 := blk_frozen BK146.out 4
                      have hfz36_5 := blk_frozen BK146.out 5
                      have hfz36_6 := blk_frozen BK146.out 6
                      have hnb37 := NB143_144.out
                      have hnc37 := NB144_143.out
                      have hcz38_0 : wc.cell? ⟨gb143, 0, none⟩ = some (.int .i32 x144000_15) := (blk_cell BK143.out 0).trans rfl
                      have hcz38_1 : wc.cell? ⟨gb143, 1, none⟩ = some (.int .i32 x144001_1) := (blk_cell BK143.out 1).trans rfl
                      have hcz38_2 : wc.cell? ⟨gb143, 2, none⟩ = some (.int .i32 x144002_1) := (blk_cell BK143.out 2).trans rfl
                      have hcz38_3 : wc.cell? ⟨gb143, 3, none⟩ = some (.int .u8 x144003_1) := (blk_cell BK143.out 3).trans rfl
                      have hcz38_4 : wc.cell? ⟨gb143, 4, none⟩ = some (.int .u8 x144004_1) := (blk_cell BK143.out 4).trans rfl
                      have hcz38_5 : wc.cell? ⟨gb143, 5, none⟩ = some (.int .u8 x144005_1) := (blk_cell BK143.out 5).trans rfl
                      have hcz38_6 : wc.cell? ⟨gb143, 6, none⟩ = some (.bool false) := (blk_cell BK143.out 6).trans rfl
                      have hfz38_0 := blk_frozen BK143.out 0
                      have hfz38_1 := blk_frozen BK143.out 1
                      have hfz38_2 := blk_frozen BK143.out 2
                      have hfz38_3 := blk_frozen BK143.out 3
                      have hfz38_4 := blk_frozen BK143.out 4
                      have hfz38_5 := blk_frozen BK143.out 5
                      have hfz38_6 := blk_frozen BK143.out 6
                      go_wp2
                      go_meet
                      case rel => exact ⟨_, (((rd_T62 l1 x5_1).f1)), H', ⟨by have := HK1.out; have := HJ15.out; first | omega | exact Nat.le_refl _⟩, ⟨by (with_reducible repeat (first | refine blk_drewN ?_ _ | refine blk_drew ?_ | refine blk_alloc ?_ _)); refine blk_put (cs := #[.int .i32 x144000_15, .int .i32 x144001_1, .int .i32 x144002_1, .int .u8 x144003_1, .int .u8 x144004_1, .int .u8 x144005_1, .bool false]) ?_ 1 _ rfl; (with_reducible repeat (first | refine blk_drewN ?_ _ | refine blk_drew ?_ | refine blk_alloc ?_ _)); exact BK143.out⟩, ⟨by (with_reducible repeat (first | refine blk_drewN ?_ _ | refine blk_drew ?_ | refine blk_alloc ?_ _)); refine blk_far ?_ NB144_143.out _; (with_reducible repeat (first | refine blk_drewN ?_ _ | refine blk_drew ?_ | refine blk_alloc ?_ _)); exact BK144.out⟩, ⟨by (with_reducible repeat (first | refine blk_drewN ?_ _ | refine blk_drew ?_ | refine blk_alloc ?_ _)); refine blk_far ?_ NB146_143.out _; (with_reducible repeat (first | refine blk_drewN ?_ _ | refine blk_drew ?_ | refine blk_alloc ?_ _)); exact BK146.out⟩, ⟨by repeat (first | (with_reducible first | exact HB.out | apply below_alloc | apply pw_below_drewN | apply below_drew1 | refine below_set ?_ GE143.out | refine below_set ?_ GE144.out | refine below_set ?_ GE146.out) | exact HB.out)⟩⟩
                    · rw [if_neg c33] at H
                      have c33b0 : (x144001_1 == 0) = false := beq_eq_false_iff_ne.mpr c33
                      have c33b1 : (x144001_1 != 0) = true := bne_iff_ne.mpr c33
                      (try (have c33b2 := c33b0; simp only [ByteArray.size_extract, Nat.min_self] at c33b2)); (first | rw [c33b0] | (simp only [i64_w, i32_w]; rw [c33b0]) | rw [c33b1] | skip)
                      have H' := Aside0.mk H
                      clear H
                      go_wp2
                      go_meet
                      case rel => exact ⟨_, (x144001_1), H', ⟨by have := HK1.out; have := HJ15.out; first | omega | exact Nat.le_refl _⟩, ⟨by (with_reducible repeat (first | refine blk_drewN ?_ _ | refine blk_drew ?_ | refine blk_alloc ?_ _)); exact BK143.out⟩, ⟨by (with_reducible repeat (first | refine blk_drewN ?_ _ | refine blk_drew ?_ | refine blk_alloc ?_ _)); exact BK144.out⟩, ⟨by (with_reducible repeat (first | refine blk_drewN ?_ _ | refine blk_drew ?_ | refine blk_alloc ?_ _)); exact BK146.out⟩, ⟨by repeat (first | (with_reducible first | exact HB.out | apply below_alloc | apply pw_below_drewN | apply below_drew1 | refine below_set ?_ GE143.out | refine below_set ?_ GE144.out | refine below_set ?_ GE146.out) | exact HB.out)⟩⟩
                  case rest =>
                    clear HC29
                    try clear c1
                    try clear p1
                    try clear q1
                    try clear hx1
                    try clear c2
                    try clear p2
                    try clear c3
                    try clear c6
                    try clear p6
                    try clear c11
                    try clear c13
                    try clear c13b0
                    try clear c14
                    try clear c14b0
                    try clear p14
                    try clear q14
                    try clear hx14
                    try clear c15
                    try clear c15b0
                    try clear c18
                    try clear c19
                    try clear c21
                    try clear c23
                    try clear c23b0
                    try clear c23b1
                    try clear c23b2
                    try clear c24
                    try clear c25
                    try clear c27
                    try clear c30
                    try clear c31
                    try clear c33
                    try clear c33b0
                    try clear c33b1
                    try clear c33b2
                    try clear c34
                    try clear c35
                    try clear c36
                    try clear c37
                    try clear hcz12_0
                    try clear hcz12_1
                    try clear hcz12_2
                    try clear hcz12_3
                    try clear hcz12_4
                    try clear hcz12_5
                    try clear hcz12_6
                    try clear hcz20_0
                    try clear hcz20_1
                    try clear hcz20_2
                    try clear hcz20_3
                    try clear hcz20_4
                    try clear hcz20_5
                    try clear hcz20_6
                    try clear hcz22_0
                    try clear hcz22_1
                    try clear hcz22_2
                    try clear hcz22_3
                    try clear hcz22_4
                    try clear hcz22_5
                    try clear hcz22_6
                    try clear hcz26_0
                    try clear hcz26_1
                    try clear hcz26_2
                    try clear hcz26_3
                    try clear hcz26_4
                    try clear hcz26_5
                    try clear hcz26_6
                    try clear hcz28_0
                    try clear hcz28_1
                    try clear hcz28_2
                    try clear hcz28_3
                    try clear hcz28_4
                    try clear hcz28_5
                    try clear hcz28_6
                    try clear hcz32_0
                    try clear hcz32_1
                    try clear hcz32_2
                    try clear hcz32_3
                    try clear hcz32_4
                    try clear hcz32_5
                    try clear hcz32_6
                    try clear hcz36_0
                    try clear hcz36_1
                    try clear hcz36_2
                    try clear hcz36_3
                    try clear hcz36_4
                    try clear hcz36_5
                    try clear hcz36_6
                    try clear hcz38_0
                    try clear hcz38_1
                    try clear hcz38_2
                    try clear hcz38_3
                    try clear hcz38_4
                    try clear hcz38_5
                    try clear hcz38_6
                    try clear hcz7_0
                    try clear hcz7_1
                    try clear hcz7_2
                    try clear hcz7_3
                    try clear hcz7_4
                    try clear hcz7_5
                    try clear hcz7_6
                    try clear hcz8_0
                    try clear hcz8_1
                    try clear hcz8_2
                    try clear hcz8_3
                    try clear hcz8_4
                    try clear hcz8_5
                    try clear hcz8_6
                    try clear hfz12_0
                    try clear hfz12_1
                    try clear hfz12_2
                    try clear hfz12_3
                    try clear hfz12_4
                    try clear hfz12_5
                    try clear hfz12_6
                    try clear hfz20_0
                    try clear hfz20_1
                    try clear hfz20_2
                    try clear hfz20_3
                    try clear hfz20_4
                    try clear hfz20_5
                    try clear hfz20_6
                    try clear hfz22_0
                    try clear hfz22_1
                    try clear hfz22_2
                    try clear hfz22_3
                    try clear hfz22_4
                    try clear hfz22_5
                    try clear hfz22_6
                    try clear hfz26_0
                    try clear hfz26_1
                    try clear hfz26_2
                    try clear hfz26_3
                    try clear hfz26_4
                    try clear hfz26_5
                    try clear hfz26_6
                    try clear hfz28_0
                    try clear hfz28_1
                    try clear hfz28_2
                    try clear hfz28_3
                    try clear hfz28_4
                    try clear hfz28_5
                    try clear hfz28_6
                    try clear hfz32_0
                    try clear hfz32_1
                    try clear hfz32_2
                    try clear hfz32_3
                    try clear hfz32_4
                    try clear hfz32_5
                    try clear hfz32_6
                    try clear hfz36_0
                    try clear hfz36_1
                    try clear hfz36_2
                    try clear hfz36_3
                    try clear hfz36_4
                    try clear hfz36_5
                    try clear hfz36_6
                    try clear hfz38_0
                    try clear hfz38_1
                    try clear hfz38_2
                    try clear hfz38_3
                    try clear hfz38_4
                    try clear hfz38_5
                    try clear hfz38_6
                    try clear hfz7_0
                    try clear hfz7_1
                    try clear hfz7_2
                    try clear hfz7_3
                    try clear hfz7_4
                    try clear hfz7_5
                    try clear hfz7_6
                    try clear hfz8_0
                    try clear hfz8_1
                    try clear hfz8_2
                    try clear hfz8_3
                    try clear hfz8_4
                    try clear hfz8_5
                    try clear hfz8_6
                    try clear hx145_0
                    try clear hx145_1
                    try clear hx145_2
                    try clear hx145_3
                    try clear hx145_4
                    try clear hx145_5
                    try clear hx145_6
                    try clear p1
                    try clear p14
                    try clear p145
                    try clear p2
                    try clear p6
                    try clear q1
                    try clear q14
                    try clear q145
                    obtain ⟨kq, x144001_28, HA, HJ28, BK143, BK144, BK146, HB⟩ := hcut
                    cases kq with
                    | zero => exact absurd HA.out (by simp [spec_EntryInherit.j2])
                    | succ kj28 =>
                      have H := HA.out
                      clear HA
                      simp only [spec_EntryInherit.j2] at H
                      have HC39 := Aside0.mk H
                      clear H
                      have hnb40 := NB143_144.out
                      have hnc40 := NB144_143.out
                      have hnb41 := NB143_146.out
                      have hnc41 := NB146_143.out
                      have hcz42_0 : wc.cell? ⟨gb143, 0, none⟩ = some (.int .i32 x144000_15) := (blk_cell BK143.out 0).trans rfl
                      have hcz42_1 : wc.cell? ⟨gb143, 1, none⟩ = some (.int .i32 x144001_28) := (blk_cell BK143.out 1).trans rfl
                      have hcz42_2 : wc.cell? ⟨gb143, 2, none⟩ = some (.int .i32 x144002_1) := (blk_cell BK143.out 2).trans rfl
                      have hcz42_3 : wc.cell? ⟨gb143, 3, none⟩ = some (.int .u8 x144003_1) := (blk_cell BK143.out 3).trans rfl
                      have hcz42_4 : wc.cell? ⟨gb143, 4, none⟩ = some (.int .u8 x144004_1) := (blk_cell BK143.out 4).trans rfl
                      have hcz42_5 : wc.cell? ⟨gb143, 5, none⟩ = some (.int .u8 x144005_1) := (blk_cell BK143.out 5).trans rfl
                      have hcz42_6 : wc.cell? ⟨gb143, 6, none⟩ = some (.bool false) := (blk_cell BK143.out 6).trans rfl
                      have hfz42_0 := blk_frozen BK143.out 0
                      have hfz42_1 := blk_frozen BK143.out 1
                      have hfz42_2 := blk_frozen BK143.out 2
                      have hfz42_3 := blk_frozen BK143.out 3
                      have hfz42_4 := blk_frozen BK143.out 4
                      have hfz42_5 := blk_frozen BK143.out 5
                      have hfz42_6 := blk_frozen BK143.out 6
                      go_upto_if 35 with (fail)
                      go_cut [] (fun wc => ∃ (kq : Nat) (x144002_38 : Int), Aside0 (spec_EntryInherit.j3 kq l1 x5_1 x144000_15 x144001_28 x144002_38 x144003_1 x144004_1 x144005_1 false ((rd_T62 l1 x5_1).f0) ((rd_T62 l1 x5_1).f1) ((rd_T62 l1 x5_1).f2) ((rd_T62 l1 x5_1).f3) ((rd_T62 l1 x5_1).f4) ((rd_T62 l1 x5_1).f5) ((rd_T62 l1 x5_1).f6) = some (r1, r2, r3, r4, r5, r6, r7)) ∧ Aside0 (kq ≤ kj28) ∧ Aside0 (wc.heap[gb143]? = some (.cells #[.int .i32 x144000_15, .int .i32 x144001_28, .int .i32 x144002_38, .int .u8 x144003_1, .int .u8 x144004_1, .int .u8 x144005_1, .bool false] 62 (0, 0))) ∧ Aside0 (wc.heap[gb144]? = some (.cells #[.int .i32 0, .int .i32 0, .int .i32 0, .int .u8 0, .int .u8 0, .int .u8 0, .bool false] 62 (0, 0))) ∧ Aside0 (wc.heap[gb146]? = some (.cells #[.int .i32 ((rd_T62 l1 x5_1).f0), .int .i32 ((rd_T62 l1 x5_1).f1), .int .i32 ((rd_T62 l1 x5_1).f2), .int .u8 ((rd_T62 l1 x5_1).f3), .int .u8 ((rd_T62 l1 x5_1).f4), .int .u8 ((rd_T62 l1 x5_1).f5), .bool ((rd_T62 l1 x5_1).f6)] 62 (0, 0))) ∧ Aside0 (Below w.heap.size w wc))
                      case first =>
                        have H := HC39.out
                        clear HC39
                        by_cases c43 : x144002_1 = 0
                        · rw [if_pos c43] at H
                          have c43b0 : (x144002_1 == 0) = true := beq_iff_eq.mpr c43
                          have c43b1 : (x144002_1 != 0) = false := bne_eq_false_iff_eq.mpr c43
                          clear c43
                          (try (have c43b2 := c43b0; simp only [ByteArray.size_extract, Nat.min_self] at c43b2)); (first | rw [c43b0] | (simp only [i64_w, i32_w]; rw [c43b0]) | rw [c43b1] | skip)
                          have H' := Aside0.mk H
                          clear H
                          have hnb44 := NB146_143.out
                          have hnc44 := NB143_146.out
                          have hnb45 := NB146_144.out
                          have hnc45 := NB144_146.out
                          have hcz46_0 : wc.cell? ⟨gb146, 0, none⟩ = some (.int .i32 ((rd_T62 l1 x5_1).f0)) := (blk_cell BK146.out 0).trans rfl
                          have hcz46_1 : wc.cell? ⟨gb146, 1, none⟩ = some (.int .i32 ((rd_T62 l1 x5_1).f1)) := (blk_cell BK146.out 1).trans rfl
                          have hcz46_2 : wc.cell? ⟨gb146, 2, none⟩ = some (.int .i32 ((rd_T62 l1 x5_1).f2)) := (blk_cell BK146.out 2).trans rfl
                          have hcz46_3 : wc.cell? ⟨gb146, 3, none⟩ = some (.int .u8 ((rd_T62 l1 x5_1).f3)) := (blk_cell BK146.out 3).trans rfl
                          have hcz46_4 : wc.cell? ⟨gb146, 4, none⟩ = some (.int .u8 ((rd_T62 l1 x5_1).f4)) := (blk_cell BK146.out 4).trans rfl
                          have hcz46_5 : wc.cell? ⟨gb146, 5, none⟩ = some (.int .u8 ((rd_T62 l1 x5_1).f5)) := (blk_cell BK146.out 5).trans rfl
                          have hcz46_6 : wc.cell? ⟨gb146, 6, none⟩ = some (.bool ((rd_T62 l1 x5_1).f6)) := (blk_cell BK146.out 6).trans rfl
                          have hfz46_0 := blk_frozen BK146.out 0
                          have hfz46_1 := blk_frozen BK146.out 1
                          have hfz46_2 := blk_frozen BK146.out 2
                          have hfz46_3 := blk_frozen BK146.out 3
                          have hfz46_4 := blk_frozen BK146.out 4
                          have hfz46_5 := blk_frozen BK146.out 5
                          have hfz46_6 := blk_frozen BK146.out 6
                          have hnb47 := NB143_144.out
                          have hnc47 := NB144_143.out
                          have hcz48_0 : wc.cell? ⟨gb143, 0, none⟩ = some (.int .i32 x144000_15) := (blk_cell BK143.out 0).trans rfl
                          have hcz48_1 : wc.cell? ⟨gb143, 1, none⟩ = some (.int .i32 x144001_28) := (blk_cell BK143.out 1).trans rfl
                          have hcz48_2 : wc.cell? ⟨gb143, 2, none⟩ = some (.int .i32 x144002_1) := (blk_cell BK143.out 2).trans rfl
                          have hcz48_3 : wc.cell? ⟨gb143, 3, none⟩ = some (.int .u8 x144003_1) := (blk_cell BK143.out 3).trans rfl
                          have hcz48_4 : wc.cell? ⟨gb143, 4, none⟩ = some (.int .u8 x144004_1) := (blk_cell BK143.out 4).trans rfl
                          have hcz48_5 : wc.cell? ⟨gb143, 5, none⟩ = some (.int .u8 x144005_1) := (blk_cell BK143.out 5).trans rfl
                          have hcz48_6 : wc.cell? ⟨gb143, 6, none⟩ = some (.bool false) := (blk_cell BK143.out 6).trans rfl
                          have hfz48_0 := blk_frozen BK143.out 0
                          have hfz48_1 := blk_frozen BK143.out 1
                          have hfz48_2 := blk_frozen BK143.out 2
                          have hfz48_3 := blk_frozen BK143.out 3
                          have hfz48_4 := blk_frozen BK143.out 4
                          have hfz48_5 := blk_frozen BK143.out 5
                          have hfz48_6 := blk_frozen BK143.out 6
                          go_wp2
                          go_meet
                          case rel => exact ⟨_, (((rd_T62 l1 x5_1).f2)), H', ⟨by have := HK1.out; have := HJ15.out; have := HJ28.out; first | omega | exact Nat.le_refl _⟩, ⟨by (with_reducible repeat (first | refine blk_drewN ?_ _ | refine blk_drew ?_ | refine blk_alloc ?_ _)); refine blk_put (cs := #[.int .i32 x144000_15, .int .i32 x144001_28, .int .i32 x144002_1, .int .u8 x144003_1, .int .u8 x144004_1, .int .u8 x144005_1, .bool false]) ?_ 2 _ rfl; (with_reducible repeat (first | refine blk_drewN ?_ _ | refine blk_drew ?_ | refine blk_alloc ?_ _)); exact BK143.out⟩, ⟨by (with_reducible repeat (first | refine blk_drewN ?_ _ | refine blk_drew ?_ | refine blk_alloc ?_ _)); refine blk_far ?_ NB144_143.out _; (with_reducible repeat (first | refine blk_drewN ?_ _ | refine blk_drew ?_ | refine blk_alloc ?_ _)); exact BK144.out⟩, ⟨by (with_reducible repeat (first | refine blk_drewN ?_ _ | refine blk_drew ?_ | refine blk_alloc ?_ _)); refine blk_far ?_ NB146_143.out _; (with_reducible repeat (first | refine blk_drewN ?_ _ | refine blk_drew ?_ | refine blk_alloc ?_ _)); exact BK146.out⟩, ⟨by repeat (first | (with_reducible first | exact HB.out | apply below_alloc | apply pw_below_drewN | apply below_drew1 | refine below_set ?_ GE143.out | refine below_set ?_ GE144.out | refine below_set ?_ GE146.out) | exact HB.out)⟩⟩
                        · rw [if_neg c43] at H
                          have c43b0 : (x144002_1 == 0) = false := beq_eq_false_iff_ne.mpr c43
                          have c43b1 : (x144002_1 != 0) = true := bne_iff_ne.mpr c43
                          (try (have c43b2 := c43b0; simp only [ByteArray.size_extract, Nat.min_self] at c43b2)); (first | rw [c43b0] | (simp only [i64_w, i32_w]; rw [c43b0]) | rw [c43b1] | skip)
                          have H' := Aside0.mk H
                          clear H
                          go_wp2
                          go_meet
                          case rel => exact ⟨_, (x144002_1), H', ⟨by have := HK1.out; have := HJ15.out; have := HJ28.out; first | omega | exact Nat.le_refl _⟩, ⟨by (with_reducible repeat (first | refine blk_drewN ?_ _ | refine blk_drew ?_ | refine blk_alloc ?_ _)); exact BK143.out⟩, ⟨by (with_reducible repeat (first | refine blk_drewN ?_ _ | refine blk_drew ?_ | refine blk_alloc ?_ _)); exact BK144.out⟩, ⟨by (with_reducible repeat (first | refine blk_drewN ?_ _ | refine blk_drew ?_ | refine blk_alloc ?_ _)); exact BK146.out⟩, ⟨by repeat (first | (with_reducible first | exact HB.out | apply below_alloc | apply pw_below_drewN | apply below_drew1 | refine below_set ?_ GE143.out | refine below_set ?_ GE144.out | refine below_set ?_ GE146.out) | exact HB.out)⟩⟩
                      case rest =>
                        clear HC39
                        try clear c1
                        try clear p1
                        try clear q1
                        try clear hx1
                        try clear c2
                        try clear p2
                        try clear c3
                        try clear c4
                        try clear c6
                        try clear p6
                        try clear c11
                        try clear c13
                        try clear c13b0
                        try clear c14
                        try clear c14b0
                        try clear p14
                        try clear q14
                        try clear hx14
                        try clear c15
                        try clear c15b0
                        try clear c18
                        try clear c19
                        try clear c21
                        try clear c23
                        try clear c23b0
                        try clear c23b1
                        try clear c23b2
                        try clear c24
                        try clear c25
                        try clear c27
                        try clear c30
                        try clear c31
                        try clear c33
                        try clear c33b0
                        try clear c33b1
                        try clear c33b2
                        try clear c34
                        try clear c35
                        try clear c36
                        try clear c37
                        try clear c40
                        try clear c41
                        try clear c43
                        try clear c43b0
                        try clear c43b1
                        try clear c43b2
                        try clear c44
                        try clear c45
                        try clear c47
                        try clear hcz12_0
                        try clear hcz12_1
                        try clear hcz12_2
                        try clear hcz12_3
                        try clear hcz12_4
                        try clear hcz12_5
                        try clear hcz12_6
                        try clear hcz20_0
                        try clear hcz20_1
                        try clear hcz20_2
                        try clear hcz20_3
                        try clear hcz20_4
                        try clear hcz20_5
                        try clear hcz20_6
                        try clear hcz22_0
                        try clear hcz22_1
                        try clear hcz22_2
                        try clear hcz22_3
                        try clear hcz22_4
                        try clear hcz22_5
                        try clear hcz22_6
                        try clear hcz26_0
                        try clear hcz26_1
                        try clear hcz26_2
                        try clear hcz26_3
                        try clear hcz26_4
                        try clear hcz26_5
                        try clear hcz26_6
                        try clear hcz28_0
                        try clear hcz28_1
                        try clear hcz28_2
                        try clear hcz28_3
                        try clear hcz28_4
                        try clear hcz28_5
                        try clear hcz28_6
                        try clear hcz32_0
                        try clear hcz32_1
                        try clear hcz32_2
                        try clear hcz32_3
                        try clear hcz32_4
                        try clear hcz32_5
                        try clear hcz32_6
                        try clear hcz36_0
                        try clear hcz36_1
                        try clear hcz36_2
                        try clear hcz36_3
                        try clear hcz36_4
                        try clear hcz36_5
                        try clear hcz36_6
                        try clear hcz38_0
                        try clear hcz38_1
                        try clear hcz38_2
                        try clear hcz38_3
                        try clear hcz38_4
                        try clear hcz38_5
                        try clear hcz38_6
                        try clear hcz42_0
                        try clear hcz42_1
                        try clear hcz42_2
                        try clear hcz42_3
                        try clear hcz42_4
                        try clear hcz42_5
                        try clear hcz42_6
                        try clear hcz46_0
                        try clear hcz46_1
                        try clear hcz46_2
                        try clear hcz46_3
                        try clear hcz46_4
                        try clear hcz46_5
                        try clear hcz46_6
                        try clear hcz48_0
                        try clear hcz48_1
                        try clear hcz48_2
                        try clear hcz48_3
                        try clear hcz48_4
                        try clear hcz48_5
                        try clear hcz48_6
                        try clear hcz7_0
                        try clear hcz7_1
                        try clear hcz7_2
                        try clear hcz7_3
                        try clear hcz7_4
                        try clear hcz7_5
                        try clear hcz7_6
                        try clear hcz8_0
                        try clear hcz8_1
                        try clear hcz8_2
                        try clear hcz8_3
                        try clear hcz8_4
                        try clear hcz8_5
                        try clear hcz8_6
                        try clear hfz12_0
                        try clear hfz12_1
                        try clear hfz12_2
                        try clear hfz12_3
                        try clear hfz12_4
                        try clear hfz12_5
                        try clear hfz12_6
                        try clear hfz20_0
                        try clear hfz20_1
                        try clear hfz20_2
                        try clear hfz20_3
                        try clear hfz20_4
                        try clear hfz20_5
                        try clear hfz20_6
                        try clear hfz22_0
                        try clear hfz22_1
                        try clear hfz22_2
                        try clear hfz22_3
                        try clear hfz22_4
                        try clear hfz22_5
                        try clear hfz22_6
                        try clear hfz26_0
                        try clear hfz26_1
                        try clear hfz26_2
                        try clear hfz26_3
                        try clear hfz26_4
                        try clear hfz26_5
                        try clear hfz26_6
                        try clear hfz28_0
                        try clear hfz28_1
                        try clear hfz28_2
                        try clear hfz28_3
                        try clear hfz28_4
                        try clear hfz28_5
                        try clear hfz28_6
                        try clear hfz32_0
                        try clear hfz32_1
                        try clear hfz32_2
                        try clear hfz32_3
                        try clear hfz32_4
                        try clear hfz32_5
                        try clear hfz32_6
                        try clear hfz36_0
                        try clear hfz36_1
                        try clear hfz36_2
                        try clear hfz36_3
                        try clear hfz36_4
                        try clear hfz36_5
                        try clear hfz36_6
                        try clear hfz38_0
                        try clear hfz38_1
                        try clear hfz38_2
                        try clear hfz38_3
                        try clear hfz38_4
                        try clear hfz38_5
                        try clear hfz38_6
                        try clear hfz42_0
                        try clear hfz42_1
                        try clear hfz42_2
                        try clear hfz42_3
                        try clear hfz42_4
                        try clear hfz42_5
                        try clear hfz42_6
                        try clear hfz46_0
                        try clear hfz46_1
                        try clear hfz46_2
                        try clear hfz46_3
                        try clear hfz46_4
                        try clear hfz46_5
                        try clear hfz46_6
                        try clear hfz48_0
                        try clear hfz48_1
                        try clear hfz48_2
                        try clear hfz48_3
                        try clear hfz48_4
                        try clear hfz48_5
                        try clear hfz48_6
                        try clear hfz7_0
                        try clear hfz7_1
                        try clear hfz7_2
                        try clear hfz7_3
                        try clear hfz7_4
                        try clear hfz7_5
                        try clear hfz7_6
                        try clear hfz8_0
                        try clear hfz8_1
                        try clear hfz8_2
                        try clear hfz8_3
                        try clear hfz8_4
                        try clear hfz8_5
                        try clear hfz8_6
                        try clear hx145_0
                        try clear hx145_1
                        try clear hx145_2
                        try clear hx145_3
                        try clear hx145_4
                        try clear hx145_5
                        try clear hx145_6
                        try clear p1
                        try clear p14
                        try clear p145
                        try clear p2
                        try clear p6
                        try clear q1
                        try clear q14
                        try clear q145
                        obtain ⟨kq, x144002_38, HA, HJ38, BK143, BK144, BK146, HB⟩ := hcut
                        cases kq with
                        | zero => exact absurd HA.out (by simp [spec_EntryInherit.j3])
                        | succ kj38 =>
                          have H := HA.out
                          clear HA
                          simp only [spec_EntryInherit.j3] at H
                          have HC49 := Aside0.mk H
                          clear H
                          have hnb50 := NB143_144.out
                          have hnc50 := NB144_143.out
                          have hnb51 := NB143_146.out
                          have hnc51 := NB146_143.out
                          have hcz52_0 : wc.cell? ⟨gb143, 0, none⟩ = some (.int .i32 x144000_15) := (blk_cell BK143.out 0).trans rfl
                          have hcz52_1 : wc.cell? ⟨gb143, 1, none⟩ = some (.int .i32 x144001_28) := (blk_cell BK143.out 1).trans rfl
                          have hcz52_2 : wc.cell? ⟨gb143, 2, none⟩ = some (.int .i32 x144002_38) := (blk_cell BK143.out 2).trans rfl
                          have hcz52_3 : wc.cell? ⟨gb143, 3, none⟩ = some (.int .u8 x144003_1) := (blk_cell BK143.out 3).trans rfl
                          have hcz52_4 : wc.cell? ⟨gb143, 4, none⟩ = some (.int .u8 x144004_1) := (blk_cell BK143.out 4).trans rfl
                          have hcz52_5 : wc.cell? ⟨gb143, 5, none⟩ = some (.int .u8 x144005_1) := (blk_cell BK143.out 5).trans rfl
                          have hcz52_6 : wc.cell? ⟨gb143, 6, none⟩ = some (.bool false) := (blk_cell BK143.out 6).trans rfl
                          have hfz52_0 := blk_frozen BK143.out 0
                          have hfz52_1 := blk_frozen BK143.out 1
                          have hfz52_2 := blk_frozen BK143.out 2
                          have hfz52_3 := blk_frozen BK143.out 3
                          have hfz52_4 := blk_frozen BK143.out 4
                          have hfz52_5 := blk_frozen BK143.out 5
                          have hfz52_6 := blk_frozen BK143.out 6
                          go_upto_if 41 with (fail)
                          go_cut [] (fun wc => ∃ (kq : Nat) (x144003_48 : Int), Aside0 (spec_EntryInherit.j4 kq l1 x5_1 x144000_15 x144001_28 x144002_38 x144003_48 x144004_1 x144005_1 false ((rd_T62 l1 x5_1).f0) ((rd_T62 l1 x5_1).f1) ((rd_T62 l1 x5_1).f2) ((rd_T62 l1 x5_1).f3) ((rd_T62 l1 x5_1).f4) ((rd_T62 l1 x5_1).f5) ((rd_T62 l1 x5_1).f6) = some (r1, r2, r3, r4, r5, r6, r7)) ∧ Aside0 (kq ≤ kj38) ∧ Aside0 (wc.heap[gb143]? = some (.cells #[.int .i32 x144000_15, .int .i32 x144001_28, .int .i32 x144002_38, .int .u8 x144003_48, .int .u8 x144004_1, .int .u8 x144005_1, .bool false] 62 (0, 0))) ∧ Aside0 (wc.heap[gb144]? = some (.cells #[.int .i32 0, .int .i32 0, .int .i32 0, .int .u8 0, .int .u8 0, .int .u8 0, .bool false] 62 (0, 0))) ∧ Aside0 (wc.heap[gb146]? = some (.cells #[.int .i32 ((rd_T62 l1 x5_1).f0), .int .i32 ((rd_T62 l1 x5_1).f1), .int .i32 ((rd_T62 l1 x5_1).f2), .int .u8 ((rd_T62 l1 x5_1).f3), .int .u8 ((rd_T62 l1 x5_1).f4), .int .u8 ((rd_T62 l1 x5_1).f5), .bool ((rd_T62 l1 x5_1).f6)] 62 (0, 0))) ∧ Aside0 (Below w.heap.size w wc))
                          case first =>
                            have H := HC49.out
                            clear HC49
                            by_cases c53 : x144003_1 = 0
                            · rw [if_pos c53] at H
                              have c53b0 : (x144003_1 == 0) = true := beq_iff_eq.mpr c53
                              have c53b1 : (x144003_1 != 0) = false := bne_eq_false_iff_eq.mpr c53
                              clear c53
                              (try (have c53b2 := c53b0; simp only [ByteArray.size_extract, Nat.min_self] at c53b2)); (first | rw [c53b0] | (simp only [i64_w, i32_w]; rw [c53b0]) | rw [c53b1] | skip)
                              have H' := Aside0.mk H
                              clear H
                              have hnb54 := NB146_143.out
                              have hnc54 := NB143_146.out
                              have hnb55 := NB146_144.out
                              have hnc55 := NB144_146.out
                              have hcz56_0 : wc.cell? ⟨gb146, 0, none⟩ = some (.int .i32 ((rd_T62 l1 x5_1).f0)) := (blk_cell BK146.out 0).trans rfl
                              have hcz56_1 : wc.cell? ⟨gb146, 1, none⟩ = some (.int .i32 ((rd_T62 l1 x5_1).f1)) := (blk_cell BK146.out 1).trans rfl
                              have hcz56_2 : wc.cell? ⟨gb146, 2, none⟩ = some (.int .i32 ((rd_T62 l1 x5_1).f2)) := (blk_cell BK146.out 2).trans rfl
                              have hcz56_3 : wc.cell? ⟨gb146, 3, none⟩ = some (.int .u8 ((rd_T62 l1 x5_1).f3)) := (blk_cell BK146.out 3).trans rfl
                              have hcz56_4 : wc.cell? ⟨gb146, 4, none⟩ = some (.int .u8 ((rd_T62 l1 x5_1).f4)) := (blk_cell BK146.out 4).trans rfl
                              have hcz56_5 : wc.cell? ⟨gb146, 5, none⟩ = some (.int .u8 ((rd_T62 l1 x5_1).f5)) := (blk_cell BK146.out 5).trans rfl
                              have hcz56_6 : wc.cell? ⟨gb146, 6, none⟩ = some (.bool ((rd_T62 l1 x5_1).f6)) := (blk_cell BK146.out 6).trans rfl
                              have hfz56_0 := blk_frozen BK146.out 0
                              have hfz56_1 := blk_frozen BK146.out 1
                              have hfz56_2 := blk_frozen BK146.out 2
                              have hfz56_3 := blk_frozen BK146.out 3
                              have hfz56_4 := blk_frozen BK146.out 4
                              have hfz56_5 := blk_frozen BK146.out 5
                              have hfz56_6 := blk_frozen BK146.out 6
                              have hnb57 := NB143_144.out
                              have hnc57 := NB144_143.out
                              have hcz58_0 : wc.cell? ⟨gb143, 0, none⟩ = some (.int .i32 x144000_15) := (blk_cell BK143.out 0).trans rfl
                              have hcz58_1 : wc.cell? ⟨gb143, 1, none⟩ = some (.int .i32 x144001_28) := (blk_cell BK143.out 1).trans rfl
                              have hcz58_2 : wc.cell? ⟨gb143, 2, none⟩ = some (.int .i32 x144002_38) := (blk_cell BK143.out 2).trans rfl
                              have hcz58_3 : wc.cell? ⟨gb143, 3, none⟩ = some (.int .u8 x144003_1) := (blk_cell BK143.out 3).trans rfl
                              have hcz58_4 : wc.cell? ⟨gb143, 4, none⟩ = some (.int .u8 x144004_1) := (blk_cell BK143.out 4).trans rfl
                              have hcz58_5 : wc.cell? ⟨gb143, 5, none⟩ = some (.int .u8 x144005_1) := (blk_cell BK143.out 5).trans rfl
                              have hcz58_6 : wc.cell? ⟨gb143, 6, none⟩ = some (.bool false) := (blk_cell BK143.out 6).trans rfl
                              have hfz58_0 := blk_frozen BK143.out 0
                              have hfz58_1 := blk_frozen BK143.out 1
                              have hfz58_2 := blk_frozen BK143.out 2
                              have hfz58_3 := blk_frozen BK143.out 3
                              have hfz58_4 := blk_frozen BK143.out 4
                              have hfz58_5 := blk_frozen BK143.out 5
                              have hfz58_6 := blk_frozen BK143.out 6
                              go_wp2
                              go_meet
                              case rel => exact ⟨_, (((rd_T62 l1 x5_1).f3)), H', ⟨by have := HK1.out; have := HJ15.out; have := HJ28.out; have := HJ38.out; first | omega | exact Nat.le_refl _⟩, ⟨by (with_reducible repeat (first | refine blk_drewN ?_ _ | refine blk_drew ?_ | refine blk_alloc ?_ _)); refine blk_put (cs := #[.int .i32 x144000_15, .int .i32 x144001_28, .int .i32 x144002_38, .int .u8 x144003_1, .int .u8 x144004_1, .int .u8 x144005_1, .bool false]) ?_ 3 _ rfl; (with_reducible repeat (first | refine blk_drewN ?_ _ | refine blk_drew ?_ | refine blk_alloc ?_ _)); exact BK143.out⟩, ⟨by (with_reducible repeat (first | refine blk_drewN ?_ _ | refine blk_drew ?_ | refine blk_alloc ?_ _)); refine blk_far ?_ NB144_143.out _; (with_reducible repeat (first | refine blk_drewN ?_ _ | refine blk_drew ?_ | refine blk_alloc ?_ _)); exact BK144.out⟩, ⟨by (with_reducible repeat (first | refine blk_drewN ?_ _ | refine blk_drew ?_ | refine blk_alloc ?_ _)); refine blk_far ?_ NB146_143.out _; (with_reducible repeat (first | refine blk_drewN ?_ _ | refine blk_drew ?_ | refine blk_alloc ?_ _)); exact BK146.out⟩, ⟨by repeat (first | (with_reducible first | exact HB.out | apply below_alloc | apply pw_below_drewN | apply below_drew1 | refine below_set ?_ GE143.out | refine below_set ?_ GE144.out | refine below_set ?_ GE146.out) | exact HB.out)⟩⟩
                            · rw [if_neg c53] at H
                              have c53b0 : (x144003_1 == 0) = false := beq_eq_false_iff_ne.mpr c53
                              have c53b1 : (x144003_1 != 0) = true := bne_iff_ne.mpr c53
                              (try (have c53b2 := c53b0; simp only [ByteArray.size_extract, Nat.min_self] at c53b2)); (first | rw [c53b0] | (simp only [i64_w, i32_w]; rw [c53b0]) | rw [c53b1] | skip)
                              have H' := Aside0.mk H
                              clear H
                              go_wp2
                              go_meet
                              case rel => exact ⟨_, (x144003_1), H', ⟨by have := HK1.out; have := HJ15.out; have := HJ28.out; have := HJ38.out; first | omega | exact Nat.le_refl _⟩, ⟨by (with_reducible repeat (first | refine blk_drewN ?_ _ | refine blk_drew ?_ | refine blk_alloc ?_ _)); exact BK143.out⟩, ⟨by (with_reducible repeat (first | refine blk_drewN ?_ _ | refine blk_drew ?_ | refine blk_alloc ?_ _)); exact BK144.out⟩, ⟨by (with_reducible repeat (first | refine blk_drewN ?_ _ | refine blk_drew ?_ | refine blk_alloc ?_ _)); exact BK146.out⟩, ⟨by repeat (first | (with_reducible first | exact HB.out | apply below_alloc | apply pw_below_drewN | apply below_drew1 | refine below_set ?_ GE143.out | refine below_set ?_ GE144.out | refine below_set ?_ GE146.out) | exact HB.out)⟩⟩
                          case rest =>
                            clear HC49
                            try clear c1
                            try clear p1
                            try clear q1
                            try clear hx1
                            try clear c2
                            try clear p2
                            try clear c3
                            try clear c4
                            try clear c5
                            try clear c6
                            try clear p6
                            try clear c11
                            try clear c13
                            try clear c13b0
                            try clear c14
                            try clear c14b0
                            try clear p14
                            try clear q14
                            try clear hx14
                            try clear c15
                            try clear c15b0
                            try clear c18
                            try clear c19
                            try clear c21
                            try clear c23
                            try clear c23b0
                            try clear c23b1
                            try clear c23b2
                            try clear c24
                            try clear c25
                            try clear c27
                            try clear c30
                            try clear c31
                            try clear c33
                            try clear c33b0
                            try clear c33b1
                            try clear c33b2
                            try clear c34
                            try clear c35
                            try clear c36
                            try clear c37
                            try clear c40
                            try clear c41
                            try clear c43
                            try clear c43b0
                            try clear c43b1
                            try clear c43b2
                            try clear c44
                            try clear c45
                            try clear c47
                            try clear c50
                            try clear c51
                            try clear c53
                            try clear c53b0
                            try clear c53b1
                            try clear c53b2
                            try clear c54
                            try clear c55
                            try clear c57
                            try clear hcz12_0
                            try clear hcz12_1
                            try clear hcz12_2
                            try clear hcz12_3
                            try clear hcz12_4
                            try clear hcz12_5
                            try clear hcz12_6
                            try clear hcz20_0
                            try clear hcz20_1
                            try clear hcz20_2
                            try clear hcz20_3
                            try clear hcz20_4
                            try clear hcz20_5
                            try clear hcz20_6
                            try clear hcz22_0
                            try clear hcz22_1
                            try clear hcz22_2
                            try clear hcz22_3
                            try clear hcz22_4
                            try clear hcz22_5
                            try clear hcz22_6
                            try clear hcz26_0
                            try clear hcz26_1
                            try clear hcz26_2
                            try clear hcz26_3
                            try clear hcz26_4
                            try clear hcz26_5
                            try clear hcz26_6
                            try clear hcz28_0
                            try clear hcz28_1
                            try clear hcz28_2
                            try clear hcz28_3
                            try clear hcz28_4
                            try clear hcz28_5
                            try clear hcz28_6
                            try clear hcz32_0
                            try clear hcz32_1
                            try clear hcz32_2
                            try clear hcz32_3
                            try clear hcz32_4
                            try clear hcz32_5
                            try clear hcz32_6
                            try clear hcz36_0
                            try clear hcz36_1
                            try clear hcz36_2
                            try clear hcz36_3
                            try clear hcz36_4
                            try clear hcz36_5
                            try clear hcz36_6
                            try clear hcz38_0
                            try clear hcz38_1
                            try clear hcz38_2
                            try clear hcz38_3
                            try clear hcz38_4
                            try clear hcz38_5
                            try clear hcz38_6
                            try clear hcz42_0
                            try clear hcz42_1
                            try clear hcz42_2
                            try clear hcz42_3
                            try clear hcz42_4
                            try clear hcz42_5
                            try clear hcz42_6
                            try clear hcz46_0
                            try clear hcz46_1
                            try clear hcz46_2
                            try clear hcz46_3
                            try clear hcz46_4
                            try clear hcz46_5
                            try clear hcz46_6
                            try clear hcz48_0
                            try clear hcz48_1
                            try clear hcz48_2
                            try clear hcz48_3
                            try clear hcz48_4
                            try clear hcz48_5
                            try clear hcz48_6
                            try clear hcz52_0
                            try clear hcz52_1
                            try clear hcz52_2
                            try clear hcz52_3
                            try clear hcz52_4
                            try clear hcz52_5
                            try clear hcz52_6
                            try clear hcz56_0
                            try clear hcz56_1
                            try clear hcz56_2
                            try clear hcz56_3
                            try clear hcz56_4
                            try clear hcz56_5
                            try clear hcz56_6
                            try clear hcz58_0
                            try clear hcz58_1
                            try clear hcz58_2
                            try clear hcz58_3
                            try clear hcz58_4
                            try clear hcz58_5
                            try clear hcz58_6
                            try clear hcz7_0
                            try clear hcz7_1
                            try clear hcz7_2
                            try clear hcz7_3
                            try clear hcz7_4
                            try clear hcz7_5
                            try clear hcz7_6
                            try clear hcz8_0
                            try clear hcz8_1
                            try clear hcz8_2
                            try clear hcz8_3
                            try clear hcz8_4
                            try clear hcz8_5
                            try clear hcz8_6
                            try clear hfz12_0
                            try clear hfz12_1
                            try clear hfz12_2
                            try clear hfz12_3
                            try clear hfz12_4
                            try clear hfz12_5
                            try clear hfz12_6
                            try clear hfz20_0
                            try clear hfz20_1
                            try clear hfz20_2
                            try clear hfz20_3
                            try clear hfz20_4
                            try clear hfz20_5
                            try clear hfz20_6
                            try clear hfz22_0
                            try clear hfz22_1
                            try clear hfz22_2
                            try clear hfz22_3
                            try clear hfz22_4
                            try clear hfz22_5
                            try clear hfz22_6
                            try clear hfz26_0
                            try clear hfz26_1
                            try clear hfz26_2
                            try clear hfz26_3
                            try clear hfz26_4
                            try clear hfz26_5
                            try clear hfz26_6
                            try clear hfz28_0
                            try clear hfz28_1
                            try clear hfz28_2
                            try clear hfz28_3
                            try clear hfz28_4
                            try clear hfz28_5
                            try clear hfz28_6
                            try clear hfz32_0
                            try clear hfz32_1
                            try clear hfz32_2
                            try clear hfz32_3
                            try clear hfz32_4
                            try clear hfz32_5
                            try clear hfz32_6
                            try clear hfz36_0
                            try clear hfz36_1
                            try clear hfz36_2
                            try clear hfz36_3
                            try clear hfz36_4
                            try clear hfz36_5
                            try clear hfz36_6
                            try clear hfz38_0
                            try clear hfz38_1
                            try clear hfz38_2
                            try clear hfz38_3
                            try clear hfz38_4
                            try clear hfz38_5
                            try clear hfz38_6
                            try clear hfz42_0
                            try clear hfz42_1
                            try clear hfz42_2
                            try clear hfz42_3
                            try clear hfz42_4
                            try clear hfz42_5
                            try clear hfz42_6
                            try clear hfz46_0
                            try clear hfz46_1
                            try clear hfz46_2
                            try clear hfz46_3
                            try clear hfz46_4
                            try clear hfz46_5
                            try clear hfz46_6
                            try clear hfz48_0
                            try clear hfz48_1
                            try clear hfz48_2
                            try clear hfz48_3
                            try clear hfz48_4
                            try clear hfz48_5
                            try clear hfz48_6
                            try clear hfz52_0
                            try clear hfz52_1
                            try clear hfz52_2
                            try clear hfz52_3
                            try clear hfz52_4
                            try clear hfz52_5
                            try clear hfz52_6
                            try clear hfz56_0
                            try clear hfz56_1
                            try clear hfz56_2
                            try clear hfz56_3
                            try clear hfz56_4
                            try clear hfz56_5
                            try clear hfz56_6
                            try clear hfz58_0
                            try clear hfz58_1
                            try clear hfz58_2
                            try clear hfz58_3
                            try clear hfz58_4
                            try clear hfz58_5
                            try clear hfz58_6
                            try clear hfz7_0
                            try clear hfz7_1
                            try clear hfz7_2
                            try clear hfz7_3
                            try clear hfz7_4
                            try clear hfz7_5
                            try clear hfz7_6
                            try clear hfz8_0
                            try clear hfz8_1
                            try clear hfz8_2
                            try clear hfz8_3
                            try clear hfz8_4
                            try clear hfz8_5
                            try clear hfz8_6
                            try clear hx145_0
                            try clear hx145_1
                            try clear hx145_2
                            try clear hx145_3
                            try clear hx145_4
                            try clear hx145_5
                            try clear hx145_6
                            try clear p1
                            try clear p14
                            try clear p145
                            try clear p2
                            try clear p6
                            try clear q1
                            try clear q14
                            try clear q145
                            obtain ⟨kq, x144003_48, HA, HJ48, BK143, BK144, BK146, HB⟩ := hcut
                            cases kq with
                            | zero => exact absurd HA.out (by simp [spec_EntryInherit.j4])
                            | succ kj48 =>
                              have H := HA.out
                              clear HA
                              simp only [spec_EntryInherit.j4] at H
                              by_cases c59 : x144004_1 = 0
                              · rw [if_pos c59] at H
                                have c59b0 : (x144004_1 == 0) = true := beq_iff_eq.mpr c59
                                have c59b1 : (x144004_1 != 0) = false := bne_eq_false_iff_eq.mpr c59
                                clear c59
                                by_cases c60 : x144005_1 = 0
                                · rw [if_pos c60] at H
                                  have c60b0 : (x144005_1 == 0) = true := beq_iff_eq.mpr c60
                                  have c60b1 : (x144005_1 != 0) = false := bne_eq_false_iff_eq.mpr c60
                                  clear c60
                                  have H' := Aside0.mk H
                                  clear H
                                  have hnb61 := NB143_144.out
                                  have hnc61 := NB144_143.out
                                  have hnb62 := NB143_146.out
                                  have hnc62 := NB146_143.out
                                  have hcz63_0 : wc.cell? ⟨gb143, 0, none⟩ = some (.int .i32 x144000_15) := (blk_cell BK143.out 0).trans rfl
                                  have hcz63_1 : wc.cell? ⟨gb143, 1, none⟩ = some (.int .i32 x144001_28) := (blk_cell BK143.out 1).trans rfl
                                  have hcz63_2 : wc.cell? ⟨gb143, 2, none⟩ = some (.int .i32 x144002_38) := (blk_cell BK143.out 2).trans rfl
                                  have hcz63_3 : wc.cell? ⟨gb143, 3, none⟩ = some (.int .u8 x144003_48) := (blk_cell BK143.out 3).trans rfl
                                  have hcz63_4 : wc.cell? ⟨gb143, 4, none⟩ = some (.int .u8 x144004_1) := (blk_cell BK143.out 4).trans rfl
                                  have hcz63_5 : wc.cell? ⟨gb143, 5, none⟩ = some (.int .u8 x144005_1) := (blk_cell BK143.out 5).trans rfl
                                  have hcz63_6 : wc.cell? ⟨gb143, 6, none⟩ = some (.bool false) := (blk_cell BK143.out 6).trans rfl
                                  have hfz63_0 := blk_frozen BK143.out 0
                                  have hfz63_1 := blk_frozen BK143.out 1
                                  have hfz63_2 := blk_frozen BK143.out 2
                                  have hfz63_3 := blk_frozen BK143.out 3
                                  have hfz63_4 := blk_frozen BK143.out 4
                                  have hfz63_5 := blk_frozen BK143.out 5
                                  have hfz63_6 := blk_frozen BK143.out 6
                                  have hnb64 := NB146_144.out
                                  have hnc64 := NB144_146.out
                                  have hcz65_0 : wc.cell? ⟨gb146, 0, none⟩ = some (.int .i32 ((rd_T62 l1 x5_1).f0)) := (blk_cell BK146.out 0).trans rfl
                                  have hcz65_1 : wc.cell? ⟨gb146, 1, none⟩ = some (.int .i32 ((rd_T62 l1 x5_1).f1)) := (blk_cell BK146.out 1).trans rfl
                                  have hcz65_2 : wc.cell? ⟨gb146, 2, none⟩ = some (.int .i32 ((rd_T62 l1 x5_1).f2)) := (blk_cell BK146.out 2).trans rfl
                                  have hcz65_3 : wc.cell? ⟨gb146, 3, none⟩ = some (.int .u8 ((rd_T62 l1 x5_1).f3)) := (blk_cell BK146.out 3).trans rfl
                                  have hcz65_4 : wc.cell? ⟨gb146, 4, none⟩ = some (.int .u8 ((rd_T62 l1 x5_1).f4)) := (blk_cell BK146.out 4).trans rfl
                                  have hcz65_5 : wc.cell? ⟨gb146, 5, none⟩ = some (.int .u8 ((rd_T62 l1 x5_1).f5)) := (blk_cell BK146.out 5).trans rfl
                                  have hcz65_6 : wc.cell? ⟨gb146, 6, none⟩ = some (.bool ((rd_T62 l1 x5_1).f6)) := (blk_cell BK146.out 6).trans rfl
                                  have hfz65_0 := blk_frozen BK146.out 0
                                  have hfz65_1 := blk_frozen BK146.out 1
                                  have hfz65_2 := blk_frozen BK146.out 2
                                  have hfz65_3 := blk_frozen BK146.out 3
                                  have hfz65_4 := blk_frozen BK146.out 4
                                  have hfz65_5 := blk_frozen BK146.out 5
                                  have hfz65_6 := blk_frozen BK146.out 6
                                  go_wp2
                                  go_roundg kj48
                                  case measure => have := HK1.out; have := HJ15.out; have := HJ28.out; have := HJ38.out; have := HJ48.out; omega
                                  case rel => exact ⟨(wrap64 (x5_1 - 1)), (x144000_15), (x144001_28), (x144002_38), (x144003_48), (((rd_T62 l1 x5_1).f4)), (((rd_T62 l1 x5_1).f5)), (by first | rfl | (simp; done) | (simp [*]; done)), H', ⟨by have := HK1.out; have := HJ15.out; have := HJ28.out; have := HJ38.out; have := HJ48.out; omega⟩, ⟨by (with_reducible repeat (first | refine blk_drewN ?_ _ | refine blk_drew ?_ | refine blk_alloc ?_ _)); refine blk_put (cs := #[.int .i32 x144000_15, .int .i32 x144001_28, .int .i32 x144002_38, .int .u8 x144003_48, .int .u8 ((rd_T62 l1 x5_1).f4), .int .u8 x144005_1, .bool false]) ?_ 5 _ rfl; (with_reducible repeat (first | refine blk_drewN ?_ _ | refine blk_drew ?_ | refine blk_alloc ?_ _)); refine blk_put (cs := #[.int .i32 x144000_15, .int .i32 x144001_28, .int .i32 x144002_38, .int .u8 x144003_48, .int .u8 x144004_1, .int .u8 x144005_1, .bool false]) ?_ 4 _ rfl; (with_reducible repeat (first | refine blk_drewN ?_ _ | refine blk_drew ?_ | refine blk_alloc ?_ _)); exact BK143.out⟩, ⟨by (with_reducible repeat (first | refine blk_drewN ?_ _ | refine blk_drew ?_ | refine blk_alloc ?_ _)); refine blk_far ?_ NB144_143.out _; (with_reducible repeat (first | refine blk_drewN ?_ _ | refine blk_drew ?_ | refine blk_alloc ?_ _)); refine blk_far ?_ NB144_143.out _; (with_reducible repeat (first | refine blk_drewN ?_ _ | refine blk_drew ?_ | refine blk_alloc ?_ _)); exact BK144.out⟩, ⟨by repeat (first | (with_reducible first | exact HB.out | apply below_alloc | apply pw_below_drewN | apply below_drew1 | refine below_set ?_ GE143.out | refine below_set ?_ GE144.out | refine below_set ?_ GE146.out) | exact HB.out)⟩⟩
                                · rw [if_neg c60] at H
                                  have c60b0 : (x144005_1 == 0) = false := beq_eq_false_iff_ne.mpr c60
                                  have c60b1 : (x144005_1 != 0) = true := bne_iff_ne.mpr c60
                                  have H' := Aside0.mk H
                                  clear H
                                  have hnb66 := NB143_144.out
                                  have hnc66 := NB144_143.out
                                  have hnb67 := NB143_146.out
                                  have hnc67 := NB146_143.out
                                  have hcz68_0 : wc.cell? ⟨gb143, 0, none⟩ = some (.int .i32 x144000_15) := (blk_cell BK143.out 0).trans rfl
                                  have hcz68_1 : wc.cell? ⟨gb143, 1, none⟩ = some (.int .i32 x144001_28) := (blk_cell BK143.out 1).trans rfl
                                  have hcz68_2 : wc.cell? ⟨gb143, 2, none⟩ = some (.int .i32 x144002_38) := (blk_cell BK143.out 2).trans rfl
                                  have hcz68_3 : wc.cell? ⟨gb143, 3, none⟩ = some (.int .u8 x144003_48) := (blk_cell BK143.out 3).trans rfl
                                  have hcz68_4 : wc.cell? ⟨gb143, 4, none⟩ = some (.int .u8 x144004_1) := (blk_cell BK143.out 4).trans rfl
                                  have hcz68_5 : wc.cell? ⟨gb143, 5, none⟩ = some (.int .u8 x144005_1) := (blk_cell BK143.out 5).trans rfl
                                  have hcz68_6 : wc.cell? ⟨gb143, 6, none⟩ = some (.bool false) := (blk_cell BK143.out 6).trans rfl
                                  have hfz68_0 := blk_frozen BK143.out 0
                                  have hfz68_1 := blk_frozen BK143.out 1
                                  have hfz68_2 := blk_frozen BK143.out 2
                                  have hfz68_3 := blk_frozen BK143.out 3
                                  have hfz68_4 := blk_frozen BK143.out 4
                                  have hfz68_5 := blk_frozen BK143.out 5
                                  have hfz68_6 := blk_frozen BK143.out 6
                                  have hnb69 := NB146_144.out
                                  have hnc69 := NB144_146.out
                                  have hcz70_0 : wc.cell? ⟨gb146, 0, none⟩ = some (.int .i32 ((rd_T62 l1 x5_1).f0)) := (blk_cell BK146.out 0).trans rfl
                                  have hcz70_1 : wc.cell? ⟨gb146, 1, none⟩ = some (.int .i32 ((rd_T62 l1 x5_1).f1)) := (blk_cell BK146.out 1).trans rfl
                                  have hcz70_2 : wc.cell? ⟨gb146, 2, none⟩ = some (.int .i32 ((rd_T62 l1 x5_1).f2)) := (blk_cell BK146.out 2).trans rfl
                                  have hcz70_3 : wc.cell? ⟨gb146, 3, none⟩ = some (.int .u8 ((rd_T62 l1 x5_1).f3)) := (blk_cell BK146.out 3).trans rfl
                                  have hcz70_4 : wc.cell? ⟨gb146, 4, none⟩ = some (.int .u8 ((rd_T62 l1 x5_1).f4)) := (blk_cell BK146.out 4).trans rfl
                                  have hcz70_5 : wc.cell? ⟨gb146, 5, none⟩ = some (.int .u8 ((rd_T62 l1 x5_1).f5)) := (blk_cell BK146.out 5).trans rfl
                                  have hcz70_6 : wc.cell? ⟨gb146, 6, none⟩ = some (.bool ((rd_T62 l1 x5_1).f6)) := (blk_cell BK146.out 6).trans rfl
                                  have hfz70_0 := blk_frozen BK146.out 0
                                  have hfz70_1 := blk_frozen BK146.out 1
                                  have hfz70_2 := blk_frozen BK146.out 2
                                  have hfz70_3 := blk_frozen BK146.out 3
                                  have hfz70_4 := blk_frozen BK146.out 4
                                  have hfz70_5 := blk_frozen BK146.out 5
                                  have hfz70_6 := blk_frozen BK146.out 6
                                  go_wp2
                                  go_roundg kj48
                                  case measure => have := HK1.out; have := HJ15.out; have := HJ28.out; have := HJ38.out; have := HJ48.out; omega
                                  case rel => exact ⟨(wrap64 (x5_1 - 1)), (x144000_15), (x144001_28), (x144002_38), (x144003_48), (((rd_T62 l1 x5_1).f4)), (x144005_1), (by first | rfl | (simp; done) | (simp [*]; done)), H', ⟨by have := HK1.out; have := HJ15.out; have := HJ28.out; have := HJ38.out; have := HJ48.out; omega⟩, ⟨by (with_reducible repeat (first | refine blk_drewN ?_ _ | refine blk_drew ?_ | refine blk_alloc ?_ _)); refine blk_put (cs := #[.int .i32 x144000_15, .int .i32 x144001_28, .int .i32 x144002_38, .int .u8 x144003_48, .int .u8 x144004_1, .int .u8 x144005_1, .bool false]) ?_ 4 _ rfl; (with_reducible repeat (first | refine blk_drewN ?_ _ | refine blk_drew ?_ | refine blk_alloc ?_ _)); exact BK143.out⟩, ⟨by (with_reducible repeat (first | refine blk_drewN ?_ _ | refine blk_drew ?_ | refine blk_alloc ?_ _)); refine blk_far ?_ NB144_143.out _; (with_reducible repeat (first | refine blk_drewN ?_ _ | refine blk_drew ?_ | refine blk_alloc ?_ _)); exact BK144.out⟩, ⟨by repeat (first | (with_reducible first | exact HB.out | apply below_alloc | apply pw_below_drewN | apply below_drew1 | refine below_set ?_ GE143.out | refine below_set ?_ GE144.out | refine below_set ?_ GE146.out) | exact HB.out)⟩⟩
                              · rw [if_neg c59] at H
                                have c59b0 : (x144004_1 == 0) = false := beq_eq_false_iff_ne.mpr c59
                                have c59b1 : (x144004_1 != 0) = true := bne_iff_ne.mpr c59
                                by_cases c71 : x144005_1 = 0
                                · rw [if_pos c71] at H
                                  have c71b0 : (x144005_1 == 0) = true := beq_iff_eq.mpr c71
                                  have c71b1 : (x144005_1 != 0) = false := bne_eq_false_iff_eq.mpr c71
                                  clear c71
                                  have H' := Aside0.mk H
                                  clear H
                                  have hnb72 := NB143_144.out
                                  have hnc72 := NB144_143.out
                                  have hnb73 := NB143_146.out
                                  have hnc73 := NB146_143.out
                                  have hcz74_0 : wc.cell? ⟨gb143, 0, none⟩ = some (.int .i32 x144000_15) := (blk_cell BK143.out 0).trans rfl
                                  have hcz74_1 : wc.cell? ⟨gb143, 1, none⟩ = some (.int .i32 x144001_28) := (blk_cell BK143.out 1).trans rfl
                                  have hcz74_2 : wc.cell? ⟨gb143, 2, none⟩ = some (.int .i32 x144002_38) := (blk_cell BK143.out 2).trans rfl
                                  have hcz74_3 : wc.cell? ⟨gb143, 3, none⟩ = some (.int .u8 x144003_48) := (blk_cell BK143.out 3).trans rfl
                                  have hcz74_4 : wc.cell? ⟨gb143, 4, none⟩ = some (.int .u8 x144004_1) := (blk_cell BK143.out 4).trans rfl
                                  have hcz74_5 : wc.cell? ⟨gb143, 5, none⟩ = some (.int .u8 x144005_1) := (blk_cell BK143.out 5).trans rfl
                                  have hcz74_6 : wc.cell? ⟨gb143, 6, none⟩ = some (.bool false) := (blk_cell BK143.out 6).trans rfl
                                  have hfz74_0 := blk_frozen BK143.out 0
                                  have hfz74_1 := blk_frozen BK143.out 1
                                  have hfz74_2 := blk_frozen BK143.out 2
                                  have hfz74_3 := blk_frozen BK143.out 3
                                  have hfz74_4 := blk_frozen BK143.out 4
                                  have hfz74_5 := blk_frozen BK143.out 5
                                  have hfz74_6 := blk_frozen BK143.out 6
                                  have hnb75 := NB146_144.out
                                  have hnc75 := NB144_146.out
                                  have hcz76_0 : wc.cell? ⟨gb146, 0, none⟩ = some (.int .i32 ((rd_T62 l1 x5_1).f0)) := (blk_cell BK146.out 0).trans rfl
                                  have hcz76_1 : wc.cell? ⟨gb146, 1, none⟩ = some (.int .i32 ((rd_T62 l1 x5_1).f1)) := (blk_cell BK146.out 1).trans rfl
                                  have hcz76_2 : wc.cell? ⟨gb146, 2, none⟩ = some (.int .i32 ((rd_T62 l1 x5_1).f2)) := (blk_cell BK146.out 2).trans rfl
                                  have hcz76_3 : wc.cell? ⟨gb146, 3, none⟩ = some (.int .u8 ((rd_T62 l1 x5_1).f3)) := (blk_cell BK146.out 3).trans rfl
                                  have hcz76_4 : wc.cell? ⟨gb146, 4, none⟩ = some (.int .u8 ((rd_T62 l1 x5_1).f4)) := (blk_cell BK146.out 4).trans rfl
                                  have hcz76_5 : wc.cell? ⟨gb146, 5, none⟩ = some (.int .u8 ((rd_T62 l1 x5_1).f5)) := (blk_cell BK146.out 5).trans rfl
                                  have hcz76_6 : wc.cell? ⟨gb146, 6, none⟩ = some (.bool ((rd_T62 l1 x5_1).f6)) := (blk_cell BK146.out 6).trans rfl
                                  have hfz76_0 := blk_frozen BK146.out 0
                                  have hfz76_1 := blk_frozen BK146.out 1
                                  have hfz76_2 := blk_frozen BK146.out 2
                                  have hfz76_3 := blk_frozen BK146.out 3
                                  have hfz76_4 := blk_frozen BK146.out 4
                                  have hfz76_5 := blk_frozen BK146.out 5
                                  have hfz76_6 := blk_frozen BK146.out 6
                                  go_wp2
                                  go_roundg kj48
                                  case measure => have := HK1.out; have := HJ15.out; have := HJ28.out; have := HJ38.out; have := HJ48.out; omega
                                  case rel => exact ⟨(wrap64 (x5_1 - 1)), (x144000_15), (x144001_28), (x144002_38), (x144003_48), (x144004_1), (((rd_T62 l1 x5_1).f5)), (by first | rfl | (simp; done) | (simp [*]; done)), H', ⟨by have := HK1.out; have := HJ15.out; have := HJ28.out; have := HJ38.out; have := HJ48.out; omega⟩, ⟨by (with_reducible repeat (first | refine blk_drewN ?_ _ | refine blk_drew ?_ | refine blk_alloc ?_ _)); refine blk_put (cs := #[.int .i32 x144000_15, .int .i32 x144001_28, .int .i32 x144002_38, .int .u8 x144003_48, .int .u8 x144004_1, .int .u8 x144005_1, .bool false]) ?_ 5 _ rfl; (with_reducible repeat (first | refine blk_drewN ?_ _ | refine blk_drew ?_ | refine blk_alloc ?_ _)); exact BK143.out⟩, ⟨by (with_reducible repeat (first | refine blk_drewN ?_ _ | refine blk_drew ?_ | refine blk_alloc ?_ _)); refine blk_far ?_ NB144_143.out _; (with_reducible repeat (first | refine blk_drewN ?_ _ | refine blk_drew ?_ | refine blk_alloc ?_ _)); exact BK144.out⟩, ⟨by repeat (first | (with_reducible first | exact HB.out | apply below_alloc | apply pw_below_drewN | apply below_drew1 | refine below_set ?_ GE143.out | refine below_set ?_ GE144.out | refine below_set ?_ GE146.out) | exact HB.out)⟩⟩
                                · rw [if_neg c71] at H
                                  have c71b0 : (x144005_1 == 0) = false := beq_eq_false_iff_ne.mpr c71
                                  have c71b1 : (x144005_1 != 0) = true := bne_iff_ne.mpr c71
                                  have H' := Aside0.mk H
                                  clear H
                                  have hnb77 := NB143_144.out
                                  have hnc77 := NB144_143.out
                                  have hnb78 := NB143_146.out
                                  have hnc78 := NB146_143.out
                                  have hcz79_0 : wc.cell? ⟨gb143, 0, none⟩ = some (.int .i32 x144000_15) := (blk_cell BK143.out 0).trans rfl
                                  have hcz79_1 : wc.cell? ⟨gb143, 1, none⟩ = some (.int .i32 x144001_28) := (blk_cell BK143.out 1).trans rfl
                                  have hcz79_2 : wc.cell? ⟨gb143, 2, none⟩ = some (.int .i32 x144002_38) := (blk_cell BK143.out 2).trans rfl
                                  have hcz79_3 : wc.cell? ⟨gb143, 3, none⟩ = some (.int .u8 x144003_48) := (blk_cell BK143.out 3).trans rfl
                                  have hcz79_4 : wc.cell? ⟨gb143, 4, none⟩ = some (.int .u8 x144004_1) := (blk_cell BK143.out 4).trans rfl
                                  have hcz79_5 : wc.cell? ⟨gb143, 5, none⟩ = some (.int .u8 x144005_1) := (blk_cell BK143.out 5).trans rfl
                                  have hcz79_6 : wc.cell? ⟨gb143, 6, none⟩ = some (.bool false) := (blk_cell BK143.out 6).trans rfl
                                  have hfz79_0 := blk_frozen BK143.out 0
                                  have hfz79_1 := blk_frozen BK143.out 1
                                  have hfz79_2 := blk_frozen BK143.out 2
                                  have hfz79_3 := blk_frozen BK143.out 3
                                  have hfz79_4 := blk_frozen BK143.out 4
                                  have hfz79_5 := blk_frozen BK143.out 5
                                  have hfz79_6 := blk_frozen BK143.out 6
                                  go_wp2
                                  go_roundg kj48
                                  case measure => have := HK1.out; have := HJ15.out; have := HJ28.out; have := HJ38.out; have := HJ48.out; omega
                                  case rel => exact ⟨(wrap64 (x5_1 - 1)), (x144000_15), (x144001_28), (x144002_38), (x144003_48), (x144004_1), (x144005_1), (by first | rfl | (simp; done) | (simp [*]; done)), H', ⟨by have := HK1.out; have := HJ15.out; have := HJ28.out; have := HJ38.out; have := HJ48.out; omega⟩, ⟨by (with_reducible repeat (first | refine blk_drewN ?_ _ | refine blk_drew ?_ | refine blk_alloc ?_ _)); exact BK143.out⟩, ⟨by (with_reducible repeat (first | refine blk_drewN ?_ _ | refine blk_drew ?_ | refine blk_alloc ?_ _)); exact BK144.out⟩, ⟨by repeat (first | (with_reducible first | exact HB.out | apply below_alloc | apply pw_below_drewN | apply below_drew1 | refine below_set ?_ GE143.out | refine below_set ?_ GE144.out | refine below_set ?_ GE146.out) | exact HB.out)⟩⟩
            · rw [if_neg c15] at H
              exact absurd H (by simp)
          · rw [if_neg c14] at H
            exact absurd H (by simp)
        · rw [if_neg c13] at H
          have c13b0 : decide (0 ≤ x5_1) = false := decide_eq_false c13
          clear c13
          simp only [Option.some.injEq, Prod.mk.injEq] at H
          obtain ⟨rfl, rfl, rfl, rfl, rfl, rfl, rfl⟩ := H
          have hnb80 := NB143_144.out
          have hnc80 := NB144_143.out
          have hcz81_0 : wr.cell? ⟨gb143, 0, none⟩ = some (.int .i32 x144000_1) := (blk_cell BK143.out 0).trans rfl
          have hcz81_1 : wr.cell? ⟨gb143, 1, none⟩ = some (.int .i32 x144001_1) := (blk_cell BK143.out 1).trans rfl
          have hcz81_2 : wr.cell? ⟨gb143, 2, none⟩ = some (.int .i32 x144002_1) := (blk_cell BK143.out 2).trans rfl
          have hcz81_3 : wr.cell? ⟨gb143, 3, none⟩ = some (.int .u8 x144003_1) := (blk_cell BK143.out 3).trans rfl
          have hcz81_4 : wr.cell? ⟨gb143, 4, none⟩ = some (.int .u8 x144004_1) := (blk_cell BK143.out 4).trans rfl
          have hcz81_5 : wr.cell? ⟨gb143, 5, none⟩ = some (.int .u8 x144005_1) := (blk_cell BK143.out 5).trans rfl
          have hcz81_6 : wr.cell? ⟨gb143, 6, none⟩ = some (.bool false) := (blk_cell BK143.out 6).trans rfl
          have hfz81_0 := blk_frozen BK143.out 0
          have hfz81_1 := blk_frozen BK143.out 1
          have hfz81_2 := blk_frozen BK143.out 2
          have hfz81_3 := blk_frozen BK143.out 3
          have hfz81_4 := blk_frozen BK143.out 4
          have hfz81_5 := blk_frozen BK143.out 5
          have hfz81_6 := blk_frozen BK143.out 6
          have hcz82_0 : wr.cell? ⟨gb144, 0, none⟩ = some (.int .i32 0) := (blk_cell BK144.out 0).trans rfl
          have hcz82_1 : wr.cell? ⟨gb144, 1, none⟩ = some (.int .i32 0) := (blk_cell BK144.out 1).trans rfl
          have hcz82_2 : wr.cell? ⟨gb144, 2, none⟩ = some (.int .i32 0) := (blk_cell BK144.out 2).trans rfl
          have hcz82_3 : wr.cell? ⟨gb144, 3, none⟩ = some (.int .u8 0) := (blk_cell BK144.out 3).trans rfl
          have hcz82_4 : wr.cell? ⟨gb144, 4, none⟩ = some (.int .u8 0) := (blk_cell BK144.out 4).trans rfl
          have hcz82_5 : wr.cell? ⟨gb144, 5, none⟩ = some (.int .u8 0) := (blk_cell BK144.out 5).trans rfl
          have hcz82_6 : wr.cell? ⟨gb144, 6, none⟩ = some (.bool false) := (blk_cell BK144.out 6).trans rfl
          have hfz82_0 := blk_frozen BK144.out 0
          have hfz82_1 := blk_frozen BK144.out 1
          have hfz82_2 := blk_frozen BK144.out 2
          have hfz82_3 := blk_frozen BK144.out 3
          have hfz82_4 := blk_frozen BK144.out 4
          have hfz82_5 := blk_frozen BK144.out 5
          have hfz82_6 := blk_frozen BK144.out 6
          go_wp2
          refine bodyPost_ret (results_cell_row rfl _ _ gb144 62 #[.int .i32 x144000_1, .int .i32 x144001_1, .int .i32 x144002_1, .int .u8 x144003_1, .int .u8 x144004_1, .int .u8 x144005_1, .bool false] (0, 0) _ rfl (by (with_reducible repeat (first | refine blk_drewN ?_ _ | refine blk_drew ?_ | refine blk_alloc ?_ _)); refine blk_put (cs := #[.int .i32 x144000_1, .int .i32 x144001_1, .int .i32 x144002_1, .int .u8 x144003_1, .int .u8 x144004_1, .int .u8 x144005_1, .bool false]) ?_ 6 _ rfl; (with_reducible repeat (first | refine blk_drewN ?_ _ | refine blk_drew ?_ | refine blk_alloc ?_ _)); refine blk_put (cs := #[.int .i32 x144000_1, .int .i32 x144001_1, .int .i32 x144002_1, .int .u8 x144003_1, .int .u8 x144004_1, .int .u8 0, .bool false]) ?_ 5 _ rfl; (with_reducible repeat (first | refine blk_drewN ?_ _ | refine blk_drew ?_ | refine blk_alloc ?_ _)); refine blk_put (cs := #[.int .i32 x144000_1, .int .i32 x144001_1, .int .i32 x144002_1, .int .u8 x144003_1, .int .u8 0, .int .u8 0, .bool false]) ?_ 4 _ rfl; (with_reducible repeat (first | refine blk_drewN ?_ _ | refine blk_drew ?_ | refine blk_alloc ?_ _)); refine blk_put (cs := #[.int .i32 x144000_1, .int .i32 x144001_1, .int .i32 x144002_1, .int .u8 0, .int .u8 0, .int .u8 0, .bool false]) ?_ 3 _ rfl; (with_reducible repeat (first | refine blk_drewN ?_ _ | refine blk_drew ?_ | refine blk_alloc ?_ _)); refine blk_put (cs := #[.int .i32 x144000_1, .int .i32 x144001_1, .int .i32 0, .int .u8 0, .int .u8 0, .int .u8 0, .bool false]) ?_ 2 _ rfl; (with_reducible repeat (first | refine blk_drewN ?_ _ | refine blk_drew ?_ | refine blk_alloc ?_ _)); refine blk_put (cs := #[.int .i32 x144000_1, .int .i32 0, .int .i32 0, .int .u8 0, .int .u8 0, .int .u8 0, .bool false]) ?_ 1 _ rfl; (with_reducible repeat (first | refine blk_drewN ?_ _ | refine blk_drew ?_ | refine blk_alloc ?_ _)); refine blk_put (cs := #[.int .i32 0, .int .i32 0, .int .i32 0, .int .u8 0, .int .u8 0, .int .u8 0, .bool false]) ?_ 0 _ rfl; (with_reducible repeat (first | refine blk_drewN ?_ _ | refine blk_drew ?_ | refine blk_alloc ?_ _)); exact BK144.out) Tryz.underlying62 rfl (by kernel_rfl)) rfl ?_
          exact ⟨by first | rfl | (simp [errW_none, errW_some] <;> rfl) | (simp [*, errW_none, errW_some] <;> rfl), by repeat (first | (with_reducible first | exact HB.out | apply below_alloc | apply pw_below_drewN | apply below_drew1 | refine below_set ?_ GE143.out | refine below_set ?_ GE144.out) | exact HB.out)⟩

end Go.Proofs.YtjemdgmihbmgeaaGreatDoor.S
