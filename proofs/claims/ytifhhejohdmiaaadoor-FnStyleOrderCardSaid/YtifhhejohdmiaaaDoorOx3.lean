-- WRITTEN BY OUR myprint.py, a program of this session's over the kit's printer
import Derived.Test.YtifhhejohdmiaaaDoorOx0
import Derived.Test.YtifhhejohdmiaaaDoorOx1
import Derived.Test.YtifhhejohdmiaaaDoorOx2
namespace Go.Proofs.YtifhhejohdmiaaaDoor.O
open Go.RowKit Go.Proofs.YtifhhejohdmiaaaDoorW.PrintWords Go.Proofs.YtifhhejohdmiaaaDoorW.PrintLast Go.Proofs.YtifhhejohdmiaaaDoorW.PrintMore
attribute [local go_sem] max2_int min2_int max_two min_two max_three min_three max_four min_four   -- for this text's walks alone
set_option linter.unusedVariables false
set_option linter.unusedSimpArgs false

attribute [local go_sem high] eqA23
/-! ### laws_FnStyleOrder: function 10 -/
mutual
def laws_FnStyleOrder.j0 : Nat → List (S49) → Int → List Int → Bool → Option (Bool)
  | 0, _, _, _, _ => none
  | k + 1, x0, x1, x2, x24 => if x24 = true then (some true) else ((laws_few.f k x0 x2).bind fun t108 => (if t108 = true then (laws_FnStyleOrder.l0 k x0 x1 x2 x0 (x0.length : Int) 0) else (some true)))
def laws_FnStyleOrder.l0 : Nat → List (S49) → Int → List Int → List (S49) → Int → Int → Option (Bool)
  | 0, _, _, _, _, _, _ => none
  | k + 1, x0, x1, x2, x29, x30, x31 => if x31 < x30 then (if 0 ≤ x31 then (if x31 < (x29.length : Int) then (if x31 ≤ (x0.length : Int) then ((some (x0.take (x31 : Int).toNat : List (S49))).bind fun y111 => (laws_FnStyleOrder.l1 k x0 x1 x2 x29 x30 x31 y111 (y111.length : Int) 0 ((rd_T49 x29 x31).f0) ((rd_T49 x29 x31).f1))) else (none)) else (none)) else (none)) else (if (wrap64 ((x0.length : Int) + 1)) = 0 then (none) else ((impl_StyleGet.f x0 x2).bind fun bt117 => (if 0 ≤ (Int.tmod (wrap64 (x1)) (wrap64 ((x0.length : Int) + 1))) then (if (Int.tmod (wrap64 (x1)) (wrap64 ((x0.length : Int) + 1))) ≤ (x0.length : Int) then ((some (x0.drop ((Int.tmod (wrap64 (x1)) (wrap64 ((x0.length : Int) + 1))) : Int).toNat : List (S49))).bind fun y121 => (if ([] : List (S49)).length + y121.length < 5864062014805 then ((some (([] : List (S49)) ++ y121 : List (S49))).bind fun y125 => ((some (x0.take ((Int.tmod (wrap64 (x1)) (wrap64 ((x0.length : Int) + 1))) : Int).toNat : List (S49))).bind fun y128 => (if y125.length + y128.length < 5864062014805 then ((impl_StyleGet.f (y125 ++ y128) x2).bind fun bt135 => (if (bt117.2 != bt135.2) = true then (laws_FnStyleOrder.j3 k bt117.1 bt117.2 bt135.1 true) else (laws_FnStyleOrder.j3 k bt117.1 bt117.2 bt135.1 ((bt117.1.length : Int) != (bt135.1.length : Int))))) else (none)))) else (none))) else (none)) else (none))))
def laws_FnStyleOrder.l1 : Nat → List (S49) → Int → List Int → List (S49) → Int → Int → List (S49) → Int → Int → Int → ByteArray → Option (Bool)
  | 0, _, _, _, _, _, _, _, _, _, _, _ => none
  | k + 1, x0, x1, x2, x29, x30, x31, x38, x39, x40, x111000, x111001 => if x40 < x39 then (if 0 ≤ x40 then (if x40 < (x38.length : Int) then (if x111000 = ((rd_T49 x38 x40).f0) then (some true) else (laws_FnStyleOrder.l1 k x0 x1 x2 x29 x30 x31 x38 x39 (wrap64 (x40 + 1)) x111000 x111001)) else (none)) else (none)) else (laws_FnStyleOrder.l0 k x0 x1 x2 x29 x30 (wrap64 (x31 + 1)))
def laws_FnStyleOrder.j3 : Nat → List (S23) → Bool → List (S23) → Bool → Option (Bool)
  | 0, _, _, _, _ => none
  | k + 1, x12, x13, x14, x85 => if x85 = true then (some false) else (laws_FnStyleOrder.l2 k x12 x13 x14 (x12.length : Int) 0)
def laws_FnStyleOrder.l2 : Nat → List (S23) → Bool → List (S23) → Int → Int → Option (Bool)
  | 0, _, _, _, _, _ => none
  | k + 1, x12, x13, x14, x87, x88 => if x88 < x87 then (if x13 = true then (if 0 ≤ x88 then (if x88 < (x12.length : Int) then (if x88 < (x14.length : Int) then (if (!(((rd_T23 x12 x88).f0) == ((rd_T23 x14 x88).f0)) || (!(((rd_T23 x12 x88).f1) == ((rd_T23 x14 x88).f1)) || (!(((rd_T23 x12 x88).f2) == ((rd_T23 x14 x88).f2)) || (!(((rd_T23 x12 x88).f3) == ((rd_T23 x14 x88).f3)) || (!(((rd_T23 x12 x88).f4) == ((rd_T23 x14 x88).f4)) || (!(((rd_T23 x12 x88).f5) == ((rd_T23 x14 x88).f5)) || (!(((rd_T23 x12 x88).f6) == ((rd_T23 x14 x88).f6))))))))) = true then (some false) else (laws_FnStyleOrder.l2 k x12 x13 x14 x87 (wrap64 (x88 + 1)))) else (none)) else (none)) else (none)) else (laws_FnStyleOrder.l2 k x12 x13 x14 x87 (wrap64 (x88 + 1)))) else ((laws_styled.f).bind fun t141 => (some t141))
end
def laws_FnStyleOrder.f (k : Nat) (l0 : List (S49)) (a1 : Int) (l2 : List Int) : Option (Bool) := (laws_zzFits2.f k l0).bind fun t107 => (if t107 = true then (laws_FnStyleOrder.j0 k l0 a1 l2 (decide ((l2.length : Int) > 2147483647))) else (laws_FnStyleOrder.j0 k l0 a1 l2 true))
theorem laws_FnStyleOrder.mono_l : ∀ k, (∀ y0 y1 y2 y3, LeO (laws_FnStyleOrder.j0 k y0 y1 y2 y3) (laws_FnStyleOrder.j0 (k + 1) y0 y1 y2 y3)) ∧ (∀ y0 y1 y2 y3 y4 y5, LeO (laws_FnStyleOrder.l0 k y0 y1 y2 y3 y4 y5) (laws_FnStyleOrder.l0 (k + 1) y0 y1 y2 y3 y4 y5)) ∧ (∀ y0 y1 y2 y3 y4 y5 y6 y7 y8 y9 y10, LeO (laws_FnStyleOrder.l1 k y0 y1 y2 y3 y4 y5 y6 y7 y8 y9 y10) (laws_FnStyleOrder.l1 (k + 1) y0 y1 y2 y3 y4 y5 y6 y7 y8 y9 y10)) ∧ (∀ y0 y1 y2 y3, LeO (laws_FnStyleOrder.j3 k y0 y1 y2 y3) (laws_FnStyleOrder.j3 (k + 1) y0 y1 y2 y3)) ∧ (∀ y0 y1 y2 y3 y4, LeO (laws_FnStyleOrder.l2 k y0 y1 y2 y3 y4) (laws_FnStyleOrder.l2 (k + 1) y0 y1 y2 y3 y4))
  | 0 => ⟨fun _ _ _ _ r h => by simp [laws_FnStyleOrder.j0] at h, fun _ _ _ _ _ _ r h => by simp [laws_FnStyleOrder.l0] at h, fun _ _ _ _ _ _ _ _ _ _ _ r h => by simp [laws_FnStyleOrder.l1] at h, fun _ _ _ _ r h => by simp [laws_FnStyleOrder.j3] at h, fun _ _ _ _ _ r h => by simp [laws_FnStyleOrder.l2] at h⟩
  | k + 1 => by
    obtain ⟨ih0, ih1, ih2, ih3, ih4⟩ := laws_FnStyleOrder.mono_l k
    refine ⟨?_, ?_, ?_, ?_, ?_⟩
    · intro y0 y1 y2 y3
      unfold laws_FnStyleOrder.j0
      repeat' first
      | (with_reducible exact ih0 _ _ _ _)
      | (with_reducible exact ih1 _ _ _ _ _ _)
      | (with_reducible exact ih2 _ _ _ _ _ _ _ _ _ _ _)
      | (with_reducible exact ih3 _ _ _ _)
      | (with_reducible exact ih4 _ _ _ _ _)
      | (with_reducible exact laws_few.mono _ _ _)
      | (with_reducible exact laws_zzFits2.mono _ _)
      | (with_reducible exact LeO.refl _)
      | (with_reducible exact LeO.none _)
      | (with_reducible refine LeO.ite ?_ ?_)
      | (with_reducible refine LeO.bind ?_ (fun _ => ?_))
      | exact ih0 _ _ _ _
      | exact ih1 _ _ _ _ _ _
      | exact ih2 _ _ _ _ _ _ _ _ _ _ _
      | exact ih3 _ _ _ _
      | exact ih4 _ _ _ _ _
      | exact laws_few.mono _ _ _
      | exact laws_zzFits2.mono _ _
      | exact LeO.none _
      | refine LeO.ite ?_ ?_
      | refine LeO.bind ?_ (fun _ => ?_)
    · intro y0 y1 y2 y3 y4 y5
      unfold laws_FnStyleOrder.l0
      repeat' first
      | (with_reducible exact ih0 _ _ _ _)
      | (with_reducible exact ih1 _ _ _ _ _ _)
      | (with_reducible exact ih2 _ _ _ _ _ _ _ _ _ _ _)
      | (with_reducible exact ih3 _ _ _ _)
      | (with_reducible exact ih4 _ _ _ _ _)
      | (with_reducible exact laws_few.mono _ _ _)
      | (with_reducible exact laws_zzFits2.mono _ _)
      | (with_reducible exact LeO.refl _)
      | (with_reducible exact LeO.none _)
      | (with_reducible refine LeO.ite ?_ ?_)
      | (with_reducible refine LeO.bind ?_ (fun _ => ?_))
      | exact ih0 _ _ _ _
      | exact ih1 _ _ _ _ _ _
      | exact ih2 _ _ _ _ _ _ _ _ _ _ _
      | exact ih3 _ _ _ _
      | exact ih4 _ _ _ _ _
      | exact laws_few.mono _ _ _
      | exact laws_zzFits2.mono _ _
      | exact LeO.none _
      | refine LeO.ite ?_ ?_
      | refine LeO.bind ?_ (fun _ => ?_)
    · intro y0 y1 y2 y3 y4 y5 y6 y7 y8 y9 y10
      unfold laws_FnStyleOrder.l1
      repeat' first
      | (with_reducible exact ih0 _ _ _ _)
      | (with_reducible exact ih1 _ _ _ _ _ _)
      | (with_reducible exact ih2 _ _ _ _ _ _ _ _ _ _ _)
      | (with_reducible exact ih3 _ _ _ _)
      | (with_reducible exact ih4 _ _ _ _ _)
      | (with_reducible exact laws_few.mono _ _ _)
      | (with_reducible exact laws_zzFits2.mono _ _)
      | (with_reducible exact LeO.refl _)
      | (with_reducible exact LeO.none _)
      | (with_reducible refine LeO.ite ?_ ?_)
      | (with_reducible refine LeO.bind ?_ (fun _ => ?_))
      | exact ih0 _ _ _ _
      | exact ih1 _ _ _ _ _ _
      | exact ih2 _ _ _ _ _ _ _ _ _ _ _
      | exact ih3 _ _ _ _
      | exact ih4 _ _ _ _ _
      | exact laws_few.mono _ _ _
      | exact laws_zzFits2.mono _ _
      | exact LeO.none _
      | refine LeO.ite ?_ ?_
      | refine LeO.bind ?_ (fun _ => ?_)
    · intro y0 y1 y2 y3
      unfold laws_FnStyleOrder.j3
      repeat' first
      | (with_reducible exact ih0 _ _ _ _)
      | (with_reducible exact ih1 _ _ _ _ _ _)
      | (with_reducible exact ih2 _ _ _ _ _ _ _ _ _ _ _)
      | (with_reducible exact ih3 _ _ _ _)
      | (with_reducible exact ih4 _ _ _ _ _)
      | (with_reducible exact laws_few.mono _ _ _)
      | (with_reducible exact laws_zzFits2.mono _ _)
      | (with_reducible exact LeO.refl _)
      | (with_reducible exact LeO.none _)
      | (with_reducible refine LeO.ite ?_ ?_)
      | (with_reducible refine LeO.bind ?_ (fun _ => ?_))
      | exact ih0 _ _ _ _
      | exact ih1 _ _ _ _ _ _
      | exact ih2 _ _ _ _ _ _ _ _ _ _ _
      | exact ih3 _ _ _ _
      | exact ih4 _ _ _ _ _
      | exact laws_few.mono _ _ _
      | exact laws_zzFits2.mono _ _
      | exact LeO.none _
      | refine LeO.ite ?_ ?_
      | refine LeO.bind ?_ (fun _ => ?_)
    · intro y0 y1 y2 y3 y4
      unfold laws_FnStyleOrder.l2
      repeat' first
      | (with_reducible exact ih0 _ _ _ _)
      | (with_reducible exact ih1 _ _ _ _ _ _)
      | (with_reducible exact ih2 _ _ _ _ _ _ _ _ _ _ _)
      | (with_reducible exact ih3 _ _ _ _)
      | (with_reducible exact ih4 _ _ _ _ _)
      | (with_reducible exact laws_few.mono _ _ _)
      | (with_reducible exact laws_zzFits2.mono _ _)
      | (with_reducible exact LeO.refl _)
      | (with_reducible exact LeO.none _)
      | (with_reducible refine LeO.ite ?_ ?_)
      | (with_reducible refine LeO.bind ?_ (fun _ => ?_))
      | exact ih0 _ _ _ _
      | exact ih1 _ _ _ _ _ _
      | exact ih2 _ _ _ _ _ _ _ _ _ _ _
      | exact ih3 _ _ _ _
      | exact ih4 _ _ _ _ _
      | exact laws_few.mono _ _ _
      | exact laws_zzFits2.mono _ _
      | exact LeO.none _
      | refine LeO.ite ?_ ?_
      | refine LeO.bind ?_ (fun _ => ?_)
theorem laws_FnStyleOrder.mono : ∀ a0 a1 a2 k, LeO (laws_FnStyleOrder.f k a0 a1 a2) (laws_FnStyleOrder.f (k + 1) a0 a1 a2) := by
  intro a0 a1 a2 k
  obtain ⟨ih0, ih1, ih2, ih3, ih4⟩ := laws_FnStyleOrder.mono_l k
  unfold laws_FnStyleOrder.f
  repeat' first
      | (with_reducible exact ih0 _ _ _ _)
      | (with_reducible exact ih1 _ _ _ _ _ _)
      | (with_reducible exact ih2 _ _ _ _ _ _ _ _ _ _ _)
      | (with_reducible exact ih3 _ _ _ _)
      | (with_reducible exact ih4 _ _ _ _ _)
      | (with_reducible exact laws_few.mono _ _ _)
      | (with_reducible exact laws_zzFits2.mono _ _)
      | (with_reducible exact LeO.refl _)
      | (with_reducible exact LeO.none _)
      | (with_reducible refine LeO.ite ?_ ?_)
      | (with_reducible refine LeO.bind ?_ (fun _ => ?_))
      | exact ih0 _ _ _ _
      | exact ih1 _ _ _ _ _ _
      | exact ih2 _ _ _ _ _ _ _ _ _ _ _
      | exact ih3 _ _ _ _
      | exact ih4 _ _ _ _ _
      | exact laws_few.mono _ _ _
      | exact laws_zzFits2.mono _ _
      | exact LeO.none _
      | refine LeO.ite ?_ ?_
      | refine LeO.bind ?_ (fun _ => ?_)
def laws_FnStyleOrder.T17 : Bool × List (List Nat × List Nat) := (true, [([], []), ([], []), ([0, 1], [0, 1]), ([2], [2]), ([], []), ([], []), ([4, 5], [4, 5]), ([3, 6, 3], [3, 6]), ([], []), ([7, 8, 7], [7, 8]), ([9], [9]), ([10], [10]), ([10], [10]), ([11, 9, 0, 1, 2, 3, 4, 5, 6, 7, 8, 9, 10, 11], [11]), ([12, 13, 0, 1, 2, 3, 4, 5, 6, 7, 8, 9, 10, 11, 12, 13], [12])])
def laws_FnStyleOrder.B17 : List Nat := [0, 0, 3, 7, 0, 0, 48, 127, 0, 511, 1023, 2047, 2047, 4095, 16383]
theorem laws_FnStyleOrder.tab17 : rtab .any (opsOf Tryd.f10 17) = laws_FnStyleOrder.T17 := by kernel_rfl
theorem laws_FnStyleOrder.bits17 : waitsOk laws_FnStyleOrder.T17.2 laws_FnStyleOrder.B17 = true := by kernel_rfl
def laws_FnStyleOrder.T23 : Bool × List (List Nat × List Nat) := (true, [([], []), ([0], [0]), ([1], [1]), ([1], [1]), ([2, 3, 1], [1, 2, 3]), ([4, 1], [1, 4]), ([1], [1]), ([1], [1]), ([6, 7, 1], [1, 6, 7]), ([8, 1], [1, 8]), ([5, 9, 1], [1, 5, 9]), ([1, 10], [1, 10])])
def laws_FnStyleOrder.B23 : List Nat := [0, 1, 3, 3, 15, 31, 3, 3, 195, 451, 1023, 2047]
theorem laws_FnStyleOrder.tab23 : rtab .any (opsOf Tryd.f10 23) = laws_FnStyleOrder.T23 := by kernel_rfl
theorem laws_FnStyleOrder.bits23 : waitsOk laws_FnStyleOrder.T23.2 laws_FnStyleOrder.B23 = true := by kernel_rfl
set_option maxHeartbeats 8000000 in
set_option maxRecDepth 100000 in
theorem laws_FnStyleOrder.calls (k : Nat) (A0 : Option Addr) (c0 : Nat) (l0 : List (S49)) (a1 : Int) (A2 : Option Addr) (c2 : Nat) (l2 : List Int) (r : Bool) (hrT : Aside0 (r = true)) (w : World) (hr0 : Kd.C k49 w A0 l0.length l0) (hc0 : l0.length ≤ c0) (hr2 : Kd.C (Kd.int .i64) w A2 l2.length l2) (hc2 : l2.length ≤ c2) (hV : Go.Proofs.YtifhhejohdmiaaaDoorFmt.VarsOK w) (h : laws_FnStyleOrder.f k l0 a1 l2 = some r) :
    Calls Tryd.prog 10 #[.slice A0 l0.length c0, .int .u8 a1, .slice A2 l2.length c2] w fun e w' => e = .returned (.bool r) ∧ Below w.heap.size w w' := by
  have hu49 := Tryd.underlying49
  have hu23 := Tryd.underlying23
  have HR0 := Aside0.mk hr0
  have HC0 := Aside0.mk hc0
  clear hr0 hc0
  have HR2 := Aside0.mk hr2
  have HC2 := Aside0.mk hc2
  clear hr2 hc2
  have HB := Aside0.mk (Below.refl w.heap.size w)
  have HV := Aside0.mk hV
  clear hV
  have H : ((laws_zzFits2.f k l0).bind fun t107 => (if t107 = true then (laws_FnStyleOrder.j0 k l0 a1 l2 (decide ((l2.length : Int) > 2147483647))) else (laws_FnStyleOrder.j0 k l0 a1 l2 true))) = some r := h
  clear h
  have HC4 := Aside0.mk H
  clear H
  go_enter Tryd.func10, Tryd.ntmps10
  go_upto_region 1 with (fail)
  go_cut [24] (fun v24 wc => ∃ (kq : Nat) (x24_3 : Bool), v24 = .bool x24_3 ∧ Aside0 (laws_FnStyleOrder.j0 kq l0 a1 l2 x24_3 = some r) ∧ Aside0 (kq ≤ k) ∧ Aside0 (Below w.heap.size w wc))
  case first =>
    have H := HC4.out
    clear HC4
    replace H := Option.bind_eq_some_iff.mp H
    obtain ⟨t107, A50, H⟩ := H
    replace H : (if t107 = true then (laws_FnStyleOrder.j0 k l0 a1 l2 (decide ((l2.length : Int) > 2147483647))) else (laws_FnStyleOrder.j0 k l0 a1 l2 true)) = some r := H
    have A5 := Aside0.mk A50
    clear A50
    by_cases c6 : t107 = true
    · subst c6
      have H1 : (laws_FnStyleOrder.j0 k l0 a1 l2 (decide ((l2.length : Int) > 2147483647))) = some r := by rw [if_pos rfl] at H; exact H
      clear H
      have H := H1
      clear H1
      have H' := Aside0.mk H
      clear H
      go_wp2_with (first | ((with_reducible refine gate_callee (f := 24) rfl ?_); refine goesL_ (some 18) rfl rfl Tryd.func24 (by kernel_rfl) rfl #[.slice A0 l0.length c0] rfl (by (try simp only [List.map_toArray, List.map_cons, List.map_nil]); first | done | rfl | (simp only [List.length_drop, List.length_take]; rfl)) ?_; (with_reducible refine (laws_zzFits2.calls k _ _ l0 true _ ?side1 ?side2 A5.out).mono ?_); (case side1 => repeat (first | exact (Kd.C_below HR0.out HB.out) | (with_reducible refine Kd.C_alloc ?_ _) | (with_reducible refine Kd.C_drewN ?_ _) | (with_reducible refine Kd.C_drew ?_))); (case side2 => exact HC0.out); rintro e w7 ⟨rfl, hb⟩; refine ⟨_, rfl, ?_⟩; have n0_ := Aside0.mk (below_step (by repeat (first | (with_reducible first | exact HB.out | apply below_alloc | apply pw_below_drewN | apply below_drew1) | exact HB.out)) hb); clear HB; have HB := n0_; clear n0_; (try clear hb); (try clear hb2); (try clear hk); (try clear hi)))
      go_meet
      case rel => exact ⟨_, (decide ((l2.length : Int) > 2147483647)), (by first | rfl | (simp; done) | (simp [*]; done)), H', ⟨by first | omega | exact Nat.le_refl _⟩, ⟨by repeat (first | (with_reducible first | exact HB.out | apply below_alloc | apply pw_below_drewN | apply below_drew1) | exact HB.out)⟩⟩
    · replace c6 := Bool.eq_false_iff.mpr c6
      subst c6
      have H1 : (laws_FnStyleOrder.j0 k l0 a1 l2 true) = some r := by rw [if_neg (show ¬ (false = true) by decide)] at H; exact H
      clear H
      have H := H1
      clear H1
      have H' := Aside0.mk H
      clear H
      go_wp2_with (first | ((with_reducible refine gate_callee (f := 24) rfl ?_); refine goesL_ (some 18) rfl rfl Tryd.func24 (by kernel_rfl) rfl #[.slice A0 l0.length c0] rfl (by (try simp only [List.map_toArray, List.map_cons, List.map_nil]); first | done | rfl | (simp only [List.length_drop, List.length_take]; rfl)) ?_; (with_reducible refine (laws_zzFits2.calls k _ _ l0 false _ ?side1 ?side2 A5.out).mono ?_); (case side1 => repeat (first | exact (Kd.C_below HR0.out HB.out) | (with_reducible refine Kd.C_alloc ?_ _) | (with_reducible refine Kd.C_drewN ?_ _) | (with_reducible refine Kd.C_drew ?_))); (case side2 => exact HC0.out); rintro e w8 ⟨rfl, hb⟩; refine ⟨_, rfl, ?_⟩; have n0_ := Aside0.mk (below_step (by repeat (first | (with_reducible first | exact HB.out | apply below_alloc | apply pw_below_drewN | apply below_drew1) | exact HB.out)) hb); clear HB; have HB := n0_; clear n0_; (try clear hb); (try clear hb2); (try clear hk); (try clear hi)))
      go_meet
      case rel => exact ⟨_, (true), (by first | rfl | (simp; done) | (simp [*]; done)), H', ⟨by first | omega | exact Nat.le_refl _⟩, ⟨by repeat (first | (with_reducible first | exact HB.out | apply below_alloc | apply pw_below_drewN | apply below_drew1) | exact HB.out)⟩⟩
  case rest =>
    clear HC4
    try clear c1
    try clear c2
    try clear p2
    try clear c6
    obtain ⟨kq, x24_3, rfl, HA, HJ3, HB⟩ := hcut
    cases kq with
    | zero => exact absurd HA.out (by simp [laws_FnStyleOrder.j0])
    | succ kj3 =>
      have H := HA.out
      clear HA
      simp only [laws_FnStyleOrder.j0] at H
      by_cases c9 : x24_3 = true
      · subst c9
        have H1 : (some true) = some r := by rw [if_pos rfl] at H; exact H
        clear H
        have H := H1
        clear H1
        obtain rfl := Option.some.inj H
        go_wp2
        go_ret
        exact ⟨by first | rfl | (simp [errW_none, errW_some] <;> rfl) | (simp [*, errW_none, errW_some] <;> rfl), by repeat (first | (with_reducible first | exact HB.out | apply below_alloc | apply pw_below_drewN | apply below_drew1) | exact HB.out)⟩
      · replace c9 := Bool.eq_false_iff.mpr c9
        subst c9
        have H1 : ((laws_few.f kj3 l0 l2).bind fun t108 => (if t108 = true then (laws_FnStyleOrder.l0 kj3 l0 a1 l2 l0 (l0.length : Int) 0) else (some true))) = some r := by rw [if_neg (show ¬ (false = true) by decide)] at H; exact H
        clear H
        have H := H1
        clear H1
        replace H := Option.bind_eq_some_iff.mp H
        obtain ⟨t108, A100, H⟩ := H
        replace H : (if t108 = true then (laws_FnStyleOrder.l0 kj3 l0 a1 l2 l0 (l0.length : Int) 0) else (some true)) = some r := H
        have A10 := Aside0.mk A100
        clear A100
        by_cases c11 : t108 = true
        · subst c11
          have H1 : (laws_FnStyleOrder.l0 kj3 l0 a1 l2 l0 (l0.length : Int) 0) = some r := by rw [if_pos rfl] at H; exact H
          clear H
          have H := H1
          clear H1
          have H' := Aside0.mk H
          clear H
          go_wp2_with (first | ((with_reducible refine gate_callee (f := 25) rfl ?_); refine goesL_ (some 27) rfl rfl Tryd.func25 (by kernel_rfl) rfl #[.slice A0 l0.length c0, .slice A2 l2.length c2] rfl (by (try simp only [List.map_toArray, List.map_cons, List.map_nil]); first | done | rfl | (simp only [List.length_drop, List.length_take]; rfl)) ?_; (with_reducible refine (laws_few.calls kj3 _ _ l0 _ _ l2 true _ ?side1 ?side2 ?side3 ?side4 A10.out).mono ?_); (case side1 => repeat (first | exact (Kd.C_below HR0.out HB.out) | (with_reducible refine Kd.C_alloc ?_ _) | (with_reducible refine Kd.C_drewN ?_ _) | (with_reducible refine Kd.C_drew ?_))); (case side2 => exact HC0.out); (case side3 => repeat (first | exact (Kd.C_below HR2.out HB.out) | (with_reducible refine Kd.C_alloc ?_ _) | (with_reducible refine Kd.C_drewN ?_ _) | (with_reducible refine Kd.C_drew ?_))); (case side4 => exact HC2.out); rintro e w12 ⟨rfl, hb⟩; refine ⟨_, rfl, ?_⟩; have n0_ := Aside0.mk (below_step (by repeat (first | (with_reducible first | exact HB.out | apply below_alloc | apply pw_below_drewN | apply below_drew1) | exact HB.out)) hb); clear HB; have HB := n0_; clear n0_; (try clear hb); (try clear hb2); (try clear hk); (try clear hi)))
          go_loopg [31] kj3 (fun kq v31 w' => ∃ (x31_2 : Int), v31 = .int .i64 x31_2 ∧ Aside0 (laws_FnStyleOrder.l0 kq l0 a1 l2 l0 (l0.length : Int) x31_2 = some r) ∧ Aside0 (kq ≤ kj3) ∧ Aside0 (Below w.heap.size w w'))
          case atStart => exact ⟨(0), (by first | rfl | (simp; done) | (simp [*]; done)), H', ⟨Nat.le_refl _⟩, ⟨by repeat (first | (with_reducible first | exact HB.out | apply below_alloc | apply pw_below_drewN | apply below_drew1) | exact HB.out)⟩⟩
          case round =>
            clear H'
            try clear c1
            try clear c2
            try clear p2
            try clear c6
            try clear c9
            try clear c10
            try clear c11
            try clear p2
            obtain ⟨x31_2, rfl, HA, HK2, HB⟩ := hrel
            cases gk with
            | zero => exact absurd HA.out (by simp [laws_FnStyleOrder.l0])
            | succ k2 =>
              have H := HA.out
              clear HA
              simp only [laws_FnStyleOrder.l0] at H
              by_cases c13 : x31_2 < (l0.length : Int)
              · rw [if_pos c13] at H
                have c13b0 : decide (x31_2 < (l0.length : Int)) = true := decide_eq_true c13
                clear c13
                by_cases c14 : 0 ≤ x31_2
                · rw [if_pos c14] at H
                  have c14b0 : decide (0 ≤ x31_2) = true := decide_eq_true c14
                  clear c14
                  by_cases c15 : x31_2 < (l0.length : Int)
                  · rw [if_pos c15] at H
                    have c15b0 : decide (x31_2 < (l0.length : Int)) = true := decide_eq_true c15
                    clear c15
                    have c16b0 := eq_true (of_decide_eq_true (by first | (with_reducible assumption) | assumption) : 0 ≤ x31_2)
                    by_cases c17 : x31_2 ≤ (l0.length : Int)
                    · rw [if_pos c17] at H
                      have c17b0 := eq_true c17
                      have c17b1 : decide (x31_2 ≤ (l0.length : Int)) = true := decide_eq_true c17
                      clear c17
                      obtain ⟨y111, hy111⟩ : ∃ y_ : List (S49), y_ = (l0.take (x31_2 : Int).toNat) := ⟨_, rfl⟩
                      replace H : (laws_FnStyleOrder.l1 k2 l0 a1 l2 l0 (l0.length : Int) x31_2 y111 (y111.length : Int) 0 ((rd_T49 l0 x31_2).f0) ((rd_T49 l0 x31_2).f1)) = some r := by first | (rw [hy111]; with_reducible exact H) | (have H2_ := (Option.bind_some _ _).symm.trans H; rw [hy111]; with_reducible exact H2_) | (have H2_ := (Option.bind_some _ _).symm.trans H; with_reducible exact H2_) | with_reducible exact H | (rw [hy111]; exact H) | exact H
                      have Ny111 := Aside0.mk hy111
                      clear hy111
                      have H' := Aside0.mk H
                      clear H
                      have p109 : 0 ≤ (x31_2 : Int) := of_decide_eq_true (by first | (with_reducible assumption) | assumption)
                      have q109 : x31_2 < (l0.length : Int) := of_decide_eq_true (by first | (with_reducible assumption) | assumption)
                      obtain ⟨ad109, e109, hx109_0, hx109_1⟩ := at_T49 HR0.out x31_2 p109 q109
                      cases e109
                      replace hx109_0 := (HB.out.cell (World.block_lt_of_cell? w _ hx109_0)).trans hx109_0
                      replace hx109_1 := (HB.out.cell (World.block_lt_of_cell? w _ hx109_1)).trans hx109_1
                      replace p109 := eq_true p109
                      replace q109 := eq_true q109
                      go_wp2_with (first | ((with_reducible refine gate_dst (N := 8) rfl ?_); (try (refine gate_guard (by rfl) ?_; dsimp only)); refine box_event ?hg (N := 8) ?hd (cs := #[.int .i64 0, .string (⟨#[]⟩ : ByteArray)]) (t := 49) ?hr ?_; (case hd => rfl); (case hg => rfl); (case hr => first | (go_simp; done) | (go_simp; rfl)); intro gb110 hg w18 hbox hb; have n0_ := Aside0.mk (below_step (by repeat (first | (with_reducible first | exact HB.out | apply below_alloc | apply pw_below_drewN | apply below_drew1) | exact HB.out)) hb); have n1_ := Aside0.mk (hbox); have n2_ := Aside0.mk ((by rw [hg]; exact (below_size (by repeat (first | (with_reducible first | exact HB.out | apply below_alloc | apply pw_below_drewN | apply below_drew1) | exact HB.out))) : w.heap.size ≤ gb110)); have n3_ := Aside0.mk ((by rw [hg]; exact (below_size (by repeat (first | (with_reducible first | exact HB.out | apply below_alloc | apply pw_below_drewN | apply below_drew1) | exact HB.out))) : w.heap.size ≤ gb110)); clear HB; have HB := n0_; have BK110 := n1_; have GW110 := n2_; have GE110 := n3_; clear n0_ n1_ n2_ n3_; clear hb hbox hg; have hcz19_0 : w18.cell? ⟨gb110, 0, none⟩ = some (.int .i64 0) := (blk_cell BK110.out 0).trans rfl; have hcz19_1 : w18.cell? ⟨gb110, 1, none⟩ = some (.string (⟨#[]⟩ : ByteArray)) := (blk_cell BK110.out 1).trans rfl; have hfz19_0 := blk_frozen BK110.out 0; have hfz19_1 := blk_frozen BK110.out 1) | ((with_reducible refine gate_store (t := 49) (p := 8) rfl ?_); refine store_event (t := 49) (p := 8) (v := ?vo_w20) (w1 := ((w18.setCell ⟨gb110, 0, none⟩ (.int .i64 ((rd_T49 l0 x31_2).f0))).setCell ⟨gb110, 1, none⟩ (.string ((rd_T49 l0 x31_2).f1)))) ?hg ?ho ?hn ?hr ?_; (case ho => rfl); (case hg => rfl); (case hn => rfl); (case hr => first | (go_simp; done) | (go_simp; rfl)); intro w20 hw; have n0_ : Aside0 (w20.heap[gb110]? = some (.cells #[.int .i64 ((rd_T49 l0 x31_2).f0), .string ((rd_T49 l0 x31_2).f1)] 49 (0, 0))) := ⟨(by rw [hw]; exact (by (with_reducible repeat (first | refine blk_drewN ?_ _ | refine blk_drew ?_ | refine blk_alloc ?_ _)); refine blk_put (cs := #[.int .i64 ((rd_T49 l0 x31_2).f0), .string (⟨#[]⟩ : ByteArray)]) ?_ 1 _ rfl; (with_reducible repeat (first | refine blk_drewN ?_ _ | refine blk_drew ?_ | refine blk_alloc ?_ _)); refine blk_put (cs := #[.int .i64 0, .string (⟨#[]⟩ : ByteArray)]) ?_ 0 _ rfl; (with_reducible repeat (first | refine blk_drewN ?_ _ | refine blk_drew ?_ | refine blk_alloc ?_ _)); exact BK110.out))⟩; have n1_ : Aside0 (Below w.heap.size w w20) := ⟨(by rw [hw]; exact (by repeat (first | (with_reducible first | exact HB.out | apply below_alloc | apply pw_below_drewN | apply below_drew1 | refine below_set ?_ GE110.out) | exact HB.out)))⟩; clear hw; clear BK110; clear HB; have BK110 := n0_; have HB := n1_; clear n0_ n1_; have q21 : (x31_2 : Int) ≤ ((l0.length : Int) : Int) := of_decide_eq_true (by first | (with_reducible assumption) | assumption); obtain ⟨i021, hi021, _, hsz21, _⟩ := info_parts info49; have hroom21 : l0.length ≤ c0 := HC0.out; have hC21 : Kd.C k49 _ (some ad109) l0.length l0 := HR0.out; have hcut21 := cut_to (P := Tryd.prog) 44 49 .i64 Tryd.underlying44 hi021 (some ad109) l0.length c0 x31_2 (of_decide_eq_true (by first | (with_reducible assumption) | assumption)) q21 hroom21; have hr21 := Kd.C_take (m := (x31_2 : Int).toNat) hC21 (by omega); have hy21 : y111.length = (x31_2 : Int).toNat := (by rw [Ny111.out, List.length_take]; omega); rw [← Ny111.out] at hr21; rw [← hy21] at hcut21; have HR114 := Aside0.mk hr21; have HC114 := Aside0.mk (show y111.length ≤ c0 from by omega); clear hr21 hC21 hroom21 hi021 hsz21; have KY21 := Aside0.mk hy21; clear hy21; replace q21 := eq_true q21))
                      go_loopg [40] k2 (fun kq v40 w' => ∃ (x40_3 : Int), v40 = .int .i64 x40_3 ∧ Aside0 (laws_FnStyleOrder.l1 kq l0 a1 l2 l0 (l0.length : Int) x31_2 y111 (y111.length : Int) x40_3 ((rd_T49 l0 x31_2).f0) ((rd_T49 l0 x31_2).f1) = some r) ∧ Aside0 (kq ≤ k2) ∧ Aside0 (w'.heap[gb110]? = some (.cells #[.int .i64 ((rd_T49 l0 x31_2).f0), .string ((rd_T49 l0 x31_2).f1)] 49 (0, 0))) ∧ Aside0 (Below w.heap.size w w'))
                      case atStart => exact ⟨(0), (by first | rfl | (simp; done) | (simp [*]; done)), H', ⟨Nat.le_refl _⟩, ⟨by (with_reducible repeat (first | refine blk_drewN ?_ _ | refine blk_drew ?_ | refine blk_alloc ?_ _)); exact BK110.out⟩, ⟨by repeat (first | (with_reducible first | exact HB.out | apply below_alloc | apply pw_below_drewN | apply below_drew1 | refine below_set ?_ GE110.out) | exact HB.out)⟩⟩
                      case round =>
                        clear H'
                        try clear c1
                        try clear p1
                        try clear q1
                        try clear hx1
                        try clear c2
                        try clear p2
                        try clear q2
                        try clear c6
                        try clear c9
                        try clear c10
                        try clear p10
                        try clear q10
                        try clear hx10
                        try clear c11
                        try clear c13
                        try clear c13b0
                        try clear c14
                        try clear c14b0
                        try clear c15
                        try clear c15b0
                        try clear c16
                        try clear c16b0
                        try clear c17
                        try clear c17b0
                        try clear c17b1
                        try clear q21
                        try clear hcz19_0
                        try clear hcz19_1
                        try clear hfz19_0
                        try clear hfz19_1
                        try clear hx109_0
                        try clear hx109_1
                        try clear p109
                        try clear p2
                        try clear q109
                        try clear q21
                        obtain ⟨x40_3, rfl, HA, HK3, BK110, HB⟩ := hrel
                        cases gk with
                        | zero => exact absurd HA.out (by simp [laws_FnStyleOrder.l1])
                        | succ k3 =>
                          have H := HA.out
                          clear HA
                          simp only [laws_FnStyleOrder.l1] at H
                          by_cases c22 : x40_3 < (y111.length : Int)
                          · rw [if_pos c22] at H
                            have c22b0 : decide (x40_3 < (y111.length : Int)) = true := decide_eq_true c22
                            clear c22
                            by_cases c23 : 0 ≤ x40_3
                            · rw [if_pos c23] at H
                              have c23b0 : decide (0 ≤ x40_3) = true := decide_eq_true c23
                              clear c23
                              by_cases c24 : x40_3 < (y111.length : Int)
                              · rw [if_pos c24] at H
                                have c24b0 : decide (x40_3 < (y111.length : Int)) = true := decide_eq_true c24
                                clear c24
                                by_cases c25 : ((rd_T49 l0 x31_2).f0) = ((rd_T49 y111 x40_3).f0)
                                · rw [if_pos c25] at H
                                  have c25b0 : (((rd_T49 l0 x31_2).f0) == ((rd_T49 y111 x40_3).f0)) = true := beq_iff_eq.mpr c25
                                  have c25b1 : (((rd_T49 l0 x31_2).f0) != ((rd_T49 y111 x40_3).f0)) = false := bne_eq_false_iff_eq.mpr c25
                                  clear c25
                                  obtain rfl := Option.some.inj H
                                  have p115 : 0 ≤ (x40_3 : Int) := of_decide_eq_true (by first | (with_reducible assumption) | assumption)
                                  have q115 : x40_3 < (y111.length : Int) := of_decide_eq_true (by first | (with_reducible assumption) | assumption)
                                  obtain ⟨ad115, e115, hx115_0, hx115_1⟩ := at_T49 HR114.out x40_3 p115 q115
                                  obtain rfl : ad109 = ad115 := (by injection e115)
                                  replace hx115_0 := (HB.out.cell (World.block_lt_of_cell? w _ hx115_0)).trans hx115_0
                                  replace hx115_1 := (HB.out.cell (World.block_lt_of_cell? w _ hx115_1)).trans hx115_1
                                  replace p115 := eq_true p115
                                  replace q115 := eq_true q115
                                  go_wp2_with (first | ((with_reducible refine gate_dst (N := 10) rfl ?_); (try (refine gate_guard (by rfl) ?_; dsimp only)); refine box_event ?hg (N := 10) ?hd (cs := #[.int .i64 0, .string (⟨#[]⟩ : ByteArray)]) (t := 49) ?hr ?_; (case hd => rfl); (case hg => rfl); (case hr => first | (go_simp; done) | (go_simp; rfl)); intro gb116 hg w26 hbox hb; have n0_ := Aside0.mk (blk_below (g := gb110) (o := .cells #[.int .i64 ((rd_T49 l0 x31_2).f0), .string ((rd_T49 l0 x31_2).f1)] 49 (0, 0)) (by (with_reducible repeat (first | refine blk_drewN ?_ _ | refine blk_drew ?_ | refine blk_alloc ?_ _)); exact BK110.out) hb); have n1_ := Aside0.mk (below_step (by repeat (first | (with_reducible first | exact HB.out | apply below_alloc | apply pw_below_drewN | apply below_drew1 | refine below_set ?_ GE110.out) | exact HB.out)) hb); have n2_ := Aside0.mk (hbox); have n3_ := Aside0.mk ((by rw [hg]; exact (below_size (by repeat (first | (with_reducible first | exact HB.out | apply below_alloc | apply pw_below_drewN | apply below_drew1 | refine below_set ?_ GE110.out) | exact HB.out))) : w.heap.size ≤ gb116)); have n4_ := Aside0.mk ((by rw [hg]; exact (below_size (by repeat (first | (with_reducible first | exact HB.out | apply below_alloc | apply pw_below_drewN | apply below_drew1 | refine below_set ?_ GE110.out) | exact HB.out))) : w.heap.size ≤ gb116)); have n5_ := Aside0.mk ((by rw [hg]; exact Nat.ne_of_lt (blk_lt (g := gb110) (o := .cells #[.int .i64 ((rd_T49 l0 x31_2).f0), .string ((rd_T49 l0 x31_2).f1)] 49 (0, 0)) (by (with_reducible repeat (first | refine blk_drewN ?_ _ | refine blk_drew ?_ | refine blk_alloc ?_ _)); exact BK110.out)) : gb110 ≠ gb116)); have n6_ := Aside0.mk ((by rw [hg]; exact Nat.ne_of_gt (blk_lt (g := gb110) (o := .cells #[.int .i64 ((rd_T49 l0 x31_2).f0), .string ((rd_T49 l0 x31_2).f1)] 49 (0, 0)) (by (with_reducible repeat (first | refine blk_drewN ?_ _ | refine blk_drew ?_ | refine blk_alloc ?_ _)); exact BK110.out)) : gb116 ≠ gb110)); clear BK110; clear HB; have BK110 := n0_; have HB := n1_; have BK116 := n2_; have GW116 := n3_; have GE116 := n4_; have NB110_116 := n5_; have NB116_110 := n6_; clear n0_ n1_ n2_ n3_ n4_ n5_ n6_; clear hb hbox hg; have hnb27 := NB116_110.out; have hnc27 := NB110_116.out; have hcz28_0 : w26.cell? ⟨gb116, 0, none⟩ = some (.int .i64 0) := (blk_cell BK116.out 0).trans rfl; have hcz28_1 : w26.cell? ⟨gb116, 1, none⟩ = some (.string (⟨#[]⟩ : ByteArray)) := (blk_cell BK116.out 1).trans rfl; have hfz28_0 := blk_frozen BK116.out 0; have hfz28_1 := blk_frozen BK116.out 1; have hcz29_0 : w26.cell? ⟨gb110, 0, none⟩ = some (.int .i64 ((rd_T49 l0 x31_2).f0)) := (blk_cell BK110.out 0).trans rfl; have hcz29_1 : w26.cell? ⟨gb110, 1, none⟩ = some (.string ((rd_T49 l0 x31_2).f1)) := (blk_cell BK110.out 1).trans rfl; have hfz29_0 := blk_frozen BK110.out 0; have hfz29_1 := blk_frozen BK110.out 1))
                                  go_ret
                                  exact ⟨by first | rfl | (simp [errW_none, errW_some] <;> rfl) | (simp [*, errW_none, errW_some] <;> rfl), by repeat (first | (with_reducible first | exact HB.out | apply below_alloc | apply pw_below_drewN | apply below_drew1 | refine below_set ?_ GE110.out | refine below_set ?_ GE116.out) | exact HB.out)⟩
                                · rw [if_neg c25] at H
                                  have c25b0 : (((rd_T49 l0 x31_2).f0) == ((rd_T49 y111 x40_3).f0)) = false := beq_eq_false_iff_ne.mpr c25
                                  have c25b1 : (((rd_T49 l0 x31_2).f0) != ((rd_T49 y111 x40_3).f0)) = true := bne_iff_ne.mpr c25
                                  have H' := Aside0.mk H
                                  clear H
                                  have p115 : 0 ≤ (x40_3 : Int) := of_decide_eq_true (by first | (with_reducible assumption) | assumption)
                                  have q115 : x40_3 < (y111.length : Int) := of_decide_eq_true (by first | (with_reducible assumption) | assumption)
                                  obtain ⟨ad115, e115, hx115_0, hx115_1⟩ := at_T49 HR114.out x40_3 p115 q115
                                  obtain rfl : ad109 = ad115 := (by injection e115)
                                  replace hx115_0 := (HB.out.cell (World.block_lt_of_cell? w _ hx115_0)).trans hx115_0
                                  replace hx115_1 := (HB.out.cell (World.block_lt_of_cell? w _ hx115_1)).trans hx115_1
                                  replace p115 := eq_true p115
                                  replace q115 := eq_true q115
                                  go_wp2_with (first | ((with_reducible refine gate_dst (N := 10) rfl ?_); (try (refine gate_guard (by rfl) ?_; dsimp only)); refine box_event ?hg (N := 10) ?hd (cs := #[.int .i64 0, .string (⟨#[]⟩ : ByteArray)]) (t := 49) ?hr ?_; (case hd => rfl); (case hg => rfl); (case hr => first | (go_simp; done) | (go_simp; rfl)); intro gb116 hg w30 hbox hb; have n0_ := Aside0.mk (blk_below (g := gb110) (o := .cells #[.int .i64 ((rd_T49 l0 x31_2).f0), .string ((rd_T49 l0 x31_2).f1)] 49 (0, 0)) (by (with_reducible repeat (first | refine blk_drewN ?_ _ | refine blk_drew ?_ | refine blk_alloc ?_ _)); exact BK110.out) hb); have n1_ := Aside0.mk (below_step (by repeat (first | (with_reducible first | exact HB.out | apply below_alloc | apply pw_below_drewN | apply below_drew1 | refine below_set ?_ GE110.out) | exact HB.out)) hb); have n2_ := Aside0.mk (hbox); have n3_ := Aside0.mk ((by rw [hg]; exact (below_size (by repeat (first | (with_reducible first | exact HB.out | apply below_alloc | apply pw_below_drewN | apply below_drew1 | refine below_set ?_ GE110.out) | exact HB.out))) : w.heap.size ≤ gb116)); have n4_ := Aside0.mk ((by rw [hg]; exact (below_size (by repeat (first | (with_reducible first | exact HB.out | apply below_alloc | apply pw_below_drewN | apply below_drew1 | refine below_set ?_ GE110.out) | exact HB.out))) : w.heap.size ≤ gb116)); have n5_ := Aside0.mk ((by rw [hg]; exact Nat.ne_of_lt (blk_lt (g := gb110) (o := .cells #[.int .i64 ((rd_T49 l0 x31_2).f0), .string ((rd_T49 l0 x31_2).f1)] 49 (0, 0)) (by (with_reducible repeat (first | refine blk_drewN ?_ _ | refine blk_drew ?_ | refine blk_alloc ?_ _)); exact BK110.out)) : gb110 ≠ gb116)); have n6_ := Aside0.mk ((by rw [hg]; exact Nat.ne_of_gt (blk_lt (g := gb110) (o := .cells #[.int .i64 ((rd_T49 l0 x31_2).f0), .string ((rd_T49 l0 x31_2).f1)] 49 (0, 0)) (by (with_reducible repeat (first | refine blk_drewN ?_ _ | refine blk_drew ?_ | refine blk_alloc ?_ _)); exact BK110.out)) : gb116 ≠ gb110)); clear BK110; clear HB; have BK110 := n0_; have HB := n1_; have BK116 := n2_; have GW116 := n3_; have GE116 := n4_; have NB110_116 := n5_; have NB116_110 := n6_; clear n0_ n1_ n2_ n3_ n4_ n5_ n6_; clear hb hbox hg; have hnb31 := NB116_110.out; have hnc31 := NB110_116.out; have hcz32_0 : w30.cell? ⟨gb116, 0, none⟩ = some (.int .i64 0) := (blk_cell BK116.out 0).trans rfl; have hcz32_1 : w30.cell? ⟨gb116, 1, none⟩ = some (.string (⟨#[]⟩ : ByteArray)) := (blk_cell BK116.out 1).trans rfl; have hfz32_0 := blk_frozen BK116.out 0; have hfz32_1 := blk_frozen BK116.out 1; have hcz33_0 : w30.cell? ⟨gb110, 0, none⟩ = some (.int .i64 ((rd_T49 l0 x31_2).f0)) := (blk_cell BK110.out 0).trans rfl; have hcz33_1 : w30.cell? ⟨gb110, 1, none⟩ = some (.string ((rd_T49 l0 x31_2).f1)) := (blk_cell BK110.out 1).trans rfl; have hfz33_0 := blk_frozen BK110.out 0; have hfz33_1 := blk_frozen BK110.out 1))
                                  go_roundg k3
                                  case measure => have := HJ3.out; have := HK2.out; have := HK3.out; omega
                                  case rel => exact ⟨(wrap64 (x40_3 + 1)), (by first | rfl | (simp; done) | (simp [*]; done)), H', ⟨by have := HJ3.out; have := HK2.out; have := HK3.out; omega⟩, ⟨by (with_reducible repeat (first | refine blk_drewN ?_ _ | refine blk_drew ?_ | refine blk_alloc ?_ _)); refine blk_far ?_ NB110_116.out _; (with_reducible repeat (first | refine blk_drewN ?_ _ | refine blk_drew ?_ | refine blk_alloc ?_ _)); refine blk_far ?_ NB110_116.out _; (with_reducible repeat (first | refine blk_drewN ?_ _ | refine blk_drew ?_ | refine blk_alloc ?_ _)); exact BK110.out⟩, ⟨by repeat (first | (with_reducible first | exact HB.out | apply below_alloc | apply pw_below_drewN | apply below_drew1 | refine below_set ?_ GE110.out | refine below_set ?_ GE116.out) | exact HB.out)⟩⟩
                              · rw [if_neg c24] at H
                                exact absurd H (by simp)
                            · rw [if_neg c23] at H
                              exact absurd H (by simp)
                          · rw [if_neg c22] at H
                            have c22b0 : decide (x40_3 < (y111.length : Int)) = false := decide_eq_false c22
                            clear c22
                            have H' := Aside0.mk H
                            clear H
                            go_wp2
                            go_roundg k3
                            case measure => have := HJ3.out; have := HK2.out; have := HK3.out; omega
                            case rel => exact ⟨(wrap64 (x31_2 + 1)), (by first | rfl | (simp; done) | (simp [*]; done)), H', ⟨by have := HJ3.out; have := HK2.out; have := HK3.out; omega⟩, ⟨by repeat (first | (with_reducible first | exact HB.out | apply below_alloc | apply pw_below_drewN | apply below_drew1 | refine below_set ?_ GE110.out) | exact HB.out)⟩⟩
                    · rw [if_neg c17] at H
                      exact absurd H (by simp)
                  · rw [if_neg c15] at H
                    exact absurd H (by simp)
                · rw [if_neg c14] at H
                  exact absurd H (by simp)
              · rw [if_neg c13] at H
                have c13b0 : decide (x31_2 < (l0.length : Int)) = false := decide_eq_false c13
                clear c13
                by_cases c34 : (wrap64 ((l0.length : Int) + 1)) = 0
                · rw [if_pos c34] at H
                  exact absurd H (by simp)
                · rw [if_neg c34] at H
                  have c34b0 : ((wrap64 ((l0.length : Int) + 1)) == 0) = false := beq_eq_false_iff_ne.mpr c34
                  have c34b1 : ((wrap64 ((l0.length : Int) + 1)) != 0) = true := bne_iff_ne.mpr c34
                  replace H := Option.bind_eq_some_iff.mp H
                  obtain ⟨⟨t117, t118⟩, A350, H⟩ := H
                  replace H : (if 0 ≤ (Int.tmod (wrap64 (a1)) (wrap64 ((l0.length : Int) + 1))) then (if (Int.tmod (wrap64 (a1)) (wrap64 ((l0.length : Int) + 1))) ≤ (l0.length : Int) then ((some (l0.drop ((Int.tmod (wrap64 (a1)) (wrap64 ((l0.length : Int) + 1))) : Int).toNat : List (S49))).bind fun y121 => (if ([] : List (S49)).length + y121.length < 5864062014805 then ((some (([] : List (S49)) ++ y121 : List (S49))).bind fun y125 => ((some (l0.take ((Int.tmod (wrap64 (a1)) (wrap64 ((l0.length : Int) + 1))) : Int).toNat : List (S49))).bind fun y128 => (if y125.length + y128.length < 5864062014805 then ((impl_StyleGet.f (y125 ++ y128) l2).bind fun bt135 => (if (t118 != bt135.2) = true then (laws_FnStyleOrder.j3 k2 t117 t118 bt135.1 true) else (laws_FnStyleOrder.j3 k2 t117 t118 bt135.1 ((t117.length : Int) != (bt135.1.length : Int))))) else (none)))) else (none))) else (none)) else (none)) = some r := H
                  have A35 := Aside0.mk A350
                  clear A350
                  obtain ⟨ji36, hji36⟩ : ∃ j_ : Int, (Int.tmod (wrap64 (a1)) (wrap64 ((l0.length : Int) + 1))) = j_ := ⟨_, rfl⟩
                  replace H : (if 0 ≤ (ji36) then (if (ji36) ≤ (l0.length : Int) then ((some (l0.drop ((ji36) : Int).toNat : List (S49))).bind fun y121 => (if ([] : List (S49)).length + y121.length < 5864062014805 then ((some (([] : List (S49)) ++ y121 : List (S49))).bind fun y125 => ((some (l0.take ((ji36) : Int).toNat : List (S49))).bind fun y128 => (if y125.length + y128.length < 5864062014805 then ((impl_StyleGet.f (y125 ++ y128) l2).bind fun bt135 => (if (t118 != bt135.2) = true then (laws_FnStyleOrder.j3 k2 t117 t118 bt135.1 true) else (laws_FnStyleOrder.j3 k2 t117 t118 bt135.1 ((t117.length : Int) != (bt135.1.length : Int))))) else (none)))) else (none))) else (none)) else (none)) = some r := by first | (rw [hji36] at H; exact H) | (simp only [hji36] at H ⊢; exact H)
                  (try rw [hji36] at A35)
                  by_cases c37 : 0 ≤ (ji36)
                  · rw [if_pos c37] at H
                    have c37b0 := eq_true c37
                    have c37b1 : decide (0 ≤ (ji36)) = true := decide_eq_true c37
                    clear c37
                    by_cases c38 : (ji36) ≤ (l0.length : Int)
                    · rw [if_pos c38] at H
                      have c38b0 := eq_true c38
                      have c38b1 : decide ((ji36) ≤ (l0.length : Int)) = true := decide_eq_true c38
                      clear c38
                      obtain ⟨y121, hy121⟩ : ∃ y_ : List (S49), y_ = (l0.drop ((ji36) : Int).toNat) := ⟨_, rfl⟩
                      replace H : (if ([] : List (S49)).length + y121.length < 5864062014805 then ((some (([] : List (S49)) ++ y121 : List (S49))).bind fun y125 => ((some (l0.take ((ji36) : Int).toNat : List (S49))).bind fun y128 => (if y125.length + y128.length < 5864062014805 then ((impl_StyleGet.f (y125 ++ y128) l2).bind fun bt135 => (if (t118 != bt135.2) = true then (laws_FnStyleOrder.j3 k2 t117 t118 bt135.1 true) else (laws_FnStyleOrder.j3 k2 t117 t118 bt135.1 ((t117.length : Int) != (bt135.1.length : Int))))) else (none)))) else (none)) = some r := by first | (rw [hy121]; with_reducible exact H) | (have H2_ := (Option.bind_some _ _).symm.trans H; rw [hy121]; with_reducible exact H2_) | (have H2_ := (Option.bind_some _ _).symm.trans H; with_reducible exact H2_) | with_reducible exact H | (rw [hy121]; exact H) | exact H
                      have Ny121 := Aside0.mk hy121
                      clear hy121
                      by_cases c39 : ([] : List (S49)).length + y121.length < 5864062014805
                      · rw [if_pos c39] at H
                        have LMc39 := Aside0.mk c39
                        clear c39
                        obtain ⟨y125, hy125⟩ : ∃ y_ : List (S49), y_ = (([] : List (S49)) ++ y121) := ⟨_, rfl⟩
                        replace H : ((some (l0.take ((ji36) : Int).toNat : List (S49))).bind fun y128 => (if y125.length + y128.length < 5864062014805 then ((impl_StyleGet.f (y125 ++ y128) l2).bind fun bt135 => (if (t118 != bt135.2) = true then (laws_FnStyleOrder.j3 k2 t117 t118 bt135.1 true) else (laws_FnStyleOrder.j3 k2 t117 t118 bt135.1 ((t117.length : Int) != (bt135.1.length : Int))))) else (none))) = some r := by first | (rw [hy125]; with_reducible exact H) | (have H2_ := (Option.bind_some _ _).symm.trans H; rw [hy125]; with_reducible exact H2_) | (have H2_ := (Option.bind_some _ _).symm.trans H; with_reducible exact H2_) | with_reducible exact H | (rw [hy125]; exact H) | exact H
                        have Ny125 := Aside0.mk hy125
                        clear hy125
                        have c40b0 := eq_true (of_decide_eq_true (by first | (with_reducible assumption) | assumption) : 0 ≤ (ji36))
                        have c41b0 := eq_true (of_decide_eq_true (by first | (with_reducible assumption) | assumption) : (ji36) ≤ (l0.length : Int))
                        obtain ⟨y128, hy128⟩ : ∃ y_ : List (S49), y_ = (l0.take ((ji36) : Int).toNat) := ⟨_, rfl⟩
                        replace H : (if y125.length + y128.length < 5864062014805 then ((impl_StyleGet.f (y125 ++ y128) l2).bind fun bt135 => (if (t118 != bt135.2) = true then (laws_FnStyleOrder.j3 k2 t117 t118 bt135.1 true) else (laws_FnStyleOrder.j3 k2 t117 t118 bt135.1 ((t117.length : Int) != (bt135.1.length : Int))))) else (none)) = some r := by first | (rw [hy128]; with_reducible exact H) | (have H2_ := (Option.bind_some _ _).symm.trans H; rw [hy128]; with_reducible exact H2_) | (have H2_ := (Option.bind_some _ _).symm.trans H; with_reducible exact H2_) | with_reducible exact H | (rw [hy128]; exact H) | exact H
                        have Ny128 := Aside0.mk hy128
                        clear hy128
                        by_cases c42 : y125.length + y128.length < 5864062014805
                        · rw [if_pos c42] at H
                          have LMc42 := Aside0.mk c42
                          clear c42
                          obtain ⟨y132, hy132⟩ : ∃ y_ : List (S49), y_ = (y125 ++ y128) := ⟨_, rfl⟩
                          replace H : ((impl_StyleGet.f y132 l2).bind fun bt135 => (if (t118 != bt135.2) = true then (laws_FnStyleOrder.j3 k2 t117 t118 bt135.1 true) else (laws_FnStyleOrder.j3 k2 t117 t118 bt135.1 ((t117.length : Int) != (bt135.1.length : Int))))) = some r := by first | (rw [hy132]; with_reducible exact H) | (have H2_ := (Option.bind_some _ _).symm.trans H; rw [hy132]; with_reducible exact H2_) | (have H2_ := (Option.bind_some _ _).symm.trans H; with_reducible exact H2_) | with_reducible exact H | (rw [hy132]; exact H) | exact H
                          have Ny132 := Aside0.mk hy132
                          clear hy132
                          replace H := Option.bind_eq_some_iff.mp H
                          obtain ⟨⟨t135, t136⟩, A430, H⟩ := H
                          replace H : (if (t118 != t136) = true then (laws_FnStyleOrder.j3 k2 t117 t118 t135 true) else (laws_FnStyleOrder.j3 k2 t117 t118 t135 ((t117.length : Int) != (t135.length : Int)))) = some r := H
                          have A43 := Aside0.mk A430
                          clear A430
                          have HC44 := Aside0.mk H
                          clear H
                          try go_wp2_with (first | ((with_reducible refine gate_callee (f := 26) rfl ?_); refine goesL_ (some 60) rfl rfl Tryd.func26 (by kernel_rfl) rfl #[.slice A0 l0.length c0, .slice A2 l2.length c2] rfl (by (try simp only [List.map_toArray, List.map_cons, List.map_nil]); first | done | rfl | (simp only [List.length_drop, List.length_take]; rfl)) ?_; (with_reducible refine (impl_StyleGet.calls _ _ l0 _ _ l2 t117 t118 _ ?side1 ?side2 ?side3 ?side4 ?side5 A35.out).mono ?_); (case side1 => repeat (first | exact (Kd.C_below HR0.out HB.out) | (with_reducible refine Kd.C_alloc ?_ _) | (with_reducible refine Kd.C_drewN ?_ _) | (with_reducible refine Kd.C_drew ?_))); (case side2 => exact HC0.out); (case side3 => repeat (first | exact (Kd.C_below HR2.out HB.out) | (with_reducible refine Kd.C_alloc ?_ _) | (with_reducible refine Kd.C_drewN ?_ _) | (with_reducible refine Kd.C_drew ?_))); (case side4 => exact HC2.out); (case side5 => exact Go.Proofs.YtifhhejohdmiaaaDoorFmt.VarsOK.below HV.out (by repeat (first | (with_reducible first | exact HB.out | apply below_alloc | apply pw_below_drewN | apply below_drew1) | exact HB.out))); rintro e w45 ⟨v119, rfl, ho0, hb⟩; refine ⟨_, rfl, ?_⟩; have n0_ := Aside0.mk (Kd.R_lower ho0 (below_size (by repeat (first | (with_reducible first | exact HB.out | apply below_alloc | apply pw_below_drewN | apply below_drew1) | exact HB.out)))); have n1_ := Aside0.mk (below_step (by repeat (first | (with_reducible first | exact HB.out | apply below_alloc | apply pw_below_drewN | apply below_drew1) | exact HB.out)) hb); clear HB; have HO120 := n0_; have HB := n1_; clear n0_ n1_; (try clear hb); (try clear hb2); (try clear hk); (try clear hi); (try clear ho0)))
                          have n0_ := Aside0.mk (Kd.R_drew HO120.out)
                          have n1_ := Aside0.mk (below_drew1 HB.out)
                          clear HO120
                          clear HB
                          have HO120 := n0_
                          have HB := n1_
                          clear n0_ n1_
                          have q47 : ((ji36) : Int) ≤ ((l0.length : Int) : Int) := of_decide_eq_true (by first | (with_reducible assumption) | assumption)
                          obtain ⟨i047, hi047, _, hsz47, _⟩ := info_parts info49
                          have hroom47 : l0.length ≤ c0 := HC0.out
                          have hC47 : Kd.C k49 _ A0 l0.length l0 := HR0.out
                          have q047 : (0 : Int) ≤ ((ji36) : Int) := of_decide_eq_true (by first | (with_reducible assumption) | assumption)
                          have hcut47 := cut_from (P := Tryd.prog) 44 49 .i64 Tryd.underlying44 hi047 2 hsz47 A0 l0.length c0 (ji36) q047 q47
                          have hr47 := Kd.C_drop (m := ((ji36) : Int).toNat) (c := c0) hC47 (by omega) hroom47
                          obtain ⟨A47, hA47⟩ : ∃ A1, A1 = (if c0 = ((ji36) : Int).toNat then A0 else (A0 : Option Addr).map (·.add (((ji36) : Int).toNat * 2))) := ⟨_, rfl⟩
                          obtain ⟨c47, hc47⟩ : ∃ c1, c1 = c0 - ((ji36) : Int).toNat := ⟨_, rfl⟩
                          have hy47 : y121.length = l0.length - ((ji36) : Int).toNat := (by rw [Ny121.out, List.length_drop] <;> omega)
                          rw [show (l0).drop ((ji36) : Int).toNat = y121 from Ny121.out.symm] at hr47
                          replace hr47 : Kd.C k49 _ A47 y121.length y121 := (by rw [hA47]; exact hr47)
                          rw [← hy47, ← hA47, ← hc47] at hcut47
                          have HR124 := Aside0.mk hr47
                          have HC124 := Aside0.mk (show y121.length ≤ c47 from by rw [hy47, hc47]; exact Nat.sub_le_sub_right hroom47 _)
                          clear hr47 hC47 hroom47 hi047 hsz47 hc47
                          have KY47 := Aside0.mk hy47
                          have KA47 := Aside0.mk hA47
                          clear hy47 hA47
                          replace q47 := eq_true q47
                          have q48 : ((ji36) : Int) ≤ ((l0.length : Int) : Int) := of_decide_eq_true (by first | (with_reducible assumption) | assumption)
                          obtain ⟨i048, hi048, _, hsz48, _⟩ := info_parts info49
                          have hroom48 : l0.length ≤ c0 := HC0.out
                          have hC48 : Kd.C k49 _ A0 l0.length l0 := HR0.out
                          have hcut48 := cut_to (P := Tryd.prog) 44 49 .i64 Tryd.underlying44 hi048 A0 l0.length c0 (ji36) (of_decide_eq_true (by first | (with_reducible assumption) | assumption)) q48 hroom48
                          have hr48 := Kd.C_take (m := ((ji36) : Int).toNat) hC48 (by omega)
                          have hy48 : y128.length = ((ji36) : Int).toNat := (by rw [Ny128.out, List.length_take]; omega)
                          rw [← Ny128.out] at hr48
                          rw [← hy48] at hcut48
                          have HR131 := Aside0.mk hr48
                          have HC131 := Aside0.mk (show y128.length ≤ c0 from by omega)
                          clear hr48 hC48 hroom48 hi048 hsz48
                          have KY48 := Aside0.mk hy48
                          clear hy48
                          replace q48 := eq_true q48
                          refine start_ (n := 15) (S := fun w' => True) (ds := []) #[false, false, false, false, false, false, false, false, false, false, false, false, false, false, false] (by kernel_rfl) rfl rfl trivial (fun hHeld => ?_); refine with_tabW laws_FnStyleOrder.tab17 laws_FnStyleOrder.bits17 (fun HT_ HW_ => ?_)
                          generalize w45.drew = w46 at HO120 HB HR124 HR131 hHeld ⊢
                          refine pure_ (i := 0) (N := some 64) (v := ?_) (a' := ?_) #[true, false, false, false, false, false, false, false, false, false, false, false, false, false, false] rfl rfl (any_of HT_.out (by kernel_rfl)) (fun _ _ _ h => h) (Or.inl ⟨by rfl, ?_⟩) ?_ ?_
                          rotate_left
                          · intro w'
                            go_simp
                            first | with_reducible rfl | struct_eq
                          rotate_left
                          · simp only [Act.put, List.setIfInBounds_toArray, List.set_cons_zero, List.set_cons_succ, i64_w, i32_w]
                            rfl
                          refine pure_ (i := 1) (N := some 65) (v := ?_) (a' := ?_) #[true, true, false, false, false, false, false, false, false, false, false, false, false, false, false] rfl rfl (any_of HT_.out (by kernel_rfl)) (fun _ _ _ h => h) (Or.inl ⟨by rfl, ?_⟩) ?_ ?_
                          rotate_left
                          · intro w'
                            go_simp
                            first | with_reducible rfl | struct_eq
                          rotate_left
                          · simp only [Act.put, List.setIfInBounds_toArray, List.set_cons_zero, List.set_cons_succ, i64_w, i32_w]
                            rfl
                          refine pure_ (i := 2) (N := some 66) (v := ?_) (a' := ?_) #[true, true, true, false, false, false, false, false, false, false, false, false, false, false, false] rfl rfl (any_of HT_.out (by kernel_rfl)) (fun _ _ _ h => h) (Or.inl ⟨by rfl, ?_⟩) ?_ ?_
                          rotate_left
                          · intro w'
                            go_simp
                            first | with_reducible rfl | struct_eq
                          rotate_left
                          · simp only [Act.put, List.setIfInBounds_toArray, List.set_cons_zero, List.set_cons_succ, i64_w, i32_w]
                            rfl
                          refine pure_ (i := 4) (N := some 68) (v := ?_) (a' := ?_) #[true, true, true, false, true, false, false, false, false, false, false, false, false, false, false] rfl rfl (any_of HT_.out (by kernel_rfl)) (fun _ _ _ h => h) (Or.inl ⟨by rfl, ?_⟩) ?_ ?_
                          rotate_left
                          · intro w'
                            go_simp
                            first | with_reducible rfl | struct_eq
                          rotate_left
                          · simp only [Act.put, List.setIfInBounds_toArray, List.set_cons_zero, List.set_cons_succ, i64_w, i32_w]
                            rfl
                          refine pure_ (i := 5) (N := some 69) (v := ?_) (a' := ?_) #[true, true, true, false, true, true, false, false, false, false, false, false, false, false, false] rfl rfl (any_of HT_.out (by kernel_rfl)) (fun _ _ _ h => h) (Or.inl ⟨by rfl, ?_⟩) ?_ ?_
                          rotate_left
                          · intro w'
                            go_simp
                            first | with_reducible rfl | struct_eq
                          rotate_left
                          · simp only [Act.put, List.setIfInBounds_toArray, List.set_cons_zero, List.set_cons_succ, i64_w, i32_w]
                            rfl
                          refine pure_ (i := 6) (N := some 70) (v := ?_) (a' := ?_) #[true, true, true, false, true, true, true, false, false, false, false, false, false, false, false] rfl rfl (any_of HT_.out (by kernel_rfl)) (fun _ _ _ h => h) (Or.inl ⟨by rfl, ?_⟩) ?_ ?_
                          rotate_left
                          · intro w'
                            go_simp
                            first | with_reducible rfl | struct_eq
                          rotate_left
                          · simp only [Act.put, List.setIfInBounds_toArray, List.set_cons_zero, List.set_cons_succ, i64_w, i32_w]
                            rfl
                          refine pure_ (i := 8) (N := some 72) (v := ?_) (a' := ?_) #[true, true, true, false, true, true, true, false, true, false, false, false, false, false, false] rfl rfl (any_of HT_.out (by kernel_rfl)) (fun _ _ _ h => h) (Or.inl ⟨by rfl, ?_⟩) ?_ ?_
                          rotate_left
                          · intro w'
                            go_simp
                            first | with_reducible rfl | struct_eq
                          rotate_left
                          · simp only [Act.put, List.setIfInBounds_toArray, List.set_cons_zero, List.set_cons_succ, i64_w, i32_w]
                            rfl
                          refine one_ (i := 3) (N := some 67) #[true, true, true, true, true, true, true, false, true, false, false, false, false, false, false] rfl rfl (one_of HT_.out (by kernel_rfl)) (by decide) (fun K hK => ?_)
                          refine Kd.R_append_rows_step k49 (w0 := w) w.heap.size (by rfl) (.const (.slice none 0 0)) (.tmp 66) 44 49 (.agg #[(.int .i64 0), (.string ⟨#[]⟩)]) 24 rfl Tryd.underlying44 info49 rfl (by decide) (by omega) (.slice none 0 0) ([] : List (S49)) y121 _ _ _ (fun _ => True) (fun _ => False) rfl rfl ?aO ?aR (fun _ _ h => h) (fun _ h => h.elim) ?aF ?aB ?aS ?aL ?_
                          (case aR => repeat (first | exact (Kd.C_below HR124.out HB.out) | (with_reducible refine Kd.C_alloc ?_ _) | (with_reducible refine Kd.C_drewN ?_ _) | (with_reducible refine Kd.C_drew ?_)))
                          (case aB => exact (by repeat (first | (with_reducible first | exact HB.out | apply below_alloc | apply pw_below_drewN | apply below_drew1) | exact HB.out)))
                          (case aF => exact (fun _ _ => trivial))
                          (case aO => exact ((Kd.R_nil _ _ _ _ (fun _ => True))))
                          (case aS => exact (below_size (by repeat (first | (with_reducible first | exact HB.out | apply below_alloc | apply pw_below_drewN | apply below_drew1) | exact HB.out))))
                          (case aL => have := LMc39.out; omega)
                          intro v126 w49 ho hb hg hat
                          rw [← Ny125.out] at ho
                          have n0_ := Aside0.mk (Kd.R_grown (by (with_reducible repeat (first | apply Kd.R_alloc | apply Kd.R_drewN | apply Kd.R_drew)); exact HO120.out) hg (fun _ _ => by simp [Value.ownBlock]))
                          have n1_ := Aside0.mk (hb)
                          have n2_ := Aside0.mk (ho)
                          clear HO120
                          clear HB
                          have HO120 := n0_
                          have HB := n1_
                          have HO127 := n2_
                          clear n0_ n1_ n2_
                          clear ho hb hg hat
                          refine hK.out _ _ trivial (fun hHeld => ?_)
                          clear hK K
                          refine norm_ (a' := ?_) ?_ ?_
                          rotate_left
                          · show Act.put _ (some 67) _ = _
                            simp only [Act.put, List.setIfInBounds_toArray, List.set_cons_zero, List.set_cons_succ, i64_w, i32_w]
                            rfl
                          refine one_ (i := 7) (N := some 71) #[true, true, true, true, true, true, true, true, true, false, false, false, false, false, false] rfl rfl (one_of HT_.out (by kernel_rfl)) (by decide) (fun K hK => ?_)
                          refine Kd.R_append_rows_step k49 (w0 := w) w.heap.size (by rfl) (.tmp 67) (.tmp 70) 44 49 (.agg #[(.int .i64 0), (.string ⟨#[]⟩)]) 24 rfl Tryd.underlying44 info49 rfl (by decide) (by omega) v126 y125 y128 _ _ _ (fun _ => True) (fun _ => False) rfl rfl ?aO ?aR (fun _ _ h => h) (fun _ h => h.elim) ?aF ?aB ?aS ?aL ?_
                          (case aR => repeat (first | exact (Kd.C_below HR131.out HB.out) | (with_reducible refine Kd.C_alloc ?_ _) | (with_reducible refine Kd.C_drewN ?_ _) | (with_reducible refine Kd.C_drew ?_)))
                          (case aB => exact (by repeat (first | (with_reducible first | exact HB.out | apply below_alloc | apply pw_below_drewN | apply below_drew1) | exact HB.out)))
                          (case aF => exact (fun _ _ => trivial))
                          (case aO => exact (by (with_reducible repeat (first | apply Kd.R_alloc | apply Kd.R_drewN | apply Kd.R_drew)); exact HO127.out))
                          (case aS => exact (below_size (by repeat (first | (with_reducible first | exact HB.out | apply below_alloc | apply pw_below_drewN | apply below_drew1) | exact HB.out))))
                          (case aL => have := LMc42.out; omega)
                          intro v133 w50 ho hb hg hat
                          rw [← Ny132.out] at ho
                          have n0_ := Aside0.mk (Kd.R_over' (by (with_reducible repeat (first | apply Kd.R_alloc | apply Kd.R_drewN | apply Kd.R_drew)); exact HO120.out) (Kd.R_typed (by (with_reducible repeat (first | apply Kd.R_alloc | apply Kd.R_drewN | apply Kd.R_drew)); exact HO127.out)) (by decide) hg)
                          have n1_ := Aside0.mk (hb)
                          have n2_ := Aside0.mk (ho)
                          clear HO120
                          clear HB
                          clear HO127
                          have HO120 := n0_
                          have HB := n1_
                          have HO134 := n2_
                          clear n0_ n1_ n2_
                          clear ho hb hg hat
                          obtain ⟨Ao51, co51, eo51⟩ := Kd.R_slice HO134.out
                          (first | subst eo51 | (injection eo51 with f1_ f2_ f3_; have f4_ := f1_.symm; have f5_ := f3_.symm; clear f1_ f2_ f3_; subst f4_; subst f5_))
                          refine hK.out _ _ trivial (fun hHeld => ?_)
                          clear hK K
                          refine norm_ (a' := ?_) ?_ ?_
                          rotate_left
                          · show Act.put _ (some 71) _ = _
                            simp only [Act.put, List.setIfInBounds_toArray, List.set_cons_zero, List.set_cons_succ, i64_w, i32_w]
                            rfl
                          refine one_ (i := 9) (N := some 73) #[true, true, true, true, true, true, true, true, true, true, false, false, false, false, false] rfl rfl (one_of HT_.out (by kernel_rfl)) (by decide) (fun K hK => ?_)
                          refine goes_ Tryd.func26 (by kernel_rfl) rfl #[.slice Ao51 y132.length co51, .slice A2 l2.length c2] (by first | rfl | (refine wanted_on rfl rfl rfl ?_; assumption)) rfl rfl (by (try simp only [List.map_toArray, List.map_cons, List.map_nil]); first | done | rfl | (simp only [List.length_drop, List.length_take]; rfl)) ?_
                          with_reducible refine (impl_StyleGet.calls _ _ y132 _ _ l2 t135 t136 _ ?side1 ?side2 ?side3 ?side4 ?side5 A43.out).mono ?_
                          (case side1 => repeat (first | exact (Kd.R_reads' HO134.out).2.2 | (with_reducible refine Kd.C_alloc ?_ _) | (with_reducible refine Kd.C_drewN ?_ _) | (with_reducible refine Kd.C_drew ?_)))
                          (case side2 => exact (Kd.R_reads' HO134.out).2.1)
                          (case side3 => repeat (first | exact (Kd.C_below HR2.out HB.out) | (with_reducible refine Kd.C_alloc ?_ _) | (with_reducible refine Kd.C_drewN ?_ _) | (with_reducible refine Kd.C_drew ?_)))
                          (case side4 => exact HC2.out)
                          (case side5 => exact Go.Proofs.YtifhhejohdmiaaaDoorFmt.VarsOK.below HV.out (by repeat (first | (with_reducible first | exact HB.out | apply below_alloc | apply pw_below_drewN | apply below_drew1) | exact HB.out)))
                          rintro e w52 ⟨v137, rfl, ho0, hb⟩
                          refine ⟨_, rfl, ?_⟩
                          have n0_ := Aside0.mk (Kd.R_elder' (by (with_reducible repeat (first | apply Kd.R_alloc | apply Kd.R_drewN | apply Kd.R_drew)); exact HO120.out) (Kd.R_base ho0) hb)
                          have n1_ := Aside0.mk (Kd.R_below (by (with_reducible repeat (first | apply Kd.R_alloc | apply Kd.R_drewN | apply Kd.R_drew)); exact HO134.out) hb)
                          have n2_ := Aside0.mk (Kd.R_lower (Kd.R_new' ho0 (Kd.R_lt (by (with_reducible repeat (first | apply Kd.R_alloc | apply Kd.R_drewN | apply Kd.R_drew)); exact HO120.out))) (below_size (by repeat (first | (with_reducible first | exact HB.out | apply below_alloc | apply pw_below_drewN | apply below_drew1) | exact HB.out))))
                          have n3_ := Aside0.mk (below_step (by repeat (first | (with_reducible first | exact HB.out | apply below_alloc | apply pw_below_drewN | apply below_drew1) | exact HB.out)) hb)
                          clear HO120
                          clear HO134
                          clear HB
                          have HO120 := n0_
                          have HO134 := n1_
                          have HO138 := n2_
                          have HB := n3_
                          clear n0_ n1_ n2_ n3_
                          (try clear hb)
                          (try clear hb2)
                          (try clear hk)
                          (try clear hi)
                          (try clear ho0)
                          refine hK.out _ _ trivial (fun hHeld => ?_)
                          clear hK K
                          refine norm_ (a' := ?_) ?_ ?_
                          rotate_left
                          · show Act.put _ (some 73) _ = _
                            simp only [Act.put, List.setIfInBounds_toArray, List.set_cons_zero, List.set_cons_succ, i64_w, i32_w]
                            rfl
                          refine pure_ (i := 10) (N := some 63) (v := ?_) (a' := ?_) #[true, true, true, true, true, true, true, true, true, true, true, false, false, false, false] rfl rfl (any_of HT_.out (by kernel_rfl)) (fun _ _ _ h => h) (Or.inl ⟨by rfl, ?_⟩) ?_ ?_
                          rotate_left
                          · intro w'
                            go_simp
                            first | with_reducible rfl | struct_eq
                          rotate_left
                          · simp only [Act.put, List.setIfInBounds_toArray, List.set_cons_zero, List.set_cons_succ, i64_w, i32_w]
                            rfl
                          refine pure_ (i := 11) (N := some 74) (v := ?_) (a' := ?_) #[true, true, true, true, true, true, true, true, true, true, true, true, false, false, false] rfl rfl (any_of HT_.out (by kernel_rfl)) (fun _ _ _ h => h) (Or.inl ⟨by rfl, ?_⟩) ?_ ?_
                          rotate_left
                          · intro w'
                            go_simp
                            first | with_reducible rfl | struct_eq
                          rotate_left
                          · simp only [Act.put, List.setIfInBounds_toArray, List.set_cons_zero, List.set_cons_succ, i64_w, i32_w]
                            rfl
                          refine pure_ (i := 12) (N := some 75) (v := ?_) (a' := ?_) #[true, true, true, true, true, true, true, true, true, true, true, true, true, false, false] rfl rfl (any_of HT_.out (by kernel_rfl)) (fun _ _ _ h => h) (Or.inl ⟨by rfl, ?_⟩) ?_ ?_
                          rotate_left
                          · intro w'
                            go_simp
                            first | with_reducible rfl | struct_eq
                          rotate_left
                          · simp only [Act.put, List.setIfInBounds_toArray, List.set_cons_zero, List.set_cons_succ, i64_w, i32_w]
                            rfl
                          refine pure_ (i := 13) (N := some 14) (v := ?_) (a' := ?_) #[true, true, true, true, true, true, true, true, true, true, true, true, true, true, false] rfl rfl (any_of HT_.out (by kernel_rfl)) (fun _ _ _ h => h) (Or.inl ⟨by rfl, ?_⟩) ?_ ?_
                          rotate_left
                          · intro w'
                            go_simp
                            first | with_reducible rfl | struct_eq
                          rotate_left
                          · simp only [Act.put, List.setIfInBounds_toArray, List.set_cons_zero, List.set_cons_succ, i64_w, i32_w]
                            rfl
                          refine pure_ (i := 14) (N := some 15) (v := ?_) (a' := ?_) #[true, true, true, true, true, true, true, true, true, true, true, true, true, true, true] rfl rfl (any_of HT_.out (by kernel_rfl)) (fun _ _ _ h => h) (Or.inl ⟨by rfl, ?_⟩) ?_ ?_
                          rotate_left
                          · intro w'
                            go_simp
                            first | with_reducible rfl | struct_eq
                          rotate_left
                          · simp only [Act.put, List.setIfInBounds_toArray, List.set_cons_zero, List.set_cons_succ, i64_w, i32_w]
                            rfl
                          refine done_ (done_of HT_.out (by kernel_rfl)) ?_
                          go_upto_region 18 with (fail)
                          go_cut [85] (fun v85 wc => ∃ (kq : Nat) (x85_43 : Bool), v85 = .bool x85_43 ∧ Aside0 (laws_FnStyleOrder.j3 kq t117 t118 t135 x85_43 = some r) ∧ Aside0 (kq ≤ k2) ∧ Aside0 (Kd.R k23 23 wc w.heap.size (fun k_ => some k_ ≠ (v137 : Value).ownBlock) v119 t117) ∧ Aside0 (Kd.R k23 23 wc w.heap.size (fun k_ => some k_ ≠ (v119 : Value).ownBlock) v137 t135) ∧ Aside0 (Below w.heap.size w wc))
                          case first =>
                            have H := HC44.out
                            clear HC44
                            by_cases c53 : (t118 != t136) = true
                            · rw [if_pos c53] at H
                              have c53b0 : (t118 != t136) = true := c53
                              (try (have c53b1 : decide (t118 = t136) = false := by simpa using c53))
                              (try (have c53b2 : (t118 == t136) = false := by simpa using c53))
                              (try (have c53b3 : ¬ (t118 = t136) := by simpa using c53))
                              clear c53
                              (try (have c53b2 := c53b0; simp only [ByteArray.size_extract, Nat.min_self] at c53b2)); (first | rw [c53b0] | (simp only [i64_w, i32_w]; rw [c53b0]) | rw [c53b1] | skip)
                              have H' := Aside0.mk H
                              clear H
                              go_wp2
                              go_meet
                              case rel => exact ⟨_, (true), (by first | rfl | (simp; done) | (simp [*]; done)), H', ⟨by have := HJ3.out; have := HK2.out; first | omega | exact Nat.le_refl _⟩, ⟨by (with_reducible repeat (first | apply Kd.R_alloc | apply Kd.R_drewN | apply Kd.R_drew)); exact Kd.R_mono HO120.out (fun _ hk => hk.2)⟩, ⟨by (with_reducible repeat (first | apply Kd.R_alloc | apply Kd.R_drewN | apply Kd.R_drew)); exact Kd.R_mono HO138.out (fun _ hk => hk.2)⟩, ⟨by repeat (first | (with_reducible first | exact HB.out | apply below_alloc | apply pw_below_drewN | apply below_drew1) | exact HB.out)⟩⟩
                            · rw [if_neg c53] at H
                              have c53b0 : (t118 != t136) = false := by simpa using c53
                              (try (have c53b1 : decide (t118 = t136) = true := by simpa using c53))
                              (try (have c53b2 : (t118 == t136) = true := by simpa using c53))
                              clear c53
                              (try (have c53b2 := c53b0; simp only [ByteArray.size_extract, Nat.min_self] at c53b2)); (first | rw [c53b0] | (simp only [i64_w, i32_w]; rw [c53b0]) | rw [c53b1] | skip)
                              have H' := Aside0.mk H
                              clear H
                              obtain ⟨Ao54, co54, eo54⟩ := Kd.R_slice HO120.out
                              subst eo54
                              obtain ⟨Ao55, co55, eo55⟩ := Kd.R_slice HO138.out
                              subst eo55
                              go_wp2
                              go_meet
                              case rel => exact ⟨_, (((t117.length : Int) != (t135.length : Int))), (by first | rfl | (simp; done) | (simp [*]; done)), H', ⟨by have := HJ3.out; have := HK2.out; first | omega | exact Nat.le_refl _⟩, ⟨by (with_reducible repeat (first | apply Kd.R_alloc | apply Kd.R_drewN | apply Kd.R_drew)); exact Kd.R_mono HO120.out (fun _ hk => hk.2)⟩, ⟨by (with_reducible repeat (first | apply Kd.R_alloc | apply Kd.R_drewN | apply Kd.R_drew)); exact Kd.R_mono HO138.out (fun _ hk => hk.2)⟩, ⟨by repeat (first | (with_reducible first | exact HB.out | apply below_alloc | apply pw_below_drewN | apply below_drew1) | exact HB.out)⟩⟩
                          case rest =>
                            clear HC44
                            try clear c1
                            try clear p1
                            try clear q1
                            try clear hx1
                            try clear c2
                            try clear p2
                            try clear q2
                            try clear c3
                            try clear c4
                            try clear q4
                            try clear c5
                            try clear c6
                            try clear p6
                            try clear c9
                            try clear c10
                            try clear p10
                            try clear q10
                            try clear hx10
                            try clear c11
                            try clear p11
                            try clear q11
                            try clear hx11
                            try clear c13
                            try clear c13b0
                            try clear c14
                            try clear c14b0
                            try clear c15
                            try clear c15b0
                            try clear c16
                            try clear c16b0
                            try clear c17
                            try clear c17b0
                            try clear c17b1
                            try clear q21
                            try clear c22
                            try clear c22b0
                            try clear c23
                            try clear c23b0
                            try clear c24
                            try clear c24b0
                            try clear c25
                            try clear c25b0
                            try clear c25b1
                            try clear c26
                            try clear c27
                            try clear c31
                            try clear c34
                            try clear c34b0
                            try clear c34b1
                            try clear c37
                            try clear c37b0
                            try clear c37b1
                            try clear c38
                            try clear c38b0
                            try clear c38b1
                            try clear c39
                            try clear c40
                            try clear c40b0
                            try clear c41
                            try clear c41b0
                            try clear c42
                            try clear c47
                            try clear q47
                            try clear q48
                            try clear c53
                            try clear c53b0
                            try clear c53b1
                            try clear c53b2
                            try clear hcz19_0
                            try clear hcz19_1
                            try clear hcz28_0
                            try clear hcz28_1
                            try clear hcz29_0
                            try clear hcz29_1
                            try clear hcz32_0
                            try clear hcz32_1
                            try clear hcz33_0
                            try clear hcz33_1
                            try clear hfz19_0
                            try clear hfz19_1
                            try clear hfz28_0
                            try clear hfz28_1
                            try clear hfz29_0
                            try clear hfz29_1
                            try clear hfz32_0
                            try clear hfz32_1
                            try clear hfz33_0
                            try clear hfz33_1
                            try clear hx109_0
                            try clear hx109_1
                            try clear hx115_0
                            try clear hx115_1
                            try clear p1
                            try clear p10
                            try clear p109
                            try clear p115
                            try clear p2
                            try clear q047
                            try clear q1
                            try clear q10
                            try clear q109
                            try clear q115
                            try clear q2
                            try clear q21
                            try clear q47
                            try clear q48
                            obtain ⟨kq, x85_43, rfl, HA, HJ43, HO_12, HO_14, HB⟩ := hcut
                            cases kq with
                            | zero => exact absurd HA.out (by simp [laws_FnStyleOrder.j3])
                            | succ kj43 =>
                              have H := HA.out
                              clear HA
                              simp only [laws_FnStyleOrder.j3] at H
                              by_cases c56 : x85_43 = true
                              · subst c56
                                have H1 : (some false) = some r := by rw [if_pos rfl] at H; exact H
                                clear H
                                have H := H1
                                clear H1
                                exact absurd ((Option.some.inj H).trans hrT.out) (by decide)
                              · replace c56 := Bool.eq_false_iff.mpr c56
                                subst c56
                                have H1 : (laws_FnStyleOrder.l2 kj43 t117 t118 t135 (t117.length : Int) 0) = some r := by rw [if_neg (show ¬ (false = true) by decide)] at H; exact H
                                clear H
                                have H := H1
                                clear H1
                                have H' := Aside0.mk H
                                clear H
                                obtain ⟨Ao57, co57, eo57⟩ := Kd.R_slice HO_12.out
                                subst eo57
                                go_wp2
                                go_loopg [88] kj43 (fun kq v88 w' => ∃ (x88_4 : Int), v88 = .int .i64 x88_4 ∧ Aside0 (laws_FnStyleOrder.l2 kq t117 t118 t135 (t117.length : Int) x88_4 = some r) ∧ Aside0 (kq ≤ kj43) ∧ Aside0 (Kd.R k23 23 w' w.heap.size (fun k_ => some k_ ≠ (v137 : Value).ownBlock) (.slice Ao57 t117.length co57) t117) ∧ Aside0 (Kd.R k23 23 w' w.heap.size (fun k_ => some k_ ≠ ((.slice Ao57 t117.length co57) : Value).ownBlock) v137 t135) ∧ Aside0 (Below w.heap.size w w'))
                                case atStart => exact ⟨(0), (by first | rfl | (simp; done) | (simp [*]; done)), H', ⟨Nat.le_refl _⟩, ⟨by (with_reducible repeat (first | apply Kd.R_alloc | apply Kd.R_drewN | apply Kd.R_drew)); exact HO_12.out⟩, ⟨by (with_reducible repeat (first | apply Kd.R_alloc | apply Kd.R_drewN | apply Kd.R_drew)); exact HO_14.out⟩, ⟨by repeat (first | (with_reducible first | exact HB.out | apply below_alloc | apply pw_below_drewN | apply below_drew1) | exact HB.out)⟩⟩
                                case round =>
                                  clear H'
                                  try clear c1
                                  try clear p1
                                  try clear q1
                                  try clear hx1
                                  try clear c2
                                  try clear p2
                                  try clear q2
                                  try clear c3
                                  try clear c4
                                  try clear q4
                                  try clear c5
                                  try clear c6
                                  try clear p6
                                  try clear c9
                                  try clear c10
                                  try clear p10
                                  try clear q10
                                  try clear hx10
                                  try clear c11
                                  try clear p11
                                  try clear q11
                                  try clear hx11
                                  try clear c13
                                  try clear c13b0
                                  try clear c14
                                  try clear c14b0
                                  try clear c15
                                  try clear c15b0
                                  try clear c16
                                  try clear c16b0
                                  try clear c17
                                  try clear c17b0
                                  try clear c17b1
                                  try clear q21
                                  try clear c22
                                  try clear c22b0
                                  try clear c23
                                  try clear c23b0
                                  try clear c24
                                  try clear c24b0
                                  try clear c25
                                  try clear c25b0
                                  try clear c25b1
                                  try clear c26
                                  try clear c27
                                  try clear c31
                                  try clear c34
                                  try clear c34b0
                                  try clear c34b1
                                  try clear c37
                                  try clear c37b0
                                  try clear c37b1
                                  try clear c38
                                  try clear c38b0
                                  try clear c38b1
                                  try clear c39
                                  try clear c40
                                  try clear c40b0
                                  try clear c41
                                  try clear c41b0
                                  try clear c42
                                  try clear c47
                                  try clear q47
                                  try clear q48
                                  try clear c53
                                  try clear c53b0
                                  try clear c53b1
                                  try clear c53b2
                                  try clear c56
                                  try clear hcz19_0
                                  try clear hcz19_1
                                  try clear hcz28_0
                                  try clear hcz28_1
                                  try clear hcz29_0
                                  try clear hcz29_1
                                  try clear hcz32_0
                                  try clear hcz32_1
                                  try clear hcz33_0
                                  try clear hcz33_1
                                  try clear hfz19_0
                                  try clear hfz19_1
                                  try clear hfz28_0
                                  try clear hfz28_1
                                  try clear hfz29_0
                                  try clear hfz29_1
                                  try clear hfz32_0
                                  try clear hfz32_1
                                  try clear hfz33_0
                                  try clear hfz33_1
                                  try clear hx109_0
                                  try clear hx109_1
                                  try clear hx115_0
                                  try clear hx115_1
                                  try clear p1
                                  try clear p10
                                  try clear p109
                                  try clear p11
                                  try clear p115
                                  try clear p2
                                  try clear p6
                                  try clear q047
                                  try clear q1
                                  try clear q10
                                  try clear q109
                                  try clear q11
                                  try clear q115
                                  try clear q2
                                  try clear q21
                                  try clear q4
                                  try clear q47
                                  try clear q48
                                  obtain ⟨x88_4, rfl, HA, HK4, HO_12, HO_14, HB⟩ := hrel
                                  cases gk with
                                  | zero => exact absurd HA.out (by simp [laws_FnStyleOrder.l2])
                                  | succ k4 =>
                                    have H := HA.out
                                    clear HA
                                    simp only [laws_FnStyleOrder.l2] at H
                                    by_cases c58 : x88_4 < (t117.length : Int)
                                    · rw [if_pos c58] at H
                                      have c58b0 : decide (x88_4 < (t117.length : Int)) = true := decide_eq_true c58
                                      clear c58
                                      by_cases c59 : t118 = true
                                      · subst c59
                                        have H1 : (if 0 ≤ x88_4 then (if x88_4 < (t117.length : Int) then (if x88_4 < (t135.length : Int) then (if (!(((rd_T23 t117 x88_4).f0) == ((rd_T23 t135 x88_4).f0)) || (!(((rd_T23 t117 x88_4).f1) == ((rd_T23 t135 x88_4).f1)) || (!(((rd_T23 t117 x88_4).f2) == ((rd_T23 t135 x88_4).f2)) || (!(((rd_T23 t117 x88_4).f3) == ((rd_T23 t135 x88_4).f3)) || (!(((rd_T23 t117 x88_4).f4) == ((rd_T23 t135 x88_4).f4)) || (!(((rd_T23 t117 x88_4).f5) == ((rd_T23 t135 x88_4).f5)) || (!(((rd_T23 t117 x88_4).f6) == ((rd_T23 t135 x88_4).f6))))))))) = true then (some false) else (laws_FnStyleOrder.l2 k4 t117 true t135 (t117.length : Int) (wrap64 (x88_4 + 1)))) else (none)) else (none)) else (none)) = some r := by rw [if_pos rfl] at H; exact H
                                        clear H
                                        have H := H1
                                        clear H1
                                        by_cases c60 : 0 ≤ x88_4
                                        · rw [if_pos c60] at H
                                          have c60b0 : decide (0 ≤ x88_4) = true := decide_eq_true c60
                                          clear c60
                                          by_cases c61 : x88_4 < (t117.length : Int)
                                          · rw [if_pos c61] at H
                                            have c61b0 : decide (x88_4 < (t117.length : Int)) = true := decide_eq_true c61
                                            clear c61
                                            by_cases c62 : x88_4 < (t135.length : Int)
                                            · rw [if_pos c62] at H
                                              have c62b0 : decide (x88_4 < (t135.length : Int)) = true := decide_eq_true c62
                                              clear c62
                                              by_cases c63 : (!(((rd_T23 t117 x88_4).f0) == ((rd_T23 t135 x88_4).f0)) || (!(((rd_T23 t117 x88_4).f1) == ((rd_T23 t135 x88_4).f1)) || (!(((rd_T23 t117 x88_4).f2) == ((rd_T23 t135 x88_4).f2)) || (!(((rd_T23 t117 x88_4).f3) == ((rd_T23 t135 x88_4).f3)) || (!(((rd_T23 t117 x88_4).f4) == ((rd_T23 t135 x88_4).f4)) || (!(((rd_T23 t117 x88_4).f5) == ((rd_T23 t135 x88_4).f5)) || (!(((rd_T23 t117 x88_4).f6) == ((rd_T23 t135 x88_4).f6))))))))) = true
                                              · rw [if_pos c63] at H
                                                have c63b0 : (!(((rd_T23 t117 x88_4).f0) == ((rd_T23 t135 x88_4).f0)) || (!(((rd_T23 t117 x88_4).f1) == ((rd_T23 t135 x88_4).f1)) || (!(((rd_T23 t117 x88_4).f2) == ((rd_T23 t135 x88_4).f2)) || (!(((rd_T23 t117 x88_4).f3) == ((rd_T23 t135 x88_4).f3)) || (!(((rd_T23 t117 x88_4).f4) == ((rd_T23 t135 x88_4).f4)) || (!(((rd_T23 t117 x88_4).f5) == ((rd_T23 t135 x88_4).f5)) || (!(((rd_T23 t117 x88_4).f6) == ((rd_T23 t135 x88_4).f6))))))))) = true := c63
                                                clear c63
                                                exact absurd ((Option.some.inj H).trans hrT.out) (by decide)
                                              · rw [if_neg c63] at H
                                                have c63b0 : (!(((rd_T23 t117 x88_4).f0) == ((rd_T23 t135 x88_4).f0)) || (!(((rd_T23 t117 x88_4).f1) == ((rd_T23 t135 x88_4).f1)) || (!(((rd_T23 t117 x88_4).f2) == ((rd_T23 t135 x88_4).f2)) || (!(((rd_T23 t117 x88_4).f3) == ((rd_T23 t135 x88_4).f3)) || (!(((rd_T23 t117 x88_4).f4) == ((rd_T23 t135 x88_4).f4)) || (!(((rd_T23 t117 x88_4).f5) == ((rd_T23 t135 x88_4).f5)) || (!(((rd_T23 t117 x88_4).f6) == ((rd_T23 t135 x88_4).f6))))))))) = false := by simpa using c63
                                                clear c63
                                                have H' := Aside0.mk H
                                                clear H
                                                try go_wp2
                                                have n0_ := Aside0.mk (Kd.R_drew HO_12.out)
                                                have n1_ := Aside0.mk (Kd.R_drew HO_14.out)
                                                have n2_ := Aside0.mk (below_drew1 HB.out)
                                                clear HO_12
                                                clear HO_14
                                                clear HB
                                                have HO_12 := n0_
                                                have HO_14 := n1_
                                                have HB := n2_
                                                clear n0_ n1_ n2_
                                                have p139 : 0 ≤ (x88_4 : Int) := of_decide_eq_true (by first | (with_reducible assumption) | assumption)
                                                have q139 : x88_4 < (t117.length : Int) := of_decide_eq_true (by first | (with_reducible assumption) | assumption)
                                                obtain ⟨ad139, e139, hx139_0, hx139_1, hx139_2, hx139_3, hx139_4, hx139_5, hx139_6⟩ := at_T23 (Kd.R_reads' HO_12.out).2.2 x88_4 p139 q139
                                                cases e139
                                                replace p139 := eq_true p139
                                                replace q139 := eq_true q139
                                                obtain ⟨Ao65, co65, eo65⟩ := Kd.R_slice HO_14.out
                                                (first | subst eo65 | (injection eo65 with f1_ f2_ f3_; have f4_ := f1_.symm; have f5_ := f3_.symm; clear f1_ f2_ f3_; subst f4_; subst f5_))
                                                have p140 : 0 ≤ (x88_4 : Int) := of_decide_eq_true (by first | (with_reducible assumption) | assumption)
                                                have q140 : x88_4 < (t135.length : Int) := of_decide_eq_true (by first | (with_reducible assumption) | assumption)
                                                obtain ⟨ad140, e140, hx140_0, hx140_1, hx140_2, hx140_3, hx140_4, hx140_5, hx140_6⟩ := at_T23 (Kd.R_reads' HO_14.out).2.2 x88_4 p140 q140
                                                cases e140
                                                replace p140 := eq_true p140
                                                replace q140 := eq_true q140
                                                refine start_ (n := 12) (S := fun w' => w'.cell? (ad139.add ((x88_4).toNat * 7)) = some (.int .i32 ((rd_T23 t117 x88_4).f0)) ∧ w'.cell? ⟨(ad139.add ((x88_4).toNat * 7)).block, (ad139.add ((x88_4).toNat * 7)).off + 1, none⟩ = some (.int .i32 ((rd_T23 t117 x88_4).f1)) ∧ w'.cell? ⟨(ad139.add ((x88_4).toNat * 7)).block, (ad139.add ((x88_4).toNat * 7)).off + 2, none⟩ = some (.int .i32 ((rd_T23 t117 x88_4).f2)) ∧ w'.cell? ⟨(ad139.add ((x88_4).toNat * 7)).block, (ad139.add ((x88_4).toNat * 7)).off + 3, none⟩ = some (.int .u8 ((rd_T23 t117 x88_4).f3)) ∧ w'.cell? ⟨(ad139.add ((x88_4).toNat * 7)).block, (ad139.add ((x88_4).toNat * 7)).off + 4, none⟩ = some (.int .u8 ((rd_T23 t117 x88_4).f4)) ∧ w'.cell? ⟨(ad139.add ((x88_4).toNat * 7)).block, (ad139.add ((x88_4).toNat * 7)).off + 5, none⟩ = some (.int .u8 ((rd_T23 t117 x88_4).f5)) ∧ w'.cell? ⟨(ad139.add ((x88_4).toNat * 7)).block, (ad139.add ((x88_4).toNat * 7)).off + 6, none⟩ = some (.bool ((rd_T23 t117 x88_4).f6)) ∧ w'.cell? (ad140.add ((x88_4).toNat * 7)) = some (.int .i32 ((rd_T23 t135 x88_4).f0)) ∧ w'.cell? ⟨(ad140.add ((x88_4).toNat * 7)).block, (ad140.add ((x88_4).toNat * 7)).off + 1, none⟩ = some (.int .i32 ((rd_T23 t135 x88_4).f1)) ∧ w'.cell? ⟨(ad140.add ((x88_4).toNat * 7)).block, (ad140.add ((x88_4).toNat * 7)).off + 2, none⟩ = some (.int .i32 ((rd_T23 t135 x88_4).f2)) ∧ w'.cell? ⟨(ad140.add ((x88_4).toNat * 7)).block, (ad140.add ((x88_4).toNat * 7)).off + 3, none⟩ = some (.int .u8 ((rd_T23 t135 x88_4).f3)) ∧ w'.cell? ⟨(ad140.add ((x88_4).toNat * 7)).block, (ad140.add ((x88_4).toNat * 7)).off + 4, none⟩ = some (.int .u8 ((rd_T23 t135 x88_4).f4)) ∧ w'.cell? ⟨(ad140.add ((x88_4).toNat * 7)).block, (ad140.add ((x88_4).toNat * 7)).off + 5, none⟩ = some (.int .u8 ((rd_T23 t135 x88_4).f5)) ∧ w'.cell? ⟨(ad140.add ((x88_4).toNat * 7)).block, (ad140.add ((x88_4).toNat * 7)).off + 6, none⟩ = some (.bool ((rd_T23 t135 x88_4).f6))) (ds := []) #[false, false, false, false, false, false, false, false, false, false, false, false] (by kernel_rfl) rfl rfl ⟨hx139_0, hx139_1, hx139_2, hx139_3, hx139_4, hx139_5, hx139_6, hx140_0, hx140_1, hx140_2, hx140_3, hx140_4, hx140_5, hx140_6⟩ (fun hHeld => ?_); refine with_tabW laws_FnStyleOrder.tab23 laws_FnStyleOrder.bits23 (fun HT_ HW_ => ?_)
                                                generalize wr.drew = w64 at HO_12 HO_14 HB hx139_0 hx139_1 hx139_2 hx139_3 hx139_4 hx139_5 hx139_6 hx140_0 hx140_1 hx140_2 hx140_3 hx140_4 hx140_5 hx140_6 hHeld ⊢
                                                refine pure_ (i := 0) (N := some 91) (v := ?_) (a' := ?_) #[true, false, false, false, false, false, false, false, false, false, false, false] rfl rfl (any_of HT_.out (by kernel_rfl)) (fun _ _ _ h => h) (Or.inl ⟨by rfl, ?_⟩) ?_ ?_
                                                rotate_left
                                                · intro w'
                                                  go_simp
                                                  first | with_reducible rfl | struct_eq
                                                rotate_left
                                                · simp only [Act.put, List.setIfInBounds_toArray, List.set_cons_zero, List.set_cons_succ, i64_w, i32_w]
                                                  rfl
                                                refine pure_ (i := 1) (N := some 92) (v := ?_) (a' := ?_) #[true, true, false, false, false, false, false, false, false, false, false, false] rfl rfl (any_of HT_.out (by kernel_rfl)) (fun _ _ _ h => h) (Or.inl ⟨by rfl, ?_⟩) ?_ ?_
                                                rotate_left
                                                · intro w'
                                                  go_simp
                                                  first | with_reducible rfl | struct_eq
                                                rotate_left
                                                · simp only [Act.put, List.setIfInBounds_toArray, List.set_cons_zero, List.set_cons_succ, i64_w, i32_w]
                                                  rfl
                                                refine pure_ (i := 2) (N := some 93) (v := ?_) (a' := ?_) #[true, true, true, false, false, false, false, false, false, false, false, false] rfl rfl (any_of HT_.out (by kernel_rfl)) (fun _ _ _ h => h) (Or.inl ⟨by rfl, ?_⟩) ?_ ?_
                                                rotate_left
                                                · intro w'
                                                  go_simp
                                                  first | with_reducible rfl | struct_eq
                                                rotate_left
                                                · simp only [Act.put, List.setIfInBounds_toArray, List.set_cons_zero, List.set_cons_succ, i64_w, i32_w]
                                                  rfl
                                                refine pure_ (i := 3) (N := some 94) (v := ?_) (a' := ?_) #[true, true, true, true, false, false, false, false, false, false, false, false] rfl rfl (any_of HT_.out (by kernel_rfl)) (fun _ _ _ h => h) (Or.inl ⟨by rfl, ?_⟩) ?_ ?_
                                                rotate_left
                                                · intro w'
                                                  go_simp
                                                  first | with_reducible rfl | struct_eq
                                                rotate_left
                                                · simp only [Act.put, List.setIfInBounds_toArray, List.set_cons_zero, List.set_cons_succ, i64_w, i32_w]
                                                  rfl
                                                refine pure_ (i := 4) (N := some 95) (v := ?_) (a' := ?_) #[true, true, true, true, true, false, false, false, false, false, false, false] rfl rfl (any_of HT_.out (by kernel_rfl)) (fun _ _ _ h => h) (Or.inl ⟨by rfl, ?_⟩) ?_ ?_
                                                rotate_left
                                                · intro w'
                                                  go_simp
                                                  first | with_reducible rfl | struct_eq
                                                rotate_left
                                                · simp only [Act.put, List.setIfInBounds_toArray, List.set_cons_zero, List.set_cons_succ, i64_w, i32_w]
                                                  rfl
                                                refine pure_ (i := 6) (N := some 97) (v := ?_) (a' := ?_) #[true, true, true, true, true, false, true, false, false, false, false, false] rfl rfl (any_of HT_.out (by kernel_rfl)) (fun _ _ _ h => h) (Or.inl ⟨by rfl, ?_⟩) ?_ ?_
                                                rotate_left
                                                · intro w'
                                                  go_simp
                                                  first | with_reducible rfl | struct_eq
                                                rotate_left
                                                · simp only [Act.put, List.setIfInBounds_toArray, List.set_cons_zero, List.set_cons_succ, i64_w, i32_w]
                                                  rfl
                                                refine pure_ (i := 7) (N := some 98) (v := ?_) (a' := ?_) #[true, true, true, true, true, false, true, true, false, false, false, false] rfl rfl (any_of HT_.out (by kernel_rfl)) (fun _ _ _ h => h) (Or.inl ⟨by rfl, ?_⟩) ?_ ?_
                                                rotate_left
                                                · intro w'
                                                  go_simp
                                                  first | with_reducible rfl | struct_eq
                                                rotate_left
                                                · simp only [Act.put, List.setIfInBounds_toArray, List.set_cons_zero, List.set_cons_succ, i64_w, i32_w]
                                                  rfl
                                                refine pure_ (i := 8) (N := some 99) (v := ?_) (a' := ?_) #[true, true, true, true, true, false, true, true, true, false, false, false] rfl rfl (any_of HT_.out (by kernel_rfl)) (fun _ _ _ h => h) (Or.inl ⟨by rfl, ?_⟩) ?_ ?_
                                                rotate_left
                                                · intro w'
                                                  go_simp
                                                  first | with_reducible rfl | struct_eq
                                                rotate_left
                                                · simp only [Act.put, List.setIfInBounds_toArray, List.set_cons_zero, List.set_cons_succ, i64_w, i32_w]
                                                  rfl
                                                refine take_ (i := 5) (N := some 96) (v := ?_) (a' := ?_) #[true, true, true, true, true, true, true, true, true, false, false, false] rfl rfl (take_ofW HT_.out HW_.out (by kernel_rfl)) (fun _ _ _ h => h) (Or.inl ⟨by rfl, ?_⟩) hHeld ?_ ?_
                                                rotate_left
                                                · rintro w' ⟨s0, s1, s2, s3, s4, s5, s6, s7, s8, s9, s10, s11, s12, s13⟩
                                                  go_simp
                                                  first | with_reducible rfl | struct_eq
                                                rotate_left
                                                · simp only [Act.put, List.setIfInBounds_toArray, List.set_cons_zero, List.set_cons_succ, i64_w, i32_w]
                                                  rfl
                                                refine take_ (i := 9) (N := some 100) (v := ?_) (a' := ?_) #[true, true, true, true, true, true, true, true, true, true, false, false] rfl rfl (take_ofW HT_.out HW_.out (by kernel_rfl)) (fun _ _ _ h => h) (Or.inl ⟨by rfl, ?_⟩) hHeld ?_ ?_
                                                rotate_left
                                                · rintro w' ⟨s0, s1, s2, s3, s4, s5, s6, s7, s8, s9, s10, s11, s12, s13⟩
                                                  go_simp
                                                  first | with_reducible rfl | struct_eq
                                                rotate_left
                                                · simp only [Act.put, List.setIfInBounds_toArray, List.set_cons_zero, List.set_cons_succ, i64_w, i32_w]
                                                  rfl
                                                refine pure_ (i := 10) (N := some 101) (v := ?_) (a' := ?_) #[true, true, true, true, true, true, true, true, true, true, true, false] rfl rfl (any_of HT_.out (by kernel_rfl)) (fun _ _ _ h => h) (Or.inl ⟨by rfl, ?_⟩) ?_ ?_
                                                rotate_left
                                                · intro w'
                                                  go_simp
                                                  first | with_reducible rfl | struct_eq
                                                rotate_left
                                                · simp only [Act.put, List.setIfInBounds_toArray, List.set_cons_zero, List.set_cons_succ, i64_w, i32_w]
                                                  rfl
                                                refine pure_ (i := 11) (N := some 102) (v := ?_) (a' := ?_) #[true, true, true, true, true, true, true, true, true, true, true, true] rfl rfl (any_of HT_.out (by kernel_rfl)) (fun _ _ _ h => h) (Or.inl ⟨by rfl, ?_⟩) ?_ ?_
                                                rotate_left
                                                · intro w'
                                                  go_simp
                                                  first | with_reducible rfl | struct_eq
                                                rotate_left
                                                · simp only [Act.put, List.setIfInBounds_toArray, List.set_cons_zero, List.set_cons_succ, i64_w, i32_w]
                                                  rfl
                                                refine done_ (done_of HT_.out (by kernel_rfl)) ?_
                                                try go_wp2
                                                go_roundg k4
                                                case measure => have := HJ3.out; have := HK2.out; have := HJ43.out; have := HK4.out; omega
                                                case rel => exact ⟨(wrap64 (x88_4 + 1)), (by first | rfl | (simp; done) | (simp [*]; done)), H', ⟨by have := HJ3.out; have := HK2.out; have := HJ43.out; have := HK4.out; omega⟩, ⟨by (with_reducible repeat (first | apply Kd.R_alloc | apply Kd.R_drewN | apply Kd.R_drew)); exact HO_12.out⟩, ⟨by (with_reducible repeat (first | apply Kd.R_alloc | apply Kd.R_drewN | apply Kd.R_drew)); exact HO_14.out⟩, ⟨by repeat (first | (with_reducible first | exact HB.out | apply below_alloc | apply pw_below_drewN | apply below_drew1) | exact HB.out)⟩⟩
                                            · rw [if_neg c62] at H
                                              exact absurd H (by simp)
                                          · rw [if_neg c61] at H
                                            exact absurd H (by simp)
                                        · rw [if_neg c60] at H
                                          exact absurd H (by simp)
                                      · replace c59 := Bool.eq_false_iff.mpr c59
                                        subst c59
                                        have H1 : (laws_FnStyleOrder.l2 k4 t117 false t135 (t117.length : Int) (wrap64 (x88_4 + 1))) = some r := by rw [if_neg (show ¬ (false = true) by decide)] at H; exact H
                                        clear H
                                        have H := H1
                                        clear H1
                                        have H' := Aside0.mk H
                                        clear H
                                        try go_wp2
                                        have n0_ := Aside0.mk (Kd.R_drew HO_12.out)
                                        have n1_ := Aside0.mk (Kd.R_drew HO_14.out)
                                        have n2_ := Aside0.mk (below_drew1 HB.out)
                                        clear HO_12
                                        clear HO_14
                                        clear HB
                                        have HO_12 := n0_
                                        have HO_14 := n1_
                                        have HB := n2_
                                        clear n0_ n1_ n2_
                                        refine start_ (n := 12) (S := fun w' => True) (ds := []) #[false, false, false, false, false, false, false, false, false, false, false, false] (by kernel_rfl) rfl rfl trivial (fun hHeld => ?_); refine with_tabW laws_FnStyleOrder.tab23 laws_FnStyleOrder.bits23 (fun HT_ HW_ => ?_)
                                        generalize wr.drew = w66 at HO_12 HO_14 HB hHeld ⊢
                                        refine pure_ (i := 0) (N := some 91) (v := ?_) (a' := ?_) #[true, false, false, false, false, false, false, false, false, false, false, false] rfl rfl (any_of HT_.out (by kernel_rfl)) (fun _ _ _ h => h) (Or.inl ⟨by rfl, ?_⟩) ?_ ?_
                                        rotate_left
                                        · intro w'
                                          go_simp
                                          first | with_reducible rfl | struct_eq
                                        rotate_left
                                        · simp only [Act.put, List.setIfInBounds_toArray, List.set_cons_zero, List.set_cons_succ, i64_w, i32_w]
                                          rfl
                                        refine pure_ (i := 1) (N := some 92) (v := ?_) (a' := ?_) #[true, true, false, false, false, false, false, false, false, false, false, false] rfl rfl (any_of HT_.out (by kernel_rfl)) (fun _ _ _ h => h) (Or.inl ⟨by rfl, ?_⟩) ?_ ?_
                                        rotate_left
                                        · intro w'
                                          go_simp
                                          first | with_reducible rfl | struct_eq
                                        rotate_left
                                        · simp only [Act.put, List.setIfInBounds_toArray, List.set_cons_zero, List.set_cons_succ, i64_w, i32_w]
                                          rfl
                                        refine pure_ (i := 2) (N := some 93) (v := undef) (a' := ?_) #[true, true, true, false, false, false, false, false, false, false, false, false] rfl rfl (any_of HT_.out (by kernel_rfl)) (fun _ _ _ h => h) (Or.inr ⟨by rfl, rfl⟩) ?_ ?_
                                        rotate_left
                                        · simp only [Act.put, List.setIfInBounds_toArray, List.set_cons_zero, List.set_cons_succ, i64_w, i32_w]
                                          rfl
                                        refine pure_ (i := 3) (N := some 94) (v := undef) (a' := ?_) #[true, true, true, true, false, false, false, false, false, false, false, false] rfl rfl (any_of HT_.out (by kernel_rfl)) (fun _ _ _ h => h) (Or.inr ⟨by rfl, rfl⟩) ?_ ?_
                                        rotate_left
                                        · simp only [Act.put, List.setIfInBounds_toArray, List.set_cons_zero, List.set_cons_succ, i64_w, i32_w]
                                          rfl
                                        refine pure_ (i := 4) (N := some 95) (v := undef) (a' := ?_) #[true, true, true, true, true, false, false, false, false, false, false, false] rfl rfl (any_of HT_.out (by kernel_rfl)) (fun _ _ _ h => h) (Or.inr ⟨by rfl, rfl⟩) ?_ ?_
                                        rotate_left
                                        · simp only [Act.put, List.setIfInBounds_toArray, List.set_cons_zero, List.set_cons_succ, i64_w, i32_w]
                                          rfl
                                        refine pure_ (i := 5) (N := some 96) (v := undef) (a' := ?_) #[true, true, true, true, true, true, false, false, false, false, false, false] rfl rfl (any_of HT_.out (by kernel_rfl)) (fun _ _ _ h => h) (Or.inr ⟨by rfl, rfl⟩) ?_ ?_
                                        rotate_left
                                        · simp only [Act.put, List.setIfInBounds_toArray, List.set_cons_zero, List.set_cons_succ, i64_w, i32_w]
                                          rfl
                                        refine pure_ (i := 6) (N := some 97) (v := undef) (a' := ?_) #[true, true, true, true, true, true, true, false, false, false, false, false] rfl rfl (any_of HT_.out (by kernel_rfl)) (fun _ _ _ h => h) (Or.inr ⟨by rfl, rfl⟩) ?_ ?_
                                        rotate_left
                                        · simp only [Act.put, List.setIfInBounds_toArray, List.set_cons_zero, List.set_cons_succ, i64_w, i32_w]
                                          rfl
                                        refine pure_ (i := 7) (N := some 98) (v := undef) (a' := ?_) #[true, true, true, true, true, true, true, true, false, false, false, false] rfl rfl (any_of HT_.out (by kernel_rfl)) (fun _ _ _ h => h) (Or.inr ⟨by rfl, rfl⟩) ?_ ?_
                                        rotate_left
                                        · simp only [Act.put, List.setIfInBounds_toArray, List.set_cons_zero, List.set_cons_succ, i64_w, i32_w]
                                          rfl
                                        refine pure_ (i := 8) (N := some 99) (v := undef) (a' := ?_) #[true, true, true, true, true, true, true, true, true, false, false, false] rfl rfl (any_of HT_.out (by kernel_rfl)) (fun _ _ _ h => h) (Or.inr ⟨by rfl, rfl⟩) ?_ ?_
                                        rotate_left
                                        · simp only [Act.put, List.setIfInBounds_toArray, List.set_cons_zero, List.set_cons_succ, i64_w, i32_w]
                                          rfl
                                        refine pure_ (i := 9) (N := some 100) (v := undef) (a' := ?_) #[true, true, true, true, true, true, true, true, true, true, false, false] rfl rfl (any_of HT_.out (by kernel_rfl)) (fun _ _ _ h => h) (Or.inr ⟨by rfl, rfl⟩) ?_ ?_
                                        rotate_left
                                        · simp only [Act.put, List.setIfInBounds_toArray, List.set_cons_zero, List.set_cons_succ, i64_w, i32_w]
                                          rfl
                                        refine pure_ (i := 10) (N := some 101) (v := undef) (a' := ?_) #[true, true, true, true, true, true, true, true, true, true, true, false] rfl rfl (any_of HT_.out (by kernel_rfl)) (fun _ _ _ h => h) (Or.inr ⟨by rfl, rfl⟩) ?_ ?_
                                        rotate_left
                                        · simp only [Act.put, List.setIfInBounds_toArray, List.set_cons_zero, List.set_cons_succ, i64_w, i32_w]
                                          rfl
                                        refine pure_ (i := 11) (N := some 102) (v := ?_) (a' := ?_) #[true, true, true, true, true, true, true, true, true, true, true, true] rfl rfl (any_of HT_.out (by kernel_rfl)) (fun _ _ _ h => h) (Or.inl ⟨by rfl, ?_⟩) ?_ ?_
                                        rotate_left
                                        · intro w'
                                          go_simp
                                          first | with_reducible rfl | struct_eq
                                        rotate_left
                                        · simp only [Act.put, List.setIfInBounds_toArray, List.set_cons_zero, List.set_cons_succ, i64_w, i32_w]
                                          rfl
                                        refine done_ (done_of HT_.out (by kernel_rfl)) ?_
                                        try go_wp2
                                        go_roundg k4
                                        case measure => have := HJ3.out; have := HK2.out; have := HJ43.out; have := HK4.out; omega
                                        case rel => exact ⟨(wrap64 (x88_4 + 1)), (by first | rfl | (simp; done) | (simp [*]; done)), H', ⟨by have := HJ3.out; have := HK2.out; have := HJ43.out; have := HK4.out; omega⟩, ⟨by (with_reducible repeat (first | apply Kd.R_alloc | apply Kd.R_drewN | apply Kd.R_drew)); exact HO_12.out⟩, ⟨by (with_reducible repeat (first | apply Kd.R_alloc | apply Kd.R_drewN | apply Kd.R_drew)); exact HO_14.out⟩, ⟨by repeat (first | (with_reducible first | exact HB.out | apply below_alloc | apply pw_below_drewN | apply below_drew1) | exact HB.out)⟩⟩
                                    · rw [if_neg c58] at H
                                      have c58b0 : decide (x88_4 < (t117.length : Int)) = false := decide_eq_false c58
                                      clear c58
                                      replace H := Option.bind_eq_some_iff.mp H
                                      obtain ⟨t141, A670, H⟩ := H
                                      replace H : (some t141) = some r := H
                                      have A67 := Aside0.mk A670
                                      clear A670
                                      obtain rfl := Option.some.inj H
                                      go_wp2_with (first | ((with_reducible refine gate_callee (f := 13) rfl ?_); refine goesL_ (some 104) rfl rfl Tryd.func13 (by kernel_rfl) rfl #[] rfl (by (try simp only [List.map_toArray, List.map_cons, List.map_nil]); first | done | rfl | (simp only [List.length_drop, List.length_take]; rfl)) ?_; (with_reducible refine (laws_styled.calls  t141 _ ?side1 A67.out).mono ?_); (case side1 => exact Go.Proofs.YtifhhejohdmiaaaDoorFmt.VarsOK.below HV.out (by repeat (first | (with_reducible first | exact HB.out | apply below_alloc | apply pw_below_drewN | apply below_drew1) | exact HB.out))); rintro e w68 ⟨rfl, hb⟩; refine ⟨_, rfl, ?_⟩; have n0_ := Aside0.mk (Kd.R_below (by (with_reducible repeat (first | apply Kd.R_alloc | apply Kd.R_drewN | apply Kd.R_drew)); exact HO_12.out) hb); have n1_ := Aside0.mk (Kd.R_below (by (with_reducible repeat (first | apply Kd.R_alloc | apply Kd.R_drewN | apply Kd.R_drew)); exact HO_14.out) hb); have n2_ := Aside0.mk (below_step (by repeat (first | (with_reducible first | exact HB.out | apply below_alloc | apply pw_below_drewN | apply below_drew1) | exact HB.out)) hb); clear HO_12; clear HO_14; clear HB; have HO_12 := n0_; have HO_14 := n1_; have HB := n2_; clear n0_ n1_ n2_; (try clear hb); (try clear hb2); (try clear hk); (try clear hi)))
                                      go_ret
                                      exact ⟨by first | rfl | (simp [errW_none, errW_some] <;> rfl) | (simp only [← hji36]; first | rfl | (simp [errW_none, errW_some] <;> rfl)) | (simp [*, errW_none, errW_some] <;> rfl), by repeat (first | (with_reducible first | exact HB.out | apply below_alloc | apply pw_below_drewN | apply below_drew1) | exact HB.out)⟩
                        · rw [if_neg c42] at H
                          exact absurd H (by simp)
                      · rw [if_neg c39] at H
                        exact absurd H (by simp)
                    · rw [if_neg c38] at H
                      exact absurd H (by simp)
                  · rw [if_neg c37] at H
                    exact absurd H (by simp)
        · replace c11 := Bool.eq_false_iff.mpr c11
          subst c11
          have H1 : (some true) = some r := by rw [if_neg (show ¬ (false = true) by decide)] at H; exact H
          clear H
          have H := H1
          clear H1
          obtain rfl := Option.some.inj H
          go_wp2_with (first | ((with_reducible refine gate_callee (f := 25) rfl ?_); refine goesL_ (some 27) rfl rfl Tryd.func25 (by kernel_rfl) rfl #[.slice A0 l0.length c0, .slice A2 l2.length c2] rfl (by (try simp only [List.map_toArray, List.map_cons, List.map_nil]); first | done | rfl | (simp only [List.length_drop, List.length_take]; rfl)) ?_; (with_reducible refine (laws_few.calls kj3 _ _ l0 _ _ l2 false _ ?side1 ?side2 ?side3 ?side4 A10.out).mono ?_); (case side1 => repeat (first | exact (Kd.C_below HR0.out HB.out) | (with_reducible refine Kd.C_alloc ?_ _) | (with_reducible refine Kd.C_drewN ?_ _) | (with_reducible refine Kd.C_drew ?_))); (case side2 => exact HC0.out); (case side3 => repeat (first | exact (Kd.C_below HR2.out HB.out) | (with_reducible refine Kd.C_alloc ?_ _) | (with_reducible refine Kd.C_drewN ?_ _) | (with_reducible refine Kd.C_drew ?_))); (case side4 => exact HC2.out); rintro e w69 ⟨rfl, hb⟩; refine ⟨_, rfl, ?_⟩; have n0_ := Aside0.mk (below_step (by repeat (first | (with_reducible first | exact HB.out | apply below_alloc | apply pw_below_drewN | apply below_drew1) | exact HB.out)) hb); clear HB; have HB := n0_; clear n0_; (try clear hb); (try clear hb2); (try clear hk); (try clear hi)))
          go_ret
          exact ⟨by first | rfl | (simp [errW_none, errW_some] <;> rfl) | (simp [*, errW_none, errW_some] <;> rfl), by repeat (first | (with_reducible first | exact HB.out | apply below_alloc | apply pw_below_drewN | apply below_drew1) | exact HB.out)⟩
def wf_S49 (x : S49) : Prop := (IntKind.i64.min ≤ x.f0 ∧ x.f0 ≤ IntKind.i64.max) ∧ (x.f1.size ≤ maxLen)
def laws_FnStyleOrder.Pure : Prop := ∀ (l0 : List (S49)) (a1 : Int) (l2 : List Int), (l0.length ≤ 9223372036854775807 ∧ ∀ x ∈ l0, wf_S49 x) → (Lit.int .u8 a1).wf = true → (l2.length ≤ 9223372036854775807 ∧ ∀ x ∈ l2, IntKind.i64.min ≤ x ∧ x ≤ IntKind.i64.max) → ∃ k, laws_FnStyleOrder.f k l0 a1 l2 = some true

end Go.Proofs.YtifhhejohdmiaaaDoor.O
