-- WRITTEN BY OUR myprint.py, a program of this session's over the kit's printer
import Derived.Test.YtgpamoanclhbhaaDoorMx0
import Derived.Test.YtgpamoanclhbhaaDoorMx2
import Derived.Test.YtgpamoanclhbhaaDoorMx3
import Derived.Test.YtgpamoanclhbhaaDoorMx6
namespace Go.Proofs.YtgpamoanclhbhaaDoor.M
open Go.RowKit Go.Proofs.YtgpamoanclhbhaaDoorW.PrintWords Go.Proofs.YtgpamoanclhbhaaDoorW.PrintLast Go.Proofs.YtgpamoanclhbhaaDoorW.PrintMore
attribute [local go_sem] max2_int min2_int max_two min_two max_three min_three max_four min_four   -- for this text's walks alone
set_option linter.unusedVariables false
set_option linter.unusedSimpArgs false

/-! ### laws_FnCoalesceParts: function 4 -/
mutual
def laws_FnCoalesceParts.j0 : Nat → List (S29) → List Int → Bool → Option (Bool)
  | 0, _, _, _ => none
  | k + 1, x0, x1, x16 => if x16 = true then (some true) else ((laws_small.f k x0).bind fun t202 => (if t202 = true then (laws_FnCoalesceParts.l0 k x0 x1 ([] : List (S29)) x0 (x0.length : Int) 0) else (some true)))
def laws_FnCoalesceParts.l0 : Nat → List (S29) → List Int → List (S29) → List (S29) → Int → Int → Option (Bool)
  | 0, _, _, _, _, _, _ => none
  | k + 1, x0, x1, x5, x20, x21, x22 => if x22 < x21 then (if 0 ≤ x22 then (if x22 < (x20.length : Int) then (if (x1.length : Int) > 0 then (if (((rd_T29 x20 x22).f1).size : Int) > 0 then (if (x1.length : Int) = 0 then (none) else (if 0 ≤ (Int.tmod x22 (x1.length : Int)) then (if (Int.tmod x22 (x1.length : Int)) < (x1.length : Int) then (if (wrap64 ((((rd_T29 x20 x22).f1).size : Int) + 1)) = 0 then (none) else (if 0 ≤ (Int.tmod (wrap64 (rd x1 (Int.tmod x22 (x1.length : Int)))) (wrap64 ((((rd_T29 x20 x22).f1).size : Int) + 1))) then (if (Int.tmod (wrap64 (rd x1 (Int.tmod x22 (x1.length : Int)))) (wrap64 ((((rd_T29 x20 x22).f1).size : Int) + 1))) ≤ (((rd_T29 x20 x22).f1).size : Int) then ((some (([(⟨(rd_T29 x20 x22).f0, ((rd_T29 x20 x22).f1).extract 0 ((Int.tmod (wrap64 (rd x1 (Int.tmod x22 (x1.length : Int)))) (wrap64 ((((rd_T29 x20 x22).f1).size : Int) + 1))) : Int).toNat⟩ : S29), (⟨(rd_T29 x20 x22).f0, ((rd_T29 x20 x22).f1).extract ((Int.tmod (wrap64 (rd x1 (Int.tmod x22 (x1.length : Int)))) (wrap64 ((((rd_T29 x20 x22).f1).size : Int) + 1))) : Int).toNat ((rd_T29 x20 x22).f1).size⟩ : S29)] : List (S29)) : List (S29))).bind fun y206 => (if x5.length + y206.length < 5864062014805 then (laws_FnCoalesceParts.l0 k x0 x1 (x5 ++ y206) x20 x21 (wrap64 (x22 + 1))) else (none))) else (none)) else (none))) else (none)) else (none))) else (if 0 ≤ 0 then (if 0 ≤ (((rd_T29 x20 x22).f1).size : Int) then ((some (([(⟨(rd_T29 x20 x22).f0, ((rd_T29 x20 x22).f1).extract 0 0⟩ : S29), (⟨(rd_T29 x20 x22).f0, ((rd_T29 x20 x22).f1).extract 0 ((rd_T29 x20 x22).f1).size⟩ : S29)] : List (S29)) : List (S29))).bind fun y212 => (if x5.length + y212.length < 5864062014805 then (laws_FnCoalesceParts.l0 k x0 x1 (x5 ++ y212) x20 x21 (wrap64 (x22 + 1))) else (none))) else (none)) else (none))) else (if 0 ≤ 0 then (if 0 ≤ (((rd_T29 x20 x22).f1).size : Int) then ((some (([(⟨(rd_T29 x20 x22).f0, ((rd_T29 x20 x22).f1).extract 0 0⟩ : S29), (⟨(rd_T29 x20 x22).f0, ((rd_T29 x20 x22).f1).extract 0 ((rd_T29 x20 x22).f1).size⟩ : S29)] : List (S29)) : List (S29))).bind fun y218 => (if x5.length + y218.length < 5864062014805 then (laws_FnCoalesceParts.l0 k x0 x1 (x5 ++ y218) x20 x21 (wrap64 (x22 + 1))) else (none))) else (none)) else (none))) else (none)) else (none)) else ((impl_CoalesceTokens.f x5).bind fun t224 => ((impl_CoalesceTokens.f x0).bind fun t227 => ((laws_same.f k t224 t227).bind fun t230 => (if t230 = true then ((laws_waking.f k).bind fun t231 => (some t231)) else (some false)))))
end
def laws_FnCoalesceParts.f (k : Nat) (l0 : List (S29)) (l1 : List Int) : Option (Bool) := (laws_zzFits4.f k l0).bind fun t201 => (if t201 = true then (laws_FnCoalesceParts.j0 k l0 l1 (decide ((l1.length : Int) > 2147483647))) else (laws_FnCoalesceParts.j0 k l0 l1 true))
theorem laws_FnCoalesceParts.mono_l : ∀ k, (∀ y0 y1 y2, LeO (laws_FnCoalesceParts.j0 k y0 y1 y2) (laws_FnCoalesceParts.j0 (k + 1) y0 y1 y2)) ∧ (∀ y0 y1 y2 y3 y4 y5, LeO (laws_FnCoalesceParts.l0 k y0 y1 y2 y3 y4 y5) (laws_FnCoalesceParts.l0 (k + 1) y0 y1 y2 y3 y4 y5))
  | 0 => ⟨fun _ _ _ r h => by simp [laws_FnCoalesceParts.j0] at h, fun _ _ _ _ _ _ r h => by simp [laws_FnCoalesceParts.l0] at h⟩
  | k + 1 => by
    obtain ⟨ih0, ih1⟩ := laws_FnCoalesceParts.mono_l k
    refine ⟨?_, ?_⟩
    · intro y0 y1 y2
      unfold laws_FnCoalesceParts.j0
      repeat' first
      | (with_reducible exact ih0 _ _ _)
      | (with_reducible exact ih1 _ _ _ _ _ _)
      | (with_reducible exact laws_same.mono _ _ _)
      | (with_reducible exact laws_small.mono _ _)
      | (with_reducible exact laws_waking.mono _)
      | (with_reducible exact laws_zzFits4.mono _ _)
      | (with_reducible exact LeO.refl _)
      | (with_reducible exact LeO.none _)
      | (with_reducible refine LeO.ite ?_ ?_)
      | (with_reducible refine LeO.bind ?_ (fun _ => ?_))
      | exact ih0 _ _ _
      | exact ih1 _ _ _ _ _ _
      | exact laws_same.mono _ _ _
      | exact laws_small.mono _ _
      | exact laws_waking.mono _
      | exact laws_zzFits4.mono _ _
      | exact LeO.none _
      | refine LeO.ite ?_ ?_
      | refine LeO.bind ?_ (fun _ => ?_)
    · intro y0 y1 y2 y3 y4 y5
      unfold laws_FnCoalesceParts.l0
      repeat' first
      | (with_reducible exact ih0 _ _ _)
      | (with_reducible exact ih1 _ _ _ _ _ _)
      | (with_reducible exact laws_same.mono _ _ _)
      | (with_reducible exact laws_small.mono _ _)
      | (with_reducible exact laws_waking.mono _)
      | (with_reducible exact laws_zzFits4.mono _ _)
      | (with_reducible exact LeO.refl _)
      | (with_reducible exact LeO.none _)
      | (with_reducible refine LeO.ite ?_ ?_)
      | (with_reducible refine LeO.bind ?_ (fun _ => ?_))
      | exact ih0 _ _ _
      | exact ih1 _ _ _ _ _ _
      | exact laws_same.mono _ _ _
      | exact laws_small.mono _ _
      | exact laws_waking.mono _
      | exact laws_zzFits4.mono _ _
      | exact LeO.none _
      | refine LeO.ite ?_ ?_
      | refine LeO.bind ?_ (fun _ => ?_)
theorem laws_FnCoalesceParts.mono : ∀ a0 a1 k, LeO (laws_FnCoalesceParts.f k a0 a1) (laws_FnCoalesceParts.f (k + 1) a0 a1) := by
  intro a0 a1 k
  obtain ⟨ih0, ih1⟩ := laws_FnCoalesceParts.mono_l k
  unfold laws_FnCoalesceParts.f
  repeat' first
      | (with_reducible exact ih0 _ _ _)
      | (with_reducible exact ih1 _ _ _ _ _ _)
      | (with_reducible exact laws_same.mono _ _ _)
      | (with_reducible exact laws_small.mono _ _)
      | (with_reducible exact laws_waking.mono _)
      | (with_reducible exact laws_zzFits4.mono _ _)
      | (with_reducible exact LeO.refl _)
      | (with_reducible exact LeO.none _)
      | (with_reducible refine LeO.ite ?_ ?_)
      | (with_reducible refine LeO.bind ?_ (fun _ => ?_))
      | exact ih0 _ _ _
      | exact ih1 _ _ _ _ _ _
      | exact laws_same.mono _ _ _
      | exact laws_small.mono _ _
      | exact laws_waking.mono _
      | exact laws_zzFits4.mono _ _
      | exact LeO.none _
      | refine LeO.ite ?_ ?_
      | refine LeO.bind ?_ (fun _ => ?_)
def laws_FnCoalesceParts.T11 : Bool × List (List Nat × List Nat) := (true, [([], []), ([], []), ([], []), ([2], [2]), ([1, 3], [1, 3]), ([0, 4], [0, 4]), ([5], [5]), ([6], [6]), ([], []), ([8], [8]), ([9], [9]), ([10], [10]), ([7, 11], [7, 11]), ([12, 0, 1, 2, 3, 4, 5, 6, 7, 8, 9, 10, 11, 12], [12])])
def laws_FnCoalesceParts.B11 : List Nat := [0, 0, 0, 4, 14, 31, 63, 127, 0, 256, 768, 1792, 4095, 8191]
theorem laws_FnCoalesceParts.tab11 : rtab .any (opsOf Tryd.f4 11) = laws_FnCoalesceParts.T11 := by kernel_rfl
theorem laws_FnCoalesceParts.bits11 : waitsOk laws_FnCoalesceParts.T11.2 laws_FnCoalesceParts.B11 = true := by kernel_rfl
def laws_FnCoalesceParts.T12 : Bool × List (List Nat × List Nat) := (true, [([], []), ([], []), ([1], [1]), ([], []), ([3], [3]), ([], []), ([4, 5], [4, 5]), ([2, 6], [2, 6]), ([], []), ([8], [8]), ([], []), ([10], [10]), ([], []), ([11, 12], [11, 12]), ([9, 13], [9, 13]), ([7, 14], [7, 14]), ([0, 15], [0, 15]), ([16, 16, 0, 1, 2, 3, 4, 5, 6, 7, 8, 9, 10, 11, 12, 13, 14, 15, 16], [0, 16])])
def laws_FnCoalesceParts.B12 : List Nat := [0, 0, 2, 0, 8, 0, 56, 126, 0, 256, 0, 1024, 0, 7168, 16128, 32766, 65535, 131071]
theorem laws_FnCoalesceParts.tab12 : rtab .any (opsOf Tryd.f4 12) = laws_FnCoalesceParts.T12 := by kernel_rfl
theorem laws_FnCoalesceParts.bits12 : waitsOk laws_FnCoalesceParts.T12.2 laws_FnCoalesceParts.B12 = true := by kernel_rfl
set_option maxHeartbeats 8000000 in
set_option maxRecDepth 100000 in
theorem laws_FnCoalesceParts.calls (k : Nat) (A0 : Option Addr) (c0 : Nat) (l0 : List (S29)) (A1 : Option Addr) (c1 : Nat) (l1 : List Int) (r : Bool) (w : World) (hr0 : Kd.C k29 w A0 l0.length l0) (hc0 : l0.length ≤ c0) (hr1 : Kd.C (Kd.int .u8) w A1 l1.length l1) (hc1 : l1.length ≤ c1) (hV : Go.Proofs.YtgpamoanclhbhaaDoorFmt.VarsOK w) (h : laws_FnCoalesceParts.f k l0 l1 = some r) :
    Calls Tryd.prog 4 #[.slice A0 l0.length c0, .slice A1 l1.length c1] w fun e w' => e = .returned (.bool r) ∧ Below w.heap.size w w' := by
  have hu29 := Tryd.underlying29
  have HR0 := Aside0.mk hr0
  have HC0 := Aside0.mk hc0
  clear hr0 hc0
  have HR1 := Aside0.mk hr1
  have HC1 := Aside0.mk hc1
  clear hr1 hc1
  have HB := Aside0.mk (Below.refl w.heap.size w)
  have HV := Aside0.mk hV
  clear hV
  have H : ((laws_zzFits4.f k l0).bind fun t201 => (if t201 = true then (laws_FnCoalesceParts.j0 k l0 l1 (decide ((l1.length : Int) > 2147483647))) else (laws_FnCoalesceParts.j0 k l0 l1 true))) = some r := h
  clear h
  have HC3 := Aside0.mk H
  clear H
  go_enter Tryd.func4, Tryd.ntmps4
  go_upto_region 1 with (fail)
  go_cut [16] (fun v16 wc => ∃ (kq : Nat) (x16_2 : Bool), v16 = .bool x16_2 ∧ Aside0 (laws_FnCoalesceParts.j0 kq l0 l1 x16_2 = some r) ∧ Aside0 (kq ≤ k) ∧ Aside0 (Below w.heap.size w wc))
  case first =>
    have H := HC3.out
    clear HC3
    replace H := Option.bind_eq_some_iff.mp H
    obtain ⟨t201, A40, H⟩ := H
    replace H : (if t201 = true then (laws_FnCoalesceParts.j0 k l0 l1 (decide ((l1.length : Int) > 2147483647))) else (laws_FnCoalesceParts.j0 k l0 l1 true)) = some r := H
    have A4 := Aside0.mk A40
    clear A40
    by_cases c5 : t201 = true
    · subst c5
      have H1 : (laws_FnCoalesceParts.j0 k l0 l1 (decide ((l1.length : Int) > 2147483647))) = some r := by rw [if_pos rfl] at H; exact H
      clear H
      have H := H1
      clear H1
      have H' := Aside0.mk H
      clear H
      go_wp2_with (first | ((with_reducible refine gate_callee (f := 6) rfl ?_); refine goesL_ (some 10) rfl rfl Tryd.func6 (by kernel_rfl) rfl #[.slice A0 l0.length c0] rfl (by (try simp only [List.map_toArray, List.map_cons, List.map_nil]); first | done | rfl | (simp only [List.length_drop, List.length_take]; rfl)) ?_; (with_reducible refine (laws_zzFits4.calls k _ _ l0 true _ ?side1 ?side2 A4.out).mono ?_); (case side1 => repeat (first | exact (Kd.C_below HR0.out HB.out) | (with_reducible refine Kd.C_alloc ?_ _) | (with_reducible refine Kd.C_drewN ?_ _) | (with_reducible refine Kd.C_drew ?_))); (case side2 => exact HC0.out); rintro e w6 ⟨rfl, hb⟩; refine ⟨_, rfl, ?_⟩; have n0_ := Aside0.mk (below_step (by repeat (first | (with_reducible first | exact HB.out | apply below_alloc | apply pw_below_drewN | apply below_drew1) | exact HB.out)) hb); clear HB; have HB := n0_; clear n0_; (try clear hb); (try clear hb2); (try clear hk); (try clear hi)))
      go_meet
      case rel => exact ⟨_, (decide ((l1.length : Int) > 2147483647)), (by first | rfl | (simp; done) | (simp [*]; done)), H', ⟨by first | omega | exact Nat.le_refl _⟩, ⟨by repeat (first | (with_reducible first | exact HB.out | apply below_alloc | apply pw_below_drewN | apply below_drew1) | exact HB.out)⟩⟩
    · replace c5 := Bool.eq_false_iff.mpr c5
      subst c5
      have H1 : (laws_FnCoalesceParts.j0 k l0 l1 true) = some r := by rw [if_neg (show ¬ (false = true) by decide)] at H; exact H
      clear H
      have H := H1
      clear H1
      have H' := Aside0.mk H
      clear H
      go_wp2_with (first | ((with_reducible refine gate_callee (f := 6) rfl ?_); refine goesL_ (some 10) rfl rfl Tryd.func6 (by kernel_rfl) rfl #[.slice A0 l0.length c0] rfl (by (try simp only [List.map_toArray, List.map_cons, List.map_nil]); first | done | rfl | (simp only [List.length_drop, List.length_take]; rfl)) ?_; (with_reducible refine (laws_zzFits4.calls k _ _ l0 false _ ?side1 ?side2 A4.out).mono ?_); (case side1 => repeat (first | exact (Kd.C_below HR0.out HB.out) | (with_reducible refine Kd.C_alloc ?_ _) | (with_reducible refine Kd.C_drewN ?_ _) | (with_reducible refine Kd.C_drew ?_))); (case side2 => exact HC0.out); rintro e w7 ⟨rfl, hb⟩; refine ⟨_, rfl, ?_⟩; have n0_ := Aside0.mk (below_step (by repeat (first | (with_reducible first | exact HB.out | apply below_alloc | apply pw_below_drewN | apply below_drew1) | exact HB.out)) hb); clear HB; have HB := n0_; clear n0_; (try clear hb); (try clear hb2); (try clear hk); (try clear hi)))
      go_meet
      case rel => exact ⟨_, (true), (by first | rfl | (simp; done) | (simp [*]; done)), H', ⟨by first | omega | exact Nat.le_refl _⟩, ⟨by repeat (first | (with_reducible first | exact HB.out | apply below_alloc | apply pw_below_drewN | apply below_drew1) | exact HB.out)⟩⟩
  case rest =>
    clear HC3
    try clear c1
    try clear p2
    try clear c4
    try clear c5
    try clear c6
    obtain ⟨kq, x16_2, rfl, HA, HJ2, HB⟩ := hcut
    cases kq with
    | zero => exact absurd HA.out (by simp [laws_FnCoalesceParts.j0])
    | succ kj2 =>
      have H := HA.out
      clear HA
      simp only [laws_FnCoalesceParts.j0] at H
      by_cases c8 : x16_2 = true
      · subst c8
        have H1 : (some true) = some r := by rw [if_pos rfl] at H; exact H
        clear H
        have H := H1
        clear H1
        obtain rfl := Option.some.inj H
        go_wp2
        go_ret
        exact ⟨by first | rfl | (simp [errW_none, errW_some] <;> rfl) | (simp [*, errW_none, errW_some] <;> rfl), by repeat (first | (with_reducible first | exact HB.out | apply below_alloc | apply pw_below_drewN | apply below_drew1) | exact HB.out)⟩
      · replace c8 := Bool.eq_false_iff.mpr c8
        subst c8
        have H1 : ((laws_small.f kj2 l0).bind fun t202 => (if t202 = true then (laws_FnCoalesceParts.l0 kj2 l0 l1 ([] : List (S29)) l0 (l0.length : Int) 0) else (some true))) = some r := by rw [if_neg (show ¬ (false = true) by decide)] at H; exact H
        clear H
        have H := H1
        clear H1
        replace H := Option.bind_eq_some_iff.mp H
        obtain ⟨t202, A90, H⟩ := H
        replace H : (if t202 = true then (laws_FnCoalesceParts.l0 kj2 l0 l1 ([] : List (S29)) l0 (l0.length : Int) 0) else (some true)) = some r := H
        have A9 := Aside0.mk A90
        clear A90
        by_cases c10 : t202 = true
        · subst c10
          have H1 : (laws_FnCoalesceParts.l0 kj2 l0 l1 ([] : List (S29)) l0 (l0.length : Int) 0) = some r := by rw [if_pos rfl] at H; exact H
          clear H
          have H := H1
          clear H1
          have H' := Aside0.mk H
          clear H
          go_wp2_with (first | ((with_reducible refine gate_callee (f := 7) rfl ?_); refine goesL_ (some 18) rfl rfl Tryd.func7 (by kernel_rfl) rfl #[.slice A0 l0.length c0] rfl (by (try simp only [List.map_toArray, List.map_cons, List.map_nil]); first | done | rfl | (simp only [List.length_drop, List.length_take]; rfl)) ?_; (with_reducible refine (laws_small.calls kj2 _ _ l0 true _ ?side1 ?side2 A9.out).mono ?_); (case side1 => repeat (first | exact (Kd.C_below HR0.out HB.out) | (with_reducible refine Kd.C_alloc ?_ _) | (with_reducible refine Kd.C_drewN ?_ _) | (with_reducible refine Kd.C_drew ?_))); (case side2 => exact HC0.out); rintro e w11 ⟨rfl, hb⟩; refine ⟨_, rfl, ?_⟩; have n0_ := Aside0.mk (below_step (by repeat (first | (with_reducible first | exact HB.out | apply below_alloc | apply pw_below_drewN | apply below_drew1) | exact HB.out)) hb); clear HB; have HB := n0_; clear n0_; (try clear hb); (try clear hb2); (try clear hk); (try clear hi)))
          go_loopg [5, 22] kj2 (fun kq v5 v22 w' => ∃ (x5_2 : List (S29)) (x22_2 : Int), v22 = .int .i64 x22_2 ∧ Aside0 (laws_FnCoalesceParts.l0 kq l0 l1 x5_2 l0 (l0.length : Int) x22_2 = some r) ∧ Aside0 (kq ≤ kj2) ∧ Aside0 (Kd.R k29 29 w' w.heap.size (fun _ => True) v5 x5_2) ∧ Aside0 (Below w.heap.size w w'))
          case atStart => exact ⟨(([] : List (S29))), (0), (by first | rfl | (simp; done) | (simp [*]; done)), H', ⟨Nat.le_refl _⟩, ⟨by first | exact Kd.R_nil _ _ _ _ _ | exact Kd.N_nil _ _ _ _ _ | exact Kd.V_nil _ _ _ _ _ | exact Kd.Q_nil _ _ _ _ _ | exact Kd.S_nil _ _ _ _ _⟩, ⟨by repeat (first | (with_reducible first | exact HB.out | apply below_alloc | apply pw_below_drewN | apply below_drew1) | exact HB.out)⟩⟩
          case round =>
            clear H'
            try clear c1
            try clear p2
            try clear c4
            try clear c5
            try clear c6
            try clear c7
            try clear c8
            try clear c10
            try clear p2
            obtain ⟨x5_2, x22_2, rfl, HA, HK2, HO_5, HB⟩ := hrel
            cases gk with
            | zero => exact absurd HA.out (by simp [laws_FnCoalesceParts.l0])
            | succ k2 =>
              have H := HA.out
              clear HA
              simp only [laws_FnCoalesceParts.l0] at H
              by_cases c12 : x22_2 < (l0.length : Int)
              · rw [if_pos c12] at H
                have c12b0 : decide (x22_2 < (l0.length : Int)) = true := decide_eq_true c12
                clear c12
                by_cases c13 : 0 ≤ x22_2
                · rw [if_pos c13] at H
                  have c13b0 : decide (0 ≤ x22_2) = true := decide_eq_true c13
                  clear c13
                  by_cases c14 : x22_2 < (l0.length : Int)
                  · rw [if_pos c14] at H
                    have c14b0 : decide (x22_2 < (l0.length : Int)) = true := decide_eq_true c14
                    clear c14
                    by_cases c15 : (l1.length : Int) > 0
                    · rw [if_pos c15] at H
                      have c15b0 : decide (0 < (l1.length : Int)) = true := decide_eq_true c15
                      have c15b1 : decide (0 < l1.length) = true := decide_eq_true (by omega)
                      clear c15
                      by_cases c16 : (((rd_T29 l0 x22_2).f1).size : Int) > 0
                      · rw [if_pos c16] at H
                        have c16b0 : decide (0 < (((rd_T29 l0 x22_2).f1).size : Int)) = true := decide_eq_true c16
                        have c16b1 : decide (0 < ((rd_T29 l0 x22_2).f1).size) = true := decide_eq_true (by omega)
                        clear c16
                        by_cases c17 : (l1.length : Int) = 0
                        · rw [if_pos c17] at H
                          exact absurd H (by simp)
                        · rw [if_neg c17] at H
                          have c17b0 : ((l1.length : Int) == 0) = false := beq_eq_false_iff_ne.mpr c17
                          have c17b1 : ((l1.length : Int) != 0) = true := bne_iff_ne.mpr c17
                          have c17b2 : ¬ (l1 = []) := fun h_ => c17 (by rw [h_]; rfl)
                          obtain ⟨ji18, hji18⟩ : ∃ j_ : Int, (Int.tmod x22_2 (l1.length : Int)) = j_ := ⟨_, rfl⟩
                          replace H : (if 0 ≤ (ji18) then (if (ji18) < (l1.length : Int) then (if (wrap64 ((((rd_T29 l0 x22_2).f1).size : Int) + 1)) = 0 then (none) else (if 0 ≤ (Int.tmod (wrap64 (rd l1 (ji18))) (wrap64 ((((rd_T29 l0 x22_2).f1).size : Int) + 1))) then (if (Int.tmod (wrap64 (rd l1 (ji18))) (wrap64 ((((rd_T29 l0 x22_2).f1).size : Int) + 1))) ≤ (((rd_T29 l0 x22_2).f1).size : Int) then ((some (([(⟨(rd_T29 l0 x22_2).f0, ((rd_T29 l0 x22_2).f1).extract 0 ((Int.tmod (wrap64 (rd l1 (ji18))) (wrap64 ((((rd_T29 l0 x22_2).f1).size : Int) + 1))) : Int).toNat⟩ : S29), (⟨(rd_T29 l0 x22_2).f0, ((rd_T29 l0 x22_2).f1).extract ((Int.tmod (wrap64 (rd l1 (ji18))) (wrap64 ((((rd_T29 l0 x22_2).f1).size : Int) + 1))) : Int).toNat ((rd_T29 l0 x22_2).f1).size⟩ : S29)] : List (S29)) : List (S29))).bind fun y206 => (if x5_2.length + y206.length < 5864062014805 then (laws_FnCoalesceParts.l0 k2 l0 l1 (x5_2 ++ y206) l0 (l0.length : Int) (wrap64 (x22_2 + 1))) else (none))) else (none)) else (none))) else (none)) else (none)) = some r := by first | (rw [hji18] at H; exact H) | (simp only [hji18] at H ⊢; exact H)
                          by_cases c19 : 0 ≤ (ji18)
                          · rw [if_pos c19] at H
                            have c19b0 : decide (0 ≤ (ji18)) = true := decide_eq_true c19
                            clear c19
                            by_cases c20 : (ji18) < (l1.length : Int)
                            · rw [if_pos c20] at H
                              have c20b0 : decide ((ji18) < (l1.length : Int)) = true := decide_eq_true c20
                              clear c20
                              by_cases c21 : (wrap64 ((((rd_T29 l0 x22_2).f1).size : Int) + 1)) = 0
                              · rw [if_pos c21] at H
                                exact absurd H (by simp)
                              · rw [if_neg c21] at H
                                have c21b0 : ((wrap64 ((((rd_T29 l0 x22_2).f1).size : Int) + 1)) == 0) = false := beq_eq_false_iff_ne.mpr c21
                                have c21b1 : ((wrap64 ((((rd_T29 l0 x22_2).f1).size : Int) + 1)) != 0) = true := bne_iff_ne.mpr c21
                                obtain ⟨ji22, hji22⟩ : ∃ j_ : Int, (Int.tmod (wrap64 (rd l1 (ji18))) (wrap64 ((((rd_T29 l0 x22_2).f1).size : Int) + 1))) = j_ := ⟨_, rfl⟩
                                replace H : (if 0 ≤ (ji22) then (if (ji22) ≤ (((rd_T29 l0 x22_2).f1).size : Int) then ((some (([(⟨(rd_T29 l0 x22_2).f0, ((rd_T29 l0 x22_2).f1).extract 0 ((ji22) : Int).toNat⟩ : S29), (⟨(rd_T29 l0 x22_2).f0, ((rd_T29 l0 x22_2).f1).extract ((ji22) : Int).toNat ((rd_T29 l0 x22_2).f1).size⟩ : S29)] : List (S29)) : List (S29))).bind fun y206 => (if x5_2.length + y206.length < 5864062014805 then (laws_FnCoalesceParts.l0 k2 l0 l1 (x5_2 ++ y206) l0 (l0.length : Int) (wrap64 (x22_2 + 1))) else (none))) else (none)) else (none)) = some r := by first | (rw [hji22] at H; exact H) | (simp only [hji22] at H ⊢; exact H)
                                by_cases c23 : 0 ≤ (ji22)
                                · rw [if_pos c23] at H
                                  have c23b0 := eq_true c23
                                  have c23b1 : decide (0 ≤ (ji22)) = true := decide_eq_true c23
                                  clear c23
                                  by_cases c24 : (ji22) ≤ (((rd_T29 l0 x22_2).f1).size : Int)
                                  · rw [if_pos c24] at H
                                    have c24b0 := eq_true c24
                                    have c24b1 : decide ((ji22) ≤ (((rd_T29 l0 x22_2).f1).size : Int)) = true := decide_eq_true c24
                                    clear c24
                                    have c25b0 := eq_true (of_decide_eq_true (by first | (with_reducible assumption) | assumption) : 0 ≤ (ji22))
                                    have c26b0 := eq_true (of_decide_eq_true (by first | (with_reducible assumption) | assumption) : (ji22) ≤ (((rd_T29 l0 x22_2).f1).size : Int))
                                    obtain ⟨y206, hy206⟩ : ∃ y_ : List (S29), y_ = (([(⟨(rd_T29 l0 x22_2).f0, ((rd_T29 l0 x22_2).f1).extract 0 ((ji22) : Int).toNat⟩ : S29), (⟨(rd_T29 l0 x22_2).f0, ((rd_T29 l0 x22_2).f1).extract ((ji22) : Int).toNat ((rd_T29 l0 x22_2).f1).size⟩ : S29)] : List (S29))) := ⟨_, rfl⟩
                                    replace H : (if x5_2.length + y206.length < 5864062014805 then (laws_FnCoalesceParts.l0 k2 l0 l1 (x5_2 ++ y206) l0 (l0.length : Int) (wrap64 (x22_2 + 1))) else (none)) = some r := by first | (rw [hy206]; with_reducible exact H) | (have H2_ := (Option.bind_some _ _).symm.trans H; rw [hy206]; with_reducible exact H2_) | (have H2_ := (Option.bind_some _ _).symm.trans H; with_reducible exact H2_) | with_reducible exact H | (rw [hy206]; exact H) | exact H
                                    have Ny206 := Aside0.mk hy206
                                    clear hy206
                                    by_cases c27 : x5_2.length + y206.length < 5864062014805
                                    · rw [if_pos c27] at H
                                      have LMc27 := Aside0.mk c27
                                      clear c27
                                      obtain ⟨y209, hy209⟩ : ∃ y_ : List (S29), y_ = (x5_2 ++ y206) := ⟨_, rfl⟩
                                      replace H : (laws_FnCoalesceParts.l0 k2 l0 l1 y209 l0 (l0.length : Int) (wrap64 (x22_2 + 1))) = some r := by first | (rw [hy209]; with_reducible exact H) | (have H2_ := (Option.bind_some _ _).symm.trans H; rw [hy209]; with_reducible exact H2_) | (have H2_ := (Option.bind_some _ _).symm.trans H; with_reducible exact H2_) | with_reducible exact H | (rw [hy209]; exact H) | exact H
                                      have Ny209 := Aside0.mk hy209
                                      clear hy209
                                      have H' := Aside0.mk H
                                      clear H
                                      have p203 : 0 ≤ (x22_2 : Int) := of_decide_eq_true (by first | (with_reducible assumption) | assumption)
                                      have q203 : x22_2 < (l0.length : Int) := of_decide_eq_true (by first | (with_reducible assumption) | assumption)
                                      obtain ⟨ad203, e203, hx203_0, hx203_1⟩ := at_T29 HR0.out x22_2 p203 q203
                                      cases e203
                                      replace hx203_0 := (HB.out.cell (World.block_lt_of_cell? w _ hx203_0)).trans hx203_0
                                      replace hx203_1 := (HB.out.cell (World.block_lt_of_cell? w _ hx203_1)).trans hx203_1
                                      replace p203 := eq_true p203
                                      replace q203 := eq_true q203
                                      try go_wp2_with (first | ((with_reducible refine gate_dst (N := 7) rfl ?_); (try (refine gate_guard (by rfl) ?_; dsimp only)); refine box_event ?hg (N := 7) ?hd (cs := #[.int .i64 0, .string (⟨#[]⟩ : ByteArray)]) (t := 29) ?hr ?_; (case hd => rfl); (case hg => rfl); (case hr => first | (go_simp; done) | (go_simp; rfl)); intro gb204 hg w28 hbox hb; have n0_ := Aside0.mk (Kd.R_below (Kd.R_elderB (by (with_reducible repeat (first | apply Kd.R_alloc | apply Kd.R_drewN | apply Kd.R_drew)); exact HO_5.out) gb204 (Nat.le_of_eq hg.symm)) hb); have n1_ := Aside0.mk (below_step (by repeat (first | (with_reducible first | exact HB.out | apply below_alloc | apply pw_below_drewN | apply below_drew1) | exact HB.out)) hb); have n2_ := Aside0.mk (hbox); have n3_ := Aside0.mk ((by rw [hg]; exact (below_size (by repeat (first | (with_reducible first | exact HB.out | apply below_alloc | apply pw_below_drewN | apply below_drew1) | exact HB.out))) : w.heap.size ≤ gb204)); have n4_ := Aside0.mk ((by rw [hg]; exact (below_size (by repeat (first | (with_reducible first | exact HB.out | apply below_alloc | apply pw_below_drewN | apply below_drew1) | exact HB.out))) : w.heap.size ≤ gb204)); clear HO_5; clear HB; have HO_5 := n0_; have HB := n1_; have BK204 := n2_; have GW204 := n3_; have GE204 := n4_; clear n0_ n1_ n2_ n3_ n4_; clear hb hbox hg; have hcz29_0 : w28.cell? ⟨gb204, 0, none⟩ = some (.int .i64 0) := (blk_cell BK204.out 0).trans rfl; have hcz29_1 : w28.cell? ⟨gb204, 1, none⟩ = some (.string (⟨#[]⟩ : ByteArray)) := (blk_cell BK204.out 1).trans rfl; have hfz29_0 := blk_frozen BK204.out 0; have hfz29_1 := blk_frozen BK204.out 1))
                                      have n0_ : Aside0 (Kd.R k29 29 ((w28.setCell ⟨gb204, 0, none⟩ (.int .i64 ((rd_T29 l0 x22_2).f0))).setCell ⟨gb204, 1, none⟩ (.string ((rd_T29 l0 x22_2).f1))) w.heap.size (fun k_ => k_ ≠ gb204) u5 x5_2) := ⟨by (with_reducible repeat (first | apply Kd.R_alloc | apply Kd.R_drewN | apply Kd.R_drew)); exact Kd.R_mono (Kd.R_far (p := ⟨gb204, 1, none⟩) (Kd.R_far (p := ⟨gb204, 0, none⟩) (Kd.R_mono HO_5.out (fun k_ hk => (⟨hk, hk.2⟩ : _ ∧ k_ ≠ gb204))) (fun _ hk => hk.2) (.int .i64 ((rd_T29 l0 x22_2).f0))) (fun _ hk => hk.2) (.string ((rd_T29 l0 x22_2).f1))) (fun _ hk => hk.1.2)⟩
                                      have n1_ : Aside0 (((w28.setCell ⟨gb204, 0, none⟩ (.int .i64 ((rd_T29 l0 x22_2).f0))).setCell ⟨gb204, 1, none⟩ (.string ((rd_T29 l0 x22_2).f1))).heap[gb204]? = some (.cells #[.int .i64 ((rd_T29 l0 x22_2).f0), .string ((rd_T29 l0 x22_2).f1)] 29 (0, 0))) := ⟨by (with_reducible repeat (first | refine blk_drewN ?_ _ | refine blk_drew ?_ | refine blk_alloc ?_ _)); refine blk_put (cs := #[.int .i64 ((rd_T29 l0 x22_2).f0), .string (⟨#[]⟩ : ByteArray)]) ?_ 1 _ rfl; (with_reducible repeat (first | refine blk_drewN ?_ _ | refine blk_drew ?_ | refine blk_alloc ?_ _)); refine blk_put (cs := #[.int .i64 0, .string (⟨#[]⟩ : ByteArray)]) ?_ 0 _ rfl; (with_reducible repeat (first | refine blk_drewN ?_ _ | refine blk_drew ?_ | refine blk_alloc ?_ _)); exact BK204.out⟩
                                      have n2_ : Aside0 (Below w.heap.size w ((w28.setCell ⟨gb204, 0, none⟩ (.int .i64 ((rd_T29 l0 x22_2).f0))).setCell ⟨gb204, 1, none⟩ (.string ((rd_T29 l0 x22_2).f1)))) := ⟨by repeat (first | (with_reducible first | exact HB.out | apply below_alloc | apply pw_below_drewN | apply below_drew1 | refine below_set ?_ GE204.out) | exact HB.out)⟩
                                      (try clear HO_5)
                                      (try clear BK204)
                                      (try clear HB)
                                      generalize ((w28.setCell ⟨gb204, 0, none⟩ (.int .i64 ((rd_T29 l0 x22_2).f0))).setCell ⟨gb204, 1, none⟩ (.string ((rd_T29 l0 x22_2).f1))) = w30 at n0_ n1_ n2_ ⊢
                                      have HO_5 := n0_
                                      have BK204 := n1_
                                      have HB := n2_
                                      clear n0_ n1_ n2_
                                      have n0_ := Aside0.mk (Kd.R_drew HO_5.out)
                                      have n1_ := Aside0.mk (blk_drew BK204.out)
                                      have n2_ := Aside0.mk (below_drew1 HB.out)
                                      clear HO_5
                                      clear BK204
                                      clear HB
                                      have HO_5 := n0_
                                      have BK204 := n1_
                                      have HB := n2_
                                      clear n0_ n1_ n2_
                                      have p205 : 0 ≤ ((ji18) : Int) := of_decide_eq_true (by first | (with_reducible assumption) | assumption)
                                      have q205 : (ji18) < (l1.length : Int) := of_decide_eq_true (by first | (with_reducible assumption) | assumption)
                                      obtain ⟨ad205, e205, hx205_0⟩ := Kd.at_int HR1.out (ji18) p205 q205
                                      have hw205_0 := hx205_0
                                      cases e205
                                      replace hx205_0 := (HB.out.cell (World.block_lt_of_cell? w _ hx205_0)).trans hx205_0
                                      replace p205 := eq_true p205
                                      replace q205 := eq_true q205
                                      refine start_ (n := 14) (S := fun w' => w'.cell? ⟨gb204, 0, none⟩ = some (.int .i64 ((rd_T29 l0 x22_2).f0)) ∧ w'.cell? ⟨gb204, 1, none⟩ = some (.string ((rd_T29 l0 x22_2).f1)) ∧ w'.cell? (ad205.add ((ji18)).toNat) = some (.int .u8 (rd l1 (ji18)))) (ds := []) #[false, false, false, false, false, false, false, false, false, false, false, false, false, false] (by kernel_rfl) rfl rfl ⟨(blk_cell BK204.out 0).trans rfl, (blk_cell BK204.out 1).trans rfl, ((HB.out.cell (World.block_lt_of_cell? w _ hw205_0)).trans hw205_0)⟩ (fun hHeld => ?_); refine with_tabW laws_FnCoalesceParts.tab11 laws_FnCoalesceParts.bits11 (fun HT_ HW_ => ?_)
                                      generalize w30.drew = w31 at HO_5 BK204 HB hx205_0 hHeld ⊢
                                      refine pure_ (i := 0) (N := some 36) (v := ?_) (a' := ?_) #[true, false, false, false, false, false, false, false, false, false, false, false, false, false] rfl rfl (any_of HT_.out (by kernel_rfl)) (fun _ _ _ h => h) (Or.inl ⟨by rfl, ?_⟩) ?_ ?_
                                      rotate_left
                                      · intro w'
                                        go_simp
                                        with_reducible rfl
                                      rotate_left
                                      · simp only [Act.put, List.setIfInBounds_toArray, List.set_cons_zero, List.set_cons_succ, i64_w, i32_w]
                                        rfl
                                      refine pure_ (i := 1) (N := some 37) (v := ?_) (a' := ?_) #[true, true, false, false, false, false, false, false, false, false, false, false, false, false] rfl rfl (any_of HT_.out (by kernel_rfl)) (fun _ _ _ h => h) (Or.inl ⟨by rfl, ?_⟩) ?_ ?_
                                      rotate_left
                                      · intro w'
                                        go_simp
                                        with_reducible rfl
                                      rotate_left
                                      · simp only [Act.put, List.setIfInBounds_toArray, List.set_cons_zero, List.set_cons_succ, i64_w, i32_w]
                                        rfl
                                      refine pure_ (i := 2) (N := some 38) (v := ?_) (a' := ?_) #[true, true, true, false, false, false, false, false, false, false, false, false, false, false] rfl rfl (any_of HT_.out (by kernel_rfl)) (fun _ _ _ h => h) (Or.inl ⟨by rfl, ?_⟩) ?_ ?_
                                      rotate_left
                                      · intro w'
                                        go_simp
                                        with_reducible rfl
                                      rotate_left
                                      · simp only [Act.put, List.setIfInBounds_toArray, List.set_cons_zero, List.set_cons_succ, i64_w, i32_w]
                                        rfl
                                      refine pure_ (i := 3) (N := some 39) (v := ?_) (a' := ?_) #[true, true, true, true, false, false, false, false, false, false, false, false, false, false] rfl rfl (any_of HT_.out (by kernel_rfl)) (fun _ _ _ h => h) (Or.inl ⟨by rfl, ?_⟩) ?_ ?_
                                      rotate_left
                                      · intro w'
                                        go_simp
                                        with_reducible rfl
                                      rotate_left
                                      · simp only [Act.put, List.setIfInBounds_toArray, List.set_cons_zero, List.set_cons_succ, i64_w, i32_w]
                                        rfl
                                      refine pure_ (i := 4) (N := some 40) (v := ?_) (a' := ?_) #[true, true, true, true, true, false, false, false, false, false, false, false, false, false] rfl rfl (any_of HT_.out (by kernel_rfl)) (fun _ _ _ h => h) (Or.inl ⟨by rfl, ?_⟩) ?_ ?_
                                      rotate_left
                                      · intro w'
                                        go_simp
                                        with_reducible rfl
                                      rotate_left
                                      · simp only [Act.put, List.setIfInBounds_toArray, List.set_cons_zero, List.set_cons_succ, i64_w, i32_w]
                                        rfl
                                      refine pure_ (i := 5) (N := some 41) (v := ?_) (a' := ?_) #[true, true, true, true, true, true, false, false, false, false, false, false, false, false] rfl rfl (any_of HT_.out (by kernel_rfl)) (fun _ _ _ h => h) (Or.inl ⟨by rfl, ?_⟩) ?_ ?_
                                      rotate_left
                                      · intro w'
                                        go_simp
                                        with_reducible rfl
                                      rotate_left
                                      · simp only [Act.put, List.setIfInBounds_toArray, List.set_cons_zero, List.set_cons_succ, i64_w, i32_w]
                                        rfl
                                      refine pure_ (i := 8) (N := some 44) (v := ?_) (a' := ?_) #[true, true, true, true, true, true, false, false, true, false, false, false, false, false] rfl rfl (any_of HT_.out (by kernel_rfl)) (fun _ _ _ h => h) (Or.inl ⟨by rfl, ?_⟩) ?_ ?_
                                      rotate_left
                                      · intro w'
                                        go_simp
                                        with_reducible rfl
                                      rotate_left
                                      · simp only [Act.put, List.setIfInBounds_toArray, List.set_cons_zero, List.set_cons_succ, i64_w, i32_w]
                                        rfl
                                      refine take_ (i := 6) (N := some 42) (v := ?_) (a' := ?_) #[true, true, true, true, true, true, true, false, true, false, false, false, false, false] rfl rfl (take_ofW HT_.out HW_.out (by kernel_rfl)) (fun _ _ _ h => h) (Or.inl ⟨by rfl, ?_⟩) hHeld ?_ ?_
                                      rotate_left
                                      · rintro w' ⟨s0, s1, s2⟩
                                        go_simp
                                        with_reducible rfl
                                      rotate_left
                                      · simp only [Act.put, List.setIfInBounds_toArray, List.set_cons_zero, List.set_cons_succ, i64_w, i32_w]
                                        rfl
                                      refine pure_ (i := 7) (N := some 43) (v := ?_) (a' := ?_) #[true, true, true, true, true, true, true, true, true, false, false, false, false, false] rfl rfl (any_of HT_.out (by kernel_rfl)) (fun _ _ _ h => h) (Or.inl ⟨by rfl, ?_⟩) ?_ ?_
                                      rotate_left
                                      · intro w'
                                        go_simp
                                        with_reducible rfl
                                      rotate_left
                                      · simp only [Act.put, List.setIfInBounds_toArray, List.set_cons_zero, List.set_cons_succ, i64_w, i32_w]
                                        rfl
                                      refine take_ (i := 9) (N := some 45) (v := ?_) (a' := ?_) #[true, true, true, true, true, true, true, true, true, true, false, false, false, false] rfl rfl (take_ofW HT_.out HW_.out (by kernel_rfl)) (fun _ _ _ h => h) (Or.inl ⟨by rfl, ?_⟩) hHeld ?_ ?_
                                      rotate_left
                                      · rintro w' ⟨s0, s1, s2⟩
                                        go_simp
                                        with_reducible rfl
                                      rotate_left
                                      · simp only [Act.put, List.setIfInBounds_toArray, List.set_cons_zero, List.set_cons_succ, i64_w, i32_w]
                                        rfl
                                      refine pure_ (i := 10) (N := some 46) (v := ?_) (a' := ?_) #[true, true, true, true, true, true, true, true, true, true, true, false, false, false] rfl rfl (any_of HT_.out (by kernel_rfl)) (fun _ _ _ h => h) (Or.inl ⟨by rfl, ?_⟩) ?_ ?_
                                      rotate_left
                                      · intro w'
                                        go_simp
                                        with_reducible rfl
                                      rotate_left
                                      · simp only [Act.put, List.setIfInBounds_toArray, List.set_cons_zero, List.set_cons_succ, i64_w, i32_w]
                                        rfl
                                      refine pure_ (i := 11) (N := some 47) (v := ?_) (a' := ?_) #[true, true, true, true, true, true, true, true, true, true, true, true, false, false] rfl rfl (any_of HT_.out (by kernel_rfl)) (fun _ _ _ h => h) (Or.inl ⟨by rfl, ?_⟩) ?_ ?_
                                      rotate_left
                                      · intro w'
                                        go_simp
                                        with_reducible rfl
                                      rotate_left
                                      · simp only [Act.put, List.setIfInBounds_toArray, List.set_cons_zero, List.set_cons_succ, i64_w, i32_w]
                                        rfl
                                      refine pure_ (i := 12) (N := some 48) (v := ?_) (a' := ?_) #[true, true, true, true, true, true, true, true, true, true, true, true, true, false] rfl rfl (any_of HT_.out (by kernel_rfl)) (fun _ _ _ h => h) (Or.inl ⟨by rfl, ?_⟩) ?_ ?_
                                      rotate_left
                                      · intro w'
                                        go_simp
                                        with_reducible rfl
                                      rotate_left
                                      · simp only [Act.put, List.setIfInBounds_toArray, List.set_cons_zero, List.set_cons_succ, i64_w, i32_w]
                                        rfl
                                      refine pure_ (i := 13) (N := some 8) (v := ?_) (a' := ?_) #[true, true, true, true, true, true, true, true, true, true, true, true, true, true] rfl rfl (any_of HT_.out (by kernel_rfl)) (fun _ _ _ h => h) (Or.inl ⟨by rfl, ?_⟩) ?_ ?_
                                      rotate_left
                                      · intro w'
                                        go_simp
                                        with_reducible rfl
                                      rotate_left
                                      · simp only [Act.put, List.setIfInBounds_toArray, List.set_cons_zero, List.set_cons_succ, i64_w, i32_w]
                                        rfl
                                      refine done_ (done_of HT_.out (by kernel_rfl)) ?_
                                      try go_wp2
                                      have n0_ := Aside0.mk (Kd.R_drew HO_5.out)
                                      have n1_ := Aside0.mk (blk_drew BK204.out)
                                      have n2_ := Aside0.mk (below_drew1 HB.out)
                                      clear HO_5
                                      clear BK204
                                      clear HB
                                      have HO_5 := n0_
                                      have BK204 := n1_
                                      have HB := n2_
                                      clear n0_ n1_ n2_
                                      refine start_ (n := 18) (S := fun w' => w'.cell? ⟨gb204, 0, none⟩ = some (.int .i64 ((rd_T29 l0 x22_2).f0)) ∧ w'.cell? ⟨gb204, 1, none⟩ = some (.string ((rd_T29 l0 x22_2).f1))) (ds := []) #[false, false, false, false, false, false, false, false, false, false, false, false, false, false, false, false, false, false] (by kernel_rfl) rfl rfl ⟨(blk_cell BK204.out 0).trans rfl, (blk_cell BK204.out 1).trans rfl⟩ (fun hHeld => ?_); refine with_tabW laws_FnCoalesceParts.tab12 laws_FnCoalesceParts.bits12 (fun HT_ HW_ => ?_)
                                      generalize w31.drew = w32 at HO_5 BK204 HB hHeld ⊢
                                      refine pure_ (i := 0) (N := some 49) (v := ?_) (a' := ?_) #[true, false, false, false, false, false, false, false, false, false, false, false, false, false, false, false, false, false] rfl rfl (any_of HT_.out (by kernel_rfl)) (fun _ _ _ h => h) (Or.inl ⟨by rfl, ?_⟩) ?_ ?_
                                      rotate_left
                                      · intro w'
                                        go_simp
                                        with_reducible rfl
                                      rotate_left
                                      · simp only [Act.put, List.setIfInBounds_toArray, List.set_cons_zero, List.set_cons_succ, i64_w, i32_w]
                                        rfl
                                      refine pure_ (i := 1) (N := some 50) (v := ?_) (a' := ?_) #[true, true, false, false, false, false, false, false, false, false, false, false, false, false, false, false, false, false] rfl rfl (any_of HT_.out (by kernel_rfl)) (fun _ _ _ h => h) (Or.inl ⟨by rfl, ?_⟩) ?_ ?_
                                      rotate_left
                                      · intro w'
                                        go_simp
                                        with_reducible rfl
                                      rotate_left
                                      · simp only [Act.put, List.setIfInBounds_toArray, List.set_cons_zero, List.set_cons_succ, i64_w, i32_w]
                                        rfl
                                      refine pure_ (i := 3) (N := some 52) (v := ?_) (a' := ?_) #[true, true, false, true, false, false, false, false, false, false, false, false, false, false, false, false, false, false] rfl rfl (any_of HT_.out (by kernel_rfl)) (fun _ _ _ h => h) (Or.inl ⟨by rfl, ?_⟩) ?_ ?_
                                      rotate_left
                                      · intro w'
                                        go_simp
                                        with_reducible rfl
                                      rotate_left
                                      · simp only [Act.put, List.setIfInBounds_toArray, List.set_cons_zero, List.set_cons_succ, i64_w, i32_w]
                                        rfl
                                      refine pure_ (i := 5) (N := some 54) (v := ?_) (a' := ?_) #[true, true, false, true, false, true, false, false, false, false, false, false, false, false, false, false, false, false] rfl rfl (any_of HT_.out (by kernel_rfl)) (fun _ _ _ h => h) (Or.inl ⟨by rfl, ?_⟩) ?_ ?_
                                      rotate_left
                                      · intro w'
                                        go_simp
                                        with_reducible rfl
                                      rotate_left
                                      · simp only [Act.put, List.setIfInBounds_toArray, List.set_cons_zero, List.set_cons_succ, i64_w, i32_w]
                                        rfl
                                      refine pure_ (i := 8) (N := some 57) (v := ?_) (a' := ?_) #[true, true, false, true, false, true, false, false, true, false, false, false, false, false, false, false, false, false] rfl rfl (any_of HT_.out (by kernel_rfl)) (fun _ _ _ h => h) (Or.inl ⟨by rfl, ?_⟩) ?_ ?_
                                      rotate_left
                                      · intro w'
                                        go_simp
                                        with_reducible rfl
                                      rotate_left
                                      · simp only [Act.put, List.setIfInBounds_toArray, List.set_cons_zero, List.set_cons_succ, i64_w, i32_w]
                                        rfl
                                      refine pure_ (i := 10) (N := some 59) (v := ?_) (a' := ?_) #[true, true, false, true, false, true, false, false, true, false, true, false, false, false, false, false, false, false] rfl rfl (any_of HT_.out (by kernel_rfl)) (fun _ _ _ h => h) (Or.inl ⟨by rfl, ?_⟩) ?_ ?_
                                      rotate_left
                                      · intro w'
                                        go_simp
                                        with_reducible rfl
                                      rotate_left
                                      · simp only [Act.put, List.setIfInBounds_toArray, List.set_cons_zero, List.set_cons_succ, i64_w, i32_w]
                                        rfl
                                      refine pure_ (i := 12) (N := some 61) (v := ?_) (a' := ?_) #[true, true, false, true, false, true, false, false, true, false, true, false, true, false, false, false, false, false] rfl rfl (any_of HT_.out (by kernel_rfl)) (fun _ _ _ h => h) (Or.inl ⟨by rfl, ?_⟩) ?_ ?_
                                      rotate_left
                                      · intro w'
                                        go_simp
                                        with_reducible rfl
                                      rotate_left
                                      · simp only [Act.put, List.setIfInBounds_toArray, List.set_cons_zero, List.set_cons_succ, i64_w, i32_w]
                                        rfl
                                      refine take_ (i := 2) (N := some 51) (v := ?_) (a' := ?_) #[true, true, true, true, false, true, false, false, true, false, true, false, true, false, false, false, false, false] rfl rfl (take_ofW HT_.out HW_.out (by kernel_rfl)) (fun _ _ _ h => h) (Or.inl ⟨by rfl, ?_⟩) hHeld ?_ ?_
                                      rotate_left
                                      · rintro w' ⟨s0, s1⟩
                                        go_simp
                                        with_reducible rfl
                                      rotate_left
                                      · simp only [Act.put, List.setIfInBounds_toArray, List.set_cons_zero, List.set_cons_succ, i64_w, i32_w]
                                        rfl
                                      refine take_ (i := 4) (N := some 53) (v := ?_) (a' := ?_) #[true, true, true, true, true, true, false, false, true, false, true, false, true, false, false, false, false, false] rfl rfl (take_ofW HT_.out HW_.out (by kernel_rfl)) (fun _ _ _ h => h) (Or.inl ⟨by rfl, ?_⟩) hHeld ?_ ?_
                                      rotate_left
                                      · rintro w' ⟨s0, s1⟩
                                        go_simp
                                        with_reducible rfl
                                      rotate_left
                                      · simp only [Act.put, List.setIfInBounds_toArray, List.set_cons_zero, List.set_cons_succ, i64_w, i32_w]
                                        rfl
                                      refine pure_ (i := 6) (N := some 55) (v := ?_) (a' := ?_) #[true, true, true, true, true, true, true, false, true, false, true, false, true, false, false, false, false, false] rfl rfl (any_of HT_.out (by kernel_rfl)) (fun _ _ _ h => h) (Or.inl ⟨by rfl, ?_⟩) ?_ ?_
                                      rotate_left
                                      · intro w'
                                        go_simp
                                        with_reducible rfl
                                      rotate_left
                                      · simp only [Act.put, List.setIfInBounds_toArray, List.set_cons_zero, List.set_cons_succ, i64_w, i32_w]
                                        rfl
                                      refine pure_ (i := 7) (N := some 56) (v := ?_) (a' := ?_) #[true, true, true, true, true, true, true, true, true, false, true, false, true, false, false, false, false, false] rfl rfl (any_of HT_.out (by kernel_rfl)) (fun _ _ _ h => h) (Or.inl ⟨by rfl, ?_⟩) ?_ ?_
                                      rotate_left
                                      · intro w'
                                        go_simp
                                        with_reducible rfl
                                      rotate_left
                                      · simp only [Act.put, List.setIfInBounds_toArray, List.set_cons_zero, List.set_cons_succ, i64_w, i32_w]
                                        rfl
                                      refine take_ (i := 9) (N := some 58) (v := ?_) (a' := ?_) #[true, true, true, true, true, true, true, true, true, true, true, false, true, false, false, false, false, false] rfl rfl (take_ofW HT_.out HW_.out (by kernel_rfl)) (fun _ _ _ h => h) (Or.inl ⟨by rfl, ?_⟩) hHeld ?_ ?_
                                      rotate_left
                                      · rintro w' ⟨s0, s1⟩
                                        go_simp
                                        with_reducible rfl
                                      rotate_left
                                      · simp only [Act.put, List.setIfInBounds_toArray, List.set_cons_zero, List.set_cons_succ, i64_w, i32_w]
                                        rfl
                                      refine take_ (i := 11) (N := some 60) (v := ?_) (a' := ?_) #[true, true, true, true, true, true, true, true, true, true, true, true, true, false, false, false, false, false] rfl rfl (take_ofW HT_.out HW_.out (by kernel_rfl)) (fun _ _ _ h => h) (Or.inl ⟨by rfl, ?_⟩) hHeld ?_ ?_
                                      rotate_left
                                      · rintro w' ⟨s0, s1⟩
                                        go_simp
                                        with_reducible rfl
                                      rotate_left
                                      · simp only [Act.put, List.setIfInBounds_toArray, List.set_cons_zero, List.set_cons_succ, i64_w, i32_w]
                                        rfl
                                      refine pure_ (i := 13) (N := some 62) (v := ?_) (a' := ?_) #[true, true, true, true, true, true, true, true, true, true, true, true, true, true, false, false, false, false] rfl rfl (any_of HT_.out (by kernel_rfl)) (fun _ _ _ h => h) (Or.inl ⟨by rfl, ?_⟩) ?_ ?_
                                      rotate_left
                                      · intro w'
                                        go_simp
                                        with_reducible rfl
                                      rotate_left
                                      · simp only [Act.put, List.setIfInBounds_toArray, List.set_cons_zero, List.set_cons_succ, i64_w, i32_w]
                                        rfl
                                      refine pure_ (i := 14) (N := some 63) (v := ?_) (a' := ?_) #[true, true, true, true, true, true, true, true, true, true, true, true, true, true, true, false, false, false] rfl rfl (any_of HT_.out (by kernel_rfl)) (fun _ _ _ h => h) (Or.inl ⟨by rfl, ?_⟩) ?_ ?_
                                      rotate_left
                                      · intro w'
                                        go_simp
                                        with_reducible rfl
                                      rotate_left
                                      · simp only [Act.put, List.setIfInBounds_toArray, List.set_cons_zero, List.set_cons_succ, i64_w, i32_w]
                                        rfl
                                      refine one_ (i := 15) (N := some 64) #[true, true, true, true, true, true, true, true, true, true, true, true, true, true, true, true, false, false] rfl rfl (one_of HT_.out (by kernel_rfl)) (by decide) (fun K hK => ?_)
                                      refine Kd.R_lit_step k29 _ 29 ?hg (N := 64) ?hd (xs := ([(⟨(rd_T29 l0 x22_2).f0, ((rd_T29 l0 x22_2).f1).extract 0 ((ji22) : Int).toNat⟩ : S29), (⟨(rd_T29 l0 x22_2).f0, ((rd_T29 l0 x22_2).f1).extract ((ji22) : Int).toNat ((rd_T29 l0 x22_2).f1).size⟩ : S29)] : List (S29))) (inner := [.int .i64 ((rd_T29 l0 x22_2).f0), .string (((rd_T29 l0 x22_2).f1).extract 0 ((ji22) : Int).toNat), .int .i64 ((rd_T29 l0 x22_2).f0), .string (((rd_T29 l0 x22_2).f1).extract ((ji22) : Int).toNat ((rd_T29 l0 x22_2).f1).size)]) (ok := fun _ => True) (okp := fun _ => True) ?hr ?hp (fun _ hk => hk) trivial (Below.refl _ _) (Nat.le_refl _) (by simp) ?_; (case hd => rfl); (case hg => rfl); (case hr => first | (go_simp; done) | (go_simp; rfl)); (case hp => exact (Reps.c2 (show Kd.M k29 _ _ _ (⟨(rd_T29 l0 x22_2).f0, ((rd_T29 l0 x22_2).f1).extract 0 ((ji22) : Int).toNat⟩ : S29) [.int .i64 ((rd_T29 l0 x22_2).f0), .string (((rd_T29 l0 x22_2).f1).extract 0 ((ji22) : Int).toNat)] from (k29_mkM _ _ _ (⟨(rd_T29 l0 x22_2).f0, ((rd_T29 l0 x22_2).f1).extract 0 ((ji22) : Int).toNat⟩ : S29) )) (Reps.c2 (show Kd.M k29 _ _ _ (⟨(rd_T29 l0 x22_2).f0, ((rd_T29 l0 x22_2).f1).extract ((ji22) : Int).toNat ((rd_T29 l0 x22_2).f1).size⟩ : S29) [.int .i64 ((rd_T29 l0 x22_2).f0), .string (((rd_T29 l0 x22_2).f1).extract ((ji22) : Int).toNat ((rd_T29 l0 x22_2).f1).size)] from (k29_mkM _ _ _ (⟨(rd_T29 l0 x22_2).f0, ((rd_T29 l0 x22_2).f1).extract ((ji22) : Int).toNat ((rd_T29 l0 x22_2).f1).size⟩ : S29) )) (Reps.none _ _))))
                                      intro v207 w33 ho34 hb hg_ hnew_
                                      clear hg_ hnew_
                                      (first | rw [← Ny206.out] at ho34 | (simp only [Int.reduceToNat] at ho34; rw [← Ny206.out] at ho34))
                                      have n0_ := Aside0.mk (Kd.R_elder' (by (with_reducible repeat (first | apply Kd.R_alloc | apply Kd.R_drewN | apply Kd.R_drew)); exact HO_5.out) (Kd.R_base ho34) hb)
                                      have n1_ := Aside0.mk (Kd.R_lower (Kd.R_newB (Kd.R_new' ho34 (Kd.R_lt (by (with_reducible repeat (first | apply Kd.R_alloc | apply Kd.R_drewN | apply Kd.R_drew)); exact HO_5.out))) (g := gb204) (o := .cells #[.int .i64 ((rd_T29 l0 x22_2).f0), .string ((rd_T29 l0 x22_2).f1)] 29 (0, 0)) (by (with_reducible repeat (first | refine blk_drewN ?_ _ | refine blk_drew ?_ | refine blk_alloc ?_ _)); exact BK204.out)) (below_size (by repeat (first | (with_reducible first | exact HB.out | apply below_alloc | apply pw_below_drewN | apply below_drew1 | refine below_set ?_ GE204.out) | exact HB.out))))
                                      have n2_ := Aside0.mk (blk_below (g := gb204) (o := .cells #[.int .i64 ((rd_T29 l0 x22_2).f0), .string ((rd_T29 l0 x22_2).f1)] 29 (0, 0)) (by (with_reducible repeat (first | refine blk_drewN ?_ _ | refine blk_drew ?_ | refine blk_alloc ?_ _)); exact BK204.out) hb)
                                      have n3_ := Aside0.mk (below_step (by repeat (first | (with_reducible first | exact HB.out | apply below_alloc | apply pw_below_drewN | apply below_drew1 | refine below_set ?_ GE204.out) | exact HB.out)) hb)
                                      clear HO_5
                                      clear BK204
                                      clear HB
                                      have HO_5 := n0_
                                      have HO208 := n1_
                                      have BK204 := n2_
                                      have HB := n3_
                                      clear n0_ n1_ n2_ n3_
                                      clear hb ho34
                                      obtain ⟨Ao36, co36, eo36⟩ := Kd.R_slice HO208.out
                                      (first | subst eo36 | (injection eo36 with f1_ f2_ f3_; have f4_ := f1_.symm; have f5_ := f3_.symm; clear f1_ f2_ f3_; subst f4_; subst f5_))
                                      refine hK.out _ _ ⟨(blk_cell BK204.out 0).trans rfl, (blk_cell BK204.out 1).trans rfl⟩ (fun hHeld => ?_)
                                      clear hK K
                                      refine norm_ (a' := ?_) ?_ ?_
                                      rotate_left
                                      · show Act.put _ (some 64) _ = _
                                        simp only [Act.put, List.setIfInBounds_toArray, List.set_cons_zero, List.set_cons_succ, i64_w, i32_w]
                                        rfl
                                      refine one_ (i := 16) (N := some 65) #[true, true, true, true, true, true, true, true, true, true, true, true, true, true, true, true, true, false] rfl rfl (one_of HT_.out (by kernel_rfl)) (by decide) (fun K hK => ?_)
                                      refine Kd.R_append_rows_step k29 (w0 := w) w.heap.size (by rfl) (.tmp 49) (.tmp 64) 22 29 (.agg #[(.int .i64 0), (.string ⟨#[]⟩)]) 24 rfl Tryd.underlying22 info29 rfl (by decide) (by omega) u5 x5_2 y206 _ _ _ (fun k_ => some k_ ≠ (.slice Ao36 y206.length co36 : Value).ownBlock ∧ k_ ≠ gb204) (fun _ => False) rfl rfl ?aO ?aR (fun _ _ h => h) (fun _ h => h.elim) ?aF ?aB ?aS ?aL ?_
                                      (case aR => repeat (first | exact (Kd.R_reads' HO208.out).2.2 | (with_reducible refine Kd.C_alloc ?_ _) | (with_reducible refine Kd.C_drewN ?_ _) | (with_reducible refine Kd.C_drew ?_)))
                                      (case aB => exact (by repeat (first | (with_reducible first | exact HB.out | apply below_alloc | apply pw_below_drewN | apply below_drew1 | refine below_set ?_ GE204.out) | exact HB.out)))
                                      (case aF => exact (fun k_ hk => ⟨Kd.fresh' (Kd.R_lt (by (with_reducible repeat (first | apply Kd.R_alloc | apply Kd.R_drewN | apply Kd.R_drew)); exact HO208.out)) k_ hk, Kd.freshB (g := gb204) (o := .cells #[.int .i64 ((rd_T29 l0 x22_2).f0), .string ((rd_T29 l0 x22_2).f1)] 29 (0, 0)) (by (with_reducible repeat (first | refine blk_drewN ?_ _ | refine blk_drew ?_ | refine blk_alloc ?_ _)); exact BK204.out) k_ hk⟩))
                                      (case aO => exact (by (with_reducible repeat (first | apply Kd.R_alloc | apply Kd.R_drewN | apply Kd.R_drew)); exact Kd.R_mono HO_5.out (fun _ hk => ⟨hk.2, hk.1⟩)))
                                      (case aS => exact (below_size (by repeat (first | (with_reducible first | exact HB.out | apply below_alloc | apply pw_below_drewN | apply below_drew1 | refine below_set ?_ GE204.out) | exact HB.out))))
                                      (case aL => have := LMc27.out; omega)
                                      intro v210 w35 ho hb hg hat
                                      rw [← Ny209.out] at ho
                                      have n0_ := Aside0.mk (blk_grown (g := gb204) (o := .cells #[.int .i64 ((rd_T29 l0 x22_2).f0), .string ((rd_T29 l0 x22_2).f1)] 29 (0, 0)) (by (with_reducible repeat (first | refine blk_drewN ?_ _ | refine blk_drew ?_ | refine blk_alloc ?_ _)); exact BK204.out) hg (Kd.R_away HO_5.out (fun _ hk => hk.1)))
                                      have n1_ := Aside0.mk (Kd.R_after (ok := (fun k_ => k_ ≠ gb204)) (by (with_reducible repeat (first | apply Kd.R_alloc | apply Kd.R_drewN | apply Kd.R_drew)); exact Kd.R_mono HO208.out (fun _ hk => ⟨hk.2, hk.1.2⟩)) hg hat)
                                      have n2_ := Aside0.mk (hb)
                                      have n3_ := Aside0.mk (ho)
                                      clear BK204
                                      clear HO208
                                      clear HB
                                      clear HO_5
                                      have BK204 := n0_
                                      have HO208 := n1_
                                      have HB := n2_
                                      have HO211 := n3_
                                      clear n0_ n1_ n2_ n3_
                                      clear ho hb hg hat
                                      refine hK.out _ _ ⟨(blk_cell BK204.out 0).trans rfl, (blk_cell BK204.out 1).trans rfl⟩ (fun hHeld => ?_)
                                      clear hK K
                                      refine norm_ (a' := ?_) ?_ ?_
                                      rotate_left
                                      · show Act.put _ (some 65) _ = _
                                        simp only [Act.put, List.setIfInBounds_toArray, List.set_cons_zero, List.set_cons_succ, i64_w, i32_w]
                                        rfl
                                      refine pure_ (i := 17) (N := some 5) (v := ?_) (a' := ?_) #[true, true, true, true, true, true, true, true, true, true, true, true, true, true, true, true, true, true] rfl rfl (any_of HT_.out (by kernel_rfl)) (fun _ _ _ h => h) (Or.inl ⟨by rfl, ?_⟩) ?_ ?_
                                      rotate_left
                                      · intro w'
                                        go_simp
                                        with_reducible rfl
                                      rotate_left
                                      · simp only [Act.put, List.setIfInBounds_toArray, List.set_cons_zero, List.set_cons_succ, i64_w, i32_w]
                                        rfl
                                      refine done_ (done_of HT_.out (by kernel_rfl)) ?_
                                      try go_wp2
                                      go_roundg k2
                                      case measure => have := HJ2.out; have := HK2.out; omega
                                      case rel => exact ⟨(y209), (wrap64 (x22_2 + 1)), (by first | rfl | (simp; done) | (simp [*]; done)), H', ⟨by have := HJ2.out; have := HK2.out; omega⟩, ⟨by (with_reducible repeat (first | apply Kd.R_alloc | apply Kd.R_drewN | apply Kd.R_drew)); exact Kd.R_mono HO211.out (fun _ hk => trivial)⟩, ⟨by repeat (first | (with_reducible first | exact HB.out | apply below_alloc | apply pw_below_drewN | apply below_drew1 | refine below_set ?_ GE204.out) | exact HB.out)⟩⟩
                                    · rw [if_neg c27] at H
                                      exact absurd H (by simp)
                                  · rw [if_neg c24] at H
                                    exact absurd H (by simp)
                                · rw [if_neg c23] at H
                                  exact absurd H (by simp)
                            · rw [if_neg c20] at H
                              exact absurd H (by simp)
                          · rw [if_neg c19] at H
                            exact absurd H (by simp)
                      · rw [if_neg c16] at H
                        have c16b0 : decide (0 < (((rd_T29 l0 x22_2).f1).size : Int)) = false := decide_eq_false c16
                        have c16b1 : decide (0 < ((rd_T29 l0 x22_2).f1).size) = false := decide_eq_false (by omega)
                        clear c16
                        by_cases c37 : 0 ≤ 0
                        · rw [if_pos c37] at H
                          have c37b0 := eq_true c37
                          have c37b1 : decide (0 ≤ 0) = true := decide_eq_true c37
                          clear c37
                          by_cases c38 : 0 ≤ (((rd_T29 l0 x22_2).f1).size : Int)
                          · rw [if_pos c38] at H
                            have c38b0 := eq_true c38
                            have c38b1 : decide (0 ≤ (((rd_T29 l0 x22_2).f1).size : Int)) = true := decide_eq_true c38
                            clear c38
                            have c39b0 := eq_true (of_decide_eq_true (by first | (with_reducible assumption) | assumption) : 0 ≤ (((rd_T29 l0 x22_2).f1).size : Int))
                            obtain ⟨y212, hy212⟩ : ∃ y_ : List (S29), y_ = (([(⟨(rd_T29 l0 x22_2).f0, ((rd_T29 l0 x22_2).f1).extract 0 0⟩ : S29), (⟨(rd_T29 l0 x22_2).f0, ((rd_T29 l0 x22_2).f1).extract 0 ((rd_T29 l0 x22_2).f1).size⟩ : S29)] : List (S29))) := ⟨_, rfl⟩
                            replace H : (if x5_2.length + y212.length < 5864062014805 then (laws_FnCoalesceParts.l0 k2 l0 l1 (x5_2 ++ y212) l0 (l0.length : Int) (wrap64 (x22_2 + 1))) else (none)) = some r := by first | (rw [hy212]; with_reducible exact H) | (have H2_ := (Option.bind_some _ _).symm.trans H; rw [hy212]; with_reducible exact H2_) | (have H2_ := (Option.bind_some _ _).symm.trans H; with_reducible exact H2_) | with_reducible exact H | (rw [hy212]; exact H) | exact H
                            have Ny212 := Aside0.mk hy212
                            clear hy212
                            by_cases c40 : x5_2.length + y212.length < 5864062014805
                            · rw [if_pos c40] at H
                              have LMc40 := Aside0.mk c40
                              clear c40
                              obtain ⟨y215, hy215⟩ : ∃ y_ : List (S29), y_ = (x5_2 ++ y212) := ⟨_, rfl⟩
                              replace H : (laws_FnCoalesceParts.l0 k2 l0 l1 y215 l0 (l0.length : Int) (wrap64 (x22_2 + 1))) = some r := by first | (rw [hy215]; with_reducible exact H) | (have H2_ := (Option.bind_some _ _).symm.trans H; rw [hy215]; with_reducible exact H2_) | (have H2_ := (Option.bind_some _ _).symm.trans H; with_reducible exact H2_) | with_reducible exact H | (rw [hy215]; exact H) | exact H
                              have Ny215 := Aside0.mk hy215
                              clear hy215
                              have H' := Aside0.mk H
                              clear H
                              have p203 : 0 ≤ (x22_2 : Int) := of_decide_eq_true (by first | (with_reducible assumption) | assumption)
                              have q203 : x22_2 < (l0.length : Int) := of_decide_eq_true (by first | (with_reducible assumption) | assumption)
                              obtain ⟨ad203, e203, hx203_0, hx203_1⟩ := at_T29 HR0.out x22_2 p203 q203
                              cases e203
                              replace hx203_0 := (HB.out.cell (World.block_lt_of_cell? w _ hx203_0)).trans hx203_0
                              replace hx203_1 := (HB.out.cell (World.block_lt_of_cell? w _ hx203_1)).trans hx203_1
                              replace p203 := eq_true p203
                              replace q203 := eq_true q203
                              try go_wp2_with (first | ((with_reducible refine gate_dst (N := 7) rfl ?_); (try (refine gate_guard (by rfl) ?_; dsimp only)); refine box_event ?hg (N := 7) ?hd (cs := #[.int .i64 0, .string (⟨#[]⟩ : ByteArray)]) (t := 29) ?hr ?_; (case hd => rfl); (case hg => rfl); (case hr => first | (go_simp; done) | (go_simp; rfl)); intro gb204 hg w41 hbox hb; have n0_ := Aside0.mk (Kd.R_below (Kd.R_elderB (by (with_reducible repeat (first | apply Kd.R_alloc | apply Kd.R_drewN | apply Kd.R_drew)); exact HO_5.out) gb204 (Nat.le_of_eq hg.symm)) hb); have n1_ := Aside0.mk (below_step (by repeat (first | (with_reducible first | exact HB.out | apply below_alloc | apply pw_below_drewN | apply below_drew1) | exact HB.out)) hb); have n2_ := Aside0.mk (hbox); have n3_ := Aside0.mk ((by rw [hg]; exact (below_size (by repeat (first | (with_reducible first | exact HB.out | apply below_alloc | apply pw_below_drewN | apply below_drew1) | exact HB.out))) : w.heap.size ≤ gb204)); have n4_ := Aside0.mk ((by rw [hg]; exact (below_size (by repeat (first | (with_reducible first | exact HB.out | apply below_alloc | apply pw_below_drewN | apply below_drew1) | exact HB.out))) : w.heap.size ≤ gb204)); clear HO_5; clear HB; have HO_5 := n0_; have HB := n1_; have BK204 := n2_; have GW204 := n3_; have GE204 := n4_; clear n0_ n1_ n2_ n3_ n4_; clear hb hbox hg; have hcz42_0 : w41.cell? ⟨gb204, 0, none⟩ = some (.int .i64 0) := (blk_cell BK204.out 0).trans rfl; have hcz42_1 : w41.cell? ⟨gb204, 1, none⟩ = some (.string (⟨#[]⟩ : ByteArray)) := (blk_cell BK204.out 1).trans rfl; have hfz42_0 := blk_frozen BK204.out 0; have hfz42_1 := blk_frozen BK204.out 1))
                              have n0_ : Aside0 (Kd.R k29 29 ((w41.setCell ⟨gb204, 0, none⟩ (.int .i64 ((rd_T29 l0 x22_2).f0))).setCell ⟨gb204, 1, none⟩ (.string ((rd_T29 l0 x22_2).f1))) w.heap.size (fun k_ => k_ ≠ gb204) u5 x5_2) := ⟨by (with_reducible repeat (first | apply Kd.R_alloc | apply Kd.R_drewN | apply Kd.R_drew)); exact Kd.R_mono (Kd.R_far (p := ⟨gb204, 1, none⟩) (Kd.R_far (p := ⟨gb204, 0, none⟩) (Kd.R_mono HO_5.out (fun k_ hk => (⟨hk, hk.2⟩ : _ ∧ k_ ≠ gb204))) (fun _ hk => hk.2) (.int .i64 ((rd_T29 l0 x22_2).f0))) (fun _ hk => hk.2) (.string ((rd_T29 l0 x22_2).f1))) (fun _ hk => hk.1.2)⟩
                              have n1_ : Aside0 (((w41.setCell ⟨gb204, 0, none⟩ (.int .i64 ((rd_T29 l0 x22_2).f0))).setCell ⟨gb204, 1, none⟩ (.string ((rd_T29 l0 x22_2).f1))).heap[gb204]? = some (.cells #[.int .i64 ((rd_T29 l0 x22_2).f0), .string ((rd_T29 l0 x22_2).f1)] 29 (0, 0))) := ⟨by (with_reducible repeat (first | refine blk_drewN ?_ _ | refine blk_drew ?_ | refine blk_alloc ?_ _)); refine blk_put (cs := #[.int .i64 ((rd_T29 l0 x22_2).f0), .string (⟨#[]⟩ : ByteArray)]) ?_ 1 _ rfl; (with_reducible repeat (first | refine blk_drewN ?_ _ | refine blk_drew ?_ | refine blk_alloc ?_ _)); refine blk_put (cs := #[.int .i64 0, .string (⟨#[]⟩ : ByteArray)]) ?_ 0 _ rfl; (with_reducible repeat (first | refine blk_drewN ?_ _ | refine blk_drew ?_ | refine blk_alloc ?_ _)); exact BK204.out⟩
                              have n2_ : Aside0 (Below w.heap.size w ((w41.setCell ⟨gb204, 0, none⟩ (.int .i64 ((rd_T29 l0 x22_2).f0))).setCell ⟨gb204, 1, none⟩ (.string ((rd_T29 l0 x22_2).f1)))) := ⟨by repeat (first | (with_reducible first | exact HB.out | apply below_alloc | apply pw_below_drewN | apply below_drew1 | refine below_set ?_ GE204.out) | exact HB.out)⟩
                              (try clear HO_5)
                              (try clear BK204)
                              (try clear HB)
                              generalize ((w41.setCell ⟨gb204, 0, none⟩ (.int .i64 ((rd_T29 l0 x22_2).f0))).setCell ⟨gb204, 1, none⟩ (.string ((rd_T29 l0 x22_2).f1))) = w43 at n0_ n1_ n2_ ⊢
                              have HO_5 := n0_
                              have BK204 := n1_
                              have HB := n2_
                              clear n0_ n1_ n2_
                              have n0_ := Aside0.mk (Kd.R_drew HO_5.out)
                              have n1_ := Aside0.mk (blk_drew BK204.out)
                              have n2_ := Aside0.mk (below_drew1 HB.out)
                              clear HO_5
                              clear BK204
                              clear HB
                              have HO_5 := n0_
                              have BK204 := n1_
                              have HB := n2_
                              clear n0_ n1_ n2_
                              refine start_ (n := 18) (S := fun w' => w'.cell? ⟨gb204, 0, none⟩ = some (.int .i64 ((rd_T29 l0 x22_2).f0)) ∧ w'.cell? ⟨gb204, 1, none⟩ = some (.string ((rd_T29 l0 x22_2).f1))) (ds := []) #[false, false, false, false, false, false, false, false, false, false, false, false, false, false, false, false, false, false] (by kernel_rfl) rfl rfl ⟨(blk_cell BK204.out 0).trans rfl, (blk_cell BK204.out 1).trans rfl⟩ (fun hHeld => ?_); refine with_tabW laws_FnCoalesceParts.tab12 laws_FnCoalesceParts.bits12 (fun HT_ HW_ => ?_)
                              generalize w43.drew = w44 at HO_5 BK204 HB hHeld ⊢
                              refine pure_ (i := 0) (N := some 49) (v := ?_) (a' := ?_) #[true, false, false, false, false, false, false, false, false, false, false, false, false, false, false, false, false, false] rfl rfl (any_of HT_.out (by kernel_rfl)) (fun _ _ _ h => h) (Or.inl ⟨by rfl, ?_⟩) ?_ ?_
                              rotate_left
                              · intro w'
                                go_simp
                                with_reducible rfl
                              rotate_left
                              · simp only [Act.put, List.setIfInBounds_toArray, List.set_cons_zero, List.set_cons_succ, i64_w, i32_w]
                                rfl
                              refine pure_ (i := 1) (N := some 50) (v := ?_) (a' := ?_) #[true, true, false, false, false, false, false, false, false, false, false, false, false, false, false, false, false, false] rfl rfl (any_of HT_.out (by kernel_rfl)) (fun _ _ _ h => h) (Or.inl ⟨by rfl, ?_⟩) ?_ ?_
                              rotate_left
                              · intro w'
                                go_simp
                                with_reducible rfl
                              rotate_left
                              · simp only [Act.put, List.setIfInBounds_toArray, List.set_cons_zero, List.set_cons_succ, i64_w, i32_w]
                                rfl
                              refine pure_ (i := 3) (N := some 52) (v := ?_) (a' := ?_) #[true, true, false, true, false, false, false, false, false, false, false, false, false, false, false, false, false, false] rfl rfl (any_of HT_.out (by kernel_rfl)) (fun _ _ _ h => h) (Or.inl ⟨by rfl, ?_⟩) ?_ ?_
                              rotate_left
                              · intro w'
                                go_simp
                                with_reducible rfl
                              rotate_left
                              · simp only [Act.put, List.setIfInBounds_toArray, List.set_cons_zero, List.set_cons_succ, i64_w, i32_w]
                                rfl
                              refine pure_ (i := 5) (N := some 54) (v := ?_) (a' := ?_) #[true, true, false, true, false, true, false, false, false, false, false, false, false, false, false, false, false, false] rfl rfl (any_of HT_.out (by kernel_rfl)) (fun _ _ _ h => h) (Or.inl ⟨by rfl, ?_⟩) ?_ ?_
                              rotate_left
                              · intro w'
                                go_simp
                                with_reducible rfl
                              rotate_left
                              · simp only [Act.put, List.setIfInBounds_toArray, List.set_cons_zero, List.set_cons_succ, i64_w, i32_w]
                                rfl
                              refine pure_ (i := 8) (N := some 57) (v := ?_) (a' := ?_) #[true, true, false, true, false, true, false, false, true, false, false, false, false, false, false, false, false, false] rfl rfl (any_of HT_.out (by kernel_rfl)) (fun _ _ _ h => h) (Or.inl ⟨by rfl, ?_⟩) ?_ ?_
                              rotate_left
                              · intro w'
                                go_simp
                                with_reducible rfl
                              rotate_left
                              · simp only [Act.put, List.setIfInBounds_toArray, List.set_cons_zero, List.set_cons_succ, i64_w, i32_w]
                                rfl
                              refine pure_ (i := 10) (N := some 59) (v := ?_) (a' := ?_) #[true, true, false, true, false, true, false, false, true, false, true, false, false, false, false, false, false, false] rfl rfl (any_of HT_.out (by kernel_rfl)) (fun _ _ _ h => h) (Or.inl ⟨by rfl, ?_⟩) ?_ ?_
                              rotate_left
                              · intro w'
                                go_simp
                                with_reducible rfl
                              rotate_left
                              · simp only [Act.put, List.setIfInBounds_toArray, List.set_cons_zero, List.set_cons_succ, i64_w, i32_w]
                                rfl
                              refine pure_ (i := 12) (N := some 61) (v := ?_) (a' := ?_) #[true, true, false, true, false, true, false, false, true, false, true, false, true, false, false, false, false, false] rfl rfl (any_of HT_.out (by kernel_rfl)) (fun _ _ _ h => h) (Or.inl ⟨by rfl, ?_⟩) ?_ ?_
                              rotate_left
                              · intro w'
                                go_simp
                                with_reducible rfl
                              rotate_left
                              · simp only [Act.put, List.setIfInBounds_toArray, List.set_cons_zero, List.set_cons_succ, i64_w, i32_w]
                                rfl
                              refine take_ (i := 2) (N := some 51) (v := ?_) (a' := ?_) #[true, true, true, true, false, true, false, false, true, false, true, false, true, false, false, false, false, false] rfl rfl (take_ofW HT_.out HW_.out (by kernel_rfl)) (fun _ _ _ h => h) (Or.inl ⟨by rfl, ?_⟩) hHeld ?_ ?_
                              rotate_left
                              · rintro w' ⟨s0, s1⟩
                                go_simp
                                with_reducible rfl
                              rotate_left
                              · simp only [Act.put, List.setIfInBounds_toArray, List.set_cons_zero, List.set_cons_succ, i64_w, i32_w]
                                rfl
                              refine take_ (i := 4) (N := some 53) (v := ?_) (a' := ?_) #[true, true, true, true, true, true, false, false, true, false, true, false, true, false, false, false, false, false] rfl rfl (take_ofW HT_.out HW_.out (by kernel_rfl)) (fun _ _ _ h => h) (Or.inl ⟨by rfl, ?_⟩) hHeld ?_ ?_
                              rotate_left
                              · rintro w' ⟨s0, s1⟩
                                go_simp
                                with_reducible rfl
                              rotate_left
                              · simp only [Act.put, List.setIfInBounds_toArray, List.set_cons_zero, List.set_cons_succ, i64_w, i32_w]
                                rfl
                              refine pure_ (i := 6) (N := some 55) (v := ?_) (a' := ?_) #[true, true, true, true, true, true, true, false, true, false, true, false, true, false, false, false, false, false] rfl rfl (any_of HT_.out (by kernel_rfl)) (fun _ _ _ h => h) (Or.inl ⟨by rfl, ?_⟩) ?_ ?_
                              rotate_left
                              · intro w'
                                go_simp
                                with_reducible rfl
                              rotate_left
                              · simp only [Act.put, List.setIfInBounds_toArray, List.set_cons_zero, List.set_cons_succ, i64_w, i32_w]
                                rfl
                              refine pure_ (i := 7) (N := some 56) (v := ?_) (a' := ?_) #[true, true, true, true, true, true, true, true, true, false, true, false, true, false, false, false, false, false] rfl rfl (any_of HT_.out (by kernel_rfl)) (fun _ _ _ h => h) (Or.inl ⟨by rfl, ?_⟩) ?_ ?_
                              rotate_left
                              · intro w'
                                go_simp
                                with_reducible rfl
                              rotate_left
                              · simp only [Act.put, List.setIfInBounds_toArray, List.set_cons_zero, List.set_cons_succ, i64_w, i32_w]
                                rfl
                              refine take_ (i := 9) (N := some 58) (v := ?_) (a' := ?_) #[true, true, true, true, true, true, true, true, true, true, true, false, true, false, false, false, false, false] rfl rfl (take_ofW HT_.out HW_.out (by kernel_rfl)) (fun _ _ _ h => h) (Or.inl ⟨by rfl, ?_⟩) hHeld ?_ ?_
                              rotate_left
                              · rintro w' ⟨s0, s1⟩
                                go_simp
                                with_reducible rfl
                              rotate_left
                              · simp only [Act.put, List.setIfInBounds_toArray, List.set_cons_zero, List.set_cons_succ, i64_w, i32_w]
                                rfl
                              refine take_ (i := 11) (N := some 60) (v := ?_) (a' := ?_) #[true, true, true, true, true, true, true, true, true, true, true, true, true, false, false, false, false, false] rfl rfl (take_ofW HT_.out HW_.out (by kernel_rfl)) (fun _ _ _ h => h) (Or.inl ⟨by rfl, ?_⟩) hHeld ?_ ?_
                              rotate_left
                              · rintro w' ⟨s0, s1⟩
                                go_simp
                                with_reducible rfl
                              rotate_left
                              · simp only [Act.put, List.setIfInBounds_toArray, List.set_cons_zero, List.set_cons_succ, i64_w, i32_w]
                                rfl
                              refine pure_ (i := 13) (N := some 62) (v := ?_) (a' := ?_) #[true, true, true, true, true, true, true, true, true, true, true, true, true, true, false, false, false, false] rfl rfl (any_of HT_.out (by kernel_rfl)) (fun _ _ _ h => h) (Or.inl ⟨by rfl, ?_⟩) ?_ ?_
                              rotate_left
                              · intro w'
                                go_simp
                                with_reducible rfl
                              rotate_left
                              · simp only [Act.put, List.setIfInBounds_toArray, List.set_cons_zero, List.set_cons_succ, i64_w, i32_w]
                                rfl
                              refine pure_ (i := 14) (N := some 63) (v := ?_) (a' := ?_) #[true, true, true, true, true, true, true, true, true, true, true, true, true, true, true, false, false, false] rfl rfl (any_of HT_.out (by kernel_rfl)) (fun _ _ _ h => h) (Or.inl ⟨by rfl, ?_⟩) ?_ ?_
                              rotate_left
                              · intro w'
                                go_simp
                                with_reducible rfl
                              rotate_left
                              · simp only [Act.put, List.setIfInBounds_toArray, List.set_cons_zero, List.set_cons_succ, i64_w, i32_w]
                                rfl
                              refine one_ (i := 15) (N := some 64) #[true, true, true, true, true, true, true, true, true, true, true, true, true, true, true, true, false, false] rfl rfl (one_of HT_.out (by kernel_rfl)) (by decide) (fun K hK => ?_)
                              refine Kd.R_lit_step k29 _ 29 ?hg (N := 64) ?hd (xs := ([(⟨(rd_T29 l0 x22_2).f0, ((rd_T29 l0 x22_2).f1).extract 0 0⟩ : S29), (⟨(rd_T29 l0 x22_2).f0, ((rd_T29 l0 x22_2).f1).extract 0 ((rd_T29 l0 x22_2).f1).size⟩ : S29)] : List (S29))) (inner := [.int .i64 ((rd_T29 l0 x22_2).f0), .string (((rd_T29 l0 x22_2).f1).extract 0 0), .int .i64 ((rd_T29 l0 x22_2).f0), .string (((rd_T29 l0 x22_2).f1).extract 0 ((rd_T29 l0 x22_2).f1).size)]) (ok := fun _ => True) (okp := fun _ => True) ?hr ?hp (fun _ hk => hk) trivial (Below.refl _ _) (Nat.le_refl _) (by simp) ?_; (case hd => rfl); (case hg => rfl); (case hr => first | (go_simp; done) | (go_simp; rfl)); (case hp => exact (Reps.c2 (show Kd.M k29 _ _ _ (⟨(rd_T29 l0 x22_2).f0, ((rd_T29 l0 x22_2).f1).extract 0 0⟩ : S29) [.int .i64 ((rd_T29 l0 x22_2).f0), .string (((rd_T29 l0 x22_2).f1).extract 0 0)] from (k29_mkM _ _ _ (⟨(rd_T29 l0 x22_2).f0, ((rd_T29 l0 x22_2).f1).extract 0 0⟩ : S29) )) (Reps.c2 (show Kd.M k29 _ _ _ (⟨(rd_T29 l0 x22_2).f0, ((rd_T29 l0 x22_2).f1).extract 0 ((rd_T29 l0 x22_2).f1).size⟩ : S29) [.int .i64 ((rd_T29 l0 x22_2).f0), .string (((rd_T29 l0 x22_2).f1).extract 0 ((rd_T29 l0 x22_2).f1).size)] from (k29_mkM _ _ _ (⟨(rd_T29 l0 x22_2).f0, ((rd_T29 l0 x22_2).f1).extract 0 ((rd_T29 l0 x22_2).f1).size⟩ : S29) )) (Reps.none _ _))))
                              intro v213 w45 ho46 hb hg_ hnew_
                              clear hg_ hnew_
                              (first | rw [← Ny212.out] at ho46 | (simp only [Int.reduceToNat] at ho46; rw [← Ny212.out] at ho46))
                              have n0_ := Aside0.mk (Kd.R_elder' (by (with_reducible repeat (first | apply Kd.R_alloc | apply Kd.R_drewN | apply Kd.R_drew)); exact HO_5.out) (Kd.R_base ho46) hb)
                              have n1_ := Aside0.mk (Kd.R_lower (Kd.R_newB (Kd.R_new' ho46 (Kd.R_lt (by (with_reducible repeat (first | apply Kd.R_alloc | apply Kd.R_drewN | apply Kd.R_drew)); exact HO_5.out))) (g := gb204) (o := .cells #[.int .i64 ((rd_T29 l0 x22_2).f0), .string ((rd_T29 l0 x22_2).f1)] 29 (0, 0)) (by (with_reducible repeat (first | refine blk_drewN ?_ _ | refine blk_drew ?_ | refine blk_alloc ?_ _)); exact BK204.out)) (below_size (by repeat (first | (with_reducible first | exact HB.out | apply below_alloc | apply pw_below_drewN | apply below_drew1 | refine below_set ?_ GE204.out) | exact HB.out))))
                              have n2_ := Aside0.mk (blk_below (g := gb204) (o := .cells #[.int .i64 ((rd_T29 l0 x22_2).f0), .string ((rd_T29 l0 x22_2).f1)] 29 (0, 0)) (by (with_reducible repeat (first | refine blk_drewN ?_ _ | refine blk_drew ?_ | refine blk_alloc ?_ _)); exact BK204.out) hb)
                              have n3_ := Aside0.mk (below_step (by repeat (first | (with_reducible first | exact HB.out | apply below_alloc | apply pw_below_drewN | apply below_drew1 | refine below_set ?_ GE204.out) | exact HB.out)) hb)
                              clear HO_5
                              clear BK204
                              clear HB
                              have HO_5 := n0_
                              have HO214 := n1_
                              have BK204 := n2_
                              have HB := n3_
                              clear n0_ n1_ n2_ n3_
                              clear hb ho46
                              obtain ⟨Ao48, co48, eo48⟩ := Kd.R_slice HO214.out
                              (first | subst eo48 | (injection eo48 with f1_ f2_ f3_; have f4_ := f1_.symm; have f5_ := f3_.symm; clear f1_ f2_ f3_; subst f4_; subst f5_))
                              refine hK.out _ _ ⟨(blk_cell BK204.out 0).trans rfl, (blk_cell BK204.out 1).trans rfl⟩ (fun hHeld => ?_)
                              clear hK K
                              refine norm_ (a' := ?_) ?_ ?_
                              rotate_left
                              · show Act.put _ (some 64) _ = _
                                simp only [Act.put, List.setIfInBounds_toArray, List.set_cons_zero, List.set_cons_succ, i64_w, i32_w]
                                rfl
                              refine one_ (i := 16) (N := some 65) #[true, true, true, true, true, true, true, true, true, true, true, true, true, true, true, true, true, false] rfl rfl (one_of HT_.out (by kernel_rfl)) (by decide) (fun K hK => ?_)
                              refine Kd.R_append_rows_step k29 (w0 := w) w.heap.size (by rfl) (.tmp 49) (.tmp 64) 22 29 (.agg #[(.int .i64 0), (.string ⟨#[]⟩)]) 24 rfl Tryd.underlying22 info29 rfl (by decide) (by omega) u5 x5_2 y212 _ _ _ (fun k_ => some k_ ≠ (.slice Ao48 y212.length co48 : Value).ownBlock ∧ k_ ≠ gb204) (fun _ => False) rfl rfl ?aO ?aR (fun _ _ h => h) (fun _ h => h.elim) ?aF ?aB ?aS ?aL ?_
                              (case aR => repeat (first | exact (Kd.R_reads' HO214.out).2.2 | (with_reducible refine Kd.C_alloc ?_ _) | (with_reducible refine Kd.C_drewN ?_ _) | (with_reducible refine Kd.C_drew ?_)))
                              (case aB => exact (by repeat (first | (with_reducible first | exact HB.out | apply below_alloc | apply pw_below_drewN | apply below_drew1 | refine below_set ?_ GE204.out) | exact HB.out)))
                              (case aF => exact (fun k_ hk => ⟨Kd.fresh' (Kd.R_lt (by (with_reducible repeat (first | apply Kd.R_alloc | apply Kd.R_drewN | apply Kd.R_drew)); exact HO214.out)) k_ hk, Kd.freshB (g := gb204) (o := .cells #[.int .i64 ((rd_T29 l0 x22_2).f0), .string ((rd_T29 l0 x22_2).f1)] 29 (0, 0)) (by (with_reducible repeat (first | refine blk_drewN ?_ _ | refine blk_drew ?_ | refine blk_alloc ?_ _)); exact BK204.out) k_ hk⟩))
                              (case aO => exact (by (with_reducible repeat (first | apply Kd.R_alloc | apply Kd.R_drewN | apply Kd.R_drew)); exact Kd.R_mono HO_5.out (fun _ hk => ⟨hk.2, hk.1⟩)))
                              (case aS => exact (below_size (by repeat (first | (with_reducible first | exact HB.out | apply below_alloc | apply pw_below_drewN | apply below_drew1 | refine below_set ?_ GE204.out) | exact HB.out))))
                              (case aL => have := LMc40.out; omega)
                              intro v216 w47 ho hb hg hat
                              rw [← Ny215.out] at ho
                              have n0_ := Aside0.mk (blk_grown (g := gb204) (o := .cells #[.int .i64 ((rd_T29 l0 x22_2).f0), .string ((rd_T29 l0 x22_2).f1)] 29 (0, 0)) (by (with_reducible repeat (first | refine blk_drewN ?_ _ | refine blk_drew ?_ | refine blk_alloc ?_ _)); exact BK204.out) hg (Kd.R_away HO_5.out (fun _ hk => hk.1)))
                              have n1_ := Aside0.mk (Kd.R_after (ok := (fun k_ => k_ ≠ gb204)) (by (with_reducible repeat (first | apply Kd.R_alloc | apply Kd.R_drewN | apply Kd.R_drew)); exact Kd.R_mono HO214.out (fun _ hk => ⟨hk.2, hk.1.2⟩)) hg hat)
                              have n2_ := Aside0.mk (hb)
                              have n3_ := Aside0.mk (ho)
                              clear BK204
                              clear HO214
                              clear HB
                              clear HO_5
                              have BK204 := n0_
                              have HO214 := n1_
                              have HB := n2_
                              have HO217 := n3_
                              clear n0_ n1_ n2_ n3_
                              clear ho hb hg hat
                              refine hK.out _ _ ⟨(blk_cell BK204.out 0).trans rfl, (blk_cell BK204.out 1).trans rfl⟩ (fun hHeld => ?_)
                              clear hK K
                              refine norm_ (a' := ?_) ?_ ?_
                              rotate_left
                              · show Act.put _ (some 65) _ = _
                                simp only [Act.put, List.setIfInBounds_toArray, List.set_cons_zero, List.set_cons_succ, i64_w, i32_w]
                                rfl
                              refine pure_ (i := 17) (N := some 5) (v := ?_) (a' := ?_) #[true, true, true, true, true, true, true, true, true, true, true, true, true, true, true, true, true, true] rfl rfl (any_of HT_.out (by kernel_rfl)) (fun _ _ _ h => h) (Or.inl ⟨by rfl, ?_⟩) ?_ ?_
                              rotate_left
                              · intro w'
                                go_simp
                                with_reducible rfl
                              rotate_left
                              · simp only [Act.put, List.setIfInBounds_toArray, List.set_cons_zero, List.set_cons_succ, i64_w, i32_w]
                                rfl
                              refine done_ (done_of HT_.out (by kernel_rfl)) ?_
                              try go_wp2
                              go_roundg k2
                              case measure => have := HJ2.out; have := HK2.out; omega
                              case rel => exact ⟨(y215), (wrap64 (x22_2 + 1)), (by first | rfl | (simp; done) | (simp [*]; done)), H', ⟨by have := HJ2.out; have := HK2.out; omega⟩, ⟨by (with_reducible repeat (first | apply Kd.R_alloc | apply Kd.R_drewN | apply Kd.R_drew)); exact Kd.R_mono HO217.out (fun _ hk => trivial)⟩, ⟨by repeat (first | (with_reducible first | exact HB.out | apply below_alloc | apply pw_below_drewN | apply below_drew1 | refine below_set ?_ GE204.out) | exact HB.out)⟩⟩
                            · rw [if_neg c40] at H
                              exact absurd H (by simp)
                          · rw [if_neg c38] at H
                            exact absurd H (by simp)
                        · rw [if_neg c37] at H
                          exact absurd H (by simp)
                    · rw [if_neg c15] at H
                      have c15b0 : decide (0 < (l1.length : Int)) = false := decide_eq_false c15
                      have c15b1 : decide (0 < l1.length) = false := decide_eq_false (by omega)
                      clear c15
                      by_cases c49 : 0 ≤ 0
                      · rw [if_pos c49] at H
                        have c49b0 := eq_true c49
                        have c49b1 : decide (0 ≤ 0) = true := decide_eq_true c49
                        clear c49
                        by_cases c50 : 0 ≤ (((rd_T29 l0 x22_2).f1).size : Int)
                        · rw [if_pos c50] at H
                          have c50b0 := eq_true c50
                          have c50b1 : decide (0 ≤ (((rd_T29 l0 x22_2).f1).size : Int)) = true := decide_eq_true c50
                          clear c50
                          have c51b0 := eq_true (of_decide_eq_true (by first | (with_reducible assumption) | assumption) : 0 ≤ (((rd_T29 l0 x22_2).f1).size : Int))
                          obtain ⟨y218, hy218⟩ : ∃ y_ : List (S29), y_ = (([(⟨(rd_T29 l0 x22_2).f0, ((rd_T29 l0 x22_2).f1).extract 0 0⟩ : S29), (⟨(rd_T29 l0 x22_2).f0, ((rd_T29 l0 x22_2).f1).extract 0 ((rd_T29 l0 x22_2).f1).size⟩ : S29)] : List (S29))) := ⟨_, rfl⟩
                          replace H : (if x5_2.length + y218.length < 5864062014805 then (laws_FnCoalesceParts.l0 k2 l0 l1 (x5_2 ++ y218) l0 (l0.length : Int) (wrap64 (x22_2 + 1))) else (none)) = some r := by first | (rw [hy218]; with_reducible exact H) | (have H2_ := (Option.bind_some _ _).symm.trans H; rw [hy218]; with_reducible exact H2_) | (have H2_ := (Option.bind_some _ _).symm.trans H; with_reducible exact H2_) | with_reducible exact H | (rw [hy218]; exact H) | exact H
                          have Ny218 := Aside0.mk hy218
                          clear hy218
                          by_cases c52 : x5_2.length + y218.length < 5864062014805
                          · rw [if_pos c52] at H
                            have LMc52 := Aside0.mk c52
                            clear c52
                            obtain ⟨y221, hy221⟩ : ∃ y_ : List (S29), y_ = (x5_2 ++ y218) := ⟨_, rfl⟩
                            replace H : (laws_FnCoalesceParts.l0 k2 l0 l1 y221 l0 (l0.length : Int) (wrap64 (x22_2 + 1))) = some r := by first | (rw [hy221]; with_reducible exact H) | (have H2_ := (Option.bind_some _ _).symm.trans H; rw [hy221]; with_reducible exact H2_) | (have H2_ := (Option.bind_some _ _).symm.trans H; with_reducible exact H2_) | with_reducible exact H | (rw [hy221]; exact H) | exact H
                            have Ny221 := Aside0.mk hy221
                            clear hy221
                            have H' := Aside0.mk H
                            clear H
                            have p203 : 0 ≤ (x22_2 : Int) := of_decide_eq_true (by first | (with_reducible assumption) | assumption)
                            have q203 : x22_2 < (l0.length : Int) := of_decide_eq_true (by first | (with_reducible assumption) | assumption)
                            obtain ⟨ad203, e203, hx203_0, hx203_1⟩ := at_T29 HR0.out x22_2 p203 q203
                            cases e203
                            replace hx203_0 := (HB.out.cell (World.block_lt_of_cell? w _ hx203_0)).trans hx203_0
                            replace hx203_1 := (HB.out.cell (World.block_lt_of_cell? w _ hx203_1)).trans hx203_1
                            replace p203 := eq_true p203
                            replace q203 := eq_true q203
                            try go_wp2_with (first | ((with_reducible refine gate_dst (N := 7) rfl ?_); (try (refine gate_guard (by rfl) ?_; dsimp only)); refine box_event ?hg (N := 7) ?hd (cs := #[.int .i64 0, .string (⟨#[]⟩ : ByteArray)]) (t := 29) ?hr ?_; (case hd => rfl); (case hg => rfl); (case hr => first | (go_simp; done) | (go_simp; rfl)); intro gb204 hg w53 hbox hb; have n0_ := Aside0.mk (Kd.R_below (Kd.R_elderB (by (with_reducible repeat (first | apply Kd.R_alloc | apply Kd.R_drewN | apply Kd.R_drew)); exact HO_5.out) gb204 (Nat.le_of_eq hg.symm)) hb); have n1_ := Aside0.mk (below_step (by repeat (first | (with_reducible first | exact HB.out | apply below_alloc | apply pw_below_drewN | apply below_drew1) | exact HB.out)) hb); have n2_ := Aside0.mk (hbox); have n3_ := Aside0.mk ((by rw [hg]; exact (below_size (by repeat (first | (with_reducible first | exact HB.out | apply below_alloc | apply pw_below_drewN | apply below_drew1) | exact HB.out))) : w.heap.size ≤ gb204)); have n4_ := Aside0.mk ((by rw [hg]; exact (below_size (by repeat (first | (with_reducible first | exact HB.out | apply below_alloc | apply pw_below_drewN | apply below_drew1) | exact HB.out))) : w.heap.size ≤ gb204)); clear HO_5; clear HB; have HO_5 := n0_; have HB := n1_; have BK204 := n2_; have GW204 := n3_; have GE204 := n4_; clear n0_ n1_ n2_ n3_ n4_; clear hb hbox hg; have hcz54_0 : w53.cell? ⟨gb204, 0, none⟩ = some (.int .i64 0) := (blk_cell BK204.out 0).trans rfl; have hcz54_1 : w53.cell? ⟨gb204, 1, none⟩ = some (.string (⟨#[]⟩ : ByteArray)) := (blk_cell BK204.out 1).trans rfl; have hfz54_0 := blk_frozen BK204.out 0; have hfz54_1 := blk_frozen BK204.out 1))
                            have n0_ : Aside0 (Kd.R k29 29 ((w53.setCell ⟨gb204, 0, none⟩ (.int .i64 ((rd_T29 l0 x22_2).f0))).setCell ⟨gb204, 1, none⟩ (.string ((rd_T29 l0 x22_2).f1))) w.heap.size (fun k_ => k_ ≠ gb204) u5 x5_2) := ⟨by (with_reducible repeat (first | apply Kd.R_alloc | apply Kd.R_drewN | apply Kd.R_drew)); exact Kd.R_mono (Kd.R_far (p := ⟨gb204, 1, none⟩) (Kd.R_far (p := ⟨gb204, 0, none⟩) (Kd.R_mono HO_5.out (fun k_ hk => (⟨hk, hk.2⟩ : _ ∧ k_ ≠ gb204))) (fun _ hk => hk.2) (.int .i64 ((rd_T29 l0 x22_2).f0))) (fun _ hk => hk.2) (.string ((rd_T29 l0 x22_2).f1))) (fun _ hk => hk.1.2)⟩
                            have n1_ : Aside0 (((w53.setCell ⟨gb204, 0, none⟩ (.int .i64 ((rd_T29 l0 x22_2).f0))).setCell ⟨gb204, 1, none⟩ (.string ((rd_T29 l0 x22_2).f1))).heap[gb204]? = some (.cells #[.int .i64 ((rd_T29 l0 x22_2).f0), .string ((rd_T29 l0 x22_2).f1)] 29 (0, 0))) := ⟨by (with_reducible repeat (first | refine blk_drewN ?_ _ | refine blk_drew ?_ | refine blk_alloc ?_ _)); refine blk_put (cs := #[.int .i64 ((rd_T29 l0 x22_2).f0), .string (⟨#[]⟩ : ByteArray)]) ?_ 1 _ rfl; (with_reducible repeat (first | refine blk_drewN ?_ _ | refine blk_drew ?_ | refine blk_alloc ?_ _)); refine blk_put (cs := #[.int .i64 0, .string (⟨#[]⟩ : ByteArray)]) ?_ 0 _ rfl; (with_reducible repeat (first | refine blk_drewN ?_ _ | refine blk_drew ?_ | refine blk_alloc ?_ _)); exact BK204.out⟩
                            have n2_ : Aside0 (Below w.heap.size w ((w53.setCell ⟨gb204, 0, none⟩ (.int .i64 ((rd_T29 l0 x22_2).f0))).setCell ⟨gb204, 1, none⟩ (.string ((rd_T29 l0 x22_2).f1)))) := ⟨by repeat (first | (with_reducible first | exact HB.out | apply below_alloc | apply pw_below_drewN | apply below_drew1 | refine below_set ?_ GE204.out) | exact HB.out)⟩
                            (try clear HO_5)
                            (try clear BK204)
                            (try clear HB)
                            generalize ((w53.setCell ⟨gb204, 0, none⟩ (.int .i64 ((rd_T29 l0 x22_2).f0))).setCell ⟨gb204, 1, none⟩ (.string ((rd_T29 l0 x22_2).f1))) = w55 at n0_ n1_ n2_ ⊢
                            have HO_5 := n0_
                            have BK204 := n1_
                            have HB := n2_
                            clear n0_ n1_ n2_
                            have n0_ := Aside0.mk (Kd.R_drew HO_5.out)
                            have n1_ := Aside0.mk (blk_drew BK204.out)
                            have n2_ := Aside0.mk (below_drew1 HB.out)
                            clear HO_5
                            clear BK204
                            clear HB
                            have HO_5 := n0_
                            have BK204 := n1_
                            have HB := n2_
                            clear n0_ n1_ n2_
                            refine start_ (n := 18) (S := fun w' => w'.cell? ⟨gb204, 0, none⟩ = some (.int .i64 ((rd_T29 l0 x22_2).f0)) ∧ w'.cell? ⟨gb204, 1, none⟩ = some (.string ((rd_T29 l0 x22_2).f1))) (ds := []) #[false, false, false, false, false, false, false, false, false, false, false, false, false, false, false, false, false, false] (by kernel_rfl) rfl rfl ⟨(blk_cell BK204.out 0).trans rfl, (blk_cell BK204.out 1).trans rfl⟩ (fun hHeld => ?_); refine with_tabW laws_FnCoalesceParts.tab12 laws_FnCoalesceParts.bits12 (fun HT_ HW_ => ?_)
                            generalize w55.drew = w56 at HO_5 BK204 HB hHeld ⊢
                            refine pure_ (i := 0) (N := some 49) (v := ?_) (a' := ?_) #[true, false, false, false, false, false, false, false, false, false, false, false, false, false, false, false, false, false] rfl rfl (any_of HT_.out (by kernel_rfl)) (fun _ _ _ h => h) (Or.inl ⟨by rfl, ?_⟩) ?_ ?_
                            rotate_left
                            · intro w'
                              go_simp
                              with_reducible rfl
                            rotate_left
                            · simp only [Act.put, List.setIfInBounds_toArray, List.set_cons_zero, List.set_cons_succ, i64_w, i32_w]
                              rfl
                            refine pure_ (i := 1) (N := some 50) (v := ?_) (a' := ?_) #[true, true, false, false, false, false, false, false, false, false, false, false, false, false, false, false, false, false] rfl rfl (any_of HT_.out (by kernel_rfl)) (fun _ _ _ h => h) (Or.inl ⟨by rfl, ?_⟩) ?_ ?_
                            rotate_left
                            · intro w'
                              go_simp
                              with_reducible rfl
                            rotate_left
                            · simp only [Act.put, List.setIfInBounds_toArray, List.set_cons_zero, List.set_cons_succ, i64_w, i32_w]
                              rfl
                            refine pure_ (i := 3) (N := some 52) (v := ?_) (a' := ?_) #[true, true, false, true, false, false, false, false, false, false, false, false, false, false, false, false, false, false] rfl rfl (any_of HT_.out (by kernel_rfl)) (fun _ _ _ h => h) (Or.inl ⟨by rfl, ?_⟩) ?_ ?_
                            rotate_left
                            · intro w'
                              go_simp
                              with_reducible rfl
                            rotate_left
                            · simp only [Act.put, List.setIfInBounds_toArray, List.set_cons_zero, List.set_cons_succ, i64_w, i32_w]
                              rfl
                            refine pure_ (i := 5) (N := some 54) (v := ?_) (a' := ?_) #[true, true, false, true, false, true, false, false, false, false, false, false, false, false, false, false, false, false] rfl rfl (any_of HT_.out (by kernel_rfl)) (fun _ _ _ h => h) (Or.inl ⟨by rfl, ?_⟩) ?_ ?_
                            rotate_left
                            · intro w'
                              go_simp
                              with_reducible rfl
                            rotate_left
                            · simp only [Act.put, List.setIfInBounds_toArray, List.set_cons_zero, List.set_cons_succ, i64_w, i32_w]
                              rfl
                            refine pure_ (i := 8) (N := some 57) (v := ?_) (a' := ?_) #[true, true, false, true, false, true, false, false, true, false, false, false, false, false, false, false, false, false] rfl rfl (any_of HT_.out (by kernel_rfl)) (fun _ _ _ h => h) (Or.inl ⟨by rfl, ?_⟩) ?_ ?_
                            rotate_left
                            · intro w'
                              go_simp
                              with_reducible rfl
                            rotate_left
                            · simp only [Act.put, List.setIfInBounds_toArray, List.set_cons_zero, List.set_cons_succ, i64_w, i32_w]
                              rfl
                            refine pure_ (i := 10) (N := some 59) (v := ?_) (a' := ?_) #[true, true, false, true, false, true, false, false, true, false, true, false, false, false, false, false, false, false] rfl rfl (any_of HT_.out (by kernel_rfl)) (fun _ _ _ h => h) (Or.inl ⟨by rfl, ?_⟩) ?_ ?_
                            rotate_left
                            · intro w'
                              go_simp
                              with_reducible rfl
                            rotate_left
                            · simp only [Act.put, List.setIfInBounds_toArray, List.set_cons_zero, List.set_cons_succ, i64_w, i32_w]
                              rfl
                            refine pure_ (i := 12) (N := some 61) (v := ?_) (a' := ?_) #[true, true, false, true, false, true, false, false, true, false, true, false, true, false, false, false, false, false] rfl rfl (any_of HT_.out (by kernel_rfl)) (fun _ _ _ h => h) (Or.inl ⟨by rfl, ?_⟩) ?_ ?_
                            rotate_left
                            · intro w'
                              go_simp
                              with_reducible rfl
                            rotate_left
                            · simp only [Act.put, List.setIfInBounds_toArray, List.set_cons_zero, List.set_cons_succ, i64_w, i32_w]
                              rfl
                            refine take_ (i := 2) (N := some 51) (v := ?_) (a' := ?_) #[true, true, true, true, false, true, false, false, true, false, true, false, true, false, false, false, false, false] rfl rfl (take_ofW HT_.out HW_.out (by kernel_rfl)) (fun _ _ _ h => h) (Or.inl ⟨by rfl, ?_⟩) hHeld ?_ ?_
                            rotate_left
                            · rintro w' ⟨s0, s1⟩
                              go_simp
                              with_reducible rfl
                            rotate_left
                            · simp only [Act.put, List.setIfInBounds_toArray, List.set_cons_zero, List.set_cons_succ, i64_w, i32_w]
                              rfl
                            refine take_ (i := 4) (N := some 53) (v := ?_) (a' := ?_) #[true, true, true, true, true, true, false, false, true, false, true, false, true, false, false, false, false, false] rfl rfl (take_ofW HT_.out HW_.out (by kernel_rfl)) (fun _ _ _ h => h) (Or.inl ⟨by rfl, ?_⟩) hHeld ?_ ?_
                            rotate_left
                            · rintro w' ⟨s0, s1⟩
                              go_simp
                              with_reducible rfl
                            rotate_left
                            · simp only [Act.put, List.setIfInBounds_toArray, List.set_cons_zero, List.set_cons_succ, i64_w, i32_w]
                              rfl
                            refine pure_ (i := 6) (N := some 55) (v := ?_) (a' := ?_) #[true, true, true, true, true, true, true, false, true, false, true, false, true, false, false, false, false, false] rfl rfl (any_of HT_.out (by kernel_rfl)) (fun _ _ _ h => h) (Or.inl ⟨by rfl, ?_⟩) ?_ ?_
                            rotate_left
                            · intro w'
                              go_simp
                              with_reducible rfl
                            rotate_left
                            · simp only [Act.put, List.setIfInBounds_toArray, List.set_cons_zero, List.set_cons_succ, i64_w, i32_w]
                              rfl
                            refine pure_ (i := 7) (N := some 56) (v := ?_) (a' := ?_) #[true, true, true, true, true, true, true, true, true, false, true, false, true, false, false, false, false, false] rfl rfl (any_of HT_.out (by kernel_rfl)) (fun _ _ _ h => h) (Or.inl ⟨by rfl, ?_⟩) ?_ ?_
                            rotate_left
                            · intro w'
                              go_simp
                              with_reducible rfl
                            rotate_left
                            · simp only [Act.put, List.setIfInBounds_toArray, List.set_cons_zero, List.set_cons_succ, i64_w, i32_w]
                              rfl
                            refine take_ (i := 9) (N := some 58) (v := ?_) (a' := ?_) #[true, true, true, true, true, true, true, true, true, true, true, false, true, false, false, false, false, false] rfl rfl (take_ofW HT_.out HW_.out (by kernel_rfl)) (fun _ _ _ h => h) (Or.inl ⟨by rfl, ?_⟩) hHeld ?_ ?_
                            rotate_left
                            · rintro w' ⟨s0, s1⟩
                              go_simp
                              with_reducible rfl
                            rotate_left
                            · simp only [Act.put, List.setIfInBounds_toArray, List.set_cons_zero, List.set_cons_succ, i64_w, i32_w]
                              rfl
                            refine take_ (i := 11) (N := some 60) (v := ?_) (a' := ?_) #[true, true, true, true, true, true, true, true, true, true, true, true, true, false, false, false, false, false] rfl rfl (take_ofW HT_.out HW_.out (by kernel_rfl)) (fun _ _ _ h => h) (Or.inl ⟨by rfl, ?_⟩) hHeld ?_ ?_
                            rotate_left
                            · rintro w' ⟨s0, s1⟩
                              go_simp
                              with_reducible rfl
                            rotate_left
                            · simp only [Act.put, List.setIfInBounds_toArray, List.set_cons_zero, List.set_cons_succ, i64_w, i32_w]
                              rfl
                            refine pure_ (i := 13) (N := some 62) (v := ?_) (a' := ?_) #[true, true, true, true, true, true, true, true, true, true, true, true, true, true, false, false, false, false] rfl rfl (any_of HT_.out (by kernel_rfl)) (fun _ _ _ h => h) (Or.inl ⟨by rfl, ?_⟩) ?_ ?_
                            rotate_left
                            · intro w'
                              go_simp
                              with_reducible rfl
                            rotate_left
                            · simp only [Act.put, List.setIfInBounds_toArray, List.set_cons_zero, List.set_cons_succ, i64_w, i32_w]
                              rfl
                            refine pure_ (i := 14) (N := some 63) (v := ?_) (a' := ?_) #[true, true, true, true, true, true, true, true, true, true, true, true, true, true, true, false, false, false] rfl rfl (any_of HT_.out (by kernel_rfl)) (fun _ _ _ h => h) (Or.inl ⟨by rfl, ?_⟩) ?_ ?_
                            rotate_left
                            · intro w'
                              go_simp
                              with_reducible rfl
                            rotate_left
                            · simp only [Act.put, List.setIfInBounds_toArray, List.set_cons_zero, List.set_cons_succ, i64_w, i32_w]
                              rfl
                            refine one_ (i := 15) (N := some 64) #[true, true, true, true, true, true, true, true, true, true, true, true, true, true, true, true, false, false] rfl rfl (one_of HT_.out (by kernel_rfl)) (by decide) (fun K hK => ?_)
                            refine Kd.R_lit_step k29 _ 29 ?hg (N := 64) ?hd (xs := ([(⟨(rd_T29 l0 x22_2).f0, ((rd_T29 l0 x22_2).f1).extract 0 0⟩ : S29), (⟨(rd_T29 l0 x22_2).f0, ((rd_T29 l0 x22_2).f1).extract 0 ((rd_T29 l0 x22_2).f1).size⟩ : S29)] : List (S29))) (inner := [.int .i64 ((rd_T29 l0 x22_2).f0), .string (((rd_T29 l0 x22_2).f1).extract 0 0), .int .i64 ((rd_T29 l0 x22_2).f0), .string (((rd_T29 l0 x22_2).f1).extract 0 ((rd_T29 l0 x22_2).f1).size)]) (ok := fun _ => True) (okp := fun _ => True) ?hr ?hp (fun _ hk => hk) trivial (Below.refl _ _) (Nat.le_refl _) (by simp) ?_; (case hd => rfl); (case hg => rfl); (case hr => first | (go_simp; done) | (go_simp; rfl)); (case hp => exact (Reps.c2 (show Kd.M k29 _ _ _ (⟨(rd_T29 l0 x22_2).f0, ((rd_T29 l0 x22_2).f1).extract 0 0⟩ : S29) [.int .i64 ((rd_T29 l0 x22_2).f0), .string (((rd_T29 l0 x22_2).f1).extract 0 0)] from (k29_mkM _ _ _ (⟨(rd_T29 l0 x22_2).f0, ((rd_T29 l0 x22_2).f1).extract 0 0⟩ : S29) )) (Reps.c2 (show Kd.M k29 _ _ _ (⟨(rd_T29 l0 x22_2).f0, ((rd_T29 l0 x22_2).f1).extract 0 ((rd_T29 l0 x22_2).f1).size⟩ : S29) [.int .i64 ((rd_T29 l0 x22_2).f0), .string (((rd_T29 l0 x22_2).f1).extract 0 ((rd_T29 l0 x22_2).f1).size)] from (k29_mkM _ _ _ (⟨(rd_T29 l0 x22_2).f0, ((rd_T29 l0 x22_2).f1).extract 0 ((rd_T29 l0 x22_2).f1).size⟩ : S29) )) (Reps.none _ _))))
                            intro v219 w57 ho58 hb hg_ hnew_
                            clear hg_ hnew_
                            (first | rw [← Ny218.out] at ho58 | (simp only [Int.reduceToNat] at ho58; rw [← Ny218.out] at ho58))
                            have n0_ := Aside0.mk (Kd.R_elder' (by (with_reducible repeat (first | apply Kd.R_alloc | apply Kd.R_drewN | apply Kd.R_drew)); exact HO_5.out) (Kd.R_base ho58) hb)
                            have n1_ := Aside0.mk (Kd.R_lower (Kd.R_newB (Kd.R_new' ho58 (Kd.R_lt (by (with_reducible repeat (first | apply Kd.R_alloc | apply Kd.R_drewN | apply Kd.R_drew)); exact HO_5.out))) (g := gb204) (o := .cells #[.int .i64 ((rd_T29 l0 x22_2).f0), .string ((rd_T29 l0 x22_2).f1)] 29 (0, 0)) (by (with_reducible repeat (first | refine blk_drewN ?_ _ | refine blk_drew ?_ | refine blk_alloc ?_ _)); exact BK204.out)) (below_size (by repeat (first | (with_reducible first | exact HB.out | apply below_alloc | apply pw_below_drewN | apply below_drew1 | refine below_set ?_ GE204.out) | exact HB.out))))
                            have n2_ := Aside0.mk (blk_below (g := gb204) (o := .cells #[.int .i64 ((rd_T29 l0 x22_2).f0), .string ((rd_T29 l0 x22_2).f1)] 29 (0, 0)) (by (with_reducible repeat (first | refine blk_drewN ?_ _ | refine blk_drew ?_ | refine blk_alloc ?_ _)); exact BK204.out) hb)
                            have n3_ := Aside0.mk (below_step (by repeat (first | (with_reducible first | exact HB.out | apply below_alloc | apply pw_below_drewN | apply below_drew1 | refine below_set ?_ GE204.out) | exact HB.out)) hb)
                            clear HO_5
                            clear BK204
                            clear HB
                            have HO_5 := n0_
                            have HO220 := n1_
                            have BK204 := n2_
                            have HB := n3_
                            clear n0_ n1_ n2_ n3_
                            clear hb ho58
                            obtain ⟨Ao60, co60, eo60⟩ := Kd.R_slice HO220.out
                            (first | subst eo60 | (injection eo60 with f1_ f2_ f3_; have f4_ := f1_.symm; have f5_ := f3_.symm; clear f1_ f2_ f3_; subst f4_; subst f5_))
                            refine hK.out _ _ ⟨(blk_cell BK204.out 0).trans rfl, (blk_cell BK204.out 1).trans rfl⟩ (fun hHeld => ?_)
                            clear hK K
                            refine norm_ (a' := ?_) ?_ ?_
                            rotate_left
                            · show Act.put _ (some 64) _ = _
                              simp only [Act.put, List.setIfInBounds_toArray, List.set_cons_zero, List.set_cons_succ, i64_w, i32_w]
                              rfl
                            refine one_ (i := 16) (N := some 65) #[true, true, true, true, true, true, true, true, true, true, true, true, true, true, true, true, true, false] rfl rfl (one_of HT_.out (by kernel_rfl)) (by decide) (fun K hK => ?_)
                            refine Kd.R_append_rows_step k29 (w0 := w) w.heap.size (by rfl) (.tmp 49) (.tmp 64) 22 29 (.agg #[(.int .i64 0), (.string ⟨#[]⟩)]) 24 rfl Tryd.underlying22 info29 rfl (by decide) (by omega) u5 x5_2 y218 _ _ _ (fun k_ => some k_ ≠ (.slice Ao60 y218.length co60 : Value).ownBlock ∧ k_ ≠ gb204) (fun _ => False) rfl rfl ?aO ?aR (fun _ _ h => h) (fun _ h => h.elim) ?aF ?aB ?aS ?aL ?_
                            (case aR => repeat (first | exact (Kd.R_reads' HO220.out).2.2 | (with_reducible refine Kd.C_alloc ?_ _) | (with_reducible refine Kd.C_drewN ?_ _) | (with_reducible refine Kd.C_drew ?_)))
                            (case aB => exact (by repeat (first | (with_reducible first | exact HB.out | apply below_alloc | apply pw_below_drewN | apply below_drew1 | refine below_set ?_ GE204.out) | exact HB.out)))
                            (case aF => exact (fun k_ hk => ⟨Kd.fresh' (Kd.R_lt (by (with_reducible repeat (first | apply Kd.R_alloc | apply Kd.R_drewN | apply Kd.R_drew)); exact HO220.out)) k_ hk, Kd.freshB (g := gb204) (o := .cells #[.int .i64 ((rd_T29 l0 x22_2).f0), .string ((rd_T29 l0 x22_2).f1)] 29 (0, 0)) (by (with_reducible repeat (first | refine blk_drewN ?_ _ | refine blk_drew ?_ | refine blk_alloc ?_ _)); exact BK204.out) k_ hk⟩))
                            (case aO => exact (by (with_reducible repeat (first | apply Kd.R_alloc | apply Kd.R_drewN | apply Kd.R_drew)); exact Kd.R_mono HO_5.out (fun _ hk => ⟨hk.2, hk.1⟩)))
                            (case aS => exact (below_size (by repeat (first | (with_reducible first | exact HB.out | apply below_alloc | apply pw_below_drewN | apply below_drew1 | refine below_set ?_ GE204.out) | exact HB.out))))
                            (case aL => have := LMc52.out; omega)
                            intro v222 w59 ho hb hg hat
                            rw [← Ny221.out] at ho
                            have n0_ := Aside0.mk (blk_grown (g := gb204) (o := .cells #[.int .i64 ((rd_T29 l0 x22_2).f0), .string ((rd_T29 l0 x22_2).f1)] 29 (0, 0)) (by (with_reducible repeat (first | refine blk_drewN ?_ _ | refine blk_drew ?_ | refine blk_alloc ?_ _)); exact BK204.out) hg (Kd.R_away HO_5.out (fun _ hk => hk.1)))
                            have n1_ := Aside0.mk (Kd.R_after (ok := (fun k_ => k_ ≠ gb204)) (by (with_reducible repeat (first | apply Kd.R_alloc | apply Kd.R_drewN | apply Kd.R_drew)); exact Kd.R_mono HO220.out (fun _ hk => ⟨hk.2, hk.1.2⟩)) hg hat)
                            have n2_ := Aside0.mk (hb)
                            have n3_ := Aside0.mk (ho)
                            clear BK204
                            clear HO220
                            clear HB
                            clear HO_5
                            have BK204 := n0_
                            have HO220 := n1_
                            have HB := n2_
                            have HO223 := n3_
                            clear n0_ n1_ n2_ n3_
                            clear ho hb hg hat
                            refine hK.out _ _ ⟨(blk_cell BK204.out 0).trans rfl, (blk_cell BK204.out 1).trans rfl⟩ (fun hHeld => ?_)
                            clear hK K
                            refine norm_ (a' := ?_) ?_ ?_
                            rotate_left
                            · show Act.put _ (some 65) _ = _
                              simp only [Act.put, List.setIfInBounds_toArray, List.set_cons_zero, List.set_cons_succ, i64_w, i32_w]
                              rfl
                            refine pure_ (i := 17) (N := some 5) (v := ?_) (a' := ?_) #[true, true, true, true, true, true, true, true, true, true, true, true, true, true, true, true, true, true] rfl rfl (any_of HT_.out (by kernel_rfl)) (fun _ _ _ h => h) (Or.inl ⟨by rfl, ?_⟩) ?_ ?_
                            rotate_left
                            · intro w'
                              go_simp
                              with_reducible rfl
                            rotate_left
                            · simp only [Act.put, List.setIfInBounds_toArray, List.set_cons_zero, List.set_cons_succ, i64_w, i32_w]
                              rfl
                            refine done_ (done_of HT_.out (by kernel_rfl)) ?_
                            try go_wp2
                            go_roundg k2
                            case measure => have := HJ2.out; have := HK2.out; omega
                            case rel => exact ⟨(y221), (wrap64 (x22_2 + 1)), (by first | rfl | (simp; done) | (simp [*]; done)), H', ⟨by have := HJ2.out; have := HK2.out; omega⟩, ⟨by (with_reducible repeat (first | apply Kd.R_alloc | apply Kd.R_drewN | apply Kd.R_drew)); exact Kd.R_mono HO223.out (fun _ hk => trivial)⟩, ⟨by repeat (first | (with_reducible first | exact HB.out | apply below_alloc | apply pw_below_drewN | apply below_drew1 | refine below_set ?_ GE204.out) | exact HB.out)⟩⟩
                          · rw [if_neg c52] at H
                            exact absurd H (by simp)
                        · rw [if_neg c50] at H
                          exact absurd H (by simp)
                      · rw [if_neg c49] at H
                        exact absurd H (by simp)
                  · rw [if_neg c14] at H
                    exact absurd H (by simp)
                · rw [if_neg c13] at H
                  exact absurd H (by simp)
              · rw [if_neg c12] at H
                have c12b0 : decide (x22_2 < (l0.length : Int)) = false := decide_eq_false c12
                clear c12
                replace H := Option.bind_eq_some_iff.mp H
                obtain ⟨t224, A610, H⟩ := H
                replace H : ((impl_CoalesceTokens.f l0).bind fun t227 => ((laws_same.f k2 t224 t227).bind fun t230 => (if t230 = true then ((laws_waking.f k2).bind fun t231 => (some t231)) else (some false)))) = some r := H
                have A61 := Aside0.mk A610
                clear A610
                replace H := Option.bind_eq_some_iff.mp H
                obtain ⟨t227, A620, H⟩ := H
                replace H : ((laws_same.f k2 t224 t227).bind fun t230 => (if t230 = true then ((laws_waking.f k2).bind fun t231 => (some t231)) else (some false))) = some r := H
                have A62 := Aside0.mk A620
                clear A620
                replace H := Option.bind_eq_some_iff.mp H
                obtain ⟨t230, A630, H⟩ := H
                replace H : (if t230 = true then ((laws_waking.f k2).bind fun t231 => (some t231)) else (some false)) = some r := H
                have A63 := Aside0.mk A630
                clear A630
                by_cases c64 : t230 = true
                · subst c64
                  have H1 : ((laws_waking.f k2).bind fun t231 => (some t231)) = some r := by rw [if_pos rfl] at H; exact H
                  clear H
                  have H := H1
                  clear H1
                  replace H := Option.bind_eq_some_iff.mp H
                  obtain ⟨t231, A650, H⟩ := H
                  replace H : (some t231) = some r := H
                  have A65 := Aside0.mk A650
                  clear A650
                  obtain rfl := Option.some.inj H
                  obtain ⟨Ao66, co66, eo66⟩ := Kd.R_slice HO_5.out
                  subst eo66
                  go_wp2_with (first | ((with_reducible refine gate_callee (f := 9) rfl ?_); refine goesL_ (some 68) rfl rfl Tryd.func9 (by kernel_rfl) rfl #[.slice Ao66 x5_2.length co66] rfl (by (try simp only [List.map_toArray, List.map_cons, List.map_nil]); first | done | rfl | (simp only [List.length_drop, List.length_take]; rfl)) ?_; (with_reducible refine (impl_CoalesceTokens.calls _ _ x5_2 t224 _ ?side1 ?side2 ?side3 A61.out).mono ?_); (case side1 => repeat (first | exact (Kd.R_reads' HO_5.out).2.2 | (with_reducible refine Kd.C_alloc ?_ _) | (with_reducible refine Kd.C_drewN ?_ _) | (with_reducible refine Kd.C_drew ?_))); (case side2 => exact (Kd.R_reads' HO_5.out).2.1); (case side3 => exact Go.Proofs.YtgpamoanclhbhaaDoorFmt.VarsOK.below HV.out (by repeat (first | (with_reducible first | exact HB.out | apply below_alloc | apply pw_below_drewN | apply below_drew1) | exact HB.out))); rintro e w67 ⟨v225, rfl, ho0, hb⟩; refine ⟨_, rfl, ?_⟩; have n0_ := Aside0.mk (Kd.R_elder' (by (with_reducible repeat (first | apply Kd.R_alloc | apply Kd.R_drewN | apply Kd.R_drew)); exact HO_5.out) (Kd.R_base ho0) hb); have n1_ := Aside0.mk (Kd.R_lower (Kd.R_new' ho0 (Kd.R_lt (by (with_reducible repeat (first | apply Kd.R_alloc | apply Kd.R_drewN | apply Kd.R_drew)); exact HO_5.out))) (below_size (by repeat (first | (with_reducible first | exact HB.out | apply below_alloc | apply pw_below_drewN | apply below_drew1) | exact HB.out)))); have n2_ := Aside0.mk (below_step (by repeat (first | (with_reducible first | exact HB.out | apply below_alloc | apply pw_below_drewN | apply below_drew1) | exact HB.out)) hb); clear HO_5; clear HB; have HO_5 := n0_; have HO226 := n1_; have HB := n2_; clear n0_ n1_ n2_; (try clear hb); (try clear hb2); (try clear hk); (try clear hi); (try clear ho0)) | ((with_reducible refine gate_callee (f := 9) rfl ?_); refine goesL_ (some 70) rfl rfl Tryd.func9 (by kernel_rfl) rfl #[.slice A0 l0.length c0] rfl (by (try simp only [List.map_toArray, List.map_cons, List.map_nil]); first | done | rfl | (simp only [List.length_drop, List.length_take]; rfl)) ?_; (with_reducible refine (impl_CoalesceTokens.calls _ _ l0 t227 _ ?side1 ?side2 ?side3 A62.out).mono ?_); (case side1 => repeat (first | exact (Kd.C_below HR0.out HB.out) | (with_reducible refine Kd.C_alloc ?_ _) | (with_reducible refine Kd.C_drewN ?_ _) | (with_reducible refine Kd.C_drew ?_))); (case side2 => exact HC0.out); (case side3 => exact Go.Proofs.YtgpamoanclhbhaaDoorFmt.VarsOK.below HV.out (by repeat (first | (with_reducible first | exact HB.out | apply below_alloc | apply pw_below_drewN | apply below_drew1) | exact HB.out))); rintro e w68 ⟨v228, rfl, ho0, hb⟩; refine ⟨_, rfl, ?_⟩; have n0_ := Aside0.mk (Kd.R_elder' (by (with_reducible repeat (first | apply Kd.R_alloc | apply Kd.R_drewN | apply Kd.R_drew)); exact HO_5.out) (Kd.R_base ho0) hb); have n1_ := Aside0.mk (Kd.R_elder' (by (with_reducible repeat (first | apply Kd.R_alloc | apply Kd.R_drewN | apply Kd.R_drew)); exact HO226.out) (Kd.R_base ho0) hb); have n2_ := Aside0.mk (Kd.R_lower (Kd.R_new' (Kd.R_new' ho0 (Kd.R_lt (by (with_reducible repeat (first | apply Kd.R_alloc | apply Kd.R_drewN | apply Kd.R_drew)); exact HO_5.out))) (Kd.R_lt (by (with_reducible repeat (first | apply Kd.R_alloc | apply Kd.R_drewN | apply Kd.R_drew)); exact HO226.out))) (below_size (by repeat (first | (with_reducible first | exact HB.out | apply below_alloc | apply pw_below_drewN | apply below_drew1) | exact HB.out)))); have n3_ := Aside0.mk (below_step (by repeat (first | (with_reducible first | exact HB.out | apply below_alloc | apply pw_below_drewN | apply below_drew1) | exact HB.out)) hb); clear HO_5; clear HO226; clear HB; have HO_5 := n0_; have HO226 := n1_; have HO229 := n2_; have HB := n3_; clear n0_ n1_ n2_ n3_; (try clear hb); (try clear hb2); (try clear hk); (try clear hi); (try clear ho0); obtain ⟨Ao69, co69, eo69⟩ := Kd.R_slice HO226.out; subst eo69; obtain ⟨Ao70, co70, eo70⟩ := Kd.R_slice HO229.out; subst eo70) | ((with_reducible refine gate_callee (f := 8) rfl ?_); refine goesL_ (some 71) rfl rfl Tryd.func8 (by kernel_rfl) rfl #[.slice Ao69 t224.length co69, .slice Ao70 t227.length co70] rfl (by (try simp only [List.map_toArray, List.map_cons, List.map_nil]); first | done | rfl | (simp only [List.length_drop, List.length_take]; rfl)) ?_; (with_reducible refine (laws_same.calls k2 _ _ t224 _ _ t227 true _ ?side1 ?side2 ?side3 ?side4 A63.out).mono ?_); (case side1 => repeat (first | exact (Kd.R_reads' HO226.out).2.2 | (with_reducible refine Kd.C_alloc ?_ _) | (with_reducible refine Kd.C_drewN ?_ _) | (with_reducible refine Kd.C_drew ?_))); (case side2 => exact (Kd.R_reads' HO226.out).2.1); (case side3 => repeat (first | exact (Kd.R_reads' HO229.out).2.2 | (with_reducible refine Kd.C_alloc ?_ _) | (with_reducible refine Kd.C_drewN ?_ _) | (with_reducible refine Kd.C_drew ?_))); (case side4 => exact (Kd.R_reads' HO229.out).2.1); rintro e w' ⟨rfl, ⟨nd, rfl⟩⟩; refine ⟨_, rfl, ?_⟩) | (go_at_call 11; (with_reducible refine (laws_waking.calls k2  t231 _ A65.out).mono ?_); rintro e w71 ⟨rfl, hb⟩; have n0_ := Aside0.mk (Kd.R_below (by (with_reducible repeat (first | apply Kd.R_alloc | apply Kd.R_drewN | apply Kd.R_drew)); exact HO_5.out) hb); have n1_ := Aside0.mk (Kd.R_below (by (with_reducible repeat (first | apply Kd.R_alloc | apply Kd.R_drewN | apply Kd.R_drew)); exact HO226.out) hb); have n2_ := Aside0.mk (Kd.R_below (by (with_reducible repeat (first | apply Kd.R_alloc | apply Kd.R_drewN | apply Kd.R_drew)); exact HO229.out) hb); have n3_ := Aside0.mk (below_step (by repeat (first | (with_reducible first | exact HB.out | apply below_alloc | apply pw_below_drewN | apply below_drew1) | exact HB.out)) hb); clear HO_5; clear HO226; clear HO229; clear HB; have HO_5 := n0_; have HO226 := n1_; have HO229 := n2_; have HB := n3_; clear n0_ n1_ n2_ n3_; (try clear hb); (try clear hb2); (try clear hk); (try clear hi)))
                  go_ret
                  exact ⟨by first | rfl | (simp [errW_none, errW_some] <;> rfl) | (simp [*, errW_none, errW_some] <;> rfl), by repeat (first | (with_reducible first | exact HB.out | apply below_alloc | apply pw_below_drewN | apply below_drew1) | exact HB.out)⟩
                · replace c64 := Bool.eq_false_iff.mpr c64
                  subst c64
                  have H1 : (some false) = some r := by rw [if_neg (show ¬ (false = true) by decide)] at H; exact H
                  clear H
                  have H := H1
                  clear H1
                  obtain rfl := Option.some.inj H
                  obtain ⟨Ao72, co72, eo72⟩ := Kd.R_slice HO_5.out
                  subst eo72
                  go_wp2_with (first | ((with_reducible refine gate_callee (f := 9) rfl ?_); refine goesL_ (some 68) rfl rfl Tryd.func9 (by kernel_rfl) rfl #[.slice Ao72 x5_2.length co72] rfl (by (try simp only [List.map_toArray, List.map_cons, List.map_nil]); first | done | rfl | (simp only [List.length_drop, List.length_take]; rfl)) ?_; (with_reducible refine (impl_CoalesceTokens.calls _ _ x5_2 t224 _ ?side1 ?side2 ?side3 A61.out).mono ?_); (case side1 => repeat (first | exact (Kd.R_reads' HO_5.out).2.2 | (with_reducible refine Kd.C_alloc ?_ _) | (with_reducible refine Kd.C_drewN ?_ _) | (with_reducible refine Kd.C_drew ?_))); (case side2 => exact (Kd.R_reads' HO_5.out).2.1); (case side3 => exact Go.Proofs.YtgpamoanclhbhaaDoorFmt.VarsOK.below HV.out (by repeat (first | (with_reducible first | exact HB.out | apply below_alloc | apply pw_below_drewN | apply below_drew1) | exact HB.out))); rintro e w73 ⟨v225, rfl, ho0, hb⟩; refine ⟨_, rfl, ?_⟩; have n0_ := Aside0.mk (Kd.R_elder' (by (with_reducible repeat (first | apply Kd.R_alloc | apply Kd.R_drewN | apply Kd.R_drew)); exact HO_5.out) (Kd.R_base ho0) hb); have n1_ := Aside0.mk (Kd.R_lower (Kd.R_new' ho0 (Kd.R_lt (by (with_reducible repeat (first | apply Kd.R_alloc | apply Kd.R_drewN | apply Kd.R_drew)); exact HO_5.out))) (below_size (by repeat (first | (with_reducible first | exact HB.out | apply below_alloc | apply pw_below_drewN | apply below_drew1) | exact HB.out)))); have n2_ := Aside0.mk (below_step (by repeat (first | (with_reducible first | exact HB.out | apply below_alloc | apply pw_below_drewN | apply below_drew1) | exact HB.out)) hb); clear HO_5; clear HB; have HO_5 := n0_; have HO226 := n1_; have HB := n2_; clear n0_ n1_ n2_; (try clear hb); (try clear hb2); (try clear hk); (try clear hi); (try clear ho0)) | ((with_reducible refine gate_callee (f := 9) rfl ?_); refine goesL_ (some 70) rfl rfl Tryd.func9 (by kernel_rfl) rfl #[.slice A0 l0.length c0] rfl (by (try simp only [List.map_toArray, List.map_cons, List.map_nil]); first | done | rfl | (simp only [List.length_drop, List.length_take]; rfl)) ?_; (with_reducible refine (impl_CoalesceTokens.calls _ _ l0 t227 _ ?side1 ?side2 ?side3 A62.out).mono ?_); (case side1 => repeat (first | exact (Kd.C_below HR0.out HB.out) | (with_reducible refine Kd.C_alloc ?_ _) | (with_reducible refine Kd.C_drewN ?_ _) | (with_reducible refine Kd.C_drew ?_))); (case side2 => exact HC0.out); (case side3 => exact Go.Proofs.YtgpamoanclhbhaaDoorFmt.VarsOK.below HV.out (by repeat (first | (with_reducible first | exact HB.out | apply below_alloc | apply pw_below_drewN | apply below_drew1) | exact HB.out))); rintro e w74 ⟨v228, rfl, ho0, hb⟩; refine ⟨_, rfl, ?_⟩; have n0_ := Aside0.mk (Kd.R_elder' (by (with_reducible repeat (first | apply Kd.R_alloc | apply Kd.R_drewN | apply Kd.R_drew)); exact HO_5.out) (Kd.R_base ho0) hb); have n1_ := Aside0.mk (Kd.R_elder' (by (with_reducible repeat (first | apply Kd.R_alloc | apply Kd.R_drewN | apply Kd.R_drew)); exact HO226.out) (Kd.R_base ho0) hb); have n2_ := Aside0.mk (Kd.R_lower (Kd.R_new' (Kd.R_new' ho0 (Kd.R_lt (by (with_reducible repeat (first | apply Kd.R_alloc | apply Kd.R_drewN | apply Kd.R_drew)); exact HO_5.out))) (Kd.R_lt (by (with_reducible repeat (first | apply Kd.R_alloc | apply Kd.R_drewN | apply Kd.R_drew)); exact HO226.out))) (below_size (by repeat (first | (with_reducible first | exact HB.out | apply below_alloc | apply pw_below_drewN | apply below_drew1) | exact HB.out)))); have n3_ := Aside0.mk (below_step (by repeat (first | (with_reducible first | exact HB.out | apply below_alloc | apply pw_below_drewN | apply below_drew1) | exact HB.out)) hb); clear HO_5; clear HO226; clear HB; have HO_5 := n0_; have HO226 := n1_; have HO229 := n2_; have HB := n3_; clear n0_ n1_ n2_ n3_; (try clear hb); (try clear hb2); (try clear hk); (try clear hi); (try clear ho0); obtain ⟨Ao75, co75, eo75⟩ := Kd.R_slice HO226.out; subst eo75; obtain ⟨Ao76, co76, eo76⟩ := Kd.R_slice HO229.out; subst eo76) | ((with_reducible refine gate_callee (f := 8) rfl ?_); refine goesL_ (some 71) rfl rfl Tryd.func8 (by kernel_rfl) rfl #[.slice Ao75 t224.length co75, .slice Ao76 t227.length co76] rfl (by (try simp only [List.map_toArray, List.map_cons, List.map_nil]); first | done | rfl | (simp only [List.length_drop, List.length_take]; rfl)) ?_; (with_reducible refine (laws_same.calls k2 _ _ t224 _ _ t227 false _ ?side1 ?side2 ?side3 ?side4 A63.out).mono ?_); (case side1 => repeat (first | exact (Kd.R_reads' HO226.out).2.2 | (with_reducible refine Kd.C_alloc ?_ _) | (with_reducible refine Kd.C_drewN ?_ _) | (with_reducible refine Kd.C_drew ?_))); (case side2 => exact (Kd.R_reads' HO226.out).2.1); (case side3 => repeat (first | exact (Kd.R_reads' HO229.out).2.2 | (with_reducible refine Kd.C_alloc ?_ _) | (with_reducible refine Kd.C_drewN ?_ _) | (with_reducible refine Kd.C_drew ?_))); (case side4 => exact (Kd.R_reads' HO229.out).2.1); rintro e w' ⟨rfl, ⟨nd, rfl⟩⟩; refine ⟨_, rfl, ?_⟩))
                  go_ret
                  exact ⟨by first | rfl | (simp [errW_none, errW_some] <;> rfl) | (simp [*, errW_none, errW_some] <;> rfl), by repeat (first | (with_reducible first | exact HB.out | apply below_alloc | apply pw_below_drewN | apply below_drew1) | exact HB.out)⟩
        · replace c10 := Bool.eq_false_iff.mpr c10
          subst c10
          have H1 : (some true) = some r := by rw [if_neg (show ¬ (false = true) by decide)] at H; exact H
          clear H
          have H := H1
          clear H1
          obtain rfl := Option.some.inj H
          go_wp2_with (first | ((with_reducible refine gate_callee (f := 7) rfl ?_); refine goesL_ (some 18) rfl rfl Tryd.func7 (by kernel_rfl) rfl #[.slice A0 l0.length c0] rfl (by (try simp only [List.map_toArray, List.map_cons, List.map_nil]); first | done | rfl | (simp only [List.length_drop, List.length_take]; rfl)) ?_; (with_reducible refine (laws_small.calls kj2 _ _ l0 false _ ?side1 ?side2 A9.out).mono ?_); (case side1 => repeat (first | exact (Kd.C_below HR0.out HB.out) | (with_reducible refine Kd.C_alloc ?_ _) | (with_reducible refine Kd.C_drewN ?_ _) | (with_reducible refine Kd.C_drew ?_))); (case side2 => exact HC0.out); rintro e w77 ⟨rfl, hb⟩; refine ⟨_, rfl, ?_⟩; have n0_ := Aside0.mk (below_step (by repeat (first | (with_reducible first | exact HB.out | apply below_alloc | apply pw_below_drewN | apply below_drew1) | exact HB.out)) hb); clear HB; have HB := n0_; clear n0_; (try clear hb); (try clear hb2); (try clear hk); (try clear hi)))
          go_ret
          exact ⟨by first | rfl | (simp [errW_none, errW_some] <;> rfl) | (simp [*, errW_none, errW_some] <;> rfl), by repeat (first | (with_reducible first | exact HB.out | apply below_alloc | apply pw_below_drewN | apply below_drew1) | exact HB.out)⟩
def laws_FnCoalesceParts.Pure : Prop := ∀ (l0 : List (S29)) (l1 : List Int), (l0.length ≤ 9223372036854775807 ∧ ∀ x ∈ l0, wf_S29 x) → (l1.length ≤ 9223372036854775807 ∧ ∀ x ∈ l1, IntKind.u8.min ≤ x ∧ x ≤ IntKind.u8.max) → ∃ k, laws_FnCoalesceParts.f k l0 l1 = some true

end Go.Proofs.YtgpamoanclhbhaaDoor.M
