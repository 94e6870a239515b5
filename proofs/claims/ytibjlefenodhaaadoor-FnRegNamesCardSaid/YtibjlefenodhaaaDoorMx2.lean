-- WRITTEN BY OUR myprint.py, a program of this session's over the kit's printer
import Derived.Test.YtibjlefenodhaaaDoorMx0
import Derived.Test.YtibjlefenodhaaaDoorMx1
namespace Go.Proofs.YtibjlefenodhaaaDoor.M
open Go.RowKit Go.Proofs.YtibjlefenodhaaaDoorW.PrintWords Go.Proofs.YtibjlefenodhaaaDoorW.PrintLast Go.Proofs.YtibjlefenodhaaaDoorW.PrintMore
attribute [local go_sem] max2_int min2_int max_two min_two max_three min_three max_four min_four   -- for this text's walks alone
set_option linter.unusedVariables false
set_option linter.unusedSimpArgs false

/-! ### laws_FnRegGet: function 3 -/
mutual
def laws_FnRegGet.j0 : Nat → List (S28) → Int → Int → List Bool → Bool → Option (Bool)
  | 0, _, _, _, _, _ => none
  | k + 1, x0, x1, x2, x3, x19 => if x19 = true then (some true) else ((laws_registered.f x0).bind fun t119 => (if t119 = true then (laws_FnRegGet.j1 k x0 x1 x2 x3 ((x0.length : Int) == 0)) else (laws_FnRegGet.j1 k x0 x1 x2 x3 true)))
def laws_FnRegGet.j1 : Nat → List (S28) → Int → Int → List Bool → Bool → Option (Bool)
  | 0, _, _, _, _, _ => none
  | k + 1, x0, x1, x2, x3, x27 => if x27 = true then (some true) else (if (x0.length : Int) = 0 then (none) else (if 0 ≤ (Int.tmod (wrap64 (x1)) (x0.length : Int)) then (if (Int.tmod (wrap64 (x1)) (x0.length : Int)) < (x0.length : Int) then (if (wrap64 ((((rd_T28 x0 (Int.tmod (wrap64 (x1)) (x0.length : Int))).f1).length : Int) + 1)) = 0 then (none) else (if (Int.tmod (wrap64 (x2)) (wrap64 ((((rd_T28 x0 (Int.tmod (wrap64 (x1)) (x0.length : Int))).f1).length : Int) + 1))) > 0 then (if 0 ≤ (wrap64 ((Int.tmod (wrap64 (x2)) (wrap64 ((((rd_T28 x0 (Int.tmod (wrap64 (x1)) (x0.length : Int))).f1).length : Int) + 1))) - 1)) then (if (wrap64 ((Int.tmod (wrap64 (x2)) (wrap64 ((((rd_T28 x0 (Int.tmod (wrap64 (x1)) (x0.length : Int))).f1).length : Int) + 1))) - 1)) < (((rd_T28 x0 (Int.tmod (wrap64 (x1)) (x0.length : Int))).f1).length : Int) then (laws_FnRegGet.j2 k x0 x3 (Int.tmod (wrap64 (x1)) (x0.length : Int)) (rdOf ByteArray.empty ((rd_T28 x0 (Int.tmod (wrap64 (x1)) (x0.length : Int))).f1) (wrap64 ((Int.tmod (wrap64 (x2)) (wrap64 ((((rd_T28 x0 (Int.tmod (wrap64 (x1)) (x0.length : Int))).f1).length : Int) + 1))) - 1)))) else (none)) else (none)) else (laws_FnRegGet.j2 k x0 x3 (Int.tmod (wrap64 (x1)) (x0.length : Int)) ((rd_T28 x0 (Int.tmod (wrap64 (x1)) (x0.length : Int))).f0)))) else (none)) else (none)))
def laws_FnRegGet.j2 : Nat → List (S28) → List Bool → Int → ByteArray → Option (Bool)
  | 0, _, _, _, _ => none
  | k + 1, x0, x3, x9, x10 => (impl_RegGet.f x0 x10).bind fun t124 => (if t124 = x9 then ((laws_turned.f x10 x3).bind fun t125 => ((impl_RegGet.f x0 t125).bind fun t126 => (if t126 = x9 then ((laws_found.f).bind fun t127 => (some t127)) else (some false)))) else (some false))
end
def laws_FnRegGet.f (k : Nat) (l0 : List (S28)) (a1 : Int) (a2 : Int) (l3 : List Bool) : Option (Bool) := (laws_zzFits18.f k l0).bind fun t118 => (if t118 = true then (laws_FnRegGet.j0 k l0 a1 a2 l3 (decide ((l3.length : Int) > 2147483647))) else (laws_FnRegGet.j0 k l0 a1 a2 l3 true))
theorem laws_FnRegGet.mono_l : ∀ k, (∀ y0 y1 y2 y3 y4, LeO (laws_FnRegGet.j0 k y0 y1 y2 y3 y4) (laws_FnRegGet.j0 (k + 1) y0 y1 y2 y3 y4)) ∧ (∀ y0 y1 y2 y3 y4, LeO (laws_FnRegGet.j1 k y0 y1 y2 y3 y4) (laws_FnRegGet.j1 (k + 1) y0 y1 y2 y3 y4)) ∧ (∀ y0 y1 y2 y3, LeO (laws_FnRegGet.j2 k y0 y1 y2 y3) (laws_FnRegGet.j2 (k + 1) y0 y1 y2 y3))
  | 0 => ⟨fun _ _ _ _ _ r h => by simp [laws_FnRegGet.j0] at h, fun _ _ _ _ _ r h => by simp [laws_FnRegGet.j1] at h, fun _ _ _ _ r h => by simp [laws_FnRegGet.j2] at h⟩
  | k + 1 => by
    obtain ⟨ih0, ih1, ih2⟩ := laws_FnRegGet.mono_l k
    refine ⟨?_, ?_, ?_⟩
    · intro y0 y1 y2 y3 y4
      unfold laws_FnRegGet.j0
      repeat' first
      | (with_reducible exact ih0 _ _ _ _ _)
      | (with_reducible exact ih1 _ _ _ _ _)
      | (with_reducible exact ih2 _ _ _ _)
      | (with_reducible exact laws_zzFits18.mono _ _)
      | (with_reducible exact LeO.refl _)
      | (with_reducible exact LeO.none _)
      | (with_reducible refine LeO.ite ?_ ?_)
      | (with_reducible refine LeO.bind ?_ (fun _ => ?_))
      | exact ih0 _ _ _ _ _
      | exact ih1 _ _ _ _ _
      | exact ih2 _ _ _ _
      | exact laws_zzFits18.mono _ _
      | exact LeO.none _
      | refine LeO.ite ?_ ?_
      | refine LeO.bind ?_ (fun _ => ?_)
    · intro y0 y1 y2 y3 y4
      unfold laws_FnRegGet.j1
      repeat' first
      | (with_reducible exact ih0 _ _ _ _ _)
      | (with_reducible exact ih1 _ _ _ _ _)
      | (with_reducible exact ih2 _ _ _ _)
      | (with_reducible exact laws_zzFits18.mono _ _)
      | (with_reducible exact LeO.refl _)
      | (with_reducible exact LeO.none _)
      | (with_reducible refine LeO.ite ?_ ?_)
      | (with_reducible refine LeO.bind ?_ (fun _ => ?_))
      | exact ih0 _ _ _ _ _
      | exact ih1 _ _ _ _ _
      | exact ih2 _ _ _ _
      | exact laws_zzFits18.mono _ _
      | exact LeO.none _
      | refine LeO.ite ?_ ?_
      | refine LeO.bind ?_ (fun _ => ?_)
    · intro y0 y1 y2 y3
      unfold laws_FnRegGet.j2
      repeat' first
      | (with_reducible exact ih0 _ _ _ _ _)
      | (with_reducible exact ih1 _ _ _ _ _)
      | (with_reducible exact ih2 _ _ _ _)
      | (with_reducible exact laws_zzFits18.mono _ _)
      | (with_reducible exact LeO.refl _)
      | (with_reducible exact LeO.none _)
      | (with_reducible refine LeO.ite ?_ ?_)
      | (with_reducible refine LeO.bind ?_ (fun _ => ?_))
      | exact ih0 _ _ _ _ _
      | exact ih1 _ _ _ _ _
      | exact ih2 _ _ _ _
      | exact laws_zzFits18.mono _ _
      | exact LeO.none _
      | refine LeO.ite ?_ ?_
      | refine LeO.bind ?_ (fun _ => ?_)
theorem laws_FnRegGet.mono : ∀ a0 a1 a2 a3 k, LeO (laws_FnRegGet.f k a0 a1 a2 a3) (laws_FnRegGet.f (k + 1) a0 a1 a2 a3) := by
  intro a0 a1 a2 a3 k
  obtain ⟨ih0, ih1, ih2⟩ := laws_FnRegGet.mono_l k
  unfold laws_FnRegGet.f
  repeat' first
      | (with_reducible exact ih0 _ _ _ _ _)
      | (with_reducible exact ih1 _ _ _ _ _)
      | (with_reducible exact ih2 _ _ _ _)
      | (with_reducible exact laws_zzFits18.mono _ _)
      | (with_reducible exact LeO.refl _)
      | (with_reducible exact LeO.none _)
      | (with_reducible refine LeO.ite ?_ ?_)
      | (with_reducible refine LeO.bind ?_ (fun _ => ?_))
      | exact ih0 _ _ _ _ _
      | exact ih1 _ _ _ _ _
      | exact ih2 _ _ _ _
      | exact laws_zzFits18.mono _ _
      | exact LeO.none _
      | refine LeO.ite ?_ ?_
      | refine LeO.bind ?_ (fun _ => ?_)
set_option maxHeartbeats 8000000 in
set_option maxRecDepth 100000 in
theorem laws_FnRegGet.calls (k : Nat) (A0 : Option Addr) (c0 : Nat) (l0 : List (S28)) (a1 : Int) (a2 : Int) (A3 : Option Addr) (c3 : Nat) (l3 : List Bool) (r : Bool) (w : World) (hr0 : Kd.C k28 w A0 l0.length l0) (hc0 : l0.length ≤ c0) (hr3 : Kd.C Kd.bool w A3 l3.length l3) (hc3 : l3.length ≤ c3) (hV : Go.Proofs.YtibjlefenodhaaaDoorFmt.VarsOK w) (h : laws_FnRegGet.f k l0 a1 a2 l3 = some r) :
    Calls Tryd.prog 3 #[.slice A0 l0.length c0, .int .u8 a1, .int .u8 a2, .slice A3 l3.length c3] w fun e w' => e = .returned (.bool r) ∧ Below w.heap.size w w' := by
  have HR0 := Aside0.mk hr0
  have HC0 := Aside0.mk hc0
  clear hr0 hc0
  have HR3 := Aside0.mk hr3
  have HC3 := Aside0.mk hc3
  clear hr3 hc3
  have HB := Aside0.mk (Below.refl w.heap.size w)
  have HV := Aside0.mk hV
  clear hV
  have H : ((laws_zzFits18.f k l0).bind fun t118 => (if t118 = true then (laws_FnRegGet.j0 k l0 a1 a2 l3 (decide ((l3.length : Int) > 2147483647))) else (laws_FnRegGet.j0 k l0 a1 a2 l3 true))) = some r := h
  clear h
  have HC5 := Aside0.mk H
  clear H
  go_enter Tryd.func3, Tryd.ntmps3
  go_upto_region 1 with (fail)
  go_cut [19] (fun v19 wc => ∃ (kq : Nat) (x19_4 : Bool), v19 = .bool x19_4 ∧ Aside0 (laws_FnRegGet.j0 kq l0 a1 a2 l3 x19_4 = some r) ∧ Aside0 (kq ≤ k) ∧ Aside0 (Below w.heap.size w wc))
  case first =>
    have H := HC5.out
    clear HC5
    replace H := Option.bind_eq_some_iff.mp H
    obtain ⟨t118, A60, H⟩ := H
    replace H : (if t118 = true then (laws_FnRegGet.j0 k l0 a1 a2 l3 (decide ((l3.length : Int) > 2147483647))) else (laws_FnRegGet.j0 k l0 a1 a2 l3 true)) = some r := H
    have A6 := Aside0.mk A60
    clear A60
    by_cases c7 : t118 = true
    · subst c7
      have H1 : (laws_FnRegGet.j0 k l0 a1 a2 l3 (decide ((l3.length : Int) > 2147483647))) = some r := by rw [if_pos rfl] at H; exact H
      clear H
      have H := H1
      clear H1
      have H' := Aside0.mk H
      clear H
      go_wp2_with (first | ((with_reducible refine gate_callee (f := 6) rfl ?_); refine goesL_ (some 13) rfl rfl Tryd.func6 (by kernel_rfl) rfl #[.slice A0 l0.length c0] rfl (by (try simp only [List.map_toArray, List.map_cons, List.map_nil]); first | done | rfl | (simp only [List.length_drop, List.length_take]; rfl)) ?_; (with_reducible refine (laws_zzFits18.calls k _ _ l0 true _ ?side1 ?side2 A6.out).mono ?_); (case side1 => repeat (first | exact (Kd.C_below HR0.out HB.out) | (with_reducible refine Kd.C_alloc ?_ _) | (with_reducible refine Kd.C_drewN ?_ _) | (with_reducible refine Kd.C_drew ?_))); (case side2 => exact HC0.out); rintro e w8 ⟨rfl, hb⟩; refine ⟨_, rfl, ?_⟩; have n0_ := Aside0.mk (below_step (by repeat (first | (with_reducible first | exact HB.out | apply below_alloc | apply pw_below_drewN | apply below_drew1) | exact HB.out)) hb); clear HB; have HB := n0_; clear n0_; (try clear hb); (try clear hb2); (try clear hk); (try clear hi)))
      go_meet
      case rel => exact ⟨_, (decide ((l3.length : Int) > 2147483647)), (by first | rfl | (simp; done) | (simp [*]; done)), H', ⟨by first | omega | exact Nat.le_refl _⟩, ⟨by repeat (first | (with_reducible first | exact HB.out | apply below_alloc | apply pw_below_drewN | apply below_drew1) | exact HB.out)⟩⟩
    · replace c7 := Bool.eq_false_iff.mpr c7
      subst c7
      have H1 : (laws_FnRegGet.j0 k l0 a1 a2 l3 true) = some r := by rw [if_neg (show ¬ (false = true) by decide)] at H; exact H
      clear H
      have H := H1
      clear H1
      have H' := Aside0.mk H
      clear H
      go_wp2_with (first | ((with_reducible refine gate_callee (f := 6) rfl ?_); refine goesL_ (some 13) rfl rfl Tryd.func6 (by kernel_rfl) rfl #[.slice A0 l0.length c0] rfl (by (try simp only [List.map_toArray, List.map_cons, List.map_nil]); first | done | rfl | (simp only [List.length_drop, List.length_take]; rfl)) ?_; (with_reducible refine (laws_zzFits18.calls k _ _ l0 false _ ?side1 ?side2 A6.out).mono ?_); (case side1 => repeat (first | exact (Kd.C_below HR0.out HB.out) | (with_reducible refine Kd.C_alloc ?_ _) | (with_reducible refine Kd.C_drewN ?_ _) | (with_reducible refine Kd.C_drew ?_))); (case side2 => exact HC0.out); rintro e w9 ⟨rfl, hb⟩; refine ⟨_, rfl, ?_⟩; have n0_ := Aside0.mk (below_step (by repeat (first | (with_reducible first | exact HB.out | apply below_alloc | apply pw_below_drewN | apply below_drew1) | exact HB.out)) hb); clear HB; have HB := n0_; clear n0_; (try clear hb); (try clear hb2); (try clear hk); (try clear hi)))
      go_meet
      case rel => exact ⟨_, (true), (by first | rfl | (simp; done) | (simp [*]; done)), H', ⟨by first | omega | exact Nat.le_refl _⟩, ⟨by repeat (first | (with_reducible first | exact HB.out | apply below_alloc | apply pw_below_drewN | apply below_drew1) | exact HB.out)⟩⟩
  case rest =>
    clear HC5
    try clear p2
    try clear c3
    try clear c6
    try clear c7
    obtain ⟨kq, x19_4, rfl, HA, HJ4, HB⟩ := hcut
    cases kq with
    | zero => exact absurd HA.out (by simp [laws_FnRegGet.j0])
    | succ kj4 =>
      have H := HA.out
      clear HA
      simp only [laws_FnRegGet.j0] at H
      by_cases c10 : x19_4 = true
      · subst c10
        have H1 : (some true) = some r := by rw [if_pos rfl] at H; exact H
        clear H
        have H := H1
        clear H1
        obtain rfl := Option.some.inj H
        go_wp2
        go_ret
        exact ⟨by first | rfl | (simp [errW_none, errW_some] <;> rfl) | (simp [*, errW_none, errW_some] <;> rfl), by repeat (first | (with_reducible first | exact HB.out | apply below_alloc | apply pw_below_drewN | apply below_drew1) | exact HB.out)⟩
      · replace c10 := Bool.eq_false_iff.mpr c10
        subst c10
        have H1 : ((laws_registered.f l0).bind fun t119 => (if t119 = true then (laws_FnRegGet.j1 kj4 l0 a1 a2 l3 ((l0.length : Int) == 0)) else (laws_FnRegGet.j1 kj4 l0 a1 a2 l3 true))) = some r := by rw [if_neg (show ¬ (false = true) by decide)] at H; exact H
        clear H
        have H := H1
        clear H1
        have HC11 := Aside0.mk H
        clear H
        go_upto_region 3 with (fail)
        go_cut [27] (fun v27 wc => ∃ (kq : Nat) (x27_10 : Bool), v27 = .bool x27_10 ∧ Aside0 (laws_FnRegGet.j1 kq l0 a1 a2 l3 x27_10 = some r) ∧ Aside0 (kq ≤ kj4) ∧ Aside0 (Below w.heap.size w wc))
        case first =>
          have H := HC11.out
          clear HC11
          replace H := Option.bind_eq_some_iff.mp H
          obtain ⟨t119, A120, H⟩ := H
          replace H : (if t119 = true then (laws_FnRegGet.j1 kj4 l0 a1 a2 l3 ((l0.length : Int) == 0)) else (laws_FnRegGet.j1 kj4 l0 a1 a2 l3 true)) = some r := H
          have A12 := Aside0.mk A120
          clear A120
          by_cases c13 : t119 = true
          · subst c13
            have H1 : (laws_FnRegGet.j1 kj4 l0 a1 a2 l3 ((l0.length : Int) == 0)) = some r := by rw [if_pos rfl] at H; exact H
            clear H
            have H := H1
            clear H1
            have H' := Aside0.mk H
            clear H
            go_wp2_with (first | ((with_reducible refine gate_callee (f := 7) rfl ?_); refine goesL_ (some 21) rfl rfl Tryd.func7 (by kernel_rfl) rfl #[.slice A0 l0.length c0] rfl (by (try simp only [List.map_toArray, List.map_cons, List.map_nil]); first | done | rfl | (simp only [List.length_drop, List.length_take]; rfl)) ?_; (with_reducible refine (laws_registered.calls _ _ l0 true _ ?side1 ?side2 A12.out).mono ?_); (case side1 => repeat (first | exact (Kd.C_below HR0.out HB.out) | (with_reducible refine Kd.C_alloc ?_ _) | (with_reducible refine Kd.C_drewN ?_ _) | (with_reducible refine Kd.C_drew ?_))); (case side2 => exact HC0.out); rintro e w14 ⟨rfl, hb⟩; refine ⟨_, rfl, ?_⟩; have n0_ := Aside0.mk (below_step (by repeat (first | (with_reducible first | exact HB.out | apply below_alloc | apply pw_below_drewN | apply below_drew1) | exact HB.out)) hb); clear HB; have HB := n0_; clear n0_; (try clear hb); (try clear hb2); (try clear hk); (try clear hi)))
            go_meet
            case rel => exact ⟨_, (((l0.length : Int) == 0)), (by first | rfl | (simp; done) | (simp [*]; done)), H', ⟨by have := HJ4.out; first | omega | exact Nat.le_refl _⟩, ⟨by repeat (first | (with_reducible first | exact HB.out | apply below_alloc | apply pw_below_drewN | apply below_drew1) | exact HB.out)⟩⟩
          · replace c13 := Bool.eq_false_iff.mpr c13
            subst c13
            have H1 : (laws_FnRegGet.j1 kj4 l0 a1 a2 l3 true) = some r := by rw [if_neg (show ¬ (false = true) by decide)] at H; exact H
            clear H
            have H := H1
            clear H1
            have H' := Aside0.mk H
            clear H
            go_wp2_with (first | ((with_reducible refine gate_callee (f := 7) rfl ?_); refine goesL_ (some 21) rfl rfl Tryd.func7 (by kernel_rfl) rfl #[.slice A0 l0.length c0] rfl (by (try simp only [List.map_toArray, List.map_cons, List.map_nil]); first | done | rfl | (simp only [List.length_drop, List.length_take]; rfl)) ?_; (with_reducible refine (laws_registered.calls _ _ l0 false _ ?side1 ?side2 A12.out).mono ?_); (case side1 => repeat (first | exact (Kd.C_below HR0.out HB.out) | (with_reducible refine Kd.C_alloc ?_ _) | (with_reducible refine Kd.C_drewN ?_ _) | (with_reducible refine Kd.C_drew ?_))); (case side2 => exact HC0.out); rintro e w15 ⟨rfl, hb⟩; refine ⟨_, rfl, ?_⟩; have n0_ := Aside0.mk (below_step (by repeat (first | (with_reducible first | exact HB.out | apply below_alloc | apply pw_below_drewN | apply below_drew1) | exact HB.out)) hb); clear HB; have HB := n0_; clear n0_; (try clear hb); (try clear hb2); (try clear hk); (try clear hi)))
            go_meet
            case rel => exact ⟨_, (true), (by first | rfl | (simp; done) | (simp [*]; done)), H', ⟨by have := HJ4.out; first | omega | exact Nat.le_refl _⟩, ⟨by repeat (first | (with_reducible first | exact HB.out | apply below_alloc | apply pw_below_drewN | apply below_drew1) | exact HB.out)⟩⟩
        case rest =>
          clear HC11
          try clear c1
          try clear p2
          try clear c3
          try clear c6
          try clear c7
          try clear c10
          try clear c13
          try clear p2
          obtain ⟨kq, x27_10, rfl, HA, HJ10, HB⟩ := hcut
          cases kq with
          | zero => exact absurd HA.out (by simp [laws_FnRegGet.j1])
          | succ kj10 =>
            have H := HA.out
            clear HA
            simp only [laws_FnRegGet.j1] at H
            by_cases c16 : x27_10 = true
            · subst c16
              have H1 : (some true) = some r := by rw [if_pos rfl] at H; exact H
              clear H
              have H := H1
              clear H1
              obtain rfl := Option.some.inj H
              go_wp2
              go_ret
              exact ⟨by first | rfl | (simp [errW_none, errW_some] <;> rfl) | (simp [*, errW_none, errW_some] <;> rfl), by repeat (first | (with_reducible first | exact HB.out | apply below_alloc | apply pw_below_drewN | apply below_drew1) | exact HB.out)⟩
            · replace c16 := Bool.eq_false_iff.mpr c16
              subst c16
              have H1 : (if (l0.length : Int) = 0 then (none) else (if 0 ≤ (Int.tmod (wrap64 (a1)) (l0.length : Int)) then (if (Int.tmod (wrap64 (a1)) (l0.length : Int)) < (l0.length : Int) then (if (wrap64 ((((rd_T28 l0 (Int.tmod (wrap64 (a1)) (l0.length : Int))).f1).length : Int) + 1)) = 0 then (none) else (if (Int.tmod (wrap64 (a2)) (wrap64 ((((rd_T28 l0 (Int.tmod (wrap64 (a1)) (l0.length : Int))).f1).length : Int) + 1))) > 0 then (if 0 ≤ (wrap64 ((Int.tmod (wrap64 (a2)) (wrap64 ((((rd_T28 l0 (Int.tmod (wrap64 (a1)) (l0.length : Int))).f1).length : Int) + 1))) - 1)) then (if (wrap64 ((Int.tmod (wrap64 (a2)) (wrap64 ((((rd_T28 l0 (Int.tmod (wrap64 (a1)) (l0.length : Int))).f1).length : Int) + 1))) - 1)) < (((rd_T28 l0 (Int.tmod (wrap64 (a1)) (l0.length : Int))).f1).length : Int) then (laws_FnRegGet.j2 kj10 l0 l3 (Int.tmod (wrap64 (a1)) (l0.length : Int)) (rdOf ByteArray.empty ((rd_T28 l0 (Int.tmod (wrap64 (a1)) (l0.length : Int))).f1) (wrap64 ((Int.tmod (wrap64 (a2)) (wrap64 ((((rd_T28 l0 (Int.tmod (wrap64 (a1)) (l0.length : Int))).f1).length : Int) + 1))) - 1)))) else (none)) else (none)) else (laws_FnRegGet.j2 kj10 l0 l3 (Int.tmod (wrap64 (a1)) (l0.length : Int)) ((rd_T28 l0 (Int.tmod (wrap64 (a1)) (l0.length : Int))).f0)))) else (none)) else (none))) = some r := by rw [if_neg (show ¬ (false = true) by decide)] at H; exact H
              clear H
              have H := H1
              clear H1
              by_cases c17 : (l0.length : Int) = 0
              · rw [if_pos c17] at H
                exact absurd H (by simp)
              · rw [if_neg c17] at H
                have c17b0 : ((l0.length : Int) == 0) = false := beq_eq_false_iff_ne.mpr c17
                have c17b1 : ((l0.length : Int) != 0) = true := bne_iff_ne.mpr c17
                have c17b2 : ¬ (l0 = []) := fun h_ => c17 (by rw [h_]; rfl)
                obtain ⟨ji18, hji18⟩ : ∃ j_ : Int, (Int.tmod (wrap64 (a1)) (l0.length : Int)) = j_ := ⟨_, rfl⟩
                replace H : (if 0 ≤ (ji18) then (if (ji18) < (l0.length : Int) then (if (wrap64 ((((rd_T28 l0 (ji18)).f1).length : Int) + 1)) = 0 then (none) else (if (Int.tmod (wrap64 (a2)) (wrap64 ((((rd_T28 l0 (ji18)).f1).length : Int) + 1))) > 0 then (if 0 ≤ (wrap64 ((Int.tmod (wrap64 (a2)) (wrap64 ((((rd_T28 l0 (ji18)).f1).length : Int) + 1))) - 1)) then (if (wrap64 ((Int.tmod (wrap64 (a2)) (wrap64 ((((rd_T28 l0 (ji18)).f1).length : Int) + 1))) - 1)) < (((rd_T28 l0 (ji18)).f1).length : Int) then (laws_FnRegGet.j2 kj10 l0 l3 ji18 (rdOf ByteArray.empty ((rd_T28 l0 (ji18)).f1) (wrap64 ((Int.tmod (wrap64 (a2)) (wrap64 ((((rd_T28 l0 (ji18)).f1).length : Int) + 1))) - 1)))) else (none)) else (none)) else (laws_FnRegGet.j2 kj10 l0 l3 ji18 ((rd_T28 l0 (ji18)).f0)))) else (none)) else (none)) = some r := by first | (rw [hji18] at H; exact H) | (simp only [hji18] at H ⊢; exact H)
                by_cases c19 : 0 ≤ (ji18)
                · rw [if_pos c19] at H
                  have c19b0 : decide (0 ≤ (ji18)) = true := decide_eq_true c19
                  clear c19
                  by_cases c20 : (ji18) < (l0.length : Int)
                  · rw [if_pos c20] at H
                    have c20b0 : decide ((ji18) < (l0.length : Int)) = true := decide_eq_true c20
                    clear c20
                    by_cases c21 : (wrap64 ((((rd_T28 l0 (ji18)).f1).length : Int) + 1)) = 0
                    · rw [if_pos c21] at H
                      exact absurd H (by simp)
                    · rw [if_neg c21] at H
                      have c21b0 : ((wrap64 ((((rd_T28 l0 (ji18)).f1).length : Int) + 1)) == 0) = false := beq_eq_false_iff_ne.mpr c21
                      have c21b1 : ((wrap64 ((((rd_T28 l0 (ji18)).f1).length : Int) + 1)) != 0) = true := bne_iff_ne.mpr c21
                      have HC22 := Aside0.mk H
                      clear H
                      have p120 : 0 ≤ ((ji18) : Int) := of_decide_eq_true (by first | (with_reducible assumption) | assumption)
                      have q120 : (ji18) < (l0.length : Int) := of_decide_eq_true (by first | (with_reducible assumption) | assumption)
                      obtain ⟨ad120, A120_1, c120_1, A120_2, c120_2, A120_3, c120_3, A120_4, c120_4, e120, hx120_0, hx120_1, hx120_2, hx120_3, hx120_4, hx120_5, hl120_1, hi120_1, hl120_2, hi120_2, hl120_3, hi120_3, hl120_4, hi120_4⟩ := at_T28 HR0.out (ji18) p120 q120
                      cases e120
                      replace hx120_0 := (HB.out.cell (World.block_lt_of_cell? w _ hx120_0)).trans hx120_0
                      replace hx120_1 := (HB.out.cell (World.block_lt_of_cell? w _ hx120_1)).trans hx120_1
                      replace hx120_2 := (HB.out.cell (World.block_lt_of_cell? w _ hx120_2)).trans hx120_2
                      replace hx120_3 := (HB.out.cell (World.block_lt_of_cell? w _ hx120_3)).trans hx120_3
                      replace hx120_4 := (HB.out.cell (World.block_lt_of_cell? w _ hx120_4)).trans hx120_4
                      replace hx120_5 := (HB.out.cell (World.block_lt_of_cell? w _ hx120_5)).trans hx120_5
                      have HR120_1 := Aside0.mk hi120_1
                      have HC120_1 := Aside0.mk hl120_1
                      clear hi120_1 hl120_1
                      have HR120_2 := Aside0.mk hi120_2
                      have HC120_2 := Aside0.mk hl120_2
                      clear hi120_2 hl120_2
                      have HR120_3 := Aside0.mk hi120_3
                      have HC120_3 := Aside0.mk hl120_3
                      clear hi120_3 hl120_3
                      have HR120_4 := Aside0.mk hi120_4
                      have HC120_4 := Aside0.mk hl120_4
                      clear hi120_4 hl120_4
                      replace p120 := eq_true p120
                      replace q120 := eq_true q120
                      have p121 : 0 ≤ ((ji18) : Int) := of_decide_eq_true (by first | (with_reducible assumption) | assumption)
                      have q121 : (ji18) < (l0.length : Int) := of_decide_eq_true (by first | (with_reducible assumption) | assumption)
                      obtain ⟨ad121, A121_1, c121_1, A121_2, c121_2, A121_3, c121_3, A121_4, c121_4, e121, hx121_0, hx121_1, hx121_2, hx121_3, hx121_4, hx121_5, hl121_1, hi121_1, hl121_2, hi121_2, hl121_3, hi121_3, hl121_4, hi121_4⟩ := at_T28 HR0.out (ji18) p121 q121
                      obtain rfl : ad120 = ad121 := (by injection e121)
                      replace hx121_0 := (HB.out.cell (World.block_lt_of_cell? w _ hx121_0)).trans hx121_0
                      replace hx121_1 := (HB.out.cell (World.block_lt_of_cell? w _ hx121_1)).trans hx121_1
                      replace hx121_2 := (HB.out.cell (World.block_lt_of_cell? w _ hx121_2)).trans hx121_2
                      replace hx121_3 := (HB.out.cell (World.block_lt_of_cell? w _ hx121_3)).trans hx121_3
                      replace hx121_4 := (HB.out.cell (World.block_lt_of_cell? w _ hx121_4)).trans hx121_4
                      replace hx121_5 := (HB.out.cell (World.block_lt_of_cell? w _ hx121_5)).trans hx121_5
                      have HR121_1 := Aside0.mk hi121_1
                      have HC121_1 := Aside0.mk hl121_1
                      clear hi121_1 hl121_1
                      have HR121_2 := Aside0.mk hi121_2
                      have HC121_2 := Aside0.mk hl121_2
                      clear hi121_2 hl121_2
                      have HR121_3 := Aside0.mk hi121_3
                      have HC121_3 := Aside0.mk hl121_3
                      clear hi121_3 hl121_3
                      have HR121_4 := Aside0.mk hi121_4
                      have HC121_4 := Aside0.mk hl121_4
                      clear hi121_4 hl121_4
                      replace p121 := eq_true p121
                      replace q121 := eq_true q121
                      have ea_ := Option.some.inj (hx120_1.symm.trans hx121_1)
                      injection ea_ with ea_ en_ ec_
                      subst ea_
                      subst ec_
                      clear en_
                      have ea_ := Option.some.inj (hx120_2.symm.trans hx121_2)
                      injection ea_ with ea_ en_ ec_
                      subst ea_
                      subst ec_
                      clear en_
                      have ea_ := Option.some.inj (hx120_3.symm.trans hx121_3)
                      injection ea_ with ea_ en_ ec_
                      subst ea_
                      subst ec_
                      clear en_
                      have ea_ := Option.some.inj (hx120_4.symm.trans hx121_4)
                      injection ea_ with ea_ en_ ec_
                      subst ea_
                      subst ec_
                      clear en_
                      go_upto_if 49 with (fail)
                      go_cut [10] (fun v10 wc => ∃ (kq : Nat) (x10_21 : ByteArray), v10 = .string x10_21 ∧ Aside0 (laws_FnRegGet.j2 kq l0 l3 ji18 x10_21 = some r) ∧ Aside0 (kq ≤ kj10) ∧ Aside0 (Below w.heap.size w wc))
                      case first =>
                        have H := HC22.out
                        clear HC22
                        by_cases c23 : (Int.tmod (wrap64 (a2)) (wrap64 ((((rd_T28 l0 (ji18)).f1).length : Int) + 1))) > 0
                        · rw [if_pos c23] at H
                          have c23b0 : decide (0 < (Int.tmod (wrap64 (a2)) (wrap64 ((((rd_T28 l0 (ji18)).f1).length : Int) + 1)))) = true := decide_eq_true c23
                          clear c23
                          (try (have c23b2 := c23b0; simp only [ByteArray.size_extract, Nat.min_self] at c23b2)); (first | rw [c23b0] | (simp only [i64_w, i32_w]; rw [c23b0]) | rw [c23b1] | skip)
                          obtain ⟨ji24, hji24⟩ : ∃ j_ : Int, (wrap64 ((Int.tmod (wrap64 (a2)) (wrap64 ((((rd_T28 l0 (ji18)).f1).length : Int) + 1))) - 1)) = j_ := ⟨_, rfl⟩
                          replace H : (if 0 ≤ (ji24) then (if (ji24) < (((rd_T28 l0 (ji18)).f1).length : Int) then (laws_FnRegGet.j2 kj10 l0 l3 ji18 (rdOf ByteArray.empty ((rd_T28 l0 (ji18)).f1) (ji24))) else (none)) else (none)) = some r := by first | (rw [hji24] at H; exact H) | (simp only [hji24] at H ⊢; exact H)
                          have hji24w : (IntKind.i64.wrap ((Int.tmod (wrap64 (a2)) (wrap64 ((((rd_T28 l0 (ji18)).f1).length : Int) + 1))) - 1)) = ji24 := (i64_w _).trans hji24
                          by_cases c25 : 0 ≤ (ji24)
                          · rw [if_pos c25] at H
                            have c25b0 : decide (0 ≤ (ji24)) = true := decide_eq_true c25
                            clear c25
                            by_cases c26 : (ji24) < (((rd_T28 l0 (ji18)).f1).length : Int)
                            · rw [if_pos c26] at H
                              have c26b0 : decide ((ji24) < (((rd_T28 l0 (ji18)).f1).length : Int)) = true := decide_eq_true c26
                              clear c26
                              have H' := Aside0.mk H
                              clear H
                              have p122 : 0 ≤ ((ji18) : Int) := of_decide_eq_true (by first | (with_reducible assumption) | assumption)
                              have q122 : (ji18) < (l0.length : Int) := of_decide_eq_true (by first | (with_reducible assumption) | assumption)
                              obtain ⟨ad122, A122_1, c122_1, A122_2, c122_2, A122_3, c122_3, A122_4, c122_4, e122, hx122_0, hx122_1, hx122_2, hx122_3, hx122_4, hx122_5, hl122_1, hi122_1, hl122_2, hi122_2, hl122_3, hi122_3, hl122_4, hi122_4⟩ := at_T28 HR0.out (ji18) p122 q122
                              obtain rfl : ad120 = ad122 := (by injection e122)
                              replace hx122_0 := (HB.out.cell (World.block_lt_of_cell? w _ hx122_0)).trans hx122_0
                              replace hx122_1 := (HB.out.cell (World.block_lt_of_cell? w _ hx122_1)).trans hx122_1
                              replace hx122_2 := (HB.out.cell (World.block_lt_of_cell? w _ hx122_2)).trans hx122_2
                              replace hx122_3 := (HB.out.cell (World.block_lt_of_cell? w _ hx122_3)).trans hx122_3
                              replace hx122_4 := (HB.out.cell (World.block_lt_of_cell? w _ hx122_4)).trans hx122_4
                              replace hx122_5 := (HB.out.cell (World.block_lt_of_cell? w _ hx122_5)).trans hx122_5
                              have HR122_1 := Aside0.mk hi122_1
                              have HC122_1 := Aside0.mk hl122_1
                              clear hi122_1 hl122_1
                              have HR122_2 := Aside0.mk hi122_2
                              have HC122_2 := Aside0.mk hl122_2
                              clear hi122_2 hl122_2
                              have HR122_3 := Aside0.mk hi122_3
                              have HC122_3 := Aside0.mk hl122_3
                              clear hi122_3 hl122_3
                              have HR122_4 := Aside0.mk hi122_4
                              have HC122_4 := Aside0.mk hl122_4
                              clear hi122_4 hl122_4
                              replace p122 := eq_true p122
                              replace q122 := eq_true q122
                              have ea_ := Option.some.inj (hx120_1.symm.trans hx122_1)
                              injection ea_ with ea_ en_ ec_
                              subst ea_
                              subst ec_
                              clear en_
                              have ea_ := Option.some.inj (hx120_2.symm.trans hx122_2)
                              injection ea_ with ea_ en_ ec_
                              subst ea_
                              subst ec_
                              clear en_
                              have ea_ := Option.some.inj (hx120_3.symm.trans hx122_3)
                              injection ea_ with ea_ en_ ec_
                              subst ea_
                              subst ec_
                              clear en_
                              have ea_ := Option.some.inj (hx120_4.symm.trans hx122_4)
                              injection ea_ with ea_ en_ ec_
                              subst ea_
                              subst ec_
                              clear en_
                              have p123 : 0 ≤ ((ji24) : Int) := of_decide_eq_true (by first | (with_reducible assumption) | assumption)
                              have q123 : (ji24) < (((rd_T28 l0 (ji18)).f1).length : Int) := of_decide_eq_true (by first | (with_reducible assumption) | assumption)
                              obtain ⟨ad123, e123, hx123_0⟩ := Kd.at_string HR122_1.out (ji24) p123 q123
                              cases e123
                              replace hx123_0 := (HB.out.cell (World.block_lt_of_cell? w _ hx123_0)).trans hx123_0
                              replace p123 := eq_true p123
                              replace q123 := eq_true q123
                              go_wp2
                              go_meet
                              case rel => exact ⟨_, (rdOf ByteArray.empty ((rd_T28 l0 (ji18)).f1) (ji24)), (by first | rfl | (simp; done) | (simp only [← hji18, ← hji24] <;> (first | rfl | simp)) | (simp [*]; done)), H', ⟨by have := HJ4.out; have := HJ10.out; first | omega | exact Nat.le_refl _⟩, ⟨by repeat (first | (with_reducible first | exact HB.out | apply below_alloc | apply pw_below_drewN | apply below_drew1) | exact HB.out)⟩⟩
                            · rw [if_neg c26] at H
                              exact absurd H (by simp)
                          · rw [if_neg c25] at H
                            exact absurd H (by simp)
                        · rw [if_neg c23] at H
                          have c23b0 : decide (0 < (Int.tmod (wrap64 (a2)) (wrap64 ((((rd_T28 l0 (ji18)).f1).length : Int) + 1)))) = false := decide_eq_false c23
                          clear c23
                          (try (have c23b2 := c23b0; simp only [ByteArray.size_extract, Nat.min_self] at c23b2)); (first | rw [c23b0] | (simp only [i64_w, i32_w]; rw [c23b0]) | rw [c23b1] | skip)
                          have H' := Aside0.mk H
                          clear H
                          go_wp2
                          go_meet
                          case rel => exact ⟨_, ((rd_T28 l0 (ji18)).f0), (by first | rfl | (simp; done) | (simp only [← hji18] <;> (first | rfl | simp)) | (simp [*]; done)), H', ⟨by have := HJ4.out; have := HJ10.out; first | omega | exact Nat.le_refl _⟩, ⟨by repeat (first | (with_reducible first | exact HB.out | apply below_alloc | apply pw_below_drewN | apply below_drew1) | exact HB.out)⟩⟩
                      case rest =>
                        clear HC22
                        try clear c1
                        try clear p1
                        try clear q1
                        try clear hx1
                        try clear c2
                        try clear p2
                        try clear c3
                        try clear c6
                        try clear p6
                        try clear c7
                        try clear c10
                        try clear c12
                        try clear p12
                        try clear q12
                        try clear hx12
                        try clear c13
                        try clear c16
                        try clear c17
                        try clear c17b0
                        try clear c17b1
                        try clear c17b2
                        try clear c19
                        try clear c19b0
                        try clear c20
                        try clear c20b0
                        try clear c21
                        try clear c21b0
                        try clear c21b1
                        try clear c23
                        try clear c23b0
                        try clear c23b1
                        try clear c23b2
                        try clear c25
                        try clear c25b0
                        try clear c26
                        try clear c26b0
                        try clear hx120_0
                        try clear hx120_1
                        try clear hx120_2
                        try clear hx120_3
                        try clear hx120_4
                        try clear hx120_5
                        try clear hx121_0
                        try clear hx121_1
                        try clear hx121_2
                        try clear hx121_3
                        try clear hx121_4
                        try clear hx121_5
                        try clear hx122_0
                        try clear hx122_1
                        try clear hx122_2
                        try clear hx122_3
                        try clear hx122_4
                        try clear hx122_5
                        try clear hx123_0
                        try clear p120
                        try clear p121
                        try clear p122
                        try clear p123
                        try clear p2
                        try clear q120
                        try clear q121
                        try clear q122
                        try clear q123
                        obtain ⟨kq, x10_21, rfl, HA, HJ21, HB⟩ := hcut
                        cases kq with
                        | zero => exact absurd HA.out (by simp [laws_FnRegGet.j2])
                        | succ kj21 =>
                          have H := HA.out
                          clear HA
                          simp only [laws_FnRegGet.j2] at H
                          replace H := Option.bind_eq_some_iff.mp H
                          obtain ⟨t124, A270, H⟩ := H
                          replace H : (if t124 = ji18 then ((laws_turned.f x10_21 l3).bind fun t125 => ((impl_RegGet.f l0 t125).bind fun t126 => (if t126 = ji18 then ((laws_found.f).bind fun t127 => (some t127)) else (some false)))) else (some false)) = some r := H
                          have A27 := Aside0.mk A270
                          clear A270
                          by_cases c28 : t124 = ji18
                          · rw [if_pos c28] at H
                            have c28b0 : (t124 == ji18) = true := beq_iff_eq.mpr c28
                            have c28b1 : (t124 != ji18) = false := bne_eq_false_iff_eq.mpr c28
                            clear c28
                            replace H := Option.bind_eq_some_iff.mp H
                            obtain ⟨t125, A290, H⟩ := H
                            replace H : ((impl_RegGet.f l0 t125).bind fun t126 => (if t126 = ji18 then ((laws_found.f).bind fun t127 => (some t127)) else (some false))) = some r := H
                            have A29 := Aside0.mk A290
                            clear A290
                            replace H := Option.bind_eq_some_iff.mp H
                            obtain ⟨t126, A300, H⟩ := H
                            replace H : (if t126 = ji18 then ((laws_found.f).bind fun t127 => (some t127)) else (some false)) = some r := H
                            have A30 := Aside0.mk A300
                            clear A300
                            by_cases c31 : t126 = ji18
                            · rw [if_pos c31] at H
                              have c31b0 : (t126 == ji18) = true := beq_iff_eq.mpr c31
                              have c31b1 : (t126 != ji18) = false := bne_eq_false_iff_eq.mpr c31
                              clear c31
                              replace H := Option.bind_eq_some_iff.mp H
                              obtain ⟨t127, A320, H⟩ := H
                              replace H : (some t127) = some r := H
                              have A32 := Aside0.mk A320
                              clear A320
                              obtain rfl := Option.some.inj H
                              go_wp2_with (first | ((with_reducible refine gate_callee (f := 8) rfl ?_); refine goesL_ (some 61) rfl rfl Tryd.func8 (by kernel_rfl) rfl #[.slice (some ad120) l0.length c0, .string x10_21] rfl (by (try simp only [List.map_toArray, List.map_cons, List.map_nil]); first | done | rfl | (simp only [List.length_drop, List.length_take]; rfl)) ?_; (with_reducible refine (impl_RegGet.calls _ _ l0 x10_21 t124 _ ?side1 ?side2 ?side3 A27.out).mono ?_); (case side1 => repeat (first | exact (Kd.C_below HR0.out HB.out) | (with_reducible refine Kd.C_alloc ?_ _) | (with_reducible refine Kd.C_drewN ?_ _) | (with_reducible refine Kd.C_drew ?_))); (case side2 => exact HC0.out); (case side3 => exact Go.Proofs.YtibjlefenodhaaaDoorFmt.VarsOK.below HV.out (by repeat (first | (with_reducible first | exact HB.out | apply below_alloc | apply pw_below_drewN | apply below_drew1) | exact HB.out))); rintro e w33 ⟨rfl, hb⟩; refine ⟨_, rfl, ?_⟩; have n0_ := Aside0.mk (below_step (by repeat (first | (with_reducible first | exact HB.out | apply below_alloc | apply pw_below_drewN | apply below_drew1) | exact HB.out)) hb); clear HB; have HB := n0_; clear n0_; (try clear hb); (try clear hb2); (try clear hk); (try clear hi)) | (go_at_call 9; (with_reducible refine (laws_turned.calls x10_21 _ _ l3 t125 _ ?side1 ?side2 A29.out).mono ?_); (case side1 => repeat (first | exact (Kd.C_below HR3.out HB.out) | (with_reducible refine Kd.C_alloc ?_ _) | (with_reducible refine Kd.C_drewN ?_ _) | (with_reducible refine Kd.C_drew ?_))); (case side2 => exact HC3.out); rintro e w34 ⟨rfl, hb⟩; have n0_ := Aside0.mk (below_step (by repeat (first | (with_reducible first | exact HB.out | apply below_alloc | apply pw_below_drewN | apply below_drew1) | exact HB.out)) hb); clear HB; have HB := n0_; clear n0_; (try clear hb); (try clear hb2); (try clear hk); (try clear hi)) | (go_at_call 8; (with_reducible refine (impl_RegGet.calls _ _ l0 t125 t126 _ ?side1 ?side2 ?side3 A30.out).mono ?_); (case side1 => repeat (first | exact (Kd.C_below HR0.out HB.out) | (with_reducible refine Kd.C_alloc ?_ _) | (with_reducible refine Kd.C_drewN ?_ _) | (with_reducible refine Kd.C_drew ?_))); (case side2 => exact HC0.out); (case side3 => exact Go.Proofs.YtibjlefenodhaaaDoorFmt.VarsOK.below HV.out (by repeat (first | (with_reducible first | exact HB.out | apply below_alloc | apply pw_below_drewN | apply below_drew1) | exact HB.out))); rintro e w35 ⟨rfl, hb⟩; have n0_ := Aside0.mk (below_step (by repeat (first | (with_reducible first | exact HB.out | apply below_alloc | apply pw_below_drewN | apply below_drew1) | exact HB.out)) hb); clear HB; have HB := n0_; clear n0_; (try clear hb); (try clear hb2); (try clear hk); (try clear hi)) | (go_at_call 10; (with_reducible refine (laws_found.calls  t127 _ ?side1 A32.out).mono ?_); (case side1 => exact Go.Proofs.YtibjlefenodhaaaDoorFmt.VarsOK.below HV.out (by repeat (first | (with_reducible first | exact HB.out | apply below_alloc | apply pw_below_drewN | apply below_drew1) | exact HB.out))); rintro e w36 ⟨rfl, hb⟩; have n0_ := Aside0.mk (below_step (by repeat (first | (with_reducible first | exact HB.out | apply below_alloc | apply pw_below_drewN | apply below_drew1) | exact HB.out)) hb); clear HB; have HB := n0_; clear n0_; (try clear hb); (try clear hb2); (try clear hk); (try clear hi)))
                              go_ret
                              exact ⟨by first | rfl | (simp [errW_none, errW_some] <;> rfl) | (simp only [← hji18]; first | rfl | (simp [errW_none, errW_some] <;> rfl)) | (simp [*, errW_none, errW_some] <;> rfl), by repeat (first | (with_reducible first | exact HB.out | apply below_alloc | apply pw_below_drewN | apply below_drew1) | exact HB.out)⟩
                            · rw [if_neg c31] at H
                              have c31b0 : (t126 == ji18) = false := beq_eq_false_iff_ne.mpr c31
                              have c31b1 : (t126 != ji18) = true := bne_iff_ne.mpr c31
                              obtain rfl := Option.some.inj H
                              go_wp2_with (first | ((with_reducible refine gate_callee (f := 8) rfl ?_); refine goesL_ (some 61) rfl rfl Tryd.func8 (by kernel_rfl) rfl #[.slice (some ad120) l0.length c0, .string x10_21] rfl (by (try simp only [List.map_toArray, List.map_cons, List.map_nil]); first | done | rfl | (simp only [List.length_drop, List.length_take]; rfl)) ?_; (with_reducible refine (impl_RegGet.calls _ _ l0 x10_21 t124 _ ?side1 ?side2 ?side3 A27.out).mono ?_); (case side1 => repeat (first | exact (Kd.C_below HR0.out HB.out) | (with_reducible refine Kd.C_alloc ?_ _) | (with_reducible refine Kd.C_drewN ?_ _) | (with_reducible refine Kd.C_drew ?_))); (case side2 => exact HC0.out); (case side3 => exact Go.Proofs.YtibjlefenodhaaaDoorFmt.VarsOK.below HV.out (by repeat (first | (with_reducible first | exact HB.out | apply below_alloc | apply pw_below_drewN | apply below_drew1) | exact HB.out))); rintro e w37 ⟨rfl, hb⟩; refine ⟨_, rfl, ?_⟩; have n0_ := Aside0.mk (below_step (by repeat (first | (with_reducible first | exact HB.out | apply below_alloc | apply pw_below_drewN | apply below_drew1) | exact HB.out)) hb); clear HB; have HB := n0_; clear n0_; (try clear hb); (try clear hb2); (try clear hk); (try clear hi)) | (go_at_call 9; (with_reducible refine (laws_turned.calls x10_21 _ _ l3 t125 _ ?side1 ?side2 A29.out).mono ?_); (case side1 => repeat (first | exact (Kd.C_below HR3.out HB.out) | (with_reducible refine Kd.C_alloc ?_ _) | (with_reducible refine Kd.C_drewN ?_ _) | (with_reducible refine Kd.C_drew ?_))); (case side2 => exact HC3.out); rintro e w38 ⟨rfl, hb⟩; have n0_ := Aside0.mk (below_step (by repeat (first | (with_reducible first | exact HB.out | apply below_alloc | apply pw_below_drewN | apply below_drew1) | exact HB.out)) hb); clear HB; have HB := n0_; clear n0_; (try clear hb); (try clear hb2); (try clear hk); (try clear hi)) | (go_at_call 8; (with_reducible refine (impl_RegGet.calls _ _ l0 t125 t126 _ ?side1 ?side2 ?side3 A30.out).mono ?_); (case side1 => repeat (first | exact (Kd.C_below HR0.out HB.out) | (with_reducible refine Kd.C_alloc ?_ _) | (with_reducible refine Kd.C_drewN ?_ _) | (with_reducible refine Kd.C_drew ?_))); (case side2 => exact HC0.out); (case side3 => exact Go.Proofs.YtibjlefenodhaaaDoorFmt.VarsOK.below HV.out (by repeat (first | (with_reducible first | exact HB.out | apply below_alloc | apply pw_below_drewN | apply below_drew1) | exact HB.out))); rintro e w39 ⟨rfl, hb⟩; have n0_ := Aside0.mk (below_step (by repeat (first | (with_reducible first | exact HB.out | apply below_alloc | apply pw_below_drewN | apply below_drew1) | exact HB.out)) hb); clear HB; have HB := n0_; clear n0_; (try clear hb); (try clear hb2); (try clear hk); (try clear hi)))
                              go_ret
                              exact ⟨by first | rfl | (simp [errW_none, errW_some] <;> rfl) | (simp only [← hji18]; first | rfl | (simp [errW_none, errW_some] <;> rfl)) | (simp [*, errW_none, errW_some] <;> rfl), by repeat (first | (with_reducible first | exact HB.out | apply below_alloc | apply pw_below_drewN | apply below_drew1) | exact HB.out)⟩
                          · rw [if_neg c28] at H
                            have c28b0 : (t124 == ji18) = false := beq_eq_false_iff_ne.mpr c28
                            have c28b1 : (t124 != ji18) = true := bne_iff_ne.mpr c28
                            obtain rfl := Option.some.inj H
                            go_wp2_with (first | ((with_reducible refine gate_callee (f := 8) rfl ?_); refine goesL_ (some 61) rfl rfl Tryd.func8 (by kernel_rfl) rfl #[.slice (some ad120) l0.length c0, .string x10_21] rfl (by (try simp only [List.map_toArray, List.map_cons, List.map_nil]); first | done | rfl | (simp only [List.length_drop, List.length_take]; rfl)) ?_; (with_reducible refine (impl_RegGet.calls _ _ l0 x10_21 t124 _ ?side1 ?side2 ?side3 A27.out).mono ?_); (case side1 => repeat (first | exact (Kd.C_below HR0.out HB.out) | (with_reducible refine Kd.C_alloc ?_ _) | (with_reducible refine Kd.C_drewN ?_ _) | (with_reducible refine Kd.C_drew ?_))); (case side2 => exact HC0.out); (case side3 => exact Go.Proofs.YtibjlefenodhaaaDoorFmt.VarsOK.below HV.out (by repeat (first | (with_reducible first | exact HB.out | apply below_alloc | apply pw_below_drewN | apply below_drew1) | exact HB.out))); rintro e w40 ⟨rfl, hb⟩; refine ⟨_, rfl, ?_⟩; have n0_ := Aside0.mk (below_step (by repeat (first | (with_reducible first | exact HB.out | apply below_alloc | apply pw_below_drewN | apply below_drew1) | exact HB.out)) hb); clear HB; have HB := n0_; clear n0_; (try clear hb); (try clear hb2); (try clear hk); (try clear hi)))
                            go_ret
                            exact ⟨by first | rfl | (simp [errW_none, errW_some] <;> rfl) | (simp only [← hji18]; first | rfl | (simp [errW_none, errW_some] <;> rfl)) | (simp [*, errW_none, errW_some] <;> rfl), by repeat (first | (with_reducible first | exact HB.out | apply below_alloc | apply pw_below_drewN | apply below_drew1) | exact HB.out)⟩
                  · rw [if_neg c20] at H
                    exact absurd H (by simp)
                · rw [if_neg c19] at H
                  exact absurd H (by simp)
def wf_S28 (x : S28) : Prop := (x.f0.size ≤ maxLen) ∧ (x.f1.length ≤ 9223372036854775807 ∧ ∀ y ∈ x.f1, y.size ≤ maxLen) ∧ (x.f2.length ≤ 9223372036854775807 ∧ ∀ y ∈ x.f2, y.size ≤ maxLen) ∧ (x.f3.length ≤ 9223372036854775807 ∧ ∀ y ∈ x.f3, y.size ≤ maxLen) ∧ (x.f4.length ≤ 9223372036854775807 ∧ ∀ y ∈ x.f4, y.size ≤ maxLen) ∧ (IntKind.u64.min ≤ x.f5 ∧ x.f5 ≤ IntKind.u64.max)
def laws_FnRegGet.Pure : Prop := ∀ (l0 : List (S28)) (a1 : Int) (a2 : Int) (l3 : List Bool), (l0.length ≤ 9223372036854775807 ∧ ∀ x ∈ l0, wf_S28 x) → (Lit.int .u8 a1).wf = true → (Lit.int .u8 a2).wf = true → (l3.length ≤ 9223372036854775807 ∧ ∀ x ∈ l3, True) → ∃ k, laws_FnRegGet.f k l0 a1 a2 l3 = some true

/-! ### laws_sameNames: function 11 -/
def laws_sameNames.l0 : Nat → List ByteArray → List ByteArray → Int → Int → Option (Bool)
  | 0, _, _, _, _ => none
  | k + 1, x0, x1, x12, x13 => if x13 < x12 then (if 0 ≤ x13 then (if x13 < (x0.length : Int) then (if x13 < (x1.length : Int) then (if (rdOf ByteArray.empty x0 x13).toList = (rdOf ByteArray.empty x1 x13).toList then (laws_sameNames.l0 k x0 x1 x12 (wrap64 (x13 + 1))) else (some false)) else (none)) else (none)) else (none)) else (some true)
def laws_sameNames.f (k : Nat) (l0 : List ByteArray) (l1 : List ByteArray) : Option (Bool) := if (l0.length : Int) = (l1.length : Int) then (laws_sameNames.l0 k l0 l1 (l0.length : Int) 0) else (some false)
theorem laws_sameNames.mono_l : ∀ k, (∀ y0 y1 y2 y3, LeO (laws_sameNames.l0 k y0 y1 y2 y3) (laws_sameNames.l0 (k + 1) y0 y1 y2 y3))
  | 0 => fun _ _ _ _ r h => by simp [laws_sameNames.l0] at h
  | k + 1 => by
    have ih0 := laws_sameNames.mono_l k
    · intro y0 y1 y2 y3
      unfold laws_sameNames.l0
      repeat' first
      | (with_reducible exact ih0 _ _ _ _)
      | (with_reducible exact LeO.refl _)
      | (with_reducible exact LeO.none _)
      | (with_reducible refine LeO.ite ?_ ?_)
      | (with_reducible refine LeO.bind ?_ (fun _ => ?_))
      | exact ih0 _ _ _ _
      | exact LeO.none _
      | refine LeO.ite ?_ ?_
      | refine LeO.bind ?_ (fun _ => ?_)
theorem laws_sameNames.mono : ∀ a0 a1 k, LeO (laws_sameNames.f k a0 a1) (laws_sameNames.f (k + 1) a0 a1) := by
  intro a0 a1 k
  have ih0 := laws_sameNames.mono_l k
  unfold laws_sameNames.f
  repeat' first
      | (with_reducible exact ih0 _ _ _ _)
      | (with_reducible exact LeO.refl _)
      | (with_reducible exact LeO.none _)
      | (with_reducible refine LeO.ite ?_ ?_)
      | (with_reducible refine LeO.bind ?_ (fun _ => ?_))
      | exact ih0 _ _ _ _
      | exact LeO.none _
      | refine LeO.ite ?_ ?_
      | refine LeO.bind ?_ (fun _ => ?_)
set_option maxHeartbeats 8000000 in
set_option maxRecDepth 100000 in
theorem laws_sameNames.calls (k : Nat) (A0 : Option Addr) (c0 : Nat) (l0 : List ByteArray) (A1 : Option Addr) (c1 : Nat) (l1 : List ByteArray) (r : Bool) (w : World) (hr0 : Kd.C Kd.string w A0 l0.length l0) (hc0 : l0.length ≤ c0) (hr1 : Kd.C Kd.string w A1 l1.length l1) (hc1 : l1.length ≤ c1) (h : laws_sameNames.f k l0 l1 = some r) :
    Calls Tryd.prog 11 #[.slice A0 l0.length c0, .slice A1 l1.length c1] w fun e w' => e = .returned (.bool r) ∧ Drawn0 w w' := by
  have HR0 := Aside0.mk hr0
  have HC0 := Aside0.mk hc0
  clear hr0 hc0
  have HR1 := Aside0.mk hr1
  have HC1 := Aside0.mk hc1
  clear hr1 hc1
  have H : (if (l0.length : Int) = (l1.length : Int) then (laws_sameNames.l0 k l0 l1 (l0.length : Int) 0) else (some false)) = some r := h
  clear h
  by_cases c3 : (l0.length : Int) = (l1.length : Int)
  · rw [if_pos c3] at H
    have c3b0 : ((l0.length : Int) == (l1.length : Int)) = true := beq_iff_eq.mpr c3
    have c3b1 : ((l0.length : Int) != (l1.length : Int)) = false := bne_eq_false_iff_eq.mpr c3
    have c3b2 : (l0.length == l1.length) = true := by first | simpa using c3 | (simp at c3 ⊢; omega)
    clear c3
    have H' := Aside0.mk H
    clear H
    go_enter Tryd.func11, Tryd.ntmps11
    go_wp2
    repeat (go_quiet (fail); try go_wp2)
    go_loopg [13] k (fun kq v13 w' => ∃ (x13_1 : Int), v13 = .int .i64 x13_1 ∧ Aside0 (laws_sameNames.l0 kq l0 l1 (l0.length : Int) x13_1 = some r) ∧ Aside0 (kq ≤ k) ∧ Drawn0 w w')
    case atStart => exact ⟨(0), (by first | rfl | (simp; done) | (simp [*]; done)), H', ⟨Nat.le_refl _⟩, by repeat (first | exact Drawn0.refl _ | apply Drawn0.step)⟩
    case round =>
      clear H'
      try clear c1
      try clear p2
      try clear c3
      try clear c3b0
      try clear c3b1
      try clear c3b2
      obtain ⟨x13_1, rfl, HA, HK1, ⟨m1, rfl⟩⟩ := hrel
      cases gk with
      | zero => exact absurd HA.out (by simp [laws_sameNames.l0])
      | succ k1 =>
        have H := HA.out
        clear HA
        simp only [laws_sameNames.l0] at H
        by_cases c4 : x13_1 < (l0.length : Int)
        · rw [if_pos c4] at H
          have c4b0 : decide (x13_1 < (l0.length : Int)) = true := decide_eq_true c4
          clear c4
          by_cases c5 : 0 ≤ x13_1
          · rw [if_pos c5] at H
            have c5b0 : decide (0 ≤ x13_1) = true := decide_eq_true c5
            clear c5
            by_cases c6 : x13_1 < (l0.length : Int)
            · rw [if_pos c6] at H
              have c6b0 : decide (x13_1 < (l0.length : Int)) = true := decide_eq_true c6
              clear c6
              by_cases c7 : x13_1 < (l1.length : Int)
              · rw [if_pos c7] at H
                have c7b0 : decide (x13_1 < (l1.length : Int)) = true := decide_eq_true c7
                clear c7
                by_cases c8 : (rdOf ByteArray.empty l0 x13_1).toList = (rdOf ByteArray.empty l1 x13_1).toList
                · rw [if_pos c8] at H
                  have c8b0 : ((rdOf ByteArray.empty l0 x13_1).toList == (rdOf ByteArray.empty l1 x13_1).toList) = true := beq_iff_eq.mpr c8
                  have c8b1 : ((rdOf ByteArray.empty l0 x13_1).toList != (rdOf ByteArray.empty l1 x13_1).toList) = false := bne_eq_false_iff_eq.mpr c8
                  clear c8
                  have H' := Aside0.mk H
                  clear H
                  have p128 : 0 ≤ (x13_1 : Int) := of_decide_eq_true (by first | (with_reducible assumption) | assumption)
                  have q128 : x13_1 < (l0.length : Int) := of_decide_eq_true (by first | (with_reducible assumption) | assumption)
                  obtain ⟨ad128, e128, hx128_0⟩ := Kd.at_string HR0.out x13_1 p128 q128
                  cases e128
                  replace p128 := eq_true p128
                  replace q128 := eq_true q128
                  have p129 : 0 ≤ (x13_1 : Int) := of_decide_eq_true (by first | (with_reducible assumption) | assumption)
                  have q129 : x13_1 < (l1.length : Int) := of_decide_eq_true (by first | (with_reducible assumption) | assumption)
                  obtain ⟨ad129, e129, hx129_0⟩ := Kd.at_string HR1.out x13_1 p129 q129
                  cases e129
                  replace p129 := eq_true p129
                  replace q129 := eq_true q129
                  go_wp2
                  repeat (go_quiet (fail); try go_wp2)
                  go_roundg k1
                  case measure => have := HK1.out; omega
                  case rel => exact ⟨(wrap64 (x13_1 + 1)), (by first | rfl | (simp; done) | (simp [*]; done)), H', ⟨by have := HK1.out; omega⟩, by repeat (first | exact Drawn0.refl _ | apply Drawn0.step)⟩
                · rw [if_neg c8] at H
                  have c8b0 : ((rdOf ByteArray.empty l0 x13_1).toList == (rdOf ByteArray.empty l1 x13_1).toList) = false := beq_eq_false_iff_ne.mpr c8
                  have c8b1 : ((rdOf ByteArray.empty l0 x13_1).toList != (rdOf ByteArray.empty l1 x13_1).toList) = true := bne_iff_ne.mpr c8
                  obtain rfl := Option.some.inj H
                  have p128 : 0 ≤ (x13_1 : Int) := of_decide_eq_true (by first | (with_reducible assumption) | assumption)
                  have q128 : x13_1 < (l0.length : Int) := of_decide_eq_true (by first | (with_reducible assumption) | assumption)
                  obtain ⟨ad128, e128, hx128_0⟩ := Kd.at_string HR0.out x13_1 p128 q128
                  cases e128
                  replace p128 := eq_true p128
                  replace q128 := eq_true q128
                  have p129 : 0 ≤ (x13_1 : Int) := of_decide_eq_true (by first | (with_reducible assumption) | assumption)
                  have q129 : x13_1 < (l1.length : Int) := of_decide_eq_true (by first | (with_reducible assumption) | assumption)
                  obtain ⟨ad129, e129, hx129_0⟩ := Kd.at_string HR1.out x13_1 p129 q129
                  cases e129
                  replace p129 := eq_true p129
                  replace q129 := eq_true q129
                  go_wp2
                  repeat (go_quiet (fail); try go_wp2)
                  go_ret
                  exact ⟨by first | rfl | (simp; done) | (simp [*]; done), by repeat (first | exact Drawn0.refl _ | apply Drawn0.step)⟩
              · rw [if_neg c7] at H
                exact absurd H (by simp)
            · rw [if_neg c6] at H
              exact absurd H (by simp)
          · rw [if_neg c5] at H
            exact absurd H (by simp)
        · rw [if_neg c4] at H
          have c4b0 : decide (x13_1 < (l0.length : Int)) = false := decide_eq_false c4
          clear c4
          obtain rfl := Option.some.inj H
          go_wp2
          repeat (go_quiet (fail); try go_wp2)
          go_ret
          exact ⟨by first | rfl | (simp; done) | (simp [*]; done), by repeat (first | exact Drawn0.refl _ | apply Drawn0.step)⟩
  · rw [if_neg c3] at H
    have c3b0 : ((l0.length : Int) == (l1.length : Int)) = false := beq_eq_false_iff_ne.mpr c3
    have c3b1 : ((l0.length : Int) != (l1.length : Int)) = true := bne_iff_ne.mpr c3
    have c3b2 : (l0.length == l1.length) = false := by first | simpa using c3 | (simp at c3 ⊢; omega)
    obtain rfl := Option.some.inj H
    go_enter Tryd.func11, Tryd.ntmps11
    go_wp2
    repeat (go_quiet (fail); try go_wp2)
    go_ret
    exact ⟨by first | rfl | (simp; done) | (simp [*]; done), by repeat (first | exact Drawn0.refl _ | apply Drawn0.step)⟩

/-! ### laws_sorted: function 12 -/
def laws_sorted.f (l0 : List ByteArray) : Option (List ByteArray) := Go.Proofs.YtibjlefenodhaaaDoorReg.srF l0
theorem laws_sorted.calls (A0 : Option Addr) (c0 : Nat) (l0 : List ByteArray) (r : List ByteArray) (w : World) (hr0 : Kd.C Kd.string w A0 l0.length l0) (hc0 : l0.length ≤ c0) (h : laws_sorted.f l0 = some r) :
    Calls Tryd.prog 12 #[.slice A0 l0.length c0] w fun e w' => ∃ v0_ : Value, e = .returned (v0_) ∧ Kd.R Kd.string 9 w' w.heap.size (fun _ => True) v0_ r ∧ Below w.heap.size w w' :=
  Go.Proofs.YtibjlefenodhaaaDoorReg.srF_calls A0 c0 l0 r w hr0 hc0 h
/-! ### impl_RegNames: function 13 -/
def impl_RegNames.f (l0 : List (S28)) (a1 : Bool) : Option (List ByteArray) := Go.Proofs.YtibjlefenodhaaaDoorReg.rnF (l0.map impl_RegGet.toI) a1
theorem impl_RegNames.calls (A0 : Option Addr) (c0 : Nat) (l0 : List (S28)) (a1 : Bool) (r : List ByteArray) (w : World) (hr0 : Kd.C k28 w A0 l0.length l0) (hc0 : l0.length ≤ c0) (hV : Go.Proofs.YtibjlefenodhaaaDoorFmt.VarsOK w) (h : impl_RegNames.f l0 a1 = some r) :
    Calls Tryd.prog 13 #[.slice A0 l0.length c0, .bool a1] w fun e w' => ∃ v0_ : Value, e = .returned (v0_) ∧ Kd.R Kd.string 9 w' w.heap.size (fun _ => True) v0_ r ∧ Below w.heap.size w w' := by
  have hk := Go.Proofs.YtibjlefenodhaaaDoorReg.rnF_calls A0 c0 (l0.map impl_RegGet.toI) a1 r w (impl_RegGet.infos hr0) (by rw [List.length_map]; exact hc0) h
  rw [List.length_map] at hk
  exact hk
/-! ### impl_RegAliases: function 14 -/
def impl_RegAliases.f (l0 : List (S28)) (a1 : Bool) : Option (List ByteArray) := Go.Proofs.YtibjlefenodhaaaDoorReg.raF (l0.map impl_RegGet.toI) a1
theorem impl_RegAliases.calls (A0 : Option Addr) (c0 : Nat) (l0 : List (S28)) (a1 : Bool) (r : List ByteArray) (w : World) (hr0 : Kd.C k28 w A0 l0.length l0) (hc0 : l0.length ≤ c0) (hV : Go.Proofs.YtibjlefenodhaaaDoorFmt.VarsOK w) (h : impl_RegAliases.f l0 a1 = some r) :
    Calls Tryd.prog 14 #[.slice A0 l0.length c0, .bool a1] w fun e w' => ∃ v0_ : Value, e = .returned (v0_) ∧ Kd.R Kd.string 9 w' w.heap.size (fun _ => True) v0_ r ∧ Below w.heap.size w w' := by
  have hk := Go.Proofs.YtibjlefenodhaaaDoorReg.raF_calls A0 c0 (l0.map impl_RegGet.toI) a1 r w (impl_RegGet.infos hr0) (by rw [List.length_map]; exact hc0) h
  rw [List.length_map] at hk
  exact hk
end Go.Proofs.YtibjlefenodhaaaDoor.M
