-- WRITTEN BY OUR myprint.py, a program of this session's over the kit's printer
import Derived.Test.YtifhhejohdmiaaaGreatDoorBx0
import Derived.Test.YtifhhejohdmiaaaGreatDoorBx1
import Derived.Test.YtifhhejohdmiaaaGreatDoorBx2
namespace Go.Proofs.YtifhhejohdmiaaaGreatDoor.B
open Go.RowKit Go.Proofs.YtifhhejohdmiaaaGreatDoorW.PrintWords Go.Proofs.YtifhhejohdmiaaaGreatDoorW.PrintLast Go.Proofs.YtifhhejohdmiaaaGreatDoorW.PrintMore
attribute [local go_sem] max2_int min2_int max_two min_two max_three min_three max_four min_four   -- for this text's walks alone
set_option linter.unusedVariables false
set_option linter.unusedSimpArgs false

attribute [local go_sem high] eqA23
/-! ### laws_FnStyleAgain: function 6 -/
mutual
def laws_FnStyleAgain.j0 : Nat → List (S78) → List Int → Bool → Option (Bool)
  | 0, _, _, _ => none
  | k + 1, x0, x1, x18 => if x18 = true then (some true) else ((laws_few.f k x0 x1).bind fun t108 => (if t108 = true then ((impl_StyleGet.f x0 x1).bind fun bt109 => (if bt109.2 = true then ((impl_StyleBuild.f x0 ([] : List (S95)) x1).bind fun bt114 => (if bt114.2.2 = true then (if (bt109.1.length : Int) = (x1.length : Int) then (laws_FnStyleAgain.j1 k bt109.1 bt114.1 ((bt114.1.length : Int) != (bt109.1.length : Int))) else (laws_FnStyleAgain.j1 k bt109.1 bt114.1 true)) else (laws_FnStyleAgain.j1 k bt109.1 bt114.1 true))) else ((laws_styled.f).bind fun t113 => (some t113)))) else (some true)))
def laws_FnStyleAgain.j1 : Nat → List (S23) → List (S23) → Bool → Option (Bool)
  | 0, _, _, _ => none
  | k + 1, x5, x7, x54 => if x54 = true then (some false) else (laws_FnStyleAgain.l0 k x5 x7 (x5.length : Int) 0)
def laws_FnStyleAgain.l0 : Nat → List (S23) → List (S23) → Int → Int → Option (Bool)
  | 0, _, _, _, _ => none
  | k + 1, x5, x7, x56, x57 => if x57 < x56 then (if 0 ≤ x57 then (if x57 < (x5.length : Int) then (if x57 < (x7.length : Int) then (if (!(((rd_T23 x5 x57).f0) == ((rd_T23 x7 x57).f0)) || (!(((rd_T23 x5 x57).f1) == ((rd_T23 x7 x57).f1)) || (!(((rd_T23 x5 x57).f2) == ((rd_T23 x7 x57).f2)) || (!(((rd_T23 x5 x57).f3) == ((rd_T23 x7 x57).f3)) || (!(((rd_T23 x5 x57).f4) == ((rd_T23 x7 x57).f4)) || (!(((rd_T23 x5 x57).f5) == ((rd_T23 x7 x57).f5)) || (!(((rd_T23 x5 x57).f6) == ((rd_T23 x7 x57).f6))))))))) = true then (some false) else (laws_FnStyleAgain.l0 k x5 x7 x56 (wrap64 (x57 + 1)))) else (none)) else (none)) else (none)) else ((laws_styled.f).bind fun t123 => (some t123))
end
def laws_FnStyleAgain.f (k : Nat) (l0 : List (S78)) (l1 : List Int) : Option (Bool) := (laws_zzFits2.f k l0).bind fun t107 => (if t107 = true then (laws_FnStyleAgain.j0 k l0 l1 (decide ((l1.length : Int) > 2147483647))) else (laws_FnStyleAgain.j0 k l0 l1 true))
theorem laws_FnStyleAgain.mono_l : ∀ k, (∀ y0 y1 y2, LeO (laws_FnStyleAgain.j0 k y0 y1 y2) (laws_FnStyleAgain.j0 (k + 1) y0 y1 y2)) ∧ (∀ y0 y1 y2, LeO (laws_FnStyleAgain.j1 k y0 y1 y2) (laws_FnStyleAgain.j1 (k + 1) y0 y1 y2)) ∧ (∀ y0 y1 y2 y3, LeO (laws_FnStyleAgain.l0 k y0 y1 y2 y3) (laws_FnStyleAgain.l0 (k + 1) y0 y1 y2 y3))
  | 0 => ⟨fun _ _ _ r h => by simp [laws_FnStyleAgain.j0] at h, fun _ _ _ r h => by simp [laws_FnStyleAgain.j1] at h, fun _ _ _ _ r h => by simp [laws_FnStyleAgain.l0] at h⟩
  | k + 1 => by
    obtain ⟨ih0, ih1, ih2⟩ := laws_FnStyleAgain.mono_l k
    refine ⟨?_, ?_, ?_⟩
    · intro y0 y1 y2
      unfold laws_FnStyleAgain.j0
      repeat' first
      | (with_reducible exact ih0 _ _ _)
      | (with_reducible exact ih1 _ _ _)
      | (with_reducible exact ih2 _ _ _ _)
      | (with_reducible exact laws_few.mono _ _ _)
      | (with_reducible exact laws_zzFits2.mono _ _)
      | (with_reducible exact LeO.refl _)
      | (with_reducible exact LeO.none _)
      | (with_reducible refine LeO.ite ?_ ?_)
      | (with_reducible refine LeO.bind ?_ (fun _ => ?_))
      | exact ih0 _ _ _
      | exact ih1 _ _ _
      | exact ih2 _ _ _ _
      | exact laws_few.mono _ _ _
      | exact laws_zzFits2.mono _ _
      | exact LeO.none _
      | refine LeO.ite ?_ ?_
      | refine LeO.bind ?_ (fun _ => ?_)
    · intro y0 y1 y2
      unfold laws_FnStyleAgain.j1
      repeat' first
      | (with_reducible exact ih0 _ _ _)
      | (with_reducible exact ih1 _ _ _)
      | (with_reducible exact ih2 _ _ _ _)
      | (with_reducible exact laws_few.mono _ _ _)
      | (with_reducible exact laws_zzFits2.mono _ _)
      | (with_reducible exact LeO.refl _)
      | (with_reducible exact LeO.none _)
      | (with_reducible refine LeO.ite ?_ ?_)
      | (with_reducible refine LeO.bind ?_ (fun _ => ?_))
      | exact ih0 _ _ _
      | exact ih1 _ _ _
      | exact ih2 _ _ _ _
      | exact laws_few.mono _ _ _
      | exact laws_zzFits2.mono _ _
      | exact LeO.none _
      | refine LeO.ite ?_ ?_
      | refine LeO.bind ?_ (fun _ => ?_)
    · intro y0 y1 y2 y3
      unfold laws_FnStyleAgain.l0
      repeat' first
      | (with_reducible exact ih0 _ _ _)
      | (with_reducible exact ih1 _ _ _)
      | (with_reducible exact ih2 _ _ _ _)
      | (with_reducible exact laws_few.mono _ _ _)
      | (with_reducible exact laws_zzFits2.mono _ _)
      | (with_reducible exact LeO.refl _)
      | (with_reducible exact LeO.none _)
      | (with_reducible refine LeO.ite ?_ ?_)
      | (with_reducible refine LeO.bind ?_ (fun _ => ?_))
      | exact ih0 _ _ _
      | exact ih1 _ _ _
      | exact ih2 _ _ _ _
      | exact laws_few.mono _ _ _
      | exact laws_zzFits2.mono _ _
      | exact LeO.none _
      | refine LeO.ite ?_ ?_
      | refine LeO.bind ?_ (fun _ => ?_)
theorem laws_FnStyleAgain.mono : ∀ a0 a1 k, LeO (laws_FnStyleAgain.f k a0 a1) (laws_FnStyleAgain.f (k + 1) a0 a1) := by
  intro a0 a1 k
  obtain ⟨ih0, ih1, ih2⟩ := laws_FnStyleAgain.mono_l k
  unfold laws_FnStyleAgain.f
  repeat' first
      | (with_reducible exact ih0 _ _ _)
      | (with_reducible exact ih1 _ _ _)
      | (with_reducible exact ih2 _ _ _ _)
      | (with_reducible exact laws_few.mono _ _ _)
      | (with_reducible exact laws_zzFits2.mono _ _)
      | (with_reducible exact LeO.refl _)
      | (with_reducible exact LeO.none _)
      | (with_reducible refine LeO.ite ?_ ?_)
      | (with_reducible refine LeO.bind ?_ (fun _ => ?_))
      | exact ih0 _ _ _
      | exact ih1 _ _ _
      | exact ih2 _ _ _ _
      | exact laws_few.mono _ _ _
      | exact laws_zzFits2.mono _ _
      | exact LeO.none _
      | refine LeO.ite ?_ ?_
      | refine LeO.bind ?_ (fun _ => ?_)
set_option maxHeartbeats 8000000 in
set_option maxRecDepth 100000 in
theorem laws_FnStyleAgain.calls (k : Nat) (A0 : Option Addr) (c0 : Nat) (l0 : List (S78)) (A1 : Option Addr) (c1 : Nat) (l1 : List Int) (r : Bool) (hrT : Aside0 (r = true)) (w : World) (hr0 : Kd.C k78 w A0 l0.length l0) (hc0 : l0.length ≤ c0) (hr1 : Kd.C (Kd.int .i64) w A1 l1.length l1) (hc1 : l1.length ≤ c1) (hV : Go.Proofs.YtifhhejohdmiaaaGreatDoorFmt.VarsOK w) (h : laws_FnStyleAgain.f k l0 l1 = some r) :
    Calls Tryz.prog 6 #[.slice A0 l0.length c0, .slice A1 l1.length c1] w fun e w' => e = .returned (.bool r) ∧ Below w.heap.size w w' := by
  have hu23 := Tryz.underlying23
  have HR0 := Aside0.mk hr0
  have HC0 := Aside0.mk hc0
  clear hr0 hc0
  have HR1 := Aside0.mk hr1
  have HC1 := Aside0.mk hc1
  clear hr1 hc1
  have HB := Aside0.mk (Below.refl w.heap.size w)
  have HV := Aside0.mk hV
  clear hV
  have H : ((laws_zzFits2.f k l0).bind fun t107 => (if t107 = true then (laws_FnStyleAgain.j0 k l0 l1 (decide ((l1.length : Int) > 2147483647))) else (laws_FnStyleAgain.j0 k l0 l1 true))) = some r := h
  clear h
  have HC3 := Aside0.mk H
  clear H
  go_enter Tryz.func6, Tryz.ntmps6
  go_upto_region 1 with (fail)
  repeat (go_quiet (fail); go_upto_region 1 with (fail))
  go_cut [18] (fun v18 wc => ∃ (kq : Nat) (x18_2 : Bool), v18 = .bool x18_2 ∧ Aside0 (laws_FnStyleAgain.j0 kq l0 l1 x18_2 = some r) ∧ Aside0 (kq ≤ k) ∧ Aside0 (Below w.heap.size w wc))
  case first =>
    have H := HC3.out
    clear HC3
    replace H := Option.bind_eq_some_iff.mp H
    obtain ⟨t107, A40, H⟩ := H
    replace H : (if t107 = true then (laws_FnStyleAgain.j0 k l0 l1 (decide ((l1.length : Int) > 2147483647))) else (laws_FnStyleAgain.j0 k l0 l1 true)) = some r := H
    have A4 := Aside0.mk A40
    clear A40
    by_cases c5 : t107 = true
    · subst c5
      have H1 : (laws_FnStyleAgain.j0 k l0 l1 (decide ((l1.length : Int) > 2147483647))) = some r := by rw [if_pos rfl] at H; exact H
      clear H
      have H := H1
      clear H1
      have H' := Aside0.mk H
      clear H
      go_wp2_with (first | (go_at_call 13; (with_reducible refine (laws_zzFits2.calls k _ _ l0 true _ ?side1 ?side2 A4.out).mono ?_); (case side1 => repeat (first | exact (Kd.C_below HR0.out HB.out) | (with_reducible refine Kd.C_alloc ?_ _) | (with_reducible refine Kd.C_drewN ?_ _) | (with_reducible refine Kd.C_drew ?_))); (case side2 => exact HC0.out); rintro e w6 ⟨rfl, hb⟩; have n0_ := Aside0.mk (below_step (by repeat (first | (with_reducible first | exact HB.out | apply below_alloc | apply pw_below_drewN | apply below_drew1) | exact HB.out)) hb); clear HB; have HB := n0_; clear n0_; (try clear hb); (try clear hb2); (try clear hk); (try clear hi)))
      repeat (go_quiet (first | (go_at_call 13; (with_reducible refine (laws_zzFits2.calls k _ _ l0 true _ ?side1 ?side2 A4.out).mono ?_); (case side1 => repeat (first | exact (Kd.C_below HR0.out HB.out) | (with_reducible refine Kd.C_alloc ?_ _) | (with_reducible refine Kd.C_drewN ?_ _) | (with_reducible refine Kd.C_drew ?_))); (case side2 => exact HC0.out); rintro e w6 ⟨rfl, hb⟩; have n0_ := Aside0.mk (below_step (by repeat (first | (with_reducible first | exact HB.out | apply below_alloc | apply pw_below_drewN | apply below_drew1) | exact HB.out)) hb); clear HB; have HB := n0_; clear n0_; (try clear hb); (try clear hb2); (try clear hk); (try clear hi))); try go_wp2_with (first | (go_at_call 13; (with_reducible refine (laws_zzFits2.calls k _ _ l0 true _ ?side1 ?side2 A4.out).mono ?_); (case side1 => repeat (first | exact (Kd.C_below HR0.out HB.out) | (with_reducible refine Kd.C_alloc ?_ _) | (with_reducible refine Kd.C_drewN ?_ _) | (with_reducible refine Kd.C_drew ?_))); (case side2 => exact HC0.out); rintro e w6 ⟨rfl, hb⟩; have n0_ := Aside0.mk (below_step (by repeat (first | (with_reducible first | exact HB.out | apply below_alloc | apply pw_below_drewN | apply below_drew1) | exact HB.out)) hb); clear HB; have HB := n0_; clear n0_; (try clear hb); (try clear hb2); (try clear hk); (try clear hi))))
      go_meet
      case rel => exact ⟨_, (decide ((l1.length : Int) > 2147483647)), (by first | rfl | (simp; done) | (simp [*]; done)), H', ⟨by first | omega | exact Nat.le_refl _⟩, ⟨by repeat (first | (with_reducible first | exact HB.out | apply below_alloc | apply pw_below_drewN | apply below_drew1) | exact HB.out)⟩⟩
    · replace c5 := Bool.eq_false_iff.mpr c5
      subst c5
      have H1 : (laws_FnStyleAgain.j0 k l0 l1 true) = some r := by rw [if_neg (show ¬ (false = true) by decide)] at H; exact H
      clear H
      have H := H1
      clear H1
      have H' := Aside0.mk H
      clear H
      go_wp2_with (first | (go_at_call 13; (with_reducible refine (laws_zzFits2.calls k _ _ l0 false _ ?side1 ?side2 A4.out).mono ?_); (case side1 => repeat (first | exact (Kd.C_below HR0.out HB.out) | (with_reducible refine Kd.C_alloc ?_ _) | (with_reducible refine Kd.C_drewN ?_ _) | (with_reducible refine Kd.C_drew ?_))); (case side2 => exact HC0.out); rintro e w7 ⟨rfl, hb⟩; have n0_ := Aside0.mk (below_step (by repeat (first | (with_reducible first | exact HB.out | apply below_alloc | apply pw_below_drewN | apply below_drew1) | exact HB.out)) hb); clear HB; have HB := n0_; clear n0_; (try clear hb); (try clear hb2); (try clear hk); (try clear hi)))
      repeat (go_quiet (first | (go_at_call 13; (with_reducible refine (laws_zzFits2.calls k _ _ l0 false _ ?side1 ?side2 A4.out).mono ?_); (case side1 => repeat (first | exact (Kd.C_below HR0.out HB.out) | (with_reducible refine Kd.C_alloc ?_ _) | (with_reducible refine Kd.C_drewN ?_ _) | (with_reducible refine Kd.C_drew ?_))); (case side2 => exact HC0.out); rintro e w7 ⟨rfl, hb⟩; have n0_ := Aside0.mk (below_step (by repeat (first | (with_reducible first | exact HB.out | apply below_alloc | apply pw_below_drewN | apply below_drew1) | exact HB.out)) hb); clear HB; have HB := n0_; clear n0_; (try clear hb); (try clear hb2); (try clear hk); (try clear hi))); try go_wp2_with (first | (go_at_call 13; (with_reducible refine (laws_zzFits2.calls k _ _ l0 false _ ?side1 ?side2 A4.out).mono ?_); (case side1 => repeat (first | exact (Kd.C_below HR0.out HB.out) | (with_reducible refine Kd.C_alloc ?_ _) | (with_reducible refine Kd.C_drewN ?_ _) | (with_reducible refine Kd.C_drew ?_))); (case side2 => exact HC0.out); rintro e w7 ⟨rfl, hb⟩; have n0_ := Aside0.mk (below_step (by repeat (first | (with_reducible first | exact HB.out | apply below_alloc | apply pw_below_drewN | apply below_drew1) | exact HB.out)) hb); clear HB; have HB := n0_; clear n0_; (try clear hb); (try clear hb2); (try clear hk); (try clear hi))))
      go_meet
      case rel => exact ⟨_, (true), (by first | rfl | (simp; done) | (simp [*]; done)), H', ⟨by first | omega | exact Nat.le_refl _⟩, ⟨by repeat (first | (with_reducible first | exact HB.out | apply below_alloc | apply pw_below_drewN | apply below_drew1) | exact HB.out)⟩⟩
  case rest =>
    clear HC3
    try clear c1
    try clear p2
    try clear c5
    try clear c6
    obtain ⟨kq, x18_2, rfl, HA, HJ2, HB⟩ := hcut
    cases kq with
    | zero => exact absurd HA.out (by simp [laws_FnStyleAgain.j0])
    | succ kj2 =>
      have H := HA.out
      clear HA
      simp only [laws_FnStyleAgain.j0] at H
      by_cases c8 : x18_2 = true
      · subst c8
        have H1 : (some true) = some r := by rw [if_pos rfl] at H; exact H
        clear H
        have H := H1
        clear H1
        obtain rfl := Option.some.inj H
        go_wp2
        repeat (go_quiet (fail); try go_wp2)
        go_ret
        exact ⟨by first | rfl | (simp [errW_none, errW_some] <;> rfl) | (simp [*, errW_none, errW_some] <;> rfl), by repeat (first | (with_reducible first | exact HB.out | apply below_alloc | apply pw_below_drewN | apply below_drew1) | exact HB.out)⟩
      · replace c8 := Bool.eq_false_iff.mpr c8
        subst c8
        have H1 : ((laws_few.f kj2 l0 l1).bind fun t108 => (if t108 = true then ((impl_StyleGet.f l0 l1).bind fun bt109 => (if bt109.2 = true then ((impl_StyleBuild.f l0 ([] : List (S95)) l1).bind fun bt114 => (if bt114.2.2 = true then (if (bt109.1.length : Int) = (l1.length : Int) then (laws_FnStyleAgain.j1 kj2 bt109.1 bt114.1 ((bt114.1.length : Int) != (bt109.1.length : Int))) else (laws_FnStyleAgain.j1 kj2 bt109.1 bt114.1 true)) else (laws_FnStyleAgain.j1 kj2 bt109.1 bt114.1 true))) else ((laws_styled.f).bind fun t113 => (some t113)))) else (some true))) = some r := by rw [if_neg (show ¬ (false = true) by decide)] at H; exact H
        clear H
        have H := H1
        clear H1
        replace H := Option.bind_eq_some_iff.mp H
        obtain ⟨t108, A90, H⟩ := H
        replace H : (if t108 = true then ((impl_StyleGet.f l0 l1).bind fun bt109 => (if bt109.2 = true then ((impl_StyleBuild.f l0 ([] : List (S95)) l1).bind fun bt114 => (if bt114.2.2 = true then (if (bt109.1.length : Int) = (l1.length : Int) then (laws_FnStyleAgain.j1 kj2 bt109.1 bt114.1 ((bt114.1.length : Int) != (bt109.1.length : Int))) else (laws_FnStyleAgain.j1 kj2 bt109.1 bt114.1 true)) else (laws_FnStyleAgain.j1 kj2 bt109.1 bt114.1 true))) else ((laws_styled.f).bind fun t113 => (some t113)))) else (some true)) = some r := H
        have A9 := Aside0.mk A90
        clear A90
        by_cases c10 : t108 = true
        · subst c10
          have H1 : ((impl_StyleGet.f l0 l1).bind fun bt109 => (if bt109.2 = true then ((impl_StyleBuild.f l0 ([] : List (S95)) l1).bind fun bt114 => (if bt114.2.2 = true then (if (bt109.1.length : Int) = (l1.length : Int) then (laws_FnStyleAgain.j1 kj2 bt109.1 bt114.1 ((bt114.1.length : Int) != (bt109.1.length : Int))) else (laws_FnStyleAgain.j1 kj2 bt109.1 bt114.1 true)) else (laws_FnStyleAgain.j1 kj2 bt109.1 bt114.1 true))) else ((laws_styled.f).bind fun t113 => (some t113)))) = some r := by rw [if_pos rfl] at H; exact H
          clear H
          have H := H1
          clear H1
          replace H := Option.bind_eq_some_iff.mp H
          obtain ⟨⟨t109, t110⟩, A110, H⟩ := H
          replace H : (if t110 = true then ((impl_StyleBuild.f l0 ([] : List (S95)) l1).bind fun bt114 => (if bt114.2.2 = true then (if (t109.length : Int) = (l1.length : Int) then (laws_FnStyleAgain.j1 kj2 t109 bt114.1 ((bt114.1.length : Int) != (t109.length : Int))) else (laws_FnStyleAgain.j1 kj2 t109 bt114.1 true)) else (laws_FnStyleAgain.j1 kj2 t109 bt114.1 true))) else ((laws_styled.f).bind fun t113 => (some t113))) = some r := H
          have A11 := Aside0.mk A110
          clear A110
          by_cases c12 : t110 = true
          · subst c12
            have H1 : ((impl_StyleBuild.f l0 ([] : List (S95)) l1).bind fun bt114 => (if bt114.2.2 = true then (if (t109.length : Int) = (l1.length : Int) then (laws_FnStyleAgain.j1 kj2 t109 bt114.1 ((bt114.1.length : Int) != (t109.length : Int))) else (laws_FnStyleAgain.j1 kj2 t109 bt114.1 true)) else (laws_FnStyleAgain.j1 kj2 t109 bt114.1 true))) = some r := by rw [if_pos rfl] at H; exact H
            clear H
            have H := H1
            clear H1
            replace H := Option.bind_eq_some_iff.mp H
            obtain ⟨⟨t114, t115, t116⟩, A130, H⟩ := H
            replace H : (if t116 = true then (if (t109.length : Int) = (l1.length : Int) then (laws_FnStyleAgain.j1 kj2 t109 t114 ((t114.length : Int) != (t109.length : Int))) else (laws_FnStyleAgain.j1 kj2 t109 t114 true)) else (laws_FnStyleAgain.j1 kj2 t109 t114 true)) = some r := H
            have A13 := Aside0.mk A130
            clear A130
            have HC14 := Aside0.mk H
            clear H
            go_upto_region 9 with (first | (go_at_call 14; (with_reducible refine (laws_few.calls kj2 _ _ l0 _ _ l1 true _ ?side1 ?side2 ?side3 ?side4 A9.out).mono ?_); (case side1 => repeat (first | exact (Kd.C_below HR0.out HB.out) | (with_reducible refine Kd.C_alloc ?_ _) | (with_reducible refine Kd.C_drewN ?_ _) | (with_reducible refine Kd.C_drew ?_))); (case side2 => exact HC0.out); (case side3 => repeat (first | exact (Kd.C_below HR1.out HB.out) | (with_reducible refine Kd.C_alloc ?_ _) | (with_reducible refine Kd.C_drewN ?_ _) | (with_reducible refine Kd.C_drew ?_))); (case side4 => exact HC1.out); rintro e w15 ⟨rfl, hb⟩; have n0_ := Aside0.mk (below_step (by repeat (first | (with_reducible first | exact HB.out | apply below_alloc | apply pw_below_drewN | apply below_drew1) | exact HB.out)) hb); clear HB; have HB := n0_; clear n0_; (try clear hb); (try clear hb2); (try clear hk); (try clear hi)) | (go_at_call 17; (with_reducible refine (impl_StyleGet.calls _ _ l0 _ _ l1 t109 true _ ?side1 ?side2 ?side3 ?side4 ?side5 A11.out).mono ?_); (case side1 => repeat (first | exact (Kd.C_below HR0.out HB.out) | (with_reducible refine Kd.C_alloc ?_ _) | (with_reducible refine Kd.C_drewN ?_ _) | (with_reducible refine Kd.C_drew ?_))); (case side2 => exact HC0.out); (case side3 => repeat (first | exact (Kd.C_below HR1.out HB.out) | (with_reducible refine Kd.C_alloc ?_ _) | (with_reducible refine Kd.C_drewN ?_ _) | (with_reducible refine Kd.C_drew ?_))); (case side4 => exact HC1.out); (case side5 => exact Go.Proofs.YtifhhejohdmiaaaGreatDoorFmt.VarsOK.below HV.out (by repeat (first | (with_reducible first | exact HB.out | apply below_alloc | apply pw_below_drewN | apply below_drew1) | exact HB.out))); rintro e w16 ⟨v111, rfl, ho0, hb⟩; have n0_ := Aside0.mk (Kd.R_lower ho0 (below_size (by repeat (first | (with_reducible first | exact HB.out | apply below_alloc | apply pw_below_drewN | apply below_drew1) | exact HB.out)))); have n1_ := Aside0.mk (below_step (by repeat (first | (with_reducible first | exact HB.out | apply below_alloc | apply pw_below_drewN | apply below_drew1) | exact HB.out)) hb); clear HB; have HO112 := n0_; have HB := n1_; clear n0_ n1_; (try clear hb); (try clear hb2); (try clear hk); (try clear hi); (try clear ho0)) | (go_at_call 21; (refine (impl_StyleBuild.calls _ _ l0 _ _ ([] : List (S95)) _ _ l1 t114 t115 t116 _ ?side1 ?side2 ?side3 ?side4 ?side5 ?side6 ?side7 A13.out).mono ?_); (case side1 => repeat (first | exact (Kd.C_below HR0.out HB.out) | (with_reducible refine Kd.C_alloc ?_ _) | (with_reducible refine Kd.C_drewN ?_ _) | (with_reducible refine Kd.C_drew ?_))); (case side2 => exact HC0.out); (case side3 => exact Kd.C_nil _ _); (case side4 => exact Nat.le_refl _); (case side5 => repeat (first | exact (Kd.C_below HR1.out HB.out) | (with_reducible refine Kd.C_alloc ?_ _) | (with_reducible refine Kd.C_drewN ?_ _) | (with_reducible refine Kd.C_drew ?_))); (case side6 => exact HC1.out); (case side7 => exact Go.Proofs.YtifhhejohdmiaaaGreatDoorFmt.VarsOK.below HV.out (by repeat (first | (with_reducible first | exact HB.out | apply below_alloc | apply pw_below_drewN | apply below_drew1) | exact HB.out))); rintro e w17 ⟨v117, v119, rfl, ho0, ho1, hb⟩; have n0_ := Aside0.mk (Kd.R_mono (Kd.R_told (Kd.R_told (Kd.R_old (by (with_reducible repeat (first | apply Kd.R_alloc | apply Kd.R_drewN | apply Kd.R_drew)); exact HO112.out) hb) (Kd.R_base ho0)) (Kd.R_base ho1)) (fun _ h_ => h_.1)); have n1_ := Aside0.mk (Kd.R_lower (Kd.R_new' ho0 (Kd.R_lt (by (with_reducible repeat (first | apply Kd.R_alloc | apply Kd.R_drewN | apply Kd.R_drew)); exact HO112.out))) (below_size (by repeat (first | (with_reducible first | exact HB.out | apply below_alloc | apply pw_below_drewN | apply below_drew1) | exact HB.out)))); have n2_ := Aside0.mk (Kd.R_lower (Kd.R_new' ho1 (Kd.R_lt (by (with_reducible repeat (first | apply Kd.R_alloc | apply Kd.R_drewN | apply Kd.R_drew)); exact HO112.out))) (below_size (by repeat (first | (with_reducible first | exact HB.out | apply below_alloc | apply pw_below_drewN | apply below_drew1) | exact HB.out)))); have n3_ := Aside0.mk (below_step (by repeat (first | (with_reducible first | exact HB.out | apply below_alloc | apply pw_below_drewN | apply below_drew1) | exact HB.out)) hb); clear HO112; clear HB; have HO112 := n0_; have HO118 := n1_; have HO120 := n2_; have HB := n3_; clear n0_ n1_ n2_ n3_; (try clear hb); (try clear hb2); (try clear hk); (try clear hi); (try clear ho0); (try clear ho1)))
            repeat (go_quiet (first | (go_at_call 14; (with_reducible refine (laws_few.calls kj2 _ _ l0 _ _ l1 true _ ?side1 ?side2 ?side3 ?side4 A9.out).mono ?_); (case side1 => repeat (first | exact (Kd.C_below HR0.out HB.out) | (with_reducible refine Kd.C_alloc ?_ _) | (with_reducible refine Kd.C_drewN ?_ _) | (with_reducible refine Kd.C_drew ?_))); (case side2 => exact HC0.out); (case side3 => repeat (first | exact (Kd.C_below HR1.out HB.out) | (with_reducible refine Kd.C_alloc ?_ _) | (with_reducible refine Kd.C_drewN ?_ _) | (with_reducible refine Kd.C_drew ?_))); (case side4 => exact HC1.out); rintro e w15 ⟨rfl, hb⟩; have n0_ := Aside0.mk (below_step (by repeat (first | (with_reducible first | exact HB.out | apply below_alloc | apply pw_below_drewN | apply below_drew1) | exact HB.out)) hb); clear HB; have HB := n0_; clear n0_; (try clear hb); (try clear hb2); (try clear hk); (try clear hi)) | (go_at_call 17; (with_reducible refine (impl_StyleGet.calls _ _ l0 _ _ l1 t109 true _ ?side1 ?side2 ?side3 ?side4 ?side5 A11.out).mono ?_); (case side1 => repeat (first | exact (Kd.C_below HR0.out HB.out) | (with_reducible refine Kd.C_alloc ?_ _) | (with_reducible refine Kd.C_drewN ?_ _) | (with_reducible refine Kd.C_drew ?_))); (case side2 => exact HC0.out); (case side3 => repeat (first | exact (Kd.C_below HR1.out HB.out) | (with_reducible refine Kd.C_alloc ?_ _) | (with_reducible refine Kd.C_drewN ?_ _) | (with_reducible refine Kd.C_drew ?_))); (case side4 => exact HC1.out); (case side5 => exact Go.Proofs.YtifhhejohdmiaaaGreatDoorFmt.VarsOK.below HV.out (by repeat (first | (with_reducible first | exact HB.out | apply below_alloc | apply pw_below_drewN | apply below_drew1) | exact HB.out))); rintro e w16 ⟨v111, rfl, ho0, hb⟩; have n0_ := Aside0.mk (Kd.R_lower ho0 (below_size (by repeat (first | (with_reducible first | exact HB.out | apply below_alloc | apply pw_below_drewN | apply below_drew1) | exact HB.out)))); have n1_ := Aside0.mk (below_step (by repeat (first | (with_reducible first | exact HB.out | apply below_alloc | apply pw_below_drewN | apply below_drew1) | exact HB.out)) hb); clear HB; have HO112 := n0_; have HB := n1_; clear n0_ n1_; (try clear hb); (try clear hb2); (try clear hk); (try clear hi); (try clear ho0)) | (go_at_call 21; (refine (impl_StyleBuild.calls _ _ l0 _ _ ([] : List (S95)) _ _ l1 t114 t115 t116 _ ?side1 ?side2 ?side3 ?side4 ?side5 ?side6 ?side7 A13.out).mono ?_); (case side1 => repeat (first | exact (Kd.C_below HR0.out HB.out) | (with_reducible refine Kd.C_alloc ?_ _) | (with_reducible refine Kd.C_drewN ?_ _) | (with_reducible refine Kd.C_drew ?_))); (case side2 => exact HC0.out); (case side3 => exact Kd.C_nil _ _); (case side4 => exact Nat.le_refl _); (case side5 => repeat (first | exact (Kd.C_below HR1.out HB.out) | (with_reducible refine Kd.C_alloc ?_ _) | (with_reducible refine Kd.C_drewN ?_ _) | (with_reducible refine Kd.C_drew ?_))); (case side6 => exact HC1.out); (case side7 => exact Go.Proofs.YtifhhejohdmiaaaGreatDoorFmt.VarsOK.below HV.out (by repeat (first | (with_reducible first | exact HB.out | apply below_alloc | apply pw_below_drewN | apply below_drew1) | exact HB.out))); rintro e w17 ⟨v117, v119, rfl, ho0, ho1, hb⟩; have n0_ := Aside0.mk (Kd.R_mono (Kd.R_told (Kd.R_told (Kd.R_old (by (with_reducible repeat (first | apply Kd.R_alloc | apply Kd.R_drewN | apply Kd.R_drew)); exact HO112.out) hb) (Kd.R_base ho0)) (Kd.R_base ho1)) (fun _ h_ => h_.1)); have n1_ := Aside0.mk (Kd.R_lower (Kd.R_new' ho0 (Kd.R_lt (by (with_reducible repeat (first | apply Kd.R_alloc | apply Kd.R_drewN | apply Kd.R_drew)); exact HO112.out))) (below_size (by repeat (first | (with_reducible first | exact HB.out | apply below_alloc | apply pw_below_drewN | apply below_drew1) | exact HB.out)))); have n2_ := Aside0.mk (Kd.R_lower (Kd.R_new' ho1 (Kd.R_lt (by (with_reducible repeat (first | apply Kd.R_alloc | apply Kd.R_drewN | apply Kd.R_drew)); exact HO112.out))) (below_size (by repeat (first | (with_reducible first | exact HB.out | apply below_alloc | apply pw_below_drewN | apply below_drew1) | exact HB.out)))); have n3_ := Aside0.mk (below_step (by repeat (first | (with_reducible first | exact HB.out | apply below_alloc | apply pw_below_drewN | apply below_drew1) | exact HB.out)) hb); clear HO112; clear HB; have HO112 := n0_; have HO118 := n1_; have HO120 := n2_; have HB := n3_; clear n0_ n1_ n2_ n3_; (try clear hb); (try clear hb2); (try clear hk); (try clear hi); (try clear ho0); (try clear ho1))); go_upto_region 9 with (first | (go_at_call 14; (with_reducible refine (laws_few.calls kj2 _ _ l0 _ _ l1 true _ ?side1 ?side2 ?side3 ?side4 A9.out).mono ?_); (case side1 => repeat (first | exact (Kd.C_below HR0.out HB.out) | (with_reducible refine Kd.C_alloc ?_ _) | (with_reducible refine Kd.C_drewN ?_ _) | (with_reducible refine Kd.C_drew ?_))); (case side2 => exact HC0.out); (case side3 => repeat (first | exact (Kd.C_below HR1.out HB.out) | (with_reducible refine Kd.C_alloc ?_ _) | (with_reducible refine Kd.C_drewN ?_ _) | (with_reducible refine Kd.C_drew ?_))); (case side4 => exact HC1.out); rintro e w15 ⟨rfl, hb⟩; have n0_ := Aside0.mk (below_step (by repeat (first | (with_reducible first | exact HB.out | apply below_alloc | apply pw_below_drewN | apply below_drew1) | exact HB.out)) hb); clear HB; have HB := n0_; clear n0_; (try clear hb); (try clear hb2); (try clear hk); (try clear hi)) | (go_at_call 17; (with_reducible refine (impl_StyleGet.calls _ _ l0 _ _ l1 t109 true _ ?side1 ?side2 ?side3 ?side4 ?side5 A11.out).mono ?_); (case side1 => repeat (first | exact (Kd.C_below HR0.out HB.out) | (with_reducible refine Kd.C_alloc ?_ _) | (with_reducible refine Kd.C_drewN ?_ _) | (with_reducible refine Kd.C_drew ?_))); (case side2 => exact HC0.out); (case side3 => repeat (first | exact (Kd.C_below HR1.out HB.out) | (with_reducible refine Kd.C_alloc ?_ _) | (with_reducible refine Kd.C_drewN ?_ _) | (with_reducible refine Kd.C_drew ?_))); (case side4 => exact HC1.out); (case side5 => exact Go.Proofs.YtifhhejohdmiaaaGreatDoorFmt.VarsOK.below HV.out (by repeat (first | (with_reducible first | exact HB.out | apply below_alloc | apply pw_below_drewN | apply below_drew1) | exact HB.out))); rintro e w16 ⟨v111, rfl, ho0, hb⟩; have n0_ := Aside0.mk (Kd.R_lower ho0 (below_size (by repeat (first | (with_reducible first | exact HB.out | apply below_alloc | apply pw_below_drewN | apply below_drew1) | exact HB.out)))); have n1_ := Aside0.mk (below_step (by repeat (first | (with_reducible first | exact HB.out | apply below_alloc | apply pw_below_drewN | apply below_drew1) | exact HB.out)) hb); clear HB; have HO112 := n0_; have HB := n1_; clear n0_ n1_; (try clear hb); (try clear hb2); (try clear hk); (try clear hi); (try clear ho0)) | (go_at_call 21; (refine (impl_StyleBuild.calls _ _ l0 _ _ ([] : List (S95)) _ _ l1 t114 t115 t116 _ ?side1 ?side2 ?side3 ?side4 ?side5 ?side6 ?side7 A13.out).mono ?_); (case side1 => repeat (first | exact (Kd.C_below HR0.out HB.out) | (with_reducible refine Kd.C_alloc ?_ _) | (with_reducible refine Kd.C_drewN ?_ _) | (with_reducible refine Kd.C_drew ?_))); (case side2 => exact HC0.out); (case side3 => exact Kd.C_nil _ _); (case side4 => exact Nat.le_refl _); (case side5 => repeat (first | exact (Kd.C_below HR1.out HB.out) | (with_reducible refine Kd.C_alloc ?_ _) | (with_reducible refine Kd.C_drewN ?_ _) | (with_reducible refine Kd.C_drew ?_))); (case side6 => exact HC1.out); (case side7 => exact Go.Proofs.YtifhhejohdmiaaaGreatDoorFmt.VarsOK.below HV.out (by repeat (first | (with_reducible first | exact HB.out | apply below_alloc | apply pw_below_drewN | apply below_drew1) | exact HB.out))); rintro e w17 ⟨v117, v119, rfl, ho0, ho1, hb⟩; have n0_ := Aside0.mk (Kd.R_mono (Kd.R_told (Kd.R_told (Kd.R_old (by (with_reducible repeat (first | apply Kd.R_alloc | apply Kd.R_drewN | apply Kd.R_drew)); exact HO112.out) hb) (Kd.R_base ho0)) (Kd.R_base ho1)) (fun _ h_ => h_.1)); have n1_ := Aside0.mk (Kd.R_lower (Kd.R_new' ho0 (Kd.R_lt (by (with_reducible repeat (first | apply Kd.R_alloc | apply Kd.R_drewN | apply Kd.R_drew)); exact HO112.out))) (below_size (by repeat (first | (with_reducible first | exact HB.out | apply below_alloc | apply pw_below_drewN | apply below_drew1) | exact HB.out)))); have n2_ := Aside0.mk (Kd.R_lower (Kd.R_new' ho1 (Kd.R_lt (by (with_reducible repeat (first | apply Kd.R_alloc | apply Kd.R_drewN | apply Kd.R_drew)); exact HO112.out))) (below_size (by repeat (first | (with_reducible first | exact HB.out | apply below_alloc | apply pw_below_drewN | apply below_drew1) | exact HB.out)))); have n3_ := Aside0.mk (below_step (by repeat (first | (with_reducible first | exact HB.out | apply below_alloc | apply pw_below_drewN | apply below_drew1) | exact HB.out)) hb); clear HO112; clear HB; have HO112 := n0_; have HO118 := n1_; have HO120 := n2_; have HB := n3_; clear n0_ n1_ n2_ n3_; (try clear hb); (try clear hb2); (try clear hk); (try clear hi); (try clear ho0); (try clear ho1))))
            (try simp only [Act.put, List.setIfInBounds_toArray, List.set_cons_zero, List.set_cons_succ])
            go_cut [54] (fun v54 wc => ∃ (kq : Nat) (x54_13 : Bool), v54 = .bool x54_13 ∧ Aside0 (laws_FnStyleAgain.j1 kq t109 t114 x54_13 = some r) ∧ Aside0 (kq ≤ kj2) ∧ Aside0 (Kd.R k23 23 wc w.heap.size (fun k_ => some k_ ≠ (v117 : Value).ownBlock) v111 t109) ∧ Aside0 (Kd.R k23 23 wc w.heap.size (fun k_ => some k_ ≠ (v111 : Value).ownBlock) v117 t114) ∧ Aside0 (Below w.heap.size w wc))
            case first =>
              have H := HC14.out
              clear HC14
              by_cases c18 : t116 = true
              · subst c18
                have H1 : (if (t109.length : Int) = (l1.length : Int) then (laws_FnStyleAgain.j1 kj2 t109 t114 ((t114.length : Int) != (t109.length : Int))) else (laws_FnStyleAgain.j1 kj2 t109 t114 true)) = some r := by rw [if_pos rfl] at H; exact H
                clear H
                have H := H1
                clear H1
                by_cases c19 : (t109.length : Int) = (l1.length : Int)
                · rw [if_pos c19] at H
                  have c19b0 : ((t109.length : Int) == (l1.length : Int)) = true := beq_iff_eq.mpr c19
                  have c19b1 : ((t109.length : Int) != (l1.length : Int)) = false := bne_eq_false_iff_eq.mpr c19
                  have c19b2 : (t109.length == l1.length) = true := by first | simpa using c19 | (simp at c19 ⊢; omega)
                  clear c19
                  (try (have c19b2 := c19b0; simp only [ByteArray.size_extract, Nat.min_self] at c19b2)); (first | rw [c19b0] | (simp only [i64_w, i32_w]; rw [c19b0]) | rw [c19b1] | skip)
                  have H' := Aside0.mk H
                  clear H
                  obtain ⟨Ao20, co20, eo20⟩ := Kd.R_slice HO112.out
                  subst eo20
                  obtain ⟨Ao21, co21, eo21⟩ := Kd.R_slice HO118.out
                  subst eo21
                  go_wp2
                  repeat (go_quiet (fail); try go_wp2)
                  go_meet
                  case rel => exact ⟨_, (((t114.length : Int) != (t109.length : Int))), (by first | rfl | (simp; done) | (simp [*]; done)), H', ⟨by have := HJ2.out; first | omega | exact Nat.le_refl _⟩, ⟨by (with_reducible repeat (first | apply Kd.R_alloc | apply Kd.R_drewN | apply Kd.R_drew)); exact Kd.R_mono HO112.out (fun _ hk => hk.1.2)⟩, ⟨by (with_reducible repeat (first | apply Kd.R_alloc | apply Kd.R_drewN | apply Kd.R_drew)); exact Kd.R_mono HO118.out (fun _ hk => hk.2)⟩, ⟨by repeat (first | (with_reducible first | exact HB.out | apply below_alloc | apply pw_below_drewN | apply below_drew1) | exact HB.out)⟩⟩
                · rw [if_neg c19] at H
                  have c19b0 : ((t109.length : Int) == (l1.length : Int)) = false := beq_eq_false_iff_ne.mpr c19
                  have c19b1 : ((t109.length : Int) != (l1.length : Int)) = true := bne_iff_ne.mpr c19
                  have c19b2 : (t109.length == l1.length) = false := by first | simpa using c19 | (simp at c19 ⊢; omega)
                  (try (have c19b2 := c19b0; simp only [ByteArray.size_extract, Nat.min_self] at c19b2)); (first | rw [c19b0] | (simp only [i64_w, i32_w]; rw [c19b0]) | rw [c19b1] | skip)
                  have H' := Aside0.mk H
                  clear H
                  obtain ⟨Ao22, co22, eo22⟩ := Kd.R_slice HO112.out
                  subst eo22
                  go_wp2
                  repeat (go_quiet (fail); try go_wp2)
                  go_meet
                  case rel => exact ⟨_, (true), (by first | rfl | (simp; done) | (simp [*]; done)), H', ⟨by have := HJ2.out; first | omega | exact Nat.le_refl _⟩, ⟨by (with_reducible repeat (first | apply Kd.R_alloc | apply Kd.R_drewN | apply Kd.R_drew)); exact Kd.R_mono HO112.out (fun _ hk => hk.1.2)⟩, ⟨by (with_reducible repeat (first | apply Kd.R_alloc | apply Kd.R_drewN | apply Kd.R_drew)); exact Kd.R_mono HO118.out (fun _ hk => hk.2)⟩, ⟨by repeat (first | (with_reducible first | exact HB.out | apply below_alloc | apply pw_below_drewN | apply below_drew1) | exact HB.out)⟩⟩
              · replace c18 := Bool.eq_false_iff.mpr c18
                subst c18
                have H1 : (laws_FnStyleAgain.j1 kj2 t109 t114 true) = some r := by rw [if_neg (show ¬ (false = true) by decide)] at H; exact H
                clear H
                have H := H1
                clear H1
                have H' := Aside0.mk H
                clear H
                go_wp2
                repeat (go_quiet (fail); try go_wp2)
                go_meet
                case rel => exact ⟨_, (true), (by first | rfl | (simp; done) | (simp [*]; done)), H', ⟨by have := HJ2.out; first | omega | exact Nat.le_refl _⟩, ⟨by (with_reducible repeat (first | apply Kd.R_alloc | apply Kd.R_drewN | apply Kd.R_drew)); exact Kd.R_mono HO112.out (fun _ hk => hk.1.2)⟩, ⟨by (with_reducible repeat (first | apply Kd.R_alloc | apply Kd.R_drewN | apply Kd.R_drew)); exact Kd.R_mono HO118.out (fun _ hk => hk.2)⟩, ⟨by repeat (first | (with_reducible first | exact HB.out | apply below_alloc | apply pw_below_drewN | apply below_drew1) | exact HB.out)⟩⟩
            case rest =>
              clear HC14
              try clear c1
              try clear p2
              try clear c5
              try clear c6
              try clear c8
              try clear c10
              try clear c12
              try clear c18
              try clear c19
              try clear c19b0
              try clear c19b1
              try clear c19b2
              try clear p2
              obtain ⟨kq, x54_13, rfl, HA, HJ13, HO_5, HO_7, HB⟩ := hcut
              cases kq with
              | zero => exact absurd HA.out (by simp [laws_FnStyleAgain.j1])
              | succ kj13 =>
                have H := HA.out
                clear HA
                simp only [laws_FnStyleAgain.j1] at H
                by_cases c23 : x54_13 = true
                · subst c23
                  have H1 : (some false) = some r := by rw [if_pos rfl] at H; exact H
                  clear H
                  have H := H1
                  clear H1
                  exact absurd ((Option.some.inj H).trans hrT.out) (by decide)
                · replace c23 := Bool.eq_false_iff.mpr c23
                  subst c23
                  have H1 : (laws_FnStyleAgain.l0 kj13 t109 t114 (t109.length : Int) 0) = some r := by rw [if_neg (show ¬ (false = true) by decide)] at H; exact H
                  clear H
                  have H := H1
                  clear H1
                  have H' := Aside0.mk H
                  clear H
                  obtain ⟨Ao24, co24, eo24⟩ := Kd.R_slice HO_5.out
                  subst eo24
                  go_wp2
                  repeat (go_quiet (fail); try go_wp2)
                  go_loopg [57] kj13 (fun kq v57 w' => ∃ (x57_3 : Int), v57 = .int .i64 x57_3 ∧ Aside0 (laws_FnStyleAgain.l0 kq t109 t114 (t109.length : Int) x57_3 = some r) ∧ Aside0 (kq ≤ kj13) ∧ Aside0 (Kd.R k23 23 w' w.heap.size (fun k_ => some k_ ≠ (v117 : Value).ownBlock) (.slice Ao24 t109.length co24) t109) ∧ Aside0 (Kd.R k23 23 w' w.heap.size (fun k_ => some k_ ≠ ((.slice Ao24 t109.length co24) : Value).ownBlock) v117 t114) ∧ Aside0 (Below w.heap.size w w'))
                  case atStart => exact ⟨(0), (by first | rfl | (simp; done) | (simp [*]; done)), H', ⟨Nat.le_refl _⟩, ⟨by (with_reducible repeat (first | apply Kd.R_alloc | apply Kd.R_drewN | apply Kd.R_drew)); exact HO_5.out⟩, ⟨by (with_reducible repeat (first | apply Kd.R_alloc | apply Kd.R_drewN | apply Kd.R_drew)); exact HO_7.out⟩, ⟨by repeat (first | (with_reducible first | exact HB.out | apply below_alloc | apply pw_below_drewN | apply below_drew1) | exact HB.out)⟩⟩
                  case round =>
                    clear H'
                    try clear c1
                    try clear c2
                    try clear p2
                    try clear c5
                    try clear c6
                    try clear c8
                    try clear c10
                    try clear c12
                    try clear c18
                    try clear c19
                    try clear c19b0
                    try clear c19b1
                    try clear c19b2
                    try clear c23
                    try clear p2
                    obtain ⟨x57_3, rfl, HA, HK3, HO_5, HO_7, HB⟩ := hrel
                    cases gk with
                    | zero => exact absurd HA.out (by simp [laws_FnStyleAgain.l0])
                    | succ k3 =>
                      have H := HA.out
                      clear HA
                      simp only [laws_FnStyleAgain.l0] at H
                      by_cases c25 : x57_3 < (t109.length : Int)
                      · rw [if_pos c25] at H
                        have c25b0 : decide (x57_3 < (t109.length : Int)) = true := decide_eq_true c25
                        clear c25
                        by_cases c26 : 0 ≤ x57_3
                        · rw [if_pos c26] at H
                          have c26b0 : decide (0 ≤ x57_3) = true := decide_eq_true c26
                          clear c26
                          by_cases c27 : x57_3 < (t109.length : Int)
                          · rw [if_pos c27] at H
                            have c27b0 : decide (x57_3 < (t109.length : Int)) = true := decide_eq_true c27
                            clear c27
                            by_cases c28 : x57_3 < (t114.length : Int)
                            · rw [if_pos c28] at H
                              have c28b0 : decide (x57_3 < (t114.length : Int)) = true := decide_eq_true c28
                              clear c28
                              by_cases c29 : (!(((rd_T23 t109 x57_3).f0) == ((rd_T23 t114 x57_3).f0)) || (!(((rd_T23 t109 x57_3).f1) == ((rd_T23 t114 x57_3).f1)) || (!(((rd_T23 t109 x57_3).f2) == ((rd_T23 t114 x57_3).f2)) || (!(((rd_T23 t109 x57_3).f3) == ((rd_T23 t114 x57_3).f3)) || (!(((rd_T23 t109 x57_3).f4) == ((rd_T23 t114 x57_3).f4)) || (!(((rd_T23 t109 x57_3).f5) == ((rd_T23 t114 x57_3).f5)) || (!(((rd_T23 t109 x57_3).f6) == ((rd_T23 t114 x57_3).f6))))))))) = true
                              · rw [if_pos c29] at H
                                have c29b0 : (!(((rd_T23 t109 x57_3).f0) == ((rd_T23 t114 x57_3).f0)) || (!(((rd_T23 t109 x57_3).f1) == ((rd_T23 t114 x57_3).f1)) || (!(((rd_T23 t109 x57_3).f2) == ((rd_T23 t114 x57_3).f2)) || (!(((rd_T23 t109 x57_3).f3) == ((rd_T23 t114 x57_3).f3)) || (!(((rd_T23 t109 x57_3).f4) == ((rd_T23 t114 x57_3).f4)) || (!(((rd_T23 t109 x57_3).f5) == ((rd_T23 t114 x57_3).f5)) || (!(((rd_T23 t109 x57_3).f6) == ((rd_T23 t114 x57_3).f6))))))))) = true := c29
                                clear c29
                                exact absurd ((Option.some.inj H).trans hrT.out) (by decide)
                              · rw [if_neg c29] at H
                                have c29b0 : (!(((rd_T23 t109 x57_3).f0) == ((rd_T23 t114 x57_3).f0)) || (!(((rd_T23 t109 x57_3).f1) == ((rd_T23 t114 x57_3).f1)) || (!(((rd_T23 t109 x57_3).f2) == ((rd_T23 t114 x57_3).f2)) || (!(((rd_T23 t109 x57_3).f3) == ((rd_T23 t114 x57_3).f3)) || (!(((rd_T23 t109 x57_3).f4) == ((rd_T23 t114 x57_3).f4)) || (!(((rd_T23 t109 x57_3).f5) == ((rd_T23 t114 x57_3).f5)) || (!(((rd_T23 t109 x57_3).f6) == ((rd_T23 t114 x57_3).f6))))))))) = false := by simpa using c29
                                clear c29
                                have H' := Aside0.mk H
                                clear H
                                have p121 : 0 ≤ (x57_3 : Int) := of_decide_eq_true (by first | (with_reducible assumption) | assumption)
                                have q121 : x57_3 < (t109.length : Int) := of_decide_eq_true (by first | (with_reducible assumption) | assumption)
                                obtain ⟨ad121, e121, hx121_0, hx121_1, hx121_2, hx121_3, hx121_4, hx121_5, hx121_6⟩ := at_T23 (Kd.R_reads' HO_5.out).2.2 x57_3 p121 q121
                                cases e121
                                replace p121 := eq_true p121
                                replace q121 := eq_true q121
                                obtain ⟨Ao30, co30, eo30⟩ := Kd.R_slice HO_7.out
                                subst eo30
                                have p122 : 0 ≤ (x57_3 : Int) := of_decide_eq_true (by first | (with_reducible assumption) | assumption)
                                have q122 : x57_3 < (t114.length : Int) := of_decide_eq_true (by first | (with_reducible assumption) | assumption)
                                obtain ⟨ad122, e122, hx122_0, hx122_1, hx122_2, hx122_3, hx122_4, hx122_5, hx122_6⟩ := at_T23 (Kd.R_reads' HO_7.out).2.2 x57_3 p122 q122
                                cases e122
                                replace p122 := eq_true p122
                                replace q122 := eq_true q122
                                go_wp2
                                repeat (go_quiet (fail); try go_wp2)
                                go_roundg k3
                                case measure => have := HJ2.out; have := HJ13.out; have := HK3.out; omega
                                case rel => exact ⟨(wrap64 (x57_3 + 1)), (by first | rfl | (simp; done) | (simp [*]; done)), H', ⟨by have := HJ2.out; have := HJ13.out; have := HK3.out; omega⟩, ⟨by (with_reducible repeat (first | apply Kd.R_alloc | apply Kd.R_drewN | apply Kd.R_drew)); exact HO_5.out⟩, ⟨by (with_reducible repeat (first | apply Kd.R_alloc | apply Kd.R_drewN | apply Kd.R_drew)); exact HO_7.out⟩, ⟨by repeat (first | (with_reducible first | exact HB.out | apply below_alloc | apply pw_below_drewN | apply below_drew1) | exact HB.out)⟩⟩
                            · rw [if_neg c28] at H
                              exact absurd H (by simp)
                          · rw [if_neg c27] at H
                            exact absurd H (by simp)
                        · rw [if_neg c26] at H
                          exact absurd H (by simp)
                      · rw [if_neg c25] at H
                        have c25b0 : decide (x57_3 < (t109.length : Int)) = false := decide_eq_false c25
                        clear c25
                        replace H := Option.bind_eq_some_iff.mp H
                        obtain ⟨t123, A310, H⟩ := H
                        replace H : (some t123) = some r := H
                        have A31 := Aside0.mk A310
                        clear A310
                        obtain rfl := Option.some.inj H
                        go_wp2_with (first | (go_at_call 12; (with_reducible refine (laws_styled.calls  t123 _ ?side1 A31.out).mono ?_); (case side1 => exact Go.Proofs.YtifhhejohdmiaaaGreatDoorFmt.VarsOK.below HV.out (by repeat (first | (with_reducible first | exact HB.out | apply below_alloc | apply pw_below_drewN | apply below_drew1) | exact HB.out))); rintro e w32 ⟨rfl, hb⟩; have n0_ := Aside0.mk (Kd.R_below (by (with_reducible repeat (first | apply Kd.R_alloc | apply Kd.R_drewN | apply Kd.R_drew)); exact HO_5.out) hb); have n1_ := Aside0.mk (Kd.R_below (by (with_reducible repeat (first | apply Kd.R_alloc | apply Kd.R_drewN | apply Kd.R_drew)); exact HO_7.out) hb); have n2_ := Aside0.mk (below_step (by repeat (first | (with_reducible first | exact HB.out | apply below_alloc | apply pw_below_drewN | apply below_drew1) | exact HB.out)) hb); clear HO_5; clear HO_7; clear HB; have HO_5 := n0_; have HO_7 := n1_; have HB := n2_; clear n0_ n1_ n2_; (try clear hb); (try clear hb2); (try clear hk); (try clear hi)))
                        repeat (go_quiet (first | (go_at_call 12; (with_reducible refine (laws_styled.calls  t123 _ ?side1 A31.out).mono ?_); (case side1 => exact Go.Proofs.YtifhhejohdmiaaaGreatDoorFmt.VarsOK.below HV.out (by repeat (first | (with_reducible first | exact HB.out | apply below_alloc | apply pw_below_drewN | apply below_drew1) | exact HB.out))); rintro e w32 ⟨rfl, hb⟩; have n0_ := Aside0.mk (Kd.R_below (by (with_reducible repeat (first | apply Kd.R_alloc | apply Kd.R_drewN | apply Kd.R_drew)); exact HO_5.out) hb); have n1_ := Aside0.mk (Kd.R_below (by (with_reducible repeat (first | apply Kd.R_alloc | apply Kd.R_drewN | apply Kd.R_drew)); exact HO_7.out) hb); have n2_ := Aside0.mk (below_step (by repeat (first | (with_reducible first | exact HB.out | apply below_alloc | apply pw_below_drewN | apply below_drew1) | exact HB.out)) hb); clear HO_5; clear HO_7; clear HB; have HO_5 := n0_; have HO_7 := n1_; have HB := n2_; clear n0_ n1_ n2_; (try clear hb); (try clear hb2); (try clear hk); (try clear hi))); try go_wp2_with (first | (go_at_call 12; (with_reducible refine (laws_styled.calls  t123 _ ?side1 A31.out).mono ?_); (case side1 => exact Go.Proofs.YtifhhejohdmiaaaGreatDoorFmt.VarsOK.below HV.out (by repeat (first | (with_reducible first | exact HB.out | apply below_alloc | apply pw_below_drewN | apply below_drew1) | exact HB.out))); rintro e w32 ⟨rfl, hb⟩; have n0_ := Aside0.mk (Kd.R_below (by (with_reducible repeat (first | apply Kd.R_alloc | apply Kd.R_drewN | apply Kd.R_drew)); exact HO_5.out) hb); have n1_ := Aside0.mk (Kd.R_below (by (with_reducible repeat (first | apply Kd.R_alloc | apply Kd.R_drewN | apply Kd.R_drew)); exact HO_7.out) hb); have n2_ := Aside0.mk (below_step (by repeat (first | (with_reducible first | exact HB.out | apply below_alloc | apply pw_below_drewN | apply below_drew1) | exact HB.out)) hb); clear HO_5; clear HO_7; clear HB; have HO_5 := n0_; have HO_7 := n1_; have HB := n2_; clear n0_ n1_ n2_; (try clear hb); (try clear hb2); (try clear hk); (try clear hi))))
                        go_ret
                        exact ⟨by first | rfl | (simp [errW_none, errW_some] <;> rfl) | (simp [*, errW_none, errW_some] <;> rfl), by repeat (first | (with_reducible first | exact HB.out | apply below_alloc | apply pw_below_drewN | apply below_drew1) | exact HB.out)⟩
          · replace c12 := Bool.eq_false_iff.mpr c12
            subst c12
            have H1 : ((laws_styled.f).bind fun t113 => (some t113)) = some r := by rw [if_neg (show ¬ (false = true) by decide)] at H; exact H
            clear H
            have H := H1
            clear H1
            replace H := Option.bind_eq_some_iff.mp H
            obtain ⟨t113, A330, H⟩ := H
            replace H : (some t113) = some r := H
            have A33 := Aside0.mk A330
            clear A330
            obtain rfl := Option.some.inj H
            go_wp2_with (first | (go_at_call 14; (with_reducible refine (laws_few.calls kj2 _ _ l0 _ _ l1 true _ ?side1 ?side2 ?side3 ?side4 A9.out).mono ?_); (case side1 => repeat (first | exact (Kd.C_below HR0.out HB.out) | (with_reducible refine Kd.C_alloc ?_ _) | (with_reducible refine Kd.C_drewN ?_ _) | (with_reducible refine Kd.C_drew ?_))); (case side2 => exact HC0.out); (case side3 => repeat (first | exact (Kd.C_below HR1.out HB.out) | (with_reducible refine Kd.C_alloc ?_ _) | (with_reducible refine Kd.C_drewN ?_ _) | (with_reducible refine Kd.C_drew ?_))); (case side4 => exact HC1.out); rintro e w34 ⟨rfl, hb⟩; have n0_ := Aside0.mk (below_step (by repeat (first | (with_reducible first | exact HB.out | apply below_alloc | apply pw_below_drewN | apply below_drew1) | exact HB.out)) hb); clear HB; have HB := n0_; clear n0_; (try clear hb); (try clear hb2); (try clear hk); (try clear hi)) | (go_at_call 17; (with_reducible refine (impl_StyleGet.calls _ _ l0 _ _ l1 t109 false _ ?side1 ?side2 ?side3 ?side4 ?side5 A11.out).mono ?_); (case side1 => repeat (first | exact (Kd.C_below HR0.out HB.out) | (with_reducible refine Kd.C_alloc ?_ _) | (with_reducible refine Kd.C_drewN ?_ _) | (with_reducible refine Kd.C_drew ?_))); (case side2 => exact HC0.out); (case side3 => repeat (first | exact (Kd.C_below HR1.out HB.out) | (with_reducible refine Kd.C_alloc ?_ _) | (with_reducible refine Kd.C_drewN ?_ _) | (with_reducible refine Kd.C_drew ?_))); (case side4 => exact HC1.out); (case side5 => exact Go.Proofs.YtifhhejohdmiaaaGreatDoorFmt.VarsOK.below HV.out (by repeat (first | (with_reducible first | exact HB.out | apply below_alloc | apply pw_below_drewN | apply below_drew1) | exact HB.out))); rintro e w35 ⟨v111, rfl, ho0, hb⟩; have n0_ := Aside0.mk (Kd.R_lower ho0 (below_size (by repeat (first | (with_reducible first | exact HB.out | apply below_alloc | apply pw_below_drewN | apply below_drew1) | exact HB.out)))); have n1_ := Aside0.mk (below_step (by repeat (first | (with_reducible first | exact HB.out | apply below_alloc | apply pw_below_drewN | apply below_drew1) | exact HB.out)) hb); clear HB; have HO112 := n0_; have HB := n1_; clear n0_ n1_; (try clear hb); (try clear hb2); (try clear hk); (try clear hi); (try clear ho0)) | (go_at_call 12; (with_reducible refine (laws_styled.calls  t113 _ ?side1 A33.out).mono ?_); (case side1 => exact Go.Proofs.YtifhhejohdmiaaaGreatDoorFmt.VarsOK.below HV.out (by repeat (first | (with_reducible first | exact HB.out | apply below_alloc | apply pw_below_drewN | apply below_drew1) | exact HB.out))); rintro e w36 ⟨rfl, hb⟩; have n0_ := Aside0.mk (Kd.R_below (by (with_reducible repeat (first | apply Kd.R_alloc | apply Kd.R_drewN | apply Kd.R_drew)); exact HO112.out) hb); have n1_ := Aside0.mk (below_step (by repeat (first | (with_reducible first | exact HB.out | apply below_alloc | apply pw_below_drewN | apply below_drew1) | exact HB.out)) hb); clear HO112; clear HB; have HO112 := n0_; have HB := n1_; clear n0_ n1_; (try clear hb); (try clear hb2); (try clear hk); (try clear hi)))
            repeat (go_quiet (first | (go_at_call 14; (with_reducible refine (laws_few.calls kj2 _ _ l0 _ _ l1 true _ ?side1 ?side2 ?side3 ?side4 A9.out).mono ?_); (case side1 => repeat (first | exact (Kd.C_below HR0.out HB.out) | (with_reducible refine Kd.C_alloc ?_ _) | (with_reducible refine Kd.C_drewN ?_ _) | (with_reducible refine Kd.C_drew ?_))); (case side2 => exact HC0.out); (case side3 => repeat (first | exact (Kd.C_below HR1.out HB.out) | (with_reducible refine Kd.C_alloc ?_ _) | (with_reducible refine Kd.C_drewN ?_ _) | (with_reducible refine Kd.C_drew ?_))); (case side4 => exact HC1.out); rintro e w34 ⟨rfl, hb⟩; have n0_ := Aside0.mk (below_step (by repeat (first | (with_reducible first | exact HB.out | apply below_alloc | apply pw_below_drewN | apply below_drew1) | exact HB.out)) hb); clear HB; have HB := n0_; clear n0_; (try clear hb); (try clear hb2); (try clear hk); (try clear hi)) | (go_at_call 17; (with_reducible refine (impl_StyleGet.calls _ _ l0 _ _ l1 t109 false _ ?side1 ?side2 ?side3 ?side4 ?side5 A11.out).mono ?_); (case side1 => repeat (first | exact (Kd.C_below HR0.out HB.out) | (with_reducible refine Kd.C_alloc ?_ _) | (with_reducible refine Kd.C_drewN ?_ _) | (with_reducible refine Kd.C_drew ?_))); (case side2 => exact HC0.out); (case side3 => repeat (first | exact (Kd.C_below HR1.out HB.out) | (with_reducible refine Kd.C_alloc ?_ _) | (with_reducible refine Kd.C_drewN ?_ _) | (with_reducible refine Kd.C_drew ?_))); (case side4 => exact HC1.out); (case side5 => exact Go.Proofs.YtifhhejohdmiaaaGreatDoorFmt.VarsOK.below HV.out (by repeat (first | (with_reducible first | exact HB.out | apply below_alloc | apply pw_below_drewN | apply below_drew1) | exact HB.out))); rintro e w35 ⟨v111, rfl, ho0, hb⟩; have n0_ := Aside0.mk (Kd.R_lower ho0 (below_size (by repeat (first | (with_reducible first | exact HB.out | apply below_alloc | apply pw_below_drewN | apply below_drew1) | exact HB.out)))); have n1_ := Aside0.mk (below_step (by repeat (first | (with_reducible first | exact HB.out | apply below_alloc | apply pw_below_drewN | apply below_drew1) | exact HB.out)) hb); clear HB; have HO112 := n0_; have HB := n1_; clear n0_ n1_; (try clear hb); (try clear hb2); (try clear hk); (try clear hi); (try clear ho0)) | (go_at_call 12; (with_reducible refine (laws_styled.calls  t113 _ ?side1 A33.out).mono ?_); (case side1 => exact Go.Proofs.YtifhhejohdmiaaaGreatDoorFmt.VarsOK.below HV.out (by repeat (first | (with_reducible first | exact HB.out | apply below_alloc | apply pw_below_drewN | apply below_drew1) | exact HB.out))); rintro e w36 ⟨rfl, hb⟩; have n0_ := Aside0.mk (Kd.R_below (by (with_reducible repeat (first | apply Kd.R_alloc | apply Kd.R_drewN | apply Kd.R_drew)); exact HO112.out) hb); have n1_ := Aside0.mk (below_step (by repeat (first | (with_reducible first | exact HB.out | apply below_alloc | apply pw_below_drewN | apply below_drew1) | exact HB.out)) hb); clear HO112; clear HB; have HO112 := n0_; have HB := n1_; clear n0_ n1_; (try clear hb); (try clear hb2); (try clear hk); (try clear hi))); try go_wp2_with (first | (go_at_call 14; (with_reducible refine (laws_few.calls kj2 _ _ l0 _ _ l1 true _ ?side1 ?side2 ?side3 ?side4 A9.out).mono ?_); (case side1 => repeat (first | exact (Kd.C_below HR0.out HB.out) | (with_reducible refine Kd.C_alloc ?_ _) | (with_reducible refine Kd.C_drewN ?_ _) | (with_reducible refine Kd.C_drew ?_))); (case side2 => exact HC0.out); (case side3 => repeat (first | exact (Kd.C_below HR1.out HB.out) | (with_reducible refine Kd.C_alloc ?_ _) | (with_reducible refine Kd.C_drewN ?_ _) | (with_reducible refine Kd.C_drew ?_))); (case side4 => exact HC1.out); rintro e w34 ⟨rfl, hb⟩; have n0_ := Aside0.mk (below_step (by repeat (first | (with_reducible first | exact HB.out | apply below_alloc | apply pw_below_drewN | apply below_drew1) | exact HB.out)) hb); clear HB; have HB := n0_; clear n0_; (try clear hb); (try clear hb2); (try clear hk); (try clear hi)) | (go_at_call 17; (with_reducible refine (impl_StyleGet.calls _ _ l0 _ _ l1 t109 false _ ?side1 ?side2 ?side3 ?side4 ?side5 A11.out).mono ?_); (case side1 => repeat (first | exact (Kd.C_below HR0.out HB.out) | (with_reducible refine Kd.C_alloc ?_ _) | (with_reducible refine Kd.C_drewN ?_ _) | (with_reducible refine Kd.C_drew ?_))); (case side2 => exact HC0.out); (case side3 => repeat (first | exact (Kd.C_below HR1.out HB.out) | (with_reducible refine Kd.C_alloc ?_ _) | (with_reducible refine Kd.C_drewN ?_ _) | (with_reducible refine Kd.C_drew ?_))); (case side4 => exact HC1.out); (case side5 => exact Go.Proofs.YtifhhejohdmiaaaGreatDoorFmt.VarsOK.below HV.out (by repeat (first | (with_reducible first | exact HB.out | apply below_alloc | apply pw_below_drewN | apply below_drew1) | exact HB.out))); rintro e w35 ⟨v111, rfl, ho0, hb⟩; have n0_ := Aside0.mk (Kd.R_lower ho0 (below_size (by repeat (first | (with_reducible first | exact HB.out | apply below_alloc | apply pw_below_drewN | apply below_drew1) | exact HB.out)))); have n1_ := Aside0.mk (below_step (by repeat (first | (with_reducible first | exact HB.out | apply below_alloc | apply pw_below_drewN | apply below_drew1) | exact HB.out)) hb); clear HB; have HO112 := n0_; have HB := n1_; clear n0_ n1_; (try clear hb); (try clear hb2); (try clear hk); (try clear hi); (try clear ho0)) | (go_at_call 12; (with_reducible refine (laws_styled.calls  t113 _ ?side1 A33.out).mono ?_); (case side1 => exact Go.Proofs.YtifhhejohdmiaaaGreatDoorFmt.VarsOK.below HV.out (by repeat (first | (with_reducible first | exact HB.out | apply below_alloc | apply pw_below_drewN | apply below_drew1) | exact HB.out))); rintro e w36 ⟨rfl, hb⟩; have n0_ := Aside0.mk (Kd.R_below (by (with_reducible repeat (first | apply Kd.R_alloc | apply Kd.R_drewN | apply Kd.R_drew)); exact HO112.out) hb); have n1_ := Aside0.mk (below_step (by repeat (first | (with_reducible first | exact HB.out | apply below_alloc | apply pw_below_drewN | apply below_drew1) | exact HB.out)) hb); clear HO112; clear HB; have HO112 := n0_; have HB := n1_; clear n0_ n1_; (try clear hb); (try clear hb2); (try clear hk); (try clear hi))))
            go_ret
            exact ⟨by first | rfl | (simp [errW_none, errW_some] <;> rfl) | (simp [*, errW_none, errW_some] <;> rfl), by repeat (first | (with_reducible first | exact HB.out | apply below_alloc | apply pw_below_drewN | apply below_drew1) | exact HB.out)⟩
        · replace c10 := Bool.eq_false_iff.mpr c10
          subst c10
          have H1 : (some true) = some r := by rw [if_neg (show ¬ (false = true) by decide)] at H; exact H
          clear H
          have H := H1
          clear H1
          obtain rfl := Option.some.inj H
          go_wp2_with (first | (go_at_call 14; (with_reducible refine (laws_few.calls kj2 _ _ l0 _ _ l1 false _ ?side1 ?side2 ?side3 ?side4 A9.out).mono ?_); (case side1 => repeat (first | exact (Kd.C_below HR0.out HB.out) | (with_reducible refine Kd.C_alloc ?_ _) | (with_reducible refine Kd.C_drewN ?_ _) | (with_reducible refine Kd.C_drew ?_))); (case side2 => exact HC0.out); (case side3 => repeat (first | exact (Kd.C_below HR1.out HB.out) | (with_reducible refine Kd.C_alloc ?_ _) | (with_reducible refine Kd.C_drewN ?_ _) | (with_reducible refine Kd.C_drew ?_))); (case side4 => exact HC1.out); rintro e w37 ⟨rfl, hb⟩; have n0_ := Aside0.mk (below_step (by repeat (first | (with_reducible first | exact HB.out | apply below_alloc | apply pw_below_drewN | apply below_drew1) | exact HB.out)) hb); clear HB; have HB := n0_; clear n0_; (try clear hb); (try clear hb2); (try clear hk); (try clear hi)))
          repeat (go_quiet (first | (go_at_call 14; (with_reducible refine (laws_few.calls kj2 _ _ l0 _ _ l1 false _ ?side1 ?side2 ?side3 ?side4 A9.out).mono ?_); (case side1 => repeat (first | exact (Kd.C_below HR0.out HB.out) | (with_reducible refine Kd.C_alloc ?_ _) | (with_reducible refine Kd.C_drewN ?_ _) | (with_reducible refine Kd.C_drew ?_))); (case side2 => exact HC0.out); (case side3 => repeat (first | exact (Kd.C_below HR1.out HB.out) | (with_reducible refine Kd.C_alloc ?_ _) | (with_reducible refine Kd.C_drewN ?_ _) | (with_reducible refine Kd.C_drew ?_))); (case side4 => exact HC1.out); rintro e w37 ⟨rfl, hb⟩; have n0_ := Aside0.mk (below_step (by repeat (first | (with_reducible first | exact HB.out | apply below_alloc | apply pw_below_drewN | apply below_drew1) | exact HB.out)) hb); clear HB; have HB := n0_; clear n0_; (try clear hb); (try clear hb2); (try clear hk); (try clear hi))); try go_wp2_with (first | (go_at_call 14; (with_reducible refine (laws_few.calls kj2 _ _ l0 _ _ l1 false _ ?side1 ?side2 ?side3 ?side4 A9.out).mono ?_); (case side1 => repeat (first | exact (Kd.C_below HR0.out HB.out) | (with_reducible refine Kd.C_alloc ?_ _) | (with_reducible refine Kd.C_drewN ?_ _) | (with_reducible refine Kd.C_drew ?_))); (case side2 => exact HC0.out); (case side3 => repeat (first | exact (Kd.C_below HR1.out HB.out) | (with_reducible refine Kd.C_alloc ?_ _) | (with_reducible refine Kd.C_drewN ?_ _) | (with_reducible refine Kd.C_drew ?_))); (case side4 => exact HC1.out); rintro e w37 ⟨rfl, hb⟩; have n0_ := Aside0.mk (below_step (by repeat (first | (with_reducible first | exact HB.out | apply below_alloc | apply pw_below_drewN | apply below_drew1) | exact HB.out)) hb); clear HB; have HB := n0_; clear n0_; (try clear hb); (try clear hb2); (try clear hk); (try clear hi))))
          go_ret
          exact ⟨by first | rfl | (simp [errW_none, errW_some] <;> rfl) | (simp [*, errW_none, errW_some] <;> rfl), by repeat (first | (with_reducible first | exact HB.out | apply below_alloc | apply pw_below_drewN | apply below_drew1) | exact HB.out)⟩
def wf_S78 (x : S78) : Prop := (IntKind.i64.min ≤ x.f0 ∧ x.f0 ≤ IntKind.i64.max) ∧ (x.f1.size ≤ maxLen)
def laws_FnStyleAgain.Pure : Prop := ∀ (l0 : List (S78)) (l1 : List Int), (l0.length ≤ 9223372036854775807 ∧ ∀ x ∈ l0, wf_S78 x) → (l1.length ≤ 9223372036854775807 ∧ ∀ x ∈ l1, IntKind.i64.min ≤ x ∧ x ≤ IntKind.i64.max) → ∃ k, laws_FnStyleAgain.f k l0 l1 = some true

end Go.Proofs.YtifhhejohdmiaaaGreatDoor.B
