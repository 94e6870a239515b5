-- WRITTEN BY OUR myprint.py, a program of this session's over the kit's printer
import Derived.Test.YtjemdgmihbmgeaaGreatDoorTx0
import Derived.Test.YtjemdgmihbmgeaaGreatDoorTx1
namespace Go.Proofs.YtjemdgmihbmgeaaGreatDoor.T
open Go.RowKit Go.Proofs.YtjemdgmihbmgeaaGreatDoorW.PrintWords Go.Proofs.YtjemdgmihbmgeaaGreatDoorW.PrintLast Go.Proofs.YtjemdgmihbmgeaaGreatDoorW.PrintMore
attribute [local go_sem] max2_int min2_int max_two min_two max_three min_three max_four min_four   -- for this text's walks alone
set_option linter.unusedVariables false
set_option linter.unusedSimpArgs false

/-! ### laws_FnStyleTypes: function 5 -/
def laws_FnStyleTypes.j0 : Nat → List (S54) → List Int → Int → Int → Bool → Option (Bool)
  | 0, _, _, _, _, _ => none
  | k + 1, x0, x3, x6, x7, x32 => if x32 = true then (some true) else ((impl_StyleTypes.f x0).bind fun t124 => ((laws_sameInts.f k t124 x3).bind fun t127 => (if t127 = true then (if x7 = 2 then ((laws_styled.f).bind fun t128 => (some t128)) else ((impl_StyleMode.f x0).bind fun t129 => (if t129 = x6 then ((laws_styled.f).bind fun t130 => (some t130)) else (some false)))) else (some false))))
def laws_FnStyleTypes.f (k : Nat) (l0 : List (S54)) : Option (Bool) := (laws_zzFits2.f k l0).bind fun t109 => (if t109 = true then ((laws_few.f k l0 ([] : List Int)).bind fun t110 => (if t110 = true then ((laws_parts.f l0).bind fun t111 => ((spec_StyleTypes.f t111).bind fun bt114 => ((laws_parts.f l0).bind fun t119 => ((spec_StyleMode.f t119).bind fun bt122 => (if bt114.2.2 = 2 then (laws_FnStyleTypes.j0 k l0 bt114.1 bt122.1 bt122.2 true) else (laws_FnStyleTypes.j0 k l0 bt114.1 bt122.1 bt122.2 (!bt114.2.1))))))) else (some true))) else (some true))
theorem laws_FnStyleTypes.mono_l : ∀ k, (∀ y0 y1 y2 y3 y4, LeO (laws_FnStyleTypes.j0 k y0 y1 y2 y3 y4) (laws_FnStyleTypes.j0 (k + 1) y0 y1 y2 y3 y4))
  | 0 => fun _ _ _ _ _ r h => by simp [laws_FnStyleTypes.j0] at h
  | k + 1 => by
    have ih0 := laws_FnStyleTypes.mono_l k
    · intro y0 y1 y2 y3 y4
      unfold laws_FnStyleTypes.j0
      repeat' first
      | (with_reducible exact ih0 _ _ _ _ _)
      | (with_reducible exact laws_few.mono _ _ _)
      | (with_reducible exact laws_sameInts.mono _ _ _)
      | (with_reducible exact laws_zzFits2.mono _ _)
      | (with_reducible exact LeO.refl _)
      | (with_reducible exact LeO.none _)
      | (with_reducible refine LeO.ite ?_ ?_)
      | (with_reducible refine LeO.bind ?_ (fun _ => ?_))
      | exact ih0 _ _ _ _ _
      | exact laws_few.mono _ _ _
      | exact laws_sameInts.mono _ _ _
      | exact laws_zzFits2.mono _ _
      | exact LeO.none _
      | refine LeO.ite ?_ ?_
      | refine LeO.bind ?_ (fun _ => ?_)
theorem laws_FnStyleTypes.mono : ∀ a0 k, LeO (laws_FnStyleTypes.f k a0) (laws_FnStyleTypes.f (k + 1) a0) := by
  intro a0 k
  have ih0 := laws_FnStyleTypes.mono_l k
  unfold laws_FnStyleTypes.f
  repeat' first
      | (with_reducible exact ih0 _ _ _ _ _)
      | (with_reducible exact laws_few.mono _ _ _)
      | (with_reducible exact laws_sameInts.mono _ _ _)
      | (with_reducible exact laws_zzFits2.mono _ _)
      | (with_reducible exact LeO.refl _)
      | (with_reducible exact LeO.none _)
      | (with_reducible refine LeO.ite ?_ ?_)
      | (with_reducible refine LeO.bind ?_ (fun _ => ?_))
      | exact ih0 _ _ _ _ _
      | exact laws_few.mono _ _ _
      | exact laws_sameInts.mono _ _ _
      | exact laws_zzFits2.mono _ _
      | exact LeO.none _
      | refine LeO.ite ?_ ?_
      | refine LeO.bind ?_ (fun _ => ?_)
set_option maxHeartbeats 8000000 in
set_option maxRecDepth 100000 in
theorem laws_FnStyleTypes.calls (k : Nat) (A0 : Option Addr) (c0 : Nat) (l0 : List (S54)) (r : Bool) (hrT : Aside0 (r = true)) (w : World) (hr0 : Kd.C k54 w A0 l0.length l0) (hc0 : l0.length ≤ c0) (hV : Go.Proofs.YtjemdgmihbmgeaaGreatDoorFmt.VarsOK w) (h : laws_FnStyleTypes.f k l0 = some r) :
    Calls Tryz.prog 5 #[.slice A0 l0.length c0] w fun e w' => e = .returned (.bool r) ∧ Below w.heap.size w w' := by
  have HR0 := Aside0.mk hr0
  have HC0 := Aside0.mk hc0
  clear hr0 hc0
  have HB := Aside0.mk (Below.refl w.heap.size w)
  have HV := Aside0.mk hV
  clear hV
  have H : ((laws_zzFits2.f k l0).bind fun t109 => (if t109 = true then ((laws_few.f k l0 ([] : List Int)).bind fun t110 => (if t110 = true then ((laws_parts.f l0).bind fun t111 => ((spec_StyleTypes.f t111).bind fun bt114 => ((laws_parts.f l0).bind fun t119 => ((spec_StyleMode.f t119).bind fun bt122 => (if bt114.2.2 = 2 then (laws_FnStyleTypes.j0 k l0 bt114.1 bt122.1 bt122.2 true) else (laws_FnStyleTypes.j0 k l0 bt114.1 bt122.1 bt122.2 (!bt114.2.1))))))) else (some true))) else (some true))) = some r := h
  clear h
  replace H := Option.bind_eq_some_iff.mp H
  obtain ⟨t109, A20, H⟩ := H
  replace H : (if t109 = true then ((laws_few.f k l0 ([] : List Int)).bind fun t110 => (if t110 = true then ((laws_parts.f l0).bind fun t111 => ((spec_StyleTypes.f t111).bind fun bt114 => ((laws_parts.f l0).bind fun t119 => ((spec_StyleMode.f t119).bind fun bt122 => (if bt114.2.2 = 2 then (laws_FnStyleTypes.j0 k l0 bt114.1 bt122.1 bt122.2 true) else (laws_FnStyleTypes.j0 k l0 bt114.1 bt122.1 bt122.2 (!bt114.2.1))))))) else (some true))) else (some true)) = some r := H
  have A2 := Aside0.mk A20
  clear A20
  by_cases c3 : t109 = true
  · subst c3
    have H1 : ((laws_few.f k l0 ([] : List Int)).bind fun t110 => (if t110 = true then ((laws_parts.f l0).bind fun t111 => ((spec_StyleTypes.f t111).bind fun bt114 => ((laws_parts.f l0).bind fun t119 => ((spec_StyleMode.f t119).bind fun bt122 => (if bt114.2.2 = 2 then (laws_FnStyleTypes.j0 k l0 bt114.1 bt122.1 bt122.2 true) else (laws_FnStyleTypes.j0 k l0 bt114.1 bt122.1 bt122.2 (!bt114.2.1))))))) else (some true))) = some r := by rw [if_pos rfl] at H; exact H
    clear H
    have H := H1
    clear H1
    replace H := Option.bind_eq_some_iff.mp H
    obtain ⟨t110, A40, H⟩ := H
    replace H : (if t110 = true then ((laws_parts.f l0).bind fun t111 => ((spec_StyleTypes.f t111).bind fun bt114 => ((laws_parts.f l0).bind fun t119 => ((spec_StyleMode.f t119).bind fun bt122 => (if bt114.2.2 = 2 then (laws_FnStyleTypes.j0 k l0 bt114.1 bt122.1 bt122.2 true) else (laws_FnStyleTypes.j0 k l0 bt114.1 bt122.1 bt122.2 (!bt114.2.1))))))) else (some true)) = some r := H
    have A4 := Aside0.mk A40
    clear A40
    by_cases c5 : t110 = true
    · subst c5
      have H1 : ((laws_parts.f l0).bind fun t111 => ((spec_StyleTypes.f t111).bind fun bt114 => ((laws_parts.f l0).bind fun t119 => ((spec_StyleMode.f t119).bind fun bt122 => (if bt114.2.2 = 2 then (laws_FnStyleTypes.j0 k l0 bt114.1 bt122.1 bt122.2 true) else (laws_FnStyleTypes.j0 k l0 bt114.1 bt122.1 bt122.2 (!bt114.2.1))))))) = some r := by rw [if_pos rfl] at H; exact H
      clear H
      have H := H1
      clear H1
      replace H := Option.bind_eq_some_iff.mp H
      obtain ⟨t111, A60, H⟩ := H
      replace H : ((spec_StyleTypes.f t111).bind fun bt114 => ((laws_parts.f l0).bind fun t119 => ((spec_StyleMode.f t119).bind fun bt122 => (if bt114.2.2 = 2 then (laws_FnStyleTypes.j0 k l0 bt114.1 bt122.1 bt122.2 true) else (laws_FnStyleTypes.j0 k l0 bt114.1 bt122.1 bt122.2 (!bt114.2.1)))))) = some r := H
      have A6 := Aside0.mk A60
      clear A60
      replace H := Option.bind_eq_some_iff.mp H
      obtain ⟨⟨t114, t115, t116⟩, A70, H⟩ := H
      replace H : ((laws_parts.f l0).bind fun t119 => ((spec_StyleMode.f t119).bind fun bt122 => (if t116 = 2 then (laws_FnStyleTypes.j0 k l0 t114 bt122.1 bt122.2 true) else (laws_FnStyleTypes.j0 k l0 t114 bt122.1 bt122.2 (!t115))))) = some r := H
      have A7 := Aside0.mk A70
      clear A70
      replace H := Option.bind_eq_some_iff.mp H
      obtain ⟨t119, A80, H⟩ := H
      replace H : ((spec_StyleMode.f t119).bind fun bt122 => (if t116 = 2 then (laws_FnStyleTypes.j0 k l0 t114 bt122.1 bt122.2 true) else (laws_FnStyleTypes.j0 k l0 t114 bt122.1 bt122.2 (!t115)))) = some r := H
      have A8 := Aside0.mk A80
      clear A80
      replace H := Option.bind_eq_some_iff.mp H
      obtain ⟨⟨t122, t123⟩, A90, H⟩ := H
      replace H : (if t116 = 2 then (laws_FnStyleTypes.j0 k l0 t114 t122 t123 true) else (laws_FnStyleTypes.j0 k l0 t114 t122 t123 (!t115))) = some r := H
      have A9 := Aside0.mk A90
      clear A90
      have HC10 := Aside0.mk H
      clear H
      go_enter Tryz.func5, Tryz.ntmps5
      go_upto_region 7 with (first | ((with_reducible refine gate_callee (f := 6) rfl ?_); refine goesL_ (some 9) rfl rfl Tryz.func6 (by kernel_rfl) rfl #[.slice A0 l0.length c0] rfl (by (try simp only [List.map_toArray, List.map_cons, List.map_nil]); first | done | rfl | (simp only [List.length_drop, List.length_take]; rfl)) ?_; (with_reducible refine (laws_zzFits2.calls k _ _ l0 true _ ?side1 ?side2 A2.out).mono ?_); (case side1 => repeat (first | exact HR0.out | (with_reducible refine Kd.C_alloc ?_ _) | (with_reducible refine Kd.C_drewN ?_ _) | (with_reducible refine Kd.C_drew ?_))); (case side2 => exact HC0.out); rintro e w11 ⟨rfl, hb⟩; refine ⟨_, rfl, ?_⟩; have n0_ := Aside0.mk (below_step (by repeat (first | (with_reducible first | exact HB.out | apply below_alloc | apply pw_below_drewN | apply below_drew1) | exact HB.out)) hb); clear HB; have HB := n0_; clear n0_; (try clear hb); (try clear hb2); (try clear hk); (try clear hi)) | ((with_reducible refine gate_callee (f := 7) rfl ?_); refine goesL_ (some 12) rfl rfl Tryz.func7 (by kernel_rfl) rfl #[.slice A0 l0.length c0, .slice none 0 0] rfl (by (try simp only [List.map_toArray, List.map_cons, List.map_nil]); first | done | rfl | (simp only [List.length_drop, List.length_take]; rfl)) ?_; (refine (laws_few.calls k _ _ l0 _ _ ([] : List Int) true _ ?side1 ?side2 ?side3 ?side4 A4.out).mono ?_); (case side1 => repeat (first | exact (Kd.C_below HR0.out HB.out) | (with_reducible refine Kd.C_alloc ?_ _) | (with_reducible refine Kd.C_drewN ?_ _) | (with_reducible refine Kd.C_drew ?_))); (case side2 => exact HC0.out); (case side3 => exact Kd.C_nil _ _); (case side4 => exact Nat.le_refl _); rintro e w12 ⟨rfl, hb⟩; refine ⟨_, rfl, ?_⟩; have n0_ := Aside0.mk (below_step (by repeat (first | (with_reducible first | exact HB.out | apply below_alloc | apply pw_below_drewN | apply below_drew1) | exact HB.out)) hb); clear HB; have HB := n0_; clear n0_; (try clear hb); (try clear hb2); (try clear hk); (try clear hi)) | ((with_reducible refine gate_callee (f := 9) rfl ?_); refine goesL_ (some 16) rfl rfl Tryz.func9 (by kernel_rfl) rfl #[.slice A0 l0.length c0] rfl (by (try simp only [List.map_toArray, List.map_cons, List.map_nil]); first | done | rfl | (simp only [List.length_drop, List.length_take]; rfl)) ?_; (with_reducible refine (laws_parts.calls _ _ l0 t111 _ ?side1 ?side2 A6.out).mono ?_); (case side1 => repeat (first | exact (Kd.C_below HR0.out HB.out) | (with_reducible refine Kd.C_alloc ?_ _) | (with_reducible refine Kd.C_drewN ?_ _) | (with_reducible refine Kd.C_drew ?_))); (case side2 => exact HC0.out); rintro e w13 ⟨v112, rfl, ho0, hb⟩; refine ⟨_, rfl, ?_⟩; have n0_ := Aside0.mk (Kd.R_lower ho0 (below_size (by repeat (first | (with_reducible first | exact HB.out | apply below_alloc | apply pw_below_drewN | apply below_drew1) | exact HB.out)))); have n1_ := Aside0.mk (below_step (by repeat (first | (with_reducible first | exact HB.out | apply below_alloc | apply pw_below_drewN | apply below_drew1) | exact HB.out)) hb); clear HB; have HO113 := n0_; have HB := n1_; clear n0_ n1_; (try clear hb); (try clear hb2); (try clear hk); (try clear hi); (try clear ho0); obtain ⟨Ao14, co14, eo14⟩ := Kd.R_slice HO113.out; subst eo14) | ((with_reducible refine gate_callee (f := 17) rfl ?_); refine goesL_ (some 17) rfl rfl Tryz.func17 (by kernel_rfl) rfl #[.slice Ao14 t111.length co14] rfl (by (try simp only [List.map_toArray, List.map_cons, List.map_nil]); first | done | rfl | (simp only [List.length_drop, List.length_take]; rfl)) ?_; (with_reducible refine (spec_StyleTypes.calls _ _ t111 t114 t115 t116 _ ?side1 ?side2 A7.out).mono ?_); (case side1 => repeat (first | exact (Kd.R_reads' HO113.out).2.2 | (with_reducible refine Kd.C_alloc ?_ _) | (with_reducible refine Kd.C_drewN ?_ _) | (with_reducible refine Kd.C_drew ?_))); (case side2 => exact (Kd.R_reads' HO113.out).2.1); rintro e w15 ⟨v117, rfl, ho0, hb⟩; refine ⟨_, rfl, ?_⟩; have n0_ := Aside0.mk (Kd.R_below (by (with_reducible repeat (first | apply Kd.R_alloc | apply Kd.R_drewN | apply Kd.R_drew)); exact HO113.out) hb); have n1_ := Aside0.mk (Kd.R_lower ho0 (below_size (by repeat (first | (with_reducible first | exact HB.out | apply below_alloc | apply pw_below_drewN | apply below_drew1) | exact HB.out)))); have n2_ := Aside0.mk (below_step (by repeat (first | (with_reducible first | exact HB.out | apply below_alloc | apply pw_below_drewN | apply below_drew1) | exact HB.out)) hb); clear HO113; clear HB; have HO113 := n0_; have HO118 := n1_; have HB := n2_; clear n0_ n1_ n2_; (try clear hb); (try clear hb2); (try clear hk); (try clear hi); (try clear ho0)) | ((with_reducible refine gate_callee (f := 9) rfl ?_); refine goesL_ (some 23) rfl rfl Tryz.func9 (by kernel_rfl) rfl #[.slice A0 l0.length c0] rfl (by (try simp only [List.map_toArray, List.map_cons, List.map_nil]); first | done | rfl | (simp only [List.length_drop, List.length_take]; rfl)) ?_; (with_reducible refine (laws_parts.calls _ _ l0 t119 _ ?side1 ?side2 A8.out).mono ?_); (case side1 => repeat (first | exact (Kd.C_below HR0.out HB.out) | (with_reducible refine Kd.C_alloc ?_ _) | (with_reducible refine Kd.C_drewN ?_ _) | (with_reducible refine Kd.C_drew ?_))); (case side2 => exact HC0.out); rintro e w16 ⟨v120, rfl, ho0, hb⟩; refine ⟨_, rfl, ?_⟩; have n0_ := Aside0.mk (Kd.R_elder' (by (with_reducible repeat (first | apply Kd.R_alloc | apply Kd.R_drewN | apply Kd.R_drew)); exact HO113.out) (Kd.R_base ho0) hb); have n1_ := Aside0.mk (Kd.R_below (by (with_reducible repeat (first | apply Kd.R_alloc | apply Kd.R_drewN | apply Kd.R_drew)); exact HO118.out) hb); have n2_ := Aside0.mk (Kd.R_lower (Kd.R_new' ho0 (Kd.R_lt (by (with_reducible repeat (first | apply Kd.R_alloc | apply Kd.R_drewN | apply Kd.R_drew)); exact HO113.out))) (below_size (by repeat (first | (with_reducible first | exact HB.out | apply below_alloc | apply pw_below_drewN | apply below_drew1) | exact HB.out)))); have n3_ := Aside0.mk (below_step (by repeat (first | (with_reducible first | exact HB.out | apply below_alloc | apply pw_below_drewN | apply below_drew1) | exact HB.out)) hb); clear HO113; clear HO118; clear HB; have HO113 := n0_; have HO118 := n1_; have HO121 := n2_; have HB := n3_; clear n0_ n1_ n2_ n3_; (try clear hb); (try clear hb2); (try clear hk); (try clear hi); (try clear ho0); obtain ⟨Ao17, co17, eo17⟩ := Kd.R_slice HO121.out; subst eo17) | ((with_reducible refine gate_callee (f := 18) rfl ?_); refine goesL_ (some 24) rfl rfl Tryz.func18 (by kernel_rfl) rfl #[.slice Ao17 t119.length co17] rfl (by (try simp only [List.map_toArray, List.map_cons, List.map_nil]); first | done | rfl | (simp only [List.length_drop, List.length_take]; rfl)) ?_; (with_reducible refine (spec_StyleMode.calls _ _ t119 t122 t123 _ ?side1 ?side2 A9.out).mono ?_); (case side1 => repeat (first | exact (Kd.R_reads' HO121.out).2.2 | (with_reducible refine Kd.C_alloc ?_ _) | (with_reducible refine Kd.C_drewN ?_ _) | (with_reducible refine Kd.C_drew ?_))); (case side2 => exact (Kd.R_reads' HO121.out).2.1); rintro e w18 ⟨rfl, hb⟩; refine ⟨_, rfl, ?_⟩; have n0_ := Aside0.mk (Kd.R_below (by (with_reducible repeat (first | apply Kd.R_alloc | apply Kd.R_drewN | apply Kd.R_drew)); exact HO113.out) hb); have n1_ := Aside0.mk (Kd.R_below (by (with_reducible repeat (first | apply Kd.R_alloc | apply Kd.R_drewN | apply Kd.R_drew)); exact HO118.out) hb); have n2_ := Aside0.mk (Kd.R_below (by (with_reducible repeat (first | apply Kd.R_alloc | apply Kd.R_drewN | apply Kd.R_drew)); exact HO121.out) hb); have n3_ := Aside0.mk (below_step (by repeat (first | (with_reducible first | exact HB.out | apply below_alloc | apply pw_below_drewN | apply below_drew1) | exact HB.out)) hb); clear HO113; clear HO118; clear HO121; clear HB; have HO113 := n0_; have HO118 := n1_; have HO121 := n2_; have HB := n3_; clear n0_ n1_ n2_ n3_; (try clear hb); (try clear hb2); (try clear hk); (try clear hi)))
      (try simp only [Act.put, List.setIfInBounds_toArray, List.set_cons_zero, List.set_cons_succ])
      go_cut [32] (fun v32 wc => ∃ (kq : Nat) (x32_9 : Bool), v32 = .bool x32_9 ∧ Aside0 (laws_FnStyleTypes.j0 kq l0 t114 t122 t123 x32_9 = some r) ∧ Aside0 (kq ≤ k) ∧ Aside0 (Kd.R (Kd.int .i64) 3 wc w.heap.size (fun _ => True) v117 t114) ∧ Aside0 (Below w.heap.size w wc))
      case first =>
        have H := HC10.out
        clear HC10
        by_cases c19 : t116 = 2
        · rw [if_pos c19] at H
          have c19b0 : (t116 == 2) = true := beq_iff_eq.mpr c19
          have c19b1 : (t116 != 2) = false := bne_eq_false_iff_eq.mpr c19
          clear c19
          (try (have c19b2 := c19b0; simp only [ByteArray.size_extract, Nat.min_self] at c19b2)); (first | rw [c19b0] | (simp only [i64_w, i32_w]; rw [c19b0]) | rw [c19b1] | skip)
          have H' := Aside0.mk H
          clear H
          go_wp2
          go_meet
          case rel => exact ⟨_, (true), (by first | rfl | (simp; done) | (simp [*]; done)), H', ⟨by first | omega | exact Nat.le_refl _⟩, ⟨by (with_reducible repeat (first | apply Kd.R_alloc | apply Kd.R_drewN | apply Kd.R_drew)); exact HO118.out⟩, ⟨by repeat (first | (with_reducible first | exact HB.out | apply below_alloc | apply pw_below_drewN | apply below_drew1) | exact HB.out)⟩⟩
        · rw [if_neg c19] at H
          have c19b0 : (t116 == 2) = false := beq_eq_false_iff_ne.mpr c19
          have c19b1 : (t116 != 2) = true := bne_iff_ne.mpr c19
          (try (have c19b2 := c19b0; simp only [ByteArray.size_extract, Nat.min_self] at c19b2)); (first | rw [c19b0] | (simp only [i64_w, i32_w]; rw [c19b0]) | rw [c19b1] | skip)
          have H' := Aside0.mk H
          clear H
          go_wp2
          go_meet
          case rel => exact ⟨_, (!t115), (by first | rfl | (simp; done) | (simp [*]; done)), H', ⟨by first | omega | exact Nat.le_refl _⟩, ⟨by (with_reducible repeat (first | apply Kd.R_alloc | apply Kd.R_drewN | apply Kd.R_drew)); exact HO118.out⟩, ⟨by repeat (first | (with_reducible first | exact HB.out | apply below_alloc | apply pw_below_drewN | apply below_drew1) | exact HB.out)⟩⟩
      case rest =>
        clear HC10
        try clear c1
        try clear p2
        try clear c3
        try clear c5
        try clear c6
        try clear c7
        try clear c9
        try clear c17
        try clear c18
        try clear c19
        try clear c19b0
        try clear c19b1
        try clear c19b2
        obtain ⟨kq, x32_9, rfl, HA, HJ9, HO_3, HB⟩ := hcut
        cases kq with
        | zero => exact absurd HA.out (by simp [laws_FnStyleTypes.j0])
        | succ kj9 =>
          have H := HA.out
          clear HA
          simp only [laws_FnStyleTypes.j0] at H
          by_cases c20 : x32_9 = true
          · subst c20
            have H1 : (some true) = some r := by rw [if_pos rfl] at H; exact H
            clear H
            have H := H1
            clear H1
            obtain rfl := Option.some.inj H
            go_wp2
            go_ret
            exact ⟨by first | rfl | (simp [errW_none, errW_some] <;> rfl) | (simp [*, errW_none, errW_some] <;> rfl), by repeat (first | (with_reducible first | exact HB.out | apply below_alloc | apply pw_below_drewN | apply below_drew1) | exact HB.out)⟩
          · replace c20 := Bool.eq_false_iff.mpr c20
            subst c20
            have H1 : ((impl_StyleTypes.f l0).bind fun t124 => ((laws_sameInts.f kj9 t124 t114).bind fun t127 => (if t127 = true then (if t123 = 2 then ((laws_styled.f).bind fun t128 => (some t128)) else ((impl_StyleMode.f l0).bind fun t129 => (if t129 = t122 then ((laws_styled.f).bind fun t130 => (some t130)) else (some false)))) else (some false)))) = some r := by rw [if_neg (show ¬ (false = true) by decide)] at H; exact H
            clear H
            have H := H1
            clear H1
            replace H := Option.bind_eq_some_iff.mp H
            obtain ⟨t124, A210, H⟩ := H
            replace H : ((laws_sameInts.f kj9 t124 t114).bind fun t127 => (if t127 = true then (if t123 = 2 then ((laws_styled.f).bind fun t128 => (some t128)) else ((impl_StyleMode.f l0).bind fun t129 => (if t129 = t122 then ((laws_styled.f).bind fun t130 => (some t130)) else (some false)))) else (some false))) = some r := H
            have A21 := Aside0.mk A210
            clear A210
            replace H := Option.bind_eq_some_iff.mp H
            obtain ⟨t127, A220, H⟩ := H
            replace H : (if t127 = true then (if t123 = 2 then ((laws_styled.f).bind fun t128 => (some t128)) else ((impl_StyleMode.f l0).bind fun t129 => (if t129 = t122 then ((laws_styled.f).bind fun t130 => (some t130)) else (some false)))) else (some false)) = some r := H
            have A22 := Aside0.mk A220
            clear A220
            by_cases c23 : t127 = true
            · subst c23
              have H1 : (if t123 = 2 then ((laws_styled.f).bind fun t128 => (some t128)) else ((impl_StyleMode.f l0).bind fun t129 => (if t129 = t122 then ((laws_styled.f).bind fun t130 => (some t130)) else (some false)))) = some r := by rw [if_pos rfl] at H; exact H
              clear H
              have H := H1
              clear H1
              by_cases c24 : t123 = 2
              · rw [if_pos c24] at H
                have c24b0 : (t123 == 2) = true := beq_iff_eq.mpr c24
                have c24b1 : (t123 != 2) = false := bne_eq_false_iff_eq.mpr c24
                clear c24
                replace H := Option.bind_eq_some_iff.mp H
                obtain ⟨t128, A250, H⟩ := H
                replace H : (some t128) = some r := H
                have A25 := Aside0.mk A250
                clear A250
                obtain rfl := Option.some.inj H
                go_wp2_with (first | ((with_reducible refine gate_callee (f := 20) rfl ?_); refine goesL_ (some 34) rfl rfl Tryz.func20 (by kernel_rfl) rfl #[.slice A0 l0.length c0] rfl (by (try simp only [List.map_toArray, List.map_cons, List.map_nil]); first | done | rfl | (simp only [List.length_drop, List.length_take]; rfl)) ?_; (with_reducible refine (impl_StyleTypes.calls _ _ l0 t124 _ ?side1 ?side2 ?side3 A21.out).mono ?_); (case side1 => repeat (first | exact (Kd.C_below HR0.out HB.out) | (with_reducible refine Kd.C_alloc ?_ _) | (with_reducible refine Kd.C_drewN ?_ _) | (with_reducible refine Kd.C_drew ?_))); (case side2 => exact HC0.out); (case side3 => exact Go.Proofs.YtjemdgmihbmgeaaGreatDoorFmt.VarsOK.below HV.out (by repeat (first | (with_reducible first | exact HB.out | apply below_alloc | apply pw_below_drewN | apply below_drew1) | exact HB.out))); rintro e w26 ⟨v125, rfl, ho0, hb⟩; refine ⟨_, rfl, ?_⟩; have n0_ := Aside0.mk (Kd.R_elder' (by (with_reducible repeat (first | apply Kd.R_alloc | apply Kd.R_drewN | apply Kd.R_drew)); exact HO_3.out) (Kd.R_base ho0) hb); have n1_ := Aside0.mk (Kd.R_lower (Kd.R_new' ho0 (Kd.R_lt (by (with_reducible repeat (first | apply Kd.R_alloc | apply Kd.R_drewN | apply Kd.R_drew)); exact HO_3.out))) (below_size (by repeat (first | (with_reducible first | exact HB.out | apply below_alloc | apply pw_below_drewN | apply below_drew1) | exact HB.out)))); have n2_ := Aside0.mk (below_step (by repeat (first | (with_reducible first | exact HB.out | apply below_alloc | apply pw_below_drewN | apply below_drew1) | exact HB.out)) hb); clear HO_3; clear HB; have HO_3 := n0_; have HO126 := n1_; have HB := n2_; clear n0_ n1_ n2_; (try clear hb); (try clear hb2); (try clear hk); (try clear hi); (try clear ho0); obtain ⟨Ao27, co27, eo27⟩ := Kd.R_slice HO126.out; subst eo27; obtain ⟨Ao28, co28, eo28⟩ := Kd.R_slice HO_3.out; subst eo28) | ((with_reducible refine gate_callee (f := 19) rfl ?_); refine goesL_ (some 36) rfl rfl Tryz.func19 (by kernel_rfl) rfl #[.slice Ao27 t124.length co27, .slice Ao28 t114.length co28] rfl (by (try simp only [List.map_toArray, List.map_cons, List.map_nil]); first | done | rfl | (simp only [List.length_drop, List.length_take]; rfl)) ?_; (with_reducible refine (laws_sameInts.calls kj9 _ _ t124 _ _ t114 true _ ?side1 ?side2 ?side3 ?side4 A22.out).mono ?_); (case side1 => repeat (first | exact (Kd.R_reads' HO126.out).2.2 | (with_reducible refine Kd.C_alloc ?_ _) | (with_reducible refine Kd.C_drewN ?_ _) | (with_reducible refine Kd.C_drew ?_))); (case side2 => exact (Kd.R_reads' HO126.out).2.1); (case side3 => repeat (first | exact (Kd.R_reads' HO_3.out).2.2 | (with_reducible refine Kd.C_alloc ?_ _) | (with_reducible refine Kd.C_drewN ?_ _) | (with_reducible refine Kd.C_drew ?_))); (case side4 => exact (Kd.R_reads' HO_3.out).2.1); rintro e w' ⟨rfl, ⟨nd, rfl⟩⟩; refine ⟨_, rfl, ?_⟩) | (go_at_call 11; (with_reducible refine (laws_styled.calls  t128 _ ?side1 A25.out).mono ?_); (case side1 => exact Go.Proofs.YtjemdgmihbmgeaaGreatDoorFmt.VarsOK.below HV.out (by repeat (first | (with_reducible first | exact HB.out | apply below_alloc | apply pw_below_drewN | apply below_drew1) | exact HB.out))); rintro e w29 ⟨rfl, hb⟩; have n0_ := Aside0.mk (Kd.R_below (by (with_reducible repeat (first | apply Kd.R_alloc | apply Kd.R_drewN | apply Kd.R_drew)); exact HO_3.out) hb); have n1_ := Aside0.mk (Kd.R_below (by (with_reducible repeat (first | apply Kd.R_alloc | apply Kd.R_drewN | apply Kd.R_drew)); exact HO126.out) hb); have n2_ := Aside0.mk (below_step (by repeat (first | (with_reducible first | exact HB.out | apply below_alloc | apply pw_below_drewN | apply below_drew1) | exact HB.out)) hb); clear HO_3; clear HO126; clear HB; have HO_3 := n0_; have HO126 := n1_; have HB := n2_; clear n0_ n1_ n2_; (try clear hb); (try clear hb2); (try clear hk); (try clear hi)))
                go_ret
                exact ⟨by first | rfl | (simp [errW_none, errW_some] <;> rfl) | (simp [*, errW_none, errW_some] <;> rfl), by repeat (first | (with_reducible first | exact HB.out | apply below_alloc | apply pw_below_drewN | apply below_drew1) | exact HB.out)⟩
              · rw [if_neg c24] at H
                have c24b0 : (t123 == 2) = false := beq_eq_false_iff_ne.mpr c24
                have c24b1 : (t123 != 2) = true := bne_iff_ne.mpr c24
                replace H := Option.bind_eq_some_iff.mp H
                obtain ⟨t129, A300, H⟩ := H
                replace H : (if t129 = t122 then ((laws_styled.f).bind fun t130 => (some t130)) else (some false)) = some r := H
                have A30 := Aside0.mk A300
                clear A300
                by_cases c31 : t129 = t122
                · rw [if_pos c31] at H
                  have c31b0 : (t129 == t122) = true := beq_iff_eq.mpr c31
                  have c31b1 : (t129 != t122) = false := bne_eq_false_iff_eq.mpr c31
                  clear c31
                  replace H := Option.bind_eq_some_iff.mp H
                  obtain ⟨t130, A320, H⟩ := H
                  replace H : (some t130) = some r := H
                  have A32 := Aside0.mk A320
                  clear A320
                  obtain rfl := Option.some.inj H
                  go_wp2_with (first | ((with_reducible refine gate_callee (f := 20) rfl ?_); refine goesL_ (some 34) rfl rfl Tryz.func20 (by kernel_rfl) rfl #[.slice A0 l0.length c0] rfl (by (try simp only [List.map_toArray, List.map_cons, List.map_nil]); first | done | rfl | (simp only [List.length_drop, List.length_take]; rfl)) ?_; (with_reducible refine (impl_StyleTypes.calls _ _ l0 t124 _ ?side1 ?side2 ?side3 A21.out).mono ?_); (case side1 => repeat (first | exact (Kd.C_below HR0.out HB.out) | (with_reducible refine Kd.C_alloc ?_ _) | (with_reducible refine Kd.C_drewN ?_ _) | (with_reducible refine Kd.C_drew ?_))); (case side2 => exact HC0.out); (case side3 => exact Go.Proofs.YtjemdgmihbmgeaaGreatDoorFmt.VarsOK.below HV.out (by repeat (first | (with_reducible first | exact HB.out | apply below_alloc | apply pw_below_drewN | apply below_drew1) | exact HB.out))); rintro e w33 ⟨v125, rfl, ho0, hb⟩; refine ⟨_, rfl, ?_⟩; have n0_ := Aside0.mk (Kd.R_elder' (by (with_reducible repeat (first | apply Kd.R_alloc | apply Kd.R_drewN | apply Kd.R_drew)); exact HO_3.out) (Kd.R_base ho0) hb); have n1_ := Aside0.mk (Kd.R_lower (Kd.R_new' ho0 (Kd.R_lt (by (with_reducible repeat (first | apply Kd.R_alloc | apply Kd.R_drewN | apply Kd.R_drew)); exact HO_3.out))) (below_size (by repeat (first | (with_reducible first | exact HB.out | apply below_alloc | apply pw_below_drewN | apply below_drew1) | exact HB.out)))); have n2_ := Aside0.mk (below_step (by repeat (first | (with_reducible first | exact HB.out | apply below_alloc | apply pw_below_drewN | apply below_drew1) | exact HB.out)) hb); clear HO_3; clear HB; have HO_3 := n0_; have HO126 := n1_; have HB := n2_; clear n0_ n1_ n2_; (try clear hb); (try clear hb2); (try clear hk); (try clear hi); (try clear ho0); obtain ⟨Ao34, co34, eo34⟩ := Kd.R_slice HO126.out; subst eo34; obtain ⟨Ao35, co35, eo35⟩ := Kd.R_slice HO_3.out; subst eo35) | ((with_reducible refine gate_callee (f := 19) rfl ?_); refine goesL_ (some 36) rfl rfl Tryz.func19 (by kernel_rfl) rfl #[.slice Ao34 t124.length co34, .slice Ao35 t114.length co35] rfl (by (try simp only [List.map_toArray, List.map_cons, List.map_nil]); first | done | rfl | (simp only [List.length_drop, List.length_take]; rfl)) ?_; (with_reducible refine (laws_sameInts.calls kj9 _ _ t124 _ _ t114 true _ ?side1 ?side2 ?side3 ?side4 A22.out).mono ?_); (case side1 => repeat (first | exact (Kd.R_reads' HO126.out).2.2 | (with_reducible refine Kd.C_alloc ?_ _) | (with_reducible refine Kd.C_drewN ?_ _) | (with_reducible refine Kd.C_drew ?_))); (case side2 => exact (Kd.R_reads' HO126.out).2.1); (case side3 => repeat (first | exact (Kd.R_reads' HO_3.out).2.2 | (with_reducible refine Kd.C_alloc ?_ _) | (with_reducible refine Kd.C_drewN ?_ _) | (with_reducible refine Kd.C_drew ?_))); (case side4 => exact (Kd.R_reads' HO_3.out).2.1); rintro e w' ⟨rfl, ⟨nd, rfl⟩⟩; refine ⟨_, rfl, ?_⟩) | (go_at_call 21; (with_reducible refine (impl_StyleMode.calls _ _ l0 t129 _ ?side1 ?side2 ?side3 A30.out).mono ?_); (case side1 => repeat (first | exact (Kd.C_below HR0.out (by repeat (first | (with_reducible first | exact HB.out | apply below_alloc | apply pw_below_drewN | apply below_drew1) | exact HB.out))) | (with_reducible refine Kd.C_alloc ?_ _) | (with_reducible refine Kd.C_drewN ?_ _) | (with_reducible refine Kd.C_drew ?_))); (case side2 => exact HC0.out); (case side3 => exact Go.Proofs.YtjemdgmihbmgeaaGreatDoorFmt.VarsOK.below HV.out (by repeat (first | (with_reducible first | exact HB.out | apply below_alloc | apply pw_below_drewN | apply below_drew1) | exact HB.out))); rintro e w36 ⟨rfl, hb⟩; have n0_ := Aside0.mk (Kd.R_below (by (with_reducible repeat (first | apply Kd.R_alloc | apply Kd.R_drewN | apply Kd.R_drew)); exact HO_3.out) hb); have n1_ := Aside0.mk (Kd.R_below (by (with_reducible repeat (first | apply Kd.R_alloc | apply Kd.R_drewN | apply Kd.R_drew)); exact HO126.out) hb); have n2_ := Aside0.mk (below_step (by repeat (first | (with_reducible first | exact HB.out | apply below_alloc | apply pw_below_drewN | apply below_drew1) | exact HB.out)) hb); clear HO_3; clear HO126; clear HB; have HO_3 := n0_; have HO126 := n1_; have HB := n2_; clear n0_ n1_ n2_; (try clear hb); (try clear hb2); (try clear hk); (try clear hi)) | (go_at_call 11; (with_reducible refine (laws_styled.calls  t130 _ ?side1 A32.out).mono ?_); (case side1 => exact Go.Proofs.YtjemdgmihbmgeaaGreatDoorFmt.VarsOK.below HV.out (by repeat (first | (with_reducible first | exact HB.out | apply below_alloc | apply pw_below_drewN | apply below_drew1) | exact HB.out))); rintro e w37 ⟨rfl, hb⟩; have n0_ := Aside0.mk (Kd.R_below (by (with_reducible repeat (first | apply Kd.R_alloc | apply Kd.R_drewN | apply Kd.R_drew)); exact HO_3.out) hb); have n1_ := Aside0.mk (Kd.R_below (by (with_reducible repeat (first | apply Kd.R_alloc | apply Kd.R_drewN | apply Kd.R_drew)); exact HO126.out) hb); have n2_ := Aside0.mk (below_step (by repeat (first | (with_reducible first | exact HB.out | apply below_alloc | apply pw_below_drewN | apply below_drew1) | exact HB.out)) hb); clear HO_3; clear HO126; clear HB; have HO_3 := n0_; have HO126 := n1_; have HB := n2_; clear n0_ n1_ n2_; (try clear hb); (try clear hb2); (try clear hk); (try clear hi)))
                  go_ret
                  exact ⟨by first | rfl | (simp [errW_none, errW_some] <;> rfl) | (simp [*, errW_none, errW_some] <;> rfl), by repeat (first | (with_reducible first | exact HB.out | apply below_alloc | apply pw_below_drewN | apply below_drew1) | exact HB.out)⟩
                · rw [if_neg c31] at H
                  have c31b0 : (t129 == t122) = false := beq_eq_false_iff_ne.mpr c31
                  have c31b1 : (t129 != t122) = true := bne_iff_ne.mpr c31
                  exact absurd ((Option.some.inj H).trans hrT.out) (by decide)
            · replace c23 := Bool.eq_false_iff.mpr c23
              subst c23
              have H1 : (some false) = some r := by rw [if_neg (show ¬ (false = true) by decide)] at H; exact H
              clear H
              have H := H1
              clear H1
              exact absurd ((Option.some.inj H).trans hrT.out) (by decide)
    · replace c5 := Bool.eq_false_iff.mpr c5
      subst c5
      have H1 : (some true) = some r := by rw [if_neg (show ¬ (false = true) by decide)] at H; exact H
      clear H
      have H := H1
      clear H1
      obtain rfl := Option.some.inj H
      go_enter Tryz.func5, Tryz.ntmps5
      go_wp2_with (first | ((with_reducible refine gate_callee (f := 6) rfl ?_); refine goesL_ (some 9) rfl rfl Tryz.func6 (by kernel_rfl) rfl #[.slice A0 l0.length c0] rfl (by (try simp only [List.map_toArray, List.map_cons, List.map_nil]); first | done | rfl | (simp only [List.length_drop, List.length_take]; rfl)) ?_; (with_reducible refine (laws_zzFits2.calls k _ _ l0 true _ ?side1 ?side2 A2.out).mono ?_); (case side1 => repeat (first | exact HR0.out | (with_reducible refine Kd.C_alloc ?_ _) | (with_reducible refine Kd.C_drewN ?_ _) | (with_reducible refine Kd.C_drew ?_))); (case side2 => exact HC0.out); rintro e w38 ⟨rfl, hb⟩; refine ⟨_, rfl, ?_⟩; have n0_ := Aside0.mk (below_step (by repeat (first | (with_reducible first | exact HB.out | apply below_alloc | apply pw_below_drewN | apply below_drew1) | exact HB.out)) hb); clear HB; have HB := n0_; clear n0_; (try clear hb); (try clear hb2); (try clear hk); (try clear hi)) | ((with_reducible refine gate_callee (f := 7) rfl ?_); refine goesL_ (some 12) rfl rfl Tryz.func7 (by kernel_rfl) rfl #[.slice A0 l0.length c0, .slice none 0 0] rfl (by (try simp only [List.map_toArray, List.map_cons, List.map_nil]); first | done | rfl | (simp only [List.length_drop, List.length_take]; rfl)) ?_; (refine (laws_few.calls k _ _ l0 _ _ ([] : List Int) false _ ?side1 ?side2 ?side3 ?side4 A4.out).mono ?_); (case side1 => repeat (first | exact (Kd.C_below HR0.out HB.out) | (with_reducible refine Kd.C_alloc ?_ _) | (with_reducible refine Kd.C_drewN ?_ _) | (with_reducible refine Kd.C_drew ?_))); (case side2 => exact HC0.out); (case side3 => exact Kd.C_nil _ _); (case side4 => exact Nat.le_refl _); rintro e w39 ⟨rfl, hb⟩; refine ⟨_, rfl, ?_⟩; have n0_ := Aside0.mk (below_step (by repeat (first | (with_reducible first | exact HB.out | apply below_alloc | apply pw_below_drewN | apply below_drew1) | exact HB.out)) hb); clear HB; have HB := n0_; clear n0_; (try clear hb); (try clear hb2); (try clear hk); (try clear hi)))
      go_ret
      exact ⟨by first | rfl | (simp [errW_none, errW_some] <;> rfl) | (simp [*, errW_none, errW_some] <;> rfl), by repeat (first | (with_reducible first | exact HB.out | apply below_alloc | apply pw_below_drewN | apply below_drew1) | exact HB.out)⟩
  · replace c3 := Bool.eq_false_iff.mpr c3
    subst c3
    have H1 : (some true) = some r := by rw [if_neg (show ¬ (false = true) by decide)] at H; exact H
    clear H
    have H := H1
    clear H1
    obtain rfl := Option.some.inj H
    go_enter Tryz.func5, Tryz.ntmps5
    go_wp2_with (first | ((with_reducible refine gate_callee (f := 6) rfl ?_); refine goesL_ (some 9) rfl rfl Tryz.func6 (by kernel_rfl) rfl #[.slice A0 l0.length c0] rfl (by (try simp only [List.map_toArray, List.map_cons, List.map_nil]); first | done | rfl | (simp only [List.length_drop, List.length_take]; rfl)) ?_; (with_reducible refine (laws_zzFits2.calls k _ _ l0 false _ ?side1 ?side2 A2.out).mono ?_); (case side1 => repeat (first | exact HR0.out | (with_reducible refine Kd.C_alloc ?_ _) | (with_reducible refine Kd.C_drewN ?_ _) | (with_reducible refine Kd.C_drew ?_))); (case side2 => exact HC0.out); rintro e w40 ⟨rfl, hb⟩; refine ⟨_, rfl, ?_⟩; have n0_ := Aside0.mk (below_step (by repeat (first | (with_reducible first | exact HB.out | apply below_alloc | apply pw_below_drewN | apply below_drew1) | exact HB.out)) hb); clear HB; have HB := n0_; clear n0_; (try clear hb); (try clear hb2); (try clear hk); (try clear hi)))
    go_ret
    exact ⟨by first | rfl | (simp [errW_none, errW_some] <;> rfl) | (simp [*, errW_none, errW_some] <;> rfl), by repeat (first | (with_reducible first | exact HB.out | apply below_alloc | apply pw_below_drewN | apply below_drew1) | exact HB.out)⟩
def wf_S54 (x : S54) : Prop := (IntKind.i64.min ≤ x.f0 ∧ x.f0 ≤ IntKind.i64.max) ∧ (x.f1.size ≤ maxLen)
def laws_FnStyleTypes.Pure : Prop := ∀ (l0 : List (S54)), (l0.length ≤ 9223372036854775807 ∧ ∀ x ∈ l0, wf_S54 x) → ∃ k, laws_FnStyleTypes.f k l0 = some true

end Go.Proofs.YtjemdgmihbmgeaaGreatDoor.T
