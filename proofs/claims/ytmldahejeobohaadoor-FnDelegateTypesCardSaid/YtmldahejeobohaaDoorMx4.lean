-- WRITTEN BY OUR myprint.py, a program of this session's over the kit's printer
import Derived.Test.YtmldahejeobohaaDoorMx0
import Derived.Test.YtmldahejeobohaaDoorMx1
import Derived.Test.YtmldahejeobohaaDoorMx3
namespace Go.Proofs.YtmldahejeobohaaDoor.M
open Go.RowKit Go.Proofs.YtmldahejeobohaaDoorW.PrintWords Go.Proofs.YtmldahejeobohaaDoorW.PrintLast Go.Proofs.YtmldahejeobohaaDoorW.PrintMore
attribute [local go_sem] max2_int min2_int max_two min_two max_three min_three max_four min_four   -- for this text's walks alone
set_option linter.unusedVariables false
set_option linter.unusedSimpArgs false

/-! ### laws_FnDelegateText: function 4 -/
mutual
def laws_FnDelegateText.j0 : Nat → List (S29) → List (S27) → Bool → Option (Bool)
  | 0, _, _, _ => none
  | k + 1, x0, x1, x14 => if x14 = true then (some true) else ((laws_cutting.f k x0).bind fun t183 => (if t183 = true then ((laws_small.f k x1).bind fun t184 => (if t184 = true then ((laws_hollow.f k x1).bind fun t185 => (laws_FnDelegateText.j1 k x0 x1 t185)) else (laws_FnDelegateText.j1 k x0 x1 true))) else (laws_FnDelegateText.j1 k x0 x1 true)))
def laws_FnDelegateText.j1 : Nat → List (S29) → List (S27) → Bool → Option (Bool)
  | 0, _, _, _ => none
  | k + 1, x0, x1, x26 => if x26 = true then (some true) else ((impl_Delegate.f x0 x1).bind fun bt186 => (if bt186.2 = true then ((laws_text.f k bt186.1).bind fun t190 => ((laws_text.f k x1).bind fun t191 => (if t190.toList = t191.toList then ((laws_waking.f k).bind fun t192 => (some t192)) else (some false)))) else (some false)))
end
def laws_FnDelegateText.f (k : Nat) (l0 : List (S29)) (l1 : List (S27)) : Option (Bool) := if (l0.length : Int) > 2147483647 then (laws_FnDelegateText.j0 k l0 l1 true) else ((laws_zzFits4.f k l1).bind fun t182 => (laws_FnDelegateText.j0 k l0 l1 (!t182)))
theorem laws_FnDelegateText.mono_l : ∀ k, (∀ y0 y1 y2, LeO (laws_FnDelegateText.j0 k y0 y1 y2) (laws_FnDelegateText.j0 (k + 1) y0 y1 y2)) ∧ (∀ y0 y1 y2, LeO (laws_FnDelegateText.j1 k y0 y1 y2) (laws_FnDelegateText.j1 (k + 1) y0 y1 y2))
  | 0 => ⟨fun _ _ _ r h => by simp [laws_FnDelegateText.j0] at h, fun _ _ _ r h => by simp [laws_FnDelegateText.j1] at h⟩
  | k + 1 => by
    obtain ⟨ih0, ih1⟩ := laws_FnDelegateText.mono_l k
    refine ⟨?_, ?_⟩
    · intro y0 y1 y2
      unfold laws_FnDelegateText.j0
      repeat' first
      | (with_reducible exact ih0 _ _ _)
      | (with_reducible exact ih1 _ _ _)
      | (with_reducible exact laws_cutting.mono _ _)
      | (with_reducible exact laws_hollow.mono _ _)
      | (with_reducible exact laws_small.mono _ _)
      | (with_reducible exact laws_text.mono _ _)
      | (with_reducible exact laws_waking.mono _)
      | (with_reducible exact laws_zzFits4.mono _ _)
      | (with_reducible exact LeO.refl _)
      | (with_reducible exact LeO.none _)
      | (with_reducible refine LeO.ite ?_ ?_)
      | (with_reducible refine LeO.bind ?_ (fun _ => ?_))
      | exact ih0 _ _ _
      | exact ih1 _ _ _
      | exact laws_cutting.mono _ _
      | exact laws_hollow.mono _ _
      | exact laws_small.mono _ _
      | exact laws_text.mono _ _
      | exact laws_waking.mono _
      | exact laws_zzFits4.mono _ _
      | exact LeO.none _
      | refine LeO.ite ?_ ?_
      | refine LeO.bind ?_ (fun _ => ?_)
    · intro y0 y1 y2
      unfold laws_FnDelegateText.j1
      repeat' first
      | (with_reducible exact ih0 _ _ _)
      | (with_reducible exact ih1 _ _ _)
      | (with_reducible exact laws_cutting.mono _ _)
      | (with_reducible exact laws_hollow.mono _ _)
      | (with_reducible exact laws_small.mono _ _)
      | (with_reducible exact laws_text.mono _ _)
      | (with_reducible exact laws_waking.mono _)
      | (with_reducible exact laws_zzFits4.mono _ _)
      | (with_reducible exact LeO.refl _)
      | (with_reducible exact LeO.none _)
      | (with_reducible refine LeO.ite ?_ ?_)
      | (with_reducible refine LeO.bind ?_ (fun _ => ?_))
      | exact ih0 _ _ _
      | exact ih1 _ _ _
      | exact laws_cutting.mono _ _
      | exact laws_hollow.mono _ _
      | exact laws_small.mono _ _
      | exact laws_text.mono _ _
      | exact laws_waking.mono _
      | exact laws_zzFits4.mono _ _
      | exact LeO.none _
      | refine LeO.ite ?_ ?_
      | refine LeO.bind ?_ (fun _ => ?_)
theorem laws_FnDelegateText.mono : ∀ a0 a1 k, LeO (laws_FnDelegateText.f k a0 a1) (laws_FnDelegateText.f (k + 1) a0 a1) := by
  intro a0 a1 k
  obtain ⟨ih0, ih1⟩ := laws_FnDelegateText.mono_l k
  unfold laws_FnDelegateText.f
  repeat' first
      | (with_reducible exact ih0 _ _ _)
      | (with_reducible exact ih1 _ _ _)
      | (with_reducible exact laws_cutting.mono _ _)
      | (with_reducible exact laws_hollow.mono _ _)
      | (with_reducible exact laws_small.mono _ _)
      | (with_reducible exact laws_text.mono _ _)
      | (with_reducible exact laws_waking.mono _)
      | (with_reducible exact laws_zzFits4.mono _ _)
      | (with_reducible exact LeO.refl _)
      | (with_reducible exact LeO.none _)
      | (with_reducible refine LeO.ite ?_ ?_)
      | (with_reducible refine LeO.bind ?_ (fun _ => ?_))
      | exact ih0 _ _ _
      | exact ih1 _ _ _
      | exact laws_cutting.mono _ _
      | exact laws_hollow.mono _ _
      | exact laws_small.mono _ _
      | exact laws_text.mono _ _
      | exact laws_waking.mono _
      | exact laws_zzFits4.mono _ _
      | exact LeO.none _
      | refine LeO.ite ?_ ?_
      | refine LeO.bind ?_ (fun _ => ?_)
set_option maxHeartbeats 8000000 in
set_option maxRecDepth 100000 in
theorem laws_FnDelegateText.calls (k : Nat) (A0 : Option Addr) (c0 : Nat) (l0 : List (S29)) (A1 : Option Addr) (c1 : Nat) (l1 : List (S27)) (r : Bool) (w : World) (hr0 : Kd.C k29 w A0 l0.length l0) (hc0 : l0.length ≤ c0) (hr1 : Kd.C k27 w A1 l1.length l1) (hc1 : l1.length ≤ c1) (hV : Go.Proofs.YtmldahejeobohaaDoorFmt.VarsOK w) (h : laws_FnDelegateText.f k l0 l1 = some r) :
    Calls Tryd.prog 4 #[.slice A0 l0.length c0, .slice A1 l1.length c1] w fun e w' => e = .returned (.bool r) ∧ Below w.heap.size w w' := by
  have HR0 := Aside0.mk hr0
  have HC0 := Aside0.mk hc0
  clear hr0 hc0
  have HR1 := Aside0.mk hr1
  have HC1 := Aside0.mk hc1
  clear hr1 hc1
  have HB := Aside0.mk (Below.refl w.heap.size w)
  have HV := Aside0.mk hV
  clear hV
  have H : (if (l0.length : Int) > 2147483647 then (laws_FnDelegateText.j0 k l0 l1 true) else ((laws_zzFits4.f k l1).bind fun t182 => (laws_FnDelegateText.j0 k l0 l1 (!t182)))) = some r := h
  clear h
  have HC3 := Aside0.mk H
  clear H
  go_enter Tryd.func4, Tryd.ntmps4
  go_upto_region 1 with (fail)
  go_cut [14] (fun v14 wc => ∃ (kq : Nat) (x14_2 : Bool), v14 = .bool x14_2 ∧ Aside0 (laws_FnDelegateText.j0 kq l0 l1 x14_2 = some r) ∧ Aside0 (kq ≤ k) ∧ Aside0 (Below w.heap.size w wc))
  case first =>
    have H := HC3.out
    clear HC3
    by_cases c4 : (l0.length : Int) > 2147483647
    · rw [if_pos c4] at H
      have c4b0 : decide (2147483647 < (l0.length : Int)) = true := decide_eq_true c4
      have c4b1 : decide (2147483647 < l0.length) = true := decide_eq_true (by omega)
      clear c4
      (try (have c4b2 := c4b0; simp only [ByteArray.size_extract, Nat.min_self] at c4b2)); (first | rw [c4b0] | (simp only [i64_w, i32_w]; rw [c4b0]) | rw [c4b1] | skip)
      have H' := Aside0.mk H
      clear H
      go_wp2
      go_meet
      case rel => exact ⟨_, (true), (by first | rfl | (simp; done) | (simp [*]; done)), H', ⟨by first | omega | exact Nat.le_refl _⟩, ⟨by repeat (first | (with_reducible first | exact HB.out | apply below_alloc | apply pw_below_drewN | apply below_drew1) | exact HB.out)⟩⟩
    · rw [if_neg c4] at H
      have c4b0 : decide (2147483647 < (l0.length : Int)) = false := decide_eq_false c4
      have c4b1 : decide (2147483647 < l0.length) = false := decide_eq_false (by omega)
      clear c4
      (try (have c4b2 := c4b0; simp only [ByteArray.size_extract, Nat.min_self] at c4b2)); (first | rw [c4b0] | (simp only [i64_w, i32_w]; rw [c4b0]) | rw [c4b1] | skip)
      replace H := Option.bind_eq_some_iff.mp H
      obtain ⟨t182, A50, H⟩ := H
      replace H : (laws_FnDelegateText.j0 k l0 l1 (!t182)) = some r := H
      have A5 := Aside0.mk A50
      clear A50
      have H' := Aside0.mk H
      clear H
      go_wp2_with (first | (go_at_call 6; (with_reducible refine (laws_zzFits4.calls k _ _ l1 t182 _ ?side1 ?side2 A5.out).mono ?_); (case side1 => repeat (first | exact (Kd.C_below HR1.out HB.out) | (with_reducible refine Kd.C_alloc ?_ _) | (with_reducible refine Kd.C_drewN ?_ _) | (with_reducible refine Kd.C_drew ?_))); (case side2 => exact HC1.out); rintro e w6 ⟨rfl, hb⟩; have n0_ := Aside0.mk (below_step (by repeat (first | (with_reducible first | exact HB.out | apply below_alloc | apply pw_below_drewN | apply below_drew1) | exact HB.out)) hb); clear HB; have HB := n0_; clear n0_; (try clear hb); (try clear hb2); (try clear hk); (try clear hi)))
      go_meet
      case rel => exact ⟨_, (!t182), (by first | rfl | (simp; done) | (simp [*]; done)), H', ⟨by first | omega | exact Nat.le_refl _⟩, ⟨by repeat (first | (with_reducible first | exact HB.out | apply below_alloc | apply pw_below_drewN | apply below_drew1) | exact HB.out)⟩⟩
  case rest =>
    clear HC3
    try clear c1
    try clear p2
    try clear c4
    try clear c4b0
    try clear c4b1
    try clear c4b2
    obtain ⟨kq, x14_2, rfl, HA, HJ2, HB⟩ := hcut
    cases kq with
    | zero => exact absurd HA.out (by simp [laws_FnDelegateText.j0])
    | succ kj2 =>
      have H := HA.out
      clear HA
      simp only [laws_FnDelegateText.j0] at H
      by_cases c7 : x14_2 = true
      · subst c7
        have H1 : (some true) = some r := by rw [if_pos rfl] at H; exact H
        clear H
        have H := H1
        clear H1
        obtain rfl := Option.some.inj H
        go_wp2
        go_ret
        exact ⟨by first | rfl | (simp [errW_none, errW_some] <;> rfl) | (simp [*, errW_none, errW_some] <;> rfl), by repeat (first | (with_reducible first | exact HB.out | apply below_alloc | apply pw_below_drewN | apply below_drew1) | exact HB.out)⟩
      · replace c7 := Bool.eq_false_iff.mpr c7
        subst c7
        have H1 : ((laws_cutting.f kj2 l0).bind fun t183 => (if t183 = true then ((laws_small.f kj2 l1).bind fun t184 => (if t184 = true then ((laws_hollow.f kj2 l1).bind fun t185 => (laws_FnDelegateText.j1 kj2 l0 l1 t185)) else (laws_FnDelegateText.j1 kj2 l0 l1 true))) else (laws_FnDelegateText.j1 kj2 l0 l1 true))) = some r := by rw [if_neg (show ¬ (false = true) by decide)] at H; exact H
        clear H
        have H := H1
        clear H1
        have HC8 := Aside0.mk H
        clear H
        go_upto_region 3 with (fail)
        go_cut [26] (fun v26 wc => ∃ (kq : Nat) (x26_7 : Bool), v26 = .bool x26_7 ∧ Aside0 (laws_FnDelegateText.j1 kq l0 l1 x26_7 = some r) ∧ Aside0 (kq ≤ kj2) ∧ Aside0 (Below w.heap.size w wc))
        case first =>
          have H := HC8.out
          clear HC8
          replace H := Option.bind_eq_some_iff.mp H
          obtain ⟨t183, A90, H⟩ := H
          replace H : (if t183 = true then ((laws_small.f kj2 l1).bind fun t184 => (if t184 = true then ((laws_hollow.f kj2 l1).bind fun t185 => (laws_FnDelegateText.j1 kj2 l0 l1 t185)) else (laws_FnDelegateText.j1 kj2 l0 l1 true))) else (laws_FnDelegateText.j1 kj2 l0 l1 true)) = some r := H
          have A9 := Aside0.mk A90
          clear A90
          by_cases c10 : t183 = true
          · subst c10
            have H1 : ((laws_small.f kj2 l1).bind fun t184 => (if t184 = true then ((laws_hollow.f kj2 l1).bind fun t185 => (laws_FnDelegateText.j1 kj2 l0 l1 t185)) else (laws_FnDelegateText.j1 kj2 l0 l1 true))) = some r := by rw [if_pos rfl] at H; exact H
            clear H
            have H := H1
            clear H1
            replace H := Option.bind_eq_some_iff.mp H
            obtain ⟨t184, A110, H⟩ := H
            replace H : (if t184 = true then ((laws_hollow.f kj2 l1).bind fun t185 => (laws_FnDelegateText.j1 kj2 l0 l1 t185)) else (laws_FnDelegateText.j1 kj2 l0 l1 true)) = some r := H
            have A11 := Aside0.mk A110
            clear A110
            by_cases c12 : t184 = true
            · subst c12
              have H1 : ((laws_hollow.f kj2 l1).bind fun t185 => (laws_FnDelegateText.j1 kj2 l0 l1 t185)) = some r := by rw [if_pos rfl] at H; exact H
              clear H
              have H := H1
              clear H1
              replace H := Option.bind_eq_some_iff.mp H
              obtain ⟨t185, A130, H⟩ := H
              replace H : (laws_FnDelegateText.j1 kj2 l0 l1 t185) = some r := H
              have A13 := Aside0.mk A130
              clear A130
              have H' := Aside0.mk H
              clear H
              go_wp2_with (first | ((with_reducible refine gate_callee (f := 7) rfl ?_); refine goesL_ (some 16) rfl rfl Tryd.func7 (by kernel_rfl) rfl #[.slice A0 l0.length c0] rfl (by (try simp only [List.map_toArray, List.map_cons, List.map_nil]); first | done | rfl | (simp only [List.length_drop, List.length_take]; rfl)) ?_; (with_reducible refine (laws_cutting.calls kj2 _ _ l0 true _ ?side1 ?side2 A9.out).mono ?_); (case side1 => repeat (first | exact (Kd.C_below HR0.out HB.out) | (with_reducible refine Kd.C_alloc ?_ _) | (with_reducible refine Kd.C_drewN ?_ _) | (with_reducible refine Kd.C_drew ?_))); (case side2 => exact HC0.out); rintro e w14 ⟨rfl, hb⟩; refine ⟨_, rfl, ?_⟩; have n0_ := Aside0.mk (below_step (by repeat (first | (with_reducible first | exact HB.out | apply below_alloc | apply pw_below_drewN | apply below_drew1) | exact HB.out)) hb); clear HB; have HB := n0_; clear n0_; (try clear hb); (try clear hb2); (try clear hk); (try clear hi)) | (go_at_call 8; (with_reducible refine (laws_small.calls kj2 _ _ l1 true _ ?side1 ?side2 A11.out).mono ?_); (case side1 => repeat (first | exact (Kd.C_below HR1.out HB.out) | (with_reducible refine Kd.C_alloc ?_ _) | (with_reducible refine Kd.C_drewN ?_ _) | (with_reducible refine Kd.C_drew ?_))); (case side2 => exact HC1.out); rintro e w15 ⟨rfl, hb⟩; have n0_ := Aside0.mk (below_step (by repeat (first | (with_reducible first | exact HB.out | apply below_alloc | apply pw_below_drewN | apply below_drew1) | exact HB.out)) hb); clear HB; have HB := n0_; clear n0_; (try clear hb); (try clear hb2); (try clear hk); (try clear hi)) | (go_at_call 9; (with_reducible refine (laws_hollow.calls kj2 _ _ l1 t185 _ ?side1 ?side2 A13.out).mono ?_); (case side1 => repeat (first | exact (Kd.C_below HR1.out HB.out) | (with_reducible refine Kd.C_alloc ?_ _) | (with_reducible refine Kd.C_drewN ?_ _) | (with_reducible refine Kd.C_drew ?_))); (case side2 => exact HC1.out); rintro e w16 ⟨rfl, hb⟩; have n0_ := Aside0.mk (below_step (by repeat (first | (with_reducible first | exact HB.out | apply below_alloc | apply pw_below_drewN | apply below_drew1) | exact HB.out)) hb); clear HB; have HB := n0_; clear n0_; (try clear hb); (try clear hb2); (try clear hk); (try clear hi)))
              go_meet
              case rel => exact ⟨_, (t185), (by first | rfl | (simp; done) | (simp [*]; done)), H', ⟨by have := HJ2.out; first | omega | exact Nat.le_refl _⟩, ⟨by repeat (first | (with_reducible first | exact HB.out | apply below_alloc | apply pw_below_drewN | apply below_drew1) | exact HB.out)⟩⟩
            · replace c12 := Bool.eq_false_iff.mpr c12
              subst c12
              have H1 : (laws_FnDelegateText.j1 kj2 l0 l1 true) = some r := by rw [if_neg (show ¬ (false = true) by decide)] at H; exact H
              clear H
              have H := H1
              clear H1
              have H' := Aside0.mk H
              clear H
              go_wp2_with (first | ((with_reducible refine gate_callee (f := 7) rfl ?_); refine goesL_ (some 16) rfl rfl Tryd.func7 (by kernel_rfl) rfl #[.slice A0 l0.length c0] rfl (by (try simp only [List.map_toArray, List.map_cons, List.map_nil]); first | done | rfl | (simp only [List.length_drop, List.length_take]; rfl)) ?_; (with_reducible refine (laws_cutting.calls kj2 _ _ l0 true _ ?side1 ?side2 A9.out).mono ?_); (case side1 => repeat (first | exact (Kd.C_below HR0.out HB.out) | (with_reducible refine Kd.C_alloc ?_ _) | (with_reducible refine Kd.C_drewN ?_ _) | (with_reducible refine Kd.C_drew ?_))); (case side2 => exact HC0.out); rintro e w17 ⟨rfl, hb⟩; refine ⟨_, rfl, ?_⟩; have n0_ := Aside0.mk (below_step (by repeat (first | (with_reducible first | exact HB.out | apply below_alloc | apply pw_below_drewN | apply below_drew1) | exact HB.out)) hb); clear HB; have HB := n0_; clear n0_; (try clear hb); (try clear hb2); (try clear hk); (try clear hi)) | (go_at_call 8; (with_reducible refine (laws_small.calls kj2 _ _ l1 false _ ?side1 ?side2 A11.out).mono ?_); (case side1 => repeat (first | exact (Kd.C_below HR1.out HB.out) | (with_reducible refine Kd.C_alloc ?_ _) | (with_reducible refine Kd.C_drewN ?_ _) | (with_reducible refine Kd.C_drew ?_))); (case side2 => exact HC1.out); rintro e w18 ⟨rfl, hb⟩; have n0_ := Aside0.mk (below_step (by repeat (first | (with_reducible first | exact HB.out | apply below_alloc | apply pw_below_drewN | apply below_drew1) | exact HB.out)) hb); clear HB; have HB := n0_; clear n0_; (try clear hb); (try clear hb2); (try clear hk); (try clear hi)))
              go_meet
              case rel => exact ⟨_, (true), (by first | rfl | (simp; done) | (simp [*]; done)), H', ⟨by have := HJ2.out; first | omega | exact Nat.le_refl _⟩, ⟨by repeat (first | (with_reducible first | exact HB.out | apply below_alloc | apply pw_below_drewN | apply below_drew1) | exact HB.out)⟩⟩
          · replace c10 := Bool.eq_false_iff.mpr c10
            subst c10
            have H1 : (laws_FnDelegateText.j1 kj2 l0 l1 true) = some r := by rw [if_neg (show ¬ (false = true) by decide)] at H; exact H
            clear H
            have H := H1
            clear H1
            have H' := Aside0.mk H
            clear H
            go_wp2_with (first | ((with_reducible refine gate_callee (f := 7) rfl ?_); refine goesL_ (some 16) rfl rfl Tryd.func7 (by kernel_rfl) rfl #[.slice A0 l0.length c0] rfl (by (try simp only [List.map_toArray, List.map_cons, List.map_nil]); first | done | rfl | (simp only [List.length_drop, List.length_take]; rfl)) ?_; (with_reducible refine (laws_cutting.calls kj2 _ _ l0 false _ ?side1 ?side2 A9.out).mono ?_); (case side1 => repeat (first | exact (Kd.C_below HR0.out HB.out) | (with_reducible refine Kd.C_alloc ?_ _) | (with_reducible refine Kd.C_drewN ?_ _) | (with_reducible refine Kd.C_drew ?_))); (case side2 => exact HC0.out); rintro e w19 ⟨rfl, hb⟩; refine ⟨_, rfl, ?_⟩; have n0_ := Aside0.mk (below_step (by repeat (first | (with_reducible first | exact HB.out | apply below_alloc | apply pw_below_drewN | apply below_drew1) | exact HB.out)) hb); clear HB; have HB := n0_; clear n0_; (try clear hb); (try clear hb2); (try clear hk); (try clear hi)))
            go_meet
            case rel => exact ⟨_, (true), (by first | rfl | (simp; done) | (simp [*]; done)), H', ⟨by have := HJ2.out; first | omega | exact Nat.le_refl _⟩, ⟨by repeat (first | (with_reducible first | exact HB.out | apply below_alloc | apply pw_below_drewN | apply below_drew1) | exact HB.out)⟩⟩
        case rest =>
          clear HC8
          try clear c1
          try clear p2
          try clear c4
          try clear c4b0
          try clear c4b1
          try clear c4b2
          try clear c7
          try clear c10
          try clear c12
          try clear p2
          obtain ⟨kq, x26_7, rfl, HA, HJ7, HB⟩ := hcut
          cases kq with
          | zero => exact absurd HA.out (by simp [laws_FnDelegateText.j1])
          | succ kj7 =>
            have H := HA.out
            clear HA
            simp only [laws_FnDelegateText.j1] at H
            by_cases c20 : x26_7 = true
            · subst c20
              have H1 : (some true) = some r := by rw [if_pos rfl] at H; exact H
              clear H
              have H := H1
              clear H1
              obtain rfl := Option.some.inj H
              go_wp2
              go_ret
              exact ⟨by first | rfl | (simp [errW_none, errW_some] <;> rfl) | (simp [*, errW_none, errW_some] <;> rfl), by repeat (first | (with_reducible first | exact HB.out | apply below_alloc | apply pw_below_drewN | apply below_drew1) | exact HB.out)⟩
            · replace c20 := Bool.eq_false_iff.mpr c20
              subst c20
              have H1 : ((impl_Delegate.f l0 l1).bind fun bt186 => (if bt186.2 = true then ((laws_text.f kj7 bt186.1).bind fun t190 => ((laws_text.f kj7 l1).bind fun t191 => (if t190.toList = t191.toList then ((laws_waking.f kj7).bind fun t192 => (some t192)) else (some false)))) else (some false))) = some r := by rw [if_neg (show ¬ (false = true) by decide)] at H; exact H
              clear H
              have H := H1
              clear H1
              replace H := Option.bind_eq_some_iff.mp H
              obtain ⟨⟨t186, t187⟩, A210, H⟩ := H
              replace H : (if t187 = true then ((laws_text.f kj7 t186).bind fun t190 => ((laws_text.f kj7 l1).bind fun t191 => (if t190.toList = t191.toList then ((laws_waking.f kj7).bind fun t192 => (some t192)) else (some false)))) else (some false)) = some r := H
              have A21 := Aside0.mk A210
              clear A210
              by_cases c22 : t187 = true
              · subst c22
                have H1 : ((laws_text.f kj7 t186).bind fun t190 => ((laws_text.f kj7 l1).bind fun t191 => (if t190.toList = t191.toList then ((laws_waking.f kj7).bind fun t192 => (some t192)) else (some false)))) = some r := by rw [if_pos rfl] at H; exact H
                clear H
                have H := H1
                clear H1
                replace H := Option.bind_eq_some_iff.mp H
                obtain ⟨t190, A230, H⟩ := H
                replace H : ((laws_text.f kj7 l1).bind fun t191 => (if t190.toList = t191.toList then ((laws_waking.f kj7).bind fun t192 => (some t192)) else (some false))) = some r := H
                have A23 := Aside0.mk A230
                clear A230
                replace H := Option.bind_eq_some_iff.mp H
                obtain ⟨t191, A240, H⟩ := H
                replace H : (if t190.toList = t191.toList then ((laws_waking.f kj7).bind fun t192 => (some t192)) else (some false)) = some r := H
                have A24 := Aside0.mk A240
                clear A240
                by_cases c25 : t190.toList = t191.toList
                · rw [if_pos c25] at H
                  have c25b0 : (t190.toList == t191.toList) = true := beq_iff_eq.mpr c25
                  have c25b1 : (t190.toList != t191.toList) = false := bne_eq_false_iff_eq.mpr c25
                  clear c25
                  replace H := Option.bind_eq_some_iff.mp H
                  obtain ⟨t192, A260, H⟩ := H
                  replace H : (some t192) = some r := H
                  have A26 := Aside0.mk A260
                  clear A260
                  obtain rfl := Option.some.inj H
                  go_wp2_with (first | ((with_reducible refine gate_callee (f := 11) rfl ?_); refine goesL_ (some 30) rfl rfl Tryd.func11 (by kernel_rfl) rfl #[.slice A0 l0.length c0, .slice A1 l1.length c1] rfl (by (try simp only [List.map_toArray, List.map_cons, List.map_nil]); first | done | rfl | (simp only [List.length_drop, List.length_take]; rfl)) ?_; (with_reducible refine (impl_Delegate.calls _ _ l0 _ _ l1 t186 true _ ?side1 ?side2 ?side3 ?side4 ?side5 A21.out).mono ?_); (case side1 => repeat (first | exact (Kd.C_below HR0.out HB.out) | (with_reducible refine Kd.C_alloc ?_ _) | (with_reducible refine Kd.C_drewN ?_ _) | (with_reducible refine Kd.C_drew ?_))); (case side2 => exact HC0.out); (case side3 => repeat (first | exact (Kd.C_below HR1.out HB.out) | (with_reducible refine Kd.C_alloc ?_ _) | (with_reducible refine Kd.C_drewN ?_ _) | (with_reducible refine Kd.C_drew ?_))); (case side4 => exact HC1.out); (case side5 => exact Go.Proofs.YtmldahejeobohaaDoorFmt.VarsOK.below HV.out (by repeat (first | (with_reducible first | exact HB.out | apply below_alloc | apply pw_below_drewN | apply below_drew1) | exact HB.out))); rintro e w27 ⟨v188, rfl, ho0, hb⟩; refine ⟨_, rfl, ?_⟩; have n0_ := Aside0.mk (Kd.R_lower ho0 (below_size (by repeat (first | (with_reducible first | exact HB.out | apply below_alloc | apply pw_below_drewN | apply below_drew1) | exact HB.out)))); have n1_ := Aside0.mk (below_step (by repeat (first | (with_reducible first | exact HB.out | apply below_alloc | apply pw_below_drewN | apply below_drew1) | exact HB.out)) hb); clear HB; have HO189 := n0_; have HB := n1_; clear n0_ n1_; (try clear hb); (try clear hb2); (try clear hk); (try clear hi); (try clear ho0); obtain ⟨Ao28, co28, eo28⟩ := Kd.R_slice HO189.out; subst eo28) | (go_at_call 15; (with_reducible refine (laws_text.calls kj7 _ _ t186 t190 _ ?side1 ?side2 A23.out).mono ?_); (case side1 => repeat (first | exact (Kd.R_reads' HO189.out).2.2 | (with_reducible refine Kd.C_alloc ?_ _) | (with_reducible refine Kd.C_drewN ?_ _) | (with_reducible refine Kd.C_drew ?_))); (case side2 => exact (Kd.R_reads' HO189.out).2.1); rintro e w29 ⟨rfl, hb⟩; have n0_ := Aside0.mk (Kd.R_below (by (with_reducible repeat (first | apply Kd.R_alloc | apply Kd.R_drewN | apply Kd.R_drew)); exact HO189.out) hb); have n1_ := Aside0.mk (below_step (by repeat (first | (with_reducible first | exact HB.out | apply below_alloc | apply pw_below_drewN | apply below_drew1) | exact HB.out)) hb); clear HO189; clear HB; have HO189 := n0_; have HB := n1_; clear n0_ n1_; (try clear hb); (try clear hb2); (try clear hk); (try clear hi)) | (go_at_call 15; (with_reducible refine (laws_text.calls kj7 _ _ l1 t191 _ ?side1 ?side2 A24.out).mono ?_); (case side1 => repeat (first | exact (Kd.C_below HR1.out HB.out) | (with_reducible refine Kd.C_alloc ?_ _) | (with_reducible refine Kd.C_drewN ?_ _) | (with_reducible refine Kd.C_drew ?_))); (case side2 => exact HC1.out); rintro e w30 ⟨rfl, hb⟩; have n0_ := Aside0.mk (Kd.R_below (by (with_reducible repeat (first | apply Kd.R_alloc | apply Kd.R_drewN | apply Kd.R_drew)); exact HO189.out) hb); have n1_ := Aside0.mk (below_step (by repeat (first | (with_reducible first | exact HB.out | apply below_alloc | apply pw_below_drewN | apply below_drew1) | exact HB.out)) hb); clear HO189; clear HB; have HO189 := n0_; have HB := n1_; clear n0_ n1_; (try clear hb); (try clear hb2); (try clear hk); (try clear hi)) | (go_at_call 14; (with_reducible refine (laws_waking.calls kj7  t192 _ A26.out).mono ?_); rintro e w31 ⟨rfl, hb⟩; have n0_ := Aside0.mk (Kd.R_below (by (with_reducible repeat (first | apply Kd.R_alloc | apply Kd.R_drewN | apply Kd.R_drew)); exact HO189.out) hb); have n1_ := Aside0.mk (below_step (by repeat (first | (with_reducible first | exact HB.out | apply below_alloc | apply pw_below_drewN | apply below_drew1) | exact HB.out)) hb); clear HO189; clear HB; have HO189 := n0_; have HB := n1_; clear n0_ n1_; (try clear hb); (try clear hb2); (try clear hk); (try clear hi)))
                  go_ret
                  exact ⟨by first | rfl | (simp [errW_none, errW_some] <;> rfl) | (simp [*, errW_none, errW_some] <;> rfl), by repeat (first | (with_reducible first | exact HB.out | apply below_alloc | apply pw_below_drewN | apply below_drew1) | exact HB.out)⟩
                · rw [if_neg c25] at H
                  have c25b0 : (t190.toList == t191.toList) = false := beq_eq_false_iff_ne.mpr c25
                  have c25b1 : (t190.toList != t191.toList) = true := bne_iff_ne.mpr c25
                  obtain rfl := Option.some.inj H
                  go_wp2_with (first | ((with_reducible refine gate_callee (f := 11) rfl ?_); refine goesL_ (some 30) rfl rfl Tryd.func11 (by kernel_rfl) rfl #[.slice A0 l0.length c0, .slice A1 l1.length c1] rfl (by (try simp only [List.map_toArray, List.map_cons, List.map_nil]); first | done | rfl | (simp only [List.length_drop, List.length_take]; rfl)) ?_; (with_reducible refine (impl_Delegate.calls _ _ l0 _ _ l1 t186 true _ ?side1 ?side2 ?side3 ?side4 ?side5 A21.out).mono ?_); (case side1 => repeat (first | exact (Kd.C_below HR0.out HB.out) | (with_reducible refine Kd.C_alloc ?_ _) | (with_reducible refine Kd.C_drewN ?_ _) | (with_reducible refine Kd.C_drew ?_))); (case side2 => exact HC0.out); (case side3 => repeat (first | exact (Kd.C_below HR1.out HB.out) | (with_reducible refine Kd.C_alloc ?_ _) | (with_reducible refine Kd.C_drewN ?_ _) | (with_reducible refine Kd.C_drew ?_))); (case side4 => exact HC1.out); (case side5 => exact Go.Proofs.YtmldahejeobohaaDoorFmt.VarsOK.below HV.out (by repeat (first | (with_reducible first | exact HB.out | apply below_alloc | apply pw_below_drewN | apply below_drew1) | exact HB.out))); rintro e w32 ⟨v188, rfl, ho0, hb⟩; refine ⟨_, rfl, ?_⟩; have n0_ := Aside0.mk (Kd.R_lower ho0 (below_size (by repeat (first | (with_reducible first | exact HB.out | apply below_alloc | apply pw_below_drewN | apply below_drew1) | exact HB.out)))); have n1_ := Aside0.mk (below_step (by repeat (first | (with_reducible first | exact HB.out | apply below_alloc | apply pw_below_drewN | apply below_drew1) | exact HB.out)) hb); clear HB; have HO189 := n0_; have HB := n1_; clear n0_ n1_; (try clear hb); (try clear hb2); (try clear hk); (try clear hi); (try clear ho0); obtain ⟨Ao33, co33, eo33⟩ := Kd.R_slice HO189.out; subst eo33) | (go_at_call 15; (with_reducible refine (laws_text.calls kj7 _ _ t186 t190 _ ?side1 ?side2 A23.out).mono ?_); (case side1 => repeat (first | exact (Kd.R_reads' HO189.out).2.2 | (with_reducible refine Kd.C_alloc ?_ _) | (with_reducible refine Kd.C_drewN ?_ _) | (with_reducible refine Kd.C_drew ?_))); (case side2 => exact (Kd.R_reads' HO189.out).2.1); rintro e w34 ⟨rfl, hb⟩; have n0_ := Aside0.mk (Kd.R_below (by (with_reducible repeat (first | apply Kd.R_alloc | apply Kd.R_drewN | apply Kd.R_drew)); exact HO189.out) hb); have n1_ := Aside0.mk (below_step (by repeat (first | (with_reducible first | exact HB.out | apply below_alloc | apply pw_below_drewN | apply below_drew1) | exact HB.out)) hb); clear HO189; clear HB; have HO189 := n0_; have HB := n1_; clear n0_ n1_; (try clear hb); (try clear hb2); (try clear hk); (try clear hi)) | (go_at_call 15; (with_reducible refine (laws_text.calls kj7 _ _ l1 t191 _ ?side1 ?side2 A24.out).mono ?_); (case side1 => repeat (first | exact (Kd.C_below HR1.out HB.out) | (with_reducible refine Kd.C_alloc ?_ _) | (with_reducible refine Kd.C_drewN ?_ _) | (with_reducible refine Kd.C_drew ?_))); (case side2 => exact HC1.out); rintro e w35 ⟨rfl, hb⟩; have n0_ := Aside0.mk (Kd.R_below (by (with_reducible repeat (first | apply Kd.R_alloc | apply Kd.R_drewN | apply Kd.R_drew)); exact HO189.out) hb); have n1_ := Aside0.mk (below_step (by repeat (first | (with_reducible first | exact HB.out | apply below_alloc | apply pw_below_drewN | apply below_drew1) | exact HB.out)) hb); clear HO189; clear HB; have HO189 := n0_; have HB := n1_; clear n0_ n1_; (try clear hb); (try clear hb2); (try clear hk); (try clear hi)))
                  go_ret
                  exact ⟨by first | rfl | (simp [errW_none, errW_some] <;> rfl) | (simp [*, errW_none, errW_some] <;> rfl), by repeat (first | (with_reducible first | exact HB.out | apply below_alloc | apply pw_below_drewN | apply below_drew1) | exact HB.out)⟩
              · replace c22 := Bool.eq_false_iff.mpr c22
                subst c22
                have H1 : (some false) = some r := by rw [if_neg (show ¬ (false = true) by decide)] at H; exact H
                clear H
                have H := H1
                clear H1
                obtain rfl := Option.some.inj H
                go_wp2_with (first | ((with_reducible refine gate_callee (f := 11) rfl ?_); refine goesL_ (some 30) rfl rfl Tryd.func11 (by kernel_rfl) rfl #[.slice A0 l0.length c0, .slice A1 l1.length c1] rfl (by (try simp only [List.map_toArray, List.map_cons, List.map_nil]); first | done | rfl | (simp only [List.length_drop, List.length_take]; rfl)) ?_; (with_reducible refine (impl_Delegate.calls _ _ l0 _ _ l1 t186 false _ ?side1 ?side2 ?side3 ?side4 ?side5 A21.out).mono ?_); (case side1 => repeat (first | exact (Kd.C_below HR0.out HB.out) | (with_reducible refine Kd.C_alloc ?_ _) | (with_reducible refine Kd.C_drewN ?_ _) | (with_reducible refine Kd.C_drew ?_))); (case side2 => exact HC0.out); (case side3 => repeat (first | exact (Kd.C_below HR1.out HB.out) | (with_reducible refine Kd.C_alloc ?_ _) | (with_reducible refine Kd.C_drewN ?_ _) | (with_reducible refine Kd.C_drew ?_))); (case side4 => exact HC1.out); (case side5 => exact Go.Proofs.YtmldahejeobohaaDoorFmt.VarsOK.below HV.out (by repeat (first | (with_reducible first | exact HB.out | apply below_alloc | apply pw_below_drewN | apply below_drew1) | exact HB.out))); rintro e w36 ⟨v188, rfl, ho0, hb⟩; refine ⟨_, rfl, ?_⟩; have n0_ := Aside0.mk (Kd.R_lower ho0 (below_size (by repeat (first | (with_reducible first | exact HB.out | apply below_alloc | apply pw_below_drewN | apply below_drew1) | exact HB.out)))); have n1_ := Aside0.mk (below_step (by repeat (first | (with_reducible first | exact HB.out | apply below_alloc | apply pw_below_drewN | apply below_drew1) | exact HB.out)) hb); clear HB; have HO189 := n0_; have HB := n1_; clear n0_ n1_; (try clear hb); (try clear hb2); (try clear hk); (try clear hi); (try clear ho0)))
                go_ret
                exact ⟨by first | rfl | (simp [errW_none, errW_some] <;> rfl) | (simp [*, errW_none, errW_some] <;> rfl), by repeat (first | (with_reducible first | exact HB.out | apply below_alloc | apply pw_below_drewN | apply below_drew1) | exact HB.out)⟩
def wf_S29 (x : S29) : Prop := (IntKind.i64.min ≤ x.f0 ∧ x.f0 ≤ IntKind.i64.max) ∧ (IntKind.i64.min ≤ x.f1 ∧ x.f1 ≤ IntKind.i64.max)
def wf_S27 (x : S27) : Prop := (IntKind.i64.min ≤ x.f0 ∧ x.f0 ≤ IntKind.i64.max) ∧ (x.f1.size ≤ maxLen)
def laws_FnDelegateText.Pure : Prop := ∀ (l0 : List (S29)) (l1 : List (S27)), (l0.length ≤ 9223372036854775807 ∧ ∀ x ∈ l0, wf_S29 x) → (l1.length ≤ 9223372036854775807 ∧ ∀ x ∈ l1, wf_S27 x) → ∃ k, laws_FnDelegateText.f k l0 l1 = some true

/-! ### laws_each: function 16 -/
mutual
def laws_each.l0 : Nat → List Int → List (S27) → Int → Int → Option (List Int)
  | 0, _, _, _, _ => none
  | k + 1, x3, x6, x7, x8 => if x8 < x7 then (if 0 ≤ x8 then (if x8 < (x6.length : Int) then (laws_each.l1 k x3 x6 x7 x8 (((rd_T27 x6 x8).f1).size : Int) 0 ((rd_T27 x6 x8).f0) ((rd_T27 x6 x8).f1)) else (none)) else (none)) else (some x3)
def laws_each.l1 : Nat → List Int → List (S27) → Int → Int → Int → Int → Int → ByteArray → Option (List Int)
  | 0, _, _, _, _, _, _, _, _ => none
  | k + 1, x3, x6, x7, x8, x14, x15, x195000, x195001 => if x15 < x14 then (if x3.length < 17592186044416 then (laws_each.l1 k (x3 ++ [x195000]) x6 x7 x8 x14 (wrap64 (x15 + 1)) x195000 x195001) else (none)) else (laws_each.l0 k x3 x6 x7 (wrap64 (x8 + 1)))
end
def laws_each.f (k : Nat) (l0 : List (S27)) : Option (List Int) := laws_each.l0 k ([] : List Int) l0 (l0.length : Int) 0
theorem laws_each.mono_l : ∀ k, (∀ y0 y1 y2 y3, LeO (laws_each.l0 k y0 y1 y2 y3) (laws_each.l0 (k + 1) y0 y1 y2 y3)) ∧ (∀ y0 y1 y2 y3 y4 y5 y6 y7, LeO (laws_each.l1 k y0 y1 y2 y3 y4 y5 y6 y7) (laws_each.l1 (k + 1) y0 y1 y2 y3 y4 y5 y6 y7))
  | 0 => ⟨fun _ _ _ _ r h => by simp [laws_each.l0] at h, fun _ _ _ _ _ _ _ _ r h => by simp [laws_each.l1] at h⟩
  | k + 1 => by
    obtain ⟨ih0, ih1⟩ := laws_each.mono_l k
    refine ⟨?_, ?_⟩
    · intro y0 y1 y2 y3
      unfold laws_each.l0
      repeat' first
      | (with_reducible exact ih0 _ _ _ _)
      | (with_reducible exact ih1 _ _ _ _ _ _ _ _)
      | (with_reducible exact LeO.refl _)
      | (with_reducible exact LeO.none _)
      | (with_reducible refine LeO.ite ?_ ?_)
      | (with_reducible refine LeO.bind ?_ (fun _ => ?_))
      | exact ih0 _ _ _ _
      | exact ih1 _ _ _ _ _ _ _ _
      | exact LeO.none _
      | refine LeO.ite ?_ ?_
      | refine LeO.bind ?_ (fun _ => ?_)
    · intro y0 y1 y2 y3 y4 y5 y6 y7
      unfold laws_each.l1
      repeat' first
      | (with_reducible exact ih0 _ _ _ _)
      | (with_reducible exact ih1 _ _ _ _ _ _ _ _)
      | (with_reducible exact LeO.refl _)
      | (with_reducible exact LeO.none _)
      | (with_reducible refine LeO.ite ?_ ?_)
      | (with_reducible refine LeO.bind ?_ (fun _ => ?_))
      | exact ih0 _ _ _ _
      | exact ih1 _ _ _ _ _ _ _ _
      | exact LeO.none _
      | refine LeO.ite ?_ ?_
      | refine LeO.bind ?_ (fun _ => ?_)
theorem laws_each.mono : ∀ a0 k, LeO (laws_each.f k a0) (laws_each.f (k + 1) a0) := by
  intro a0 k
  obtain ⟨ih0, ih1⟩ := laws_each.mono_l k
  unfold laws_each.f
  repeat' first
      | (with_reducible exact ih0 _ _ _ _)
      | (with_reducible exact ih1 _ _ _ _ _ _ _ _)
      | (with_reducible exact LeO.refl _)
      | (with_reducible exact LeO.none _)
      | (with_reducible refine LeO.ite ?_ ?_)
      | (with_reducible refine LeO.bind ?_ (fun _ => ?_))
      | exact ih0 _ _ _ _
      | exact ih1 _ _ _ _ _ _ _ _
      | exact LeO.none _
      | refine LeO.ite ?_ ?_
      | refine LeO.bind ?_ (fun _ => ?_)
set_option maxHeartbeats 8000000 in
set_option maxRecDepth 100000 in
theorem laws_each.calls (k : Nat) (A0 : Option Addr) (c0 : Nat) (l0 : List (S27)) (r : List Int) (w : World) (hr0 : Kd.C k27 w A0 l0.length l0) (hc0 : l0.length ≤ c0) (h : laws_each.f k l0 = some r) :
    Calls Tryd.prog 16 #[.slice A0 l0.length c0] w fun e w' => ∃ v0_ : Value, e = .returned (v0_) ∧ Kd.R (Kd.int .i64) 3 w' w.heap.size (fun _ => True) v0_ r ∧ Below w.heap.size w w' := by
  have hu27 := Tryd.underlying27
  have HR0 := Aside0.mk hr0
  have HC0 := Aside0.mk hc0
  clear hr0 hc0
  have HB := Aside0.mk (Below.refl w.heap.size w)
  have H : (laws_each.l0 k ([] : List Int) l0 (l0.length : Int) 0) = some r := h
  clear h
  have H' := Aside0.mk H
  clear H
  go_enter Tryd.func16, Tryd.ntmps16
  go_wp2
  go_loopg [3, 8] k (fun kq v3 v8 w' => ∃ (x3_1 : List Int) (x8_1 : Int), v8 = .int .i64 x8_1 ∧ Aside0 (laws_each.l0 kq x3_1 l0 (l0.length : Int) x8_1 = some r) ∧ Aside0 (kq ≤ k) ∧ Aside0 (Kd.R (Kd.int .i64) 3 w' w.heap.size (fun _ => True) v3 x3_1) ∧ Aside0 (Below w.heap.size w w'))
  case atStart => exact ⟨(([] : List Int)), (0), (by first | rfl | (simp; done) | (simp [*]; done)), H', ⟨Nat.le_refl _⟩, ⟨by first | exact Kd.R_nil _ _ _ _ _ | exact Kd.N_nil _ _ _ _ _ | exact Kd.V_nil _ _ _ _ _ | exact Kd.Q_nil _ _ _ _ _ | exact Kd.S_nil _ _ _ _ _⟩, ⟨by repeat (first | (with_reducible first | exact HB.out | apply below_alloc | apply pw_below_drewN | apply below_drew1) | exact HB.out)⟩⟩
  case round =>
    clear H'
    try clear c1
    obtain ⟨x3_1, x8_1, rfl, HA, HK1, HO_3, HB⟩ := hrel
    cases gk with
    | zero => exact absurd HA.out (by simp [laws_each.l0])
    | succ k1 =>
      have H := HA.out
      clear HA
      simp only [laws_each.l0] at H
      by_cases c2 : x8_1 < (l0.length : Int)
      · rw [if_pos c2] at H
        have c2b0 : decide (x8_1 < (l0.length : Int)) = true := decide_eq_true c2
        clear c2
        by_cases c3 : 0 ≤ x8_1
        · rw [if_pos c3] at H
          have c3b0 : decide (0 ≤ x8_1) = true := decide_eq_true c3
          clear c3
          by_cases c4 : x8_1 < (l0.length : Int)
          · rw [if_pos c4] at H
            have c4b0 : decide (x8_1 < (l0.length : Int)) = true := decide_eq_true c4
            clear c4
            have H' := Aside0.mk H
            clear H
            have p193 : 0 ≤ (x8_1 : Int) := of_decide_eq_true (by first | (with_reducible assumption) | assumption)
            have q193 : x8_1 < (l0.length : Int) := of_decide_eq_true (by first | (with_reducible assumption) | assumption)
            obtain ⟨ad193, e193, hx193_0, hx193_1⟩ := at_T27 HR0.out x8_1 p193 q193
            cases e193
            replace hx193_0 := (HB.out.cell (World.block_lt_of_cell? w _ hx193_0)).trans hx193_0
            replace hx193_1 := (HB.out.cell (World.block_lt_of_cell? w _ hx193_1)).trans hx193_1
            replace p193 := eq_true p193
            replace q193 := eq_true q193
            go_wp2_with (first | ((with_reducible refine gate_dst (N := 5) rfl ?_); refine box_event ?hg (N := 5) ?hd (cs := #[.int .i64 0, .string (⟨#[]⟩ : ByteArray)]) (t := 27) ?hr ?_; (case hd => rfl); (case hg => rfl); (case hr => first | (go_simp; done) | (go_simp; rfl)); intro gb194 hg w5 hbox hb; have n0_ := Aside0.mk (Kd.R_below (by (with_reducible repeat (first | apply Kd.R_alloc | apply Kd.R_drewN | apply Kd.R_drew)); exact HO_3.out) hb); have n1_ := Aside0.mk (below_step (by repeat (first | (with_reducible first | exact HB.out | apply below_alloc | apply pw_below_drewN | apply below_drew1) | exact HB.out)) hb); have n2_ := Aside0.mk (hbox); have n3_ := Aside0.mk ((by rw [hg]; exact (below_size (by repeat (first | (with_reducible first | exact HB.out | apply below_alloc | apply pw_below_drewN | apply below_drew1) | exact HB.out))) : w.heap.size ≤ gb194)); have n4_ := Aside0.mk ((by rw [hg]; exact (below_size (by repeat (first | (with_reducible first | exact HB.out | apply below_alloc | apply pw_below_drewN | apply below_drew1) | exact HB.out))) : w.heap.size ≤ gb194)); clear HO_3; clear HB; have HO_3 := n0_; have HB := n1_; have BK194 := n2_; have GW194 := n3_; have GE194 := n4_; clear n0_ n1_ n2_ n3_ n4_; clear hb hbox hg; have hcz6_0 : w5.cell? ⟨gb194, 0, none⟩ = some (.int .i64 0) := (blk_cell BK194.out 0).trans rfl; have hcz6_1 : w5.cell? ⟨gb194, 1, none⟩ = some (.string (⟨#[]⟩ : ByteArray)) := (blk_cell BK194.out 1).trans rfl; have hfz6_0 := blk_frozen BK194.out 0; have hfz6_1 := blk_frozen BK194.out 1))
            go_loopg [3, 15] k1 (fun kq v3 v15 w' => ∃ (x3_2 : List Int) (x15_2 : Int), v15 = .int .i64 x15_2 ∧ Aside0 (laws_each.l1 kq x3_2 l0 (l0.length : Int) x8_1 (((rd_T27 l0 x8_1).f1).size : Int) x15_2 ((rd_T27 l0 x8_1).f0) ((rd_T27 l0 x8_1).f1) = some r) ∧ Aside0 (kq ≤ k1) ∧ Aside0 (Kd.R (Kd.int .i64) 3 w' w.heap.size (fun _ => True) v3 x3_2) ∧ Aside0 (w'.heap[gb194]? = some (.cells #[.int .i64 ((rd_T27 l0 x8_1).f0), .string ((rd_T27 l0 x8_1).f1)] 27 (0, 0))) ∧ Aside0 (Below w.heap.size w w'))
            case atStart => exact ⟨(x3_1), (0), (by first | rfl | (simp; done) | (simp [*]; done)), H', ⟨Nat.le_refl _⟩, ⟨by (with_reducible repeat (first | apply Kd.R_alloc | apply Kd.R_drewN | apply Kd.R_drew)); exact Kd.R_mono (Kd.R_far (p := ⟨gb194, 1, none⟩) (Kd.R_far (p := ⟨gb194, 0, none⟩) (Kd.R_types HO_3.out BK194.out (by decide)) (fun _ hk => hk.2) (.int .i64 ((rd_T27 l0 x8_1).f0))) (fun _ hk => hk.2) (.string ((rd_T27 l0 x8_1).f1))) (fun _ hk => trivial)⟩, ⟨by (with_reducible repeat (first | refine blk_drewN ?_ _ | refine blk_drew ?_ | refine blk_alloc ?_ _)); refine blk_put (cs := #[.int .i64 ((rd_T27 l0 x8_1).f0), .string (⟨#[]⟩ : ByteArray)]) ?_ 1 _ rfl; (with_reducible repeat (first | refine blk_drewN ?_ _ | refine blk_drew ?_ | refine blk_alloc ?_ _)); refine blk_put (cs := #[.int .i64 0, .string (⟨#[]⟩ : ByteArray)]) ?_ 0 _ rfl; (with_reducible repeat (first | refine blk_drewN ?_ _ | refine blk_drew ?_ | refine blk_alloc ?_ _)); exact BK194.out⟩, ⟨by repeat (first | (with_reducible first | exact HB.out | apply below_alloc | apply pw_below_drewN | apply below_drew1 | refine below_set ?_ GE194.out) | exact HB.out)⟩⟩
            case round =>
              clear H'
              try clear c1
              try clear p1
              try clear q1
              try clear hx1
              try clear c2
              try clear c2b0
              try clear p2
              try clear c3
              try clear c3b0
              try clear c4
              try clear c4b0
              try clear hcz6_0
              try clear hcz6_1
              try clear hfz6_0
              try clear hfz6_1
              try clear hx193_0
              try clear hx193_1
              try clear p193
              try clear q193
              obtain ⟨x3_2, x15_2, rfl, HA, HK2, HO_3, BK194, HB⟩ := hrel
              cases gk with
              | zero => exact absurd HA.out (by simp [laws_each.l1])
              | succ k2 =>
                have H := HA.out
                clear HA
                simp only [laws_each.l1] at H
                by_cases c7 : x15_2 < (((rd_T27 l0 x8_1).f1).size : Int)
                · rw [if_pos c7] at H
                  have c7b0 : decide (x15_2 < (((rd_T27 l0 x8_1).f1).size : Int)) = true := decide_eq_true c7
                  clear c7
                  by_cases c8 : x3_2.length < 17592186044416
                  · rw [if_pos c8] at H
                    have LMc8 := Aside0.mk c8
                    clear c8
                    obtain ⟨y195, hy195⟩ : ∃ y_ : List Int, y_ = (x3_2 ++ [((rd_T27 l0 x8_1).f0)]) := ⟨_, rfl⟩
                    replace H : (laws_each.l1 k2 y195 l0 (l0.length : Int) x8_1 (((rd_T27 l0 x8_1).f1).size : Int) (wrap64 (x15_2 + 1)) ((rd_T27 l0 x8_1).f0) ((rd_T27 l0 x8_1).f1)) = some r := by first | (rw [hy195]; with_reducible exact H) | (have H2_ := (Option.bind_some _ _).symm.trans H; rw [hy195]; with_reducible exact H2_) | (have H2_ := (Option.bind_some _ _).symm.trans H; with_reducible exact H2_) | with_reducible exact H | (rw [hy195]; exact H) | exact H
                    have Ny195 := Aside0.mk hy195
                    clear hy195
                    have H' := Aside0.mk H
                    clear H
                    have hcz9_0 : wr.cell? ⟨gb194, 0, none⟩ = some (.int .i64 ((rd_T27 l0 x8_1).f0)) := (blk_cell BK194.out 0).trans rfl
                    have hcz9_1 : wr.cell? ⟨gb194, 1, none⟩ = some (.string ((rd_T27 l0 x8_1).f1)) := (blk_cell BK194.out 1).trans rfl
                    have hfz9_0 := blk_frozen BK194.out 0
                    have hfz9_1 := blk_frozen BK194.out 1
                    go_wp2_with (first | ((with_reducible refine gate_builtin (b := .append) (xs := #[.tmp 17, .tmp 20]) rfl ?_); at_builtin; refine Kd.R_append (Kd.int .i64) (w0 := w) w.heap.size rfl (.tmp 17) (.tmp 20) 39 3 (.int .i64 0) 8 rfl Tryd.underlying39 info3 rfl (by decide) (by omega) u3 x3_2 ((rd_T27 l0 x8_1).f0) [.int .i64 ((rd_T27 l0 x8_1).f0)] (fun _ => True) (fun _ => False) rfl rfl ?aP (fun _ hk => hk.elim) ?aF ?aO ?aB ?aS ?aL ?_; (case aP => exact rfl); (case aB => exact (by repeat (first | (with_reducible first | exact HB.out | apply below_alloc | apply pw_below_drewN | apply below_drew1 | refine below_set ?_ GE194.out) | exact HB.out))); (case aF => exact (fun _ _ => trivial)); (case aO => exact (by (with_reducible repeat (first | apply Kd.R_alloc | apply Kd.R_drewN | apply Kd.R_drew)); exact HO_3.out)); (case aS => exact (below_size (by repeat (first | (with_reducible first | exact HB.out | apply below_alloc | apply pw_below_drewN | apply below_drew1 | refine below_set ?_ GE194.out) | exact HB.out)))); (case aL => have := LMc8.out; omega); intro v196 w10 ho hb hg hat; rw [← Ny195.out] at ho; have n0_ := Aside0.mk (blk_grown (g := gb194) (o := .cells #[.int .i64 ((rd_T27 l0 x8_1).f0), .string ((rd_T27 l0 x8_1).f1)] 27 (0, 0)) (by (with_reducible repeat (first | refine blk_drewN ?_ _ | refine blk_drew ?_ | refine blk_alloc ?_ _)); exact BK194.out) hg (Kd.R_ne HO_3.out BK194.out (by decide))); have n1_ := Aside0.mk (hb); have n2_ := Aside0.mk (ho); clear BK194; clear HB; clear HO_3; have BK194 := n0_; have HB := n1_; have HO197 := n2_; clear n0_ n1_ n2_; clear ho hb hg hat))
                    go_roundg k2
                    case measure => have := HK1.out; have := HK2.out; omega
                    case rel => exact ⟨(y195), (wrap64 (x15_2 + 1)), (by first | rfl | (simp; done) | (simp [*]; done)), H', ⟨by have := HK1.out; have := HK2.out; omega⟩, ⟨by (with_reducible repeat (first | apply Kd.R_alloc | apply Kd.R_drewN | apply Kd.R_drew)); exact HO197.out⟩, ⟨by (with_reducible repeat (first | refine blk_drewN ?_ _ | refine blk_drew ?_ | refine blk_alloc ?_ _)); exact BK194.out⟩, ⟨by repeat (first | (with_reducible first | exact HB.out | apply below_alloc | apply pw_below_drewN | apply below_drew1 | refine below_set ?_ GE194.out) | exact HB.out)⟩⟩
                  · rw [if_neg c8] at H
                    exact absurd H (by simp)
                · rw [if_neg c7] at H
                  have c7b0 : decide (x15_2 < (((rd_T27 l0 x8_1).f1).size : Int)) = false := decide_eq_false c7
                  clear c7
                  have H' := Aside0.mk H
                  clear H
                  go_wp2
                  go_roundg k2
                  case measure => have := HK1.out; have := HK2.out; omega
                  case rel => exact ⟨(x3_2), (wrap64 (x8_1 + 1)), (by first | rfl | (simp; done) | (simp [*]; done)), H', ⟨by have := HK1.out; have := HK2.out; omega⟩, ⟨by (with_reducible repeat (first | apply Kd.R_alloc | apply Kd.R_drewN | apply Kd.R_drew)); exact HO_3.out⟩, ⟨by repeat (first | (with_reducible first | exact HB.out | apply below_alloc | apply pw_below_drewN | apply below_drew1 | refine below_set ?_ GE194.out) | exact HB.out)⟩⟩
          · rw [if_neg c4] at H
            exact absurd H (by simp)
        · rw [if_neg c3] at H
          exact absurd H (by simp)
      · rw [if_neg c2] at H
        have c2b0 : decide (x8_1 < (l0.length : Int)) = false := decide_eq_false c2
        clear c2
        obtain rfl := Option.some.inj H
        go_wp2
        go_ret
        exact ⟨_, by first | rfl | (simp [errW_none, errW_some] <;> rfl) | (simp [*, errW_none, errW_some] <;> rfl), by (with_reducible repeat (first | apply Kd.R_alloc | apply Kd.R_drewN | apply Kd.R_drew)); exact HO_3.out, by repeat (first | (with_reducible first | exact HB.out | apply below_alloc | apply pw_below_drewN | apply below_drew1) | exact HB.out)⟩

/-! ### laws_cut: function 17 -/
def laws_cut.l0 : Nat → ByteArray → List (S27) → List (S29) → Int → Int → Option ((List (S27)))
  | 0, _, _, _, _, _ => none
  | k + 1, x1, x5, x9, x10, x11 => if x11 < x10 then (if 0 ≤ x11 then (if x11 < (x9.length : Int) then (if (mn ((rd_T29 x9 x11).f1) (x1.size : Int)) > 0 then (if 0 ≤ (mn ((rd_T29 x9 x11).f1) (x1.size : Int)) then (if (mn ((rd_T29 x9 x11).f1) (x1.size : Int)) ≤ (x1.size : Int) then (if x5.length < 5864062014805 then (laws_cut.l0 k (x1.extract ((mn ((rd_T29 x9 x11).f1) (x1.size : Int)) : Int).toNat x1.size) (x5 ++ [(⟨(rd_T29 x9 x11).f0, x1.extract 0 ((mn ((rd_T29 x9 x11).f1) (x1.size : Int)) : Int).toNat⟩ : S27)]) x9 x10 (wrap64 (x11 + 1))) else (none)) else (none)) else (none)) else (laws_cut.l0 k x1 x5 x9 x10 (wrap64 (x11 + 1)))) else (none)) else (none)) else (if x1.toList = ([] : List UInt8) then (some x5) else (if x5.length < 5864062014805 then (some (x5 ++ [(⟨8000, x1⟩ : S27)])) else (none)))
def laws_cut.f (k : Nat) (l0 : List (S29)) (a1 : ByteArray) : Option ((List (S27))) := laws_cut.l0 k a1 ([] : List (S27)) l0 (l0.length : Int) 0
theorem laws_cut.mono_l : ∀ k, (∀ y0 y1 y2 y3 y4, LeO (laws_cut.l0 k y0 y1 y2 y3 y4) (laws_cut.l0 (k + 1) y0 y1 y2 y3 y4))
  | 0 => fun _ _ _ _ _ r h => by simp [laws_cut.l0] at h
  | k + 1 => by
    have ih0 := laws_cut.mono_l k
    · intro y0 y1 y2 y3 y4
      unfold laws_cut.l0
      repeat' first
      | (with_reducible exact ih0 _ _ _ _ _)
      | (with_reducible exact LeO.refl _)
      | (with_reducible exact LeO.none _)
      | (with_reducible refine LeO.ite ?_ ?_)
      | (with_reducible refine LeO.bind ?_ (fun _ => ?_))
      | exact ih0 _ _ _ _ _
      | exact LeO.none _
      | refine LeO.ite ?_ ?_
      | refine LeO.bind ?_ (fun _ => ?_)
theorem laws_cut.mono : ∀ a0 a1 k, LeO (laws_cut.f k a0 a1) (laws_cut.f (k + 1) a0 a1) := by
  intro a0 a1 k
  have ih0 := laws_cut.mono_l k
  unfold laws_cut.f
  repeat' first
      | (with_reducible exact ih0 _ _ _ _ _)
      | (with_reducible exact LeO.refl _)
      | (with_reducible exact LeO.none _)
      | (with_reducible refine LeO.ite ?_ ?_)
      | (with_reducible refine LeO.bind ?_ (fun _ => ?_))
      | exact ih0 _ _ _ _ _
      | exact LeO.none _
      | refine LeO.ite ?_ ?_
      | refine LeO.bind ?_ (fun _ => ?_)
def laws_cut.T7 : Bool × List (List Nat × List Nat) := (true, [([], []), ([], []), ([1], [1]), ([], []), ([], []), ([3, 4], [3, 4]), ([2, 5], [2, 5]), ([6], [6]), ([0, 7], [0, 7]), ([8, 8, 0, 1, 2, 3, 4, 5, 6, 7, 8], [0, 8])])
def laws_cut.B7 : List Nat := [0, 0, 2, 0, 0, 24, 62, 126, 255, 511]
theorem laws_cut.tab7 : rtab .any (opsOf Tryd.f17 7) = laws_cut.T7 := by kernel_rfl
theorem laws_cut.bits7 : waitsOk laws_cut.T7.2 laws_cut.B7 = true := by kernel_rfl
set_option maxHeartbeats 8000000 in
set_option maxRecDepth 100000 in
theorem laws_cut.calls (k : Nat) (A0 : Option Addr) (c0 : Nat) (l0 : List (S29)) (a1 : ByteArray) (r : List (S27)) (w : World) (hr0 : Kd.C k29 w A0 l0.length l0) (hc0 : l0.length ≤ c0) (h : laws_cut.f k l0 a1 = some r) :
    Calls Tryd.prog 17 #[.slice A0 l0.length c0, .string a1] w fun e w' => ∃ v0_ : Value, e = .returned (v0_) ∧ Kd.R k27 27 w' w.heap.size (fun _ => True) v0_ r ∧ Below w.heap.size w w' := by
  have hu29 := Tryd.underlying29
  have hu27 := Tryd.underlying27
  have HR0 := Aside0.mk hr0
  have HC0 := Aside0.mk hc0
  clear hr0 hc0
  have HB := Aside0.mk (Below.refl w.heap.size w)
  have H : (laws_cut.l0 k a1 ([] : List (S27)) l0 (l0.length : Int) 0) = some r := h
  clear h
  have H' := Aside0.mk H
  clear H
  go_enter Tryd.func17, Tryd.ntmps17
  go_wp2
  go_loopg [1, 5, 11] k (fun kq v1 v5 v11 w' => ∃ (x1_1 : ByteArray) (x5_1 : List (S27)) (x11_1 : Int), v1 = .string x1_1 ∧ v11 = .int .i64 x11_1 ∧ Aside0 (laws_cut.l0 kq x1_1 x5_1 l0 (l0.length : Int) x11_1 = some r) ∧ Aside0 (kq ≤ k) ∧ Aside0 (Kd.R k27 27 w' w.heap.size (fun _ => True) v5 x5_1) ∧ Aside0 (Below w.heap.size w w'))
  case atStart => exact ⟨(a1), (([] : List (S27))), (0), (by first | rfl | (simp; done) | (simp [*]; done)), (by first | rfl | (simp; done) | (simp [*]; done)), H', ⟨Nat.le_refl _⟩, ⟨by first | exact Kd.R_nil _ _ _ _ _ | exact Kd.N_nil _ _ _ _ _ | exact Kd.V_nil _ _ _ _ _ | exact Kd.Q_nil _ _ _ _ _ | exact Kd.S_nil _ _ _ _ _⟩, ⟨by repeat (first | (with_reducible first | exact HB.out | apply below_alloc | apply pw_below_drewN | apply below_drew1) | exact HB.out)⟩⟩
  case round =>
    clear H'
    try clear c1
    try clear p2
    obtain ⟨x1_1, x5_1, x11_1, rfl, rfl, HA, HK1, HO_5, HB⟩ := hrel
    cases gk with
    | zero => exact absurd HA.out (by simp [laws_cut.l0])
    | succ k1 =>
      have H := HA.out
      clear HA
      simp only [laws_cut.l0] at H
      by_cases c3 : x11_1 < (l0.length : Int)
      · rw [if_pos c3] at H
        have c3b0 : decide (x11_1 < (l0.length : Int)) = true := decide_eq_true c3
        clear c3
        by_cases c4 : 0 ≤ x11_1
        · rw [if_pos c4] at H
          have c4b0 : decide (0 ≤ x11_1) = true := decide_eq_true c4
          clear c4
          by_cases c5 : x11_1 < (l0.length : Int)
          · rw [if_pos c5] at H
            have c5b0 : decide (x11_1 < (l0.length : Int)) = true := decide_eq_true c5
            clear c5
            obtain ⟨ji6, hji6⟩ : ∃ j_ : Int, (mn ((rd_T29 l0 x11_1).f1) (x1_1.size : Int)) = j_ := ⟨_, rfl⟩
            replace H : (if (ji6) > 0 then (if 0 ≤ (ji6) then (if (ji6) ≤ (x1_1.size : Int) then (if x5_1.length < 5864062014805 then (laws_cut.l0 k1 (x1_1.extract ((ji6) : Int).toNat x1_1.size) (x5_1 ++ [(⟨(rd_T29 l0 x11_1).f0, x1_1.extract 0 ((ji6) : Int).toNat⟩ : S27)]) l0 (l0.length : Int) (wrap64 (x11_1 + 1))) else (none)) else (none)) else (none)) else (laws_cut.l0 k1 x1_1 x5_1 l0 (l0.length : Int) (wrap64 (x11_1 + 1)))) = some r := by first | (rw [hji6] at H; exact H) | (simp only [hji6] at H ⊢; exact H)
            have hji6_ : (if (x1_1.size : Int) < ((rd_T29 l0 x11_1).f1) then (x1_1.size : Int) else ((rd_T29 l0 x11_1).f1)) = ji6 := hji6
            by_cases c7 : (ji6) > 0
            · rw [if_pos c7] at H
              have c7b0 : decide (0 < (ji6)) = true := decide_eq_true c7
              clear c7
              by_cases c8 : 0 ≤ (ji6)
              · rw [if_pos c8] at H
                have c8b0 := eq_true c8
                have c8b1 : decide (0 ≤ (ji6)) = true := decide_eq_true c8
                clear c8
                by_cases c9 : (ji6) ≤ (x1_1.size : Int)
                · rw [if_pos c9] at H
                  have c9b0 := eq_true c9
                  have c9b1 : decide ((ji6) ≤ (x1_1.size : Int)) = true := decide_eq_true c9
                  clear c9
                  by_cases c10 : x5_1.length < 5864062014805
                  · rw [if_pos c10] at H
                    have LMc10 := Aside0.mk c10
                    clear c10
                    obtain ⟨y200, hy200⟩ : ∃ y_ : List (S27), y_ = (x5_1 ++ [(⟨(rd_T29 l0 x11_1).f0, x1_1.extract 0 ((ji6) : Int).toNat⟩ : S27)]) := ⟨_, rfl⟩
                    replace H : (laws_cut.l0 k1 (x1_1.extract ((ji6) : Int).toNat x1_1.size) y200 l0 (l0.length : Int) (wrap64 (x11_1 + 1))) = some r := by first | (rw [hy200]; with_reducible exact H) | (have H2_ := (Option.bind_some _ _).symm.trans H; rw [hy200]; with_reducible exact H2_) | (have H2_ := (Option.bind_some _ _).symm.trans H; with_reducible exact H2_) | with_reducible exact H | (rw [hy200]; exact H) | exact H
                    have Ny200 := Aside0.mk hy200
                    clear hy200
                    have c11b0 := eq_true (of_decide_eq_true (by first | (with_reducible assumption) | assumption) : 0 ≤ (ji6))
                    have c12b0 := eq_true (of_decide_eq_true (by first | (with_reducible assumption) | assumption) : (ji6) ≤ (x1_1.size : Int))
                    have H' := Aside0.mk H
                    clear H
                    have p198 : 0 ≤ (x11_1 : Int) := of_decide_eq_true (by first | (with_reducible assumption) | assumption)
                    have q198 : x11_1 < (l0.length : Int) := of_decide_eq_true (by first | (with_reducible assumption) | assumption)
                    obtain ⟨ad198, e198, hx198_0, hx198_1⟩ := at_T29 HR0.out x11_1 p198 q198
                    cases e198
                    replace hx198_0 := (HB.out.cell (World.block_lt_of_cell? w _ hx198_0)).trans hx198_0
                    replace hx198_1 := (HB.out.cell (World.block_lt_of_cell? w _ hx198_1)).trans hx198_1
                    replace p198 := eq_true p198
                    replace q198 := eq_true q198
                    try go_wp2_with (first | ((with_reducible refine gate_dst (N := 7) rfl ?_); refine box_event ?hg (N := 7) ?hd (cs := #[.int .i64 0, .int .i64 0]) (t := 29) ?hr ?_; (case hd => rfl); (case hg => rfl); (case hr => first | (go_simp; done) | (go_simp; rfl)); intro gb199 hg w13 hbox hb; have n0_ := Aside0.mk (Kd.R_below (by (with_reducible repeat (first | apply Kd.R_alloc | apply Kd.R_drewN | apply Kd.R_drew)); exact HO_5.out) hb); have n1_ := Aside0.mk (below_step (by repeat (first | (with_reducible first | exact HB.out | apply below_alloc | apply pw_below_drewN | apply below_drew1) | exact HB.out)) hb); have n2_ := Aside0.mk (hbox); have n3_ := Aside0.mk ((by rw [hg]; exact (below_size (by repeat (first | (with_reducible first | exact HB.out | apply below_alloc | apply pw_below_drewN | apply below_drew1) | exact HB.out))) : w.heap.size ≤ gb199)); have n4_ := Aside0.mk ((by rw [hg]; exact (below_size (by repeat (first | (with_reducible first | exact HB.out | apply below_alloc | apply pw_below_drewN | apply below_drew1) | exact HB.out))) : w.heap.size ≤ gb199)); clear HO_5; clear HB; have HO_5 := n0_; have HB := n1_; have BK199 := n2_; have GW199 := n3_; have GE199 := n4_; clear n0_ n1_ n2_ n3_ n4_; clear hb hbox hg; have hcz14_0 : w13.cell? ⟨gb199, 0, none⟩ = some (.int .i64 0) := (blk_cell BK199.out 0).trans rfl; have hcz14_1 : w13.cell? ⟨gb199, 1, none⟩ = some (.int .i64 0) := (blk_cell BK199.out 1).trans rfl; have hfz14_0 := blk_frozen BK199.out 0; have hfz14_1 := blk_frozen BK199.out 1))
                    have n0_ : Aside0 (Kd.R k27 27 ((w13.setCell ⟨gb199, 0, none⟩ (.int .i64 ((rd_T29 l0 x11_1).f0))).setCell ⟨gb199, 1, none⟩ (.int .i64 ((rd_T29 l0 x11_1).f1))) w.heap.size (fun _ => True) u5 x5_1) := ⟨by (with_reducible repeat (first | apply Kd.R_alloc | apply Kd.R_drewN | apply Kd.R_drew)); exact Kd.R_mono (Kd.R_far (p := ⟨gb199, 1, none⟩) (Kd.R_far (p := ⟨gb199, 0, none⟩) (Kd.R_types HO_5.out BK199.out (by decide)) (fun _ hk => hk.2) (.int .i64 ((rd_T29 l0 x11_1).f0))) (fun _ hk => hk.2) (.int .i64 ((rd_T29 l0 x11_1).f1))) (fun _ hk => trivial)⟩
                    have n1_ : Aside0 (((w13.setCell ⟨gb199, 0, none⟩ (.int .i64 ((rd_T29 l0 x11_1).f0))).setCell ⟨gb199, 1, none⟩ (.int .i64 ((rd_T29 l0 x11_1).f1))).heap[gb199]? = some (.cells #[.int .i64 ((rd_T29 l0 x11_1).f0), .int .i64 ((rd_T29 l0 x11_1).f1)] 29 (0, 0))) := ⟨by (with_reducible repeat (first | refine blk_drewN ?_ _ | refine blk_drew ?_ | refine blk_alloc ?_ _)); refine blk_put (cs := #[.int .i64 ((rd_T29 l0 x11_1).f0), .int .i64 0]) ?_ 1 _ rfl; (with_reducible repeat (first | refine blk_drewN ?_ _ | refine blk_drew ?_ | refine blk_alloc ?_ _)); refine blk_put (cs := #[.int .i64 0, .int .i64 0]) ?_ 0 _ rfl; (with_reducible repeat (first | refine blk_drewN ?_ _ | refine blk_drew ?_ | refine blk_alloc ?_ _)); exact BK199.out⟩
                    have n2_ : Aside0 (Below w.heap.size w ((w13.setCell ⟨gb199, 0, none⟩ (.int .i64 ((rd_T29 l0 x11_1).f0))).setCell ⟨gb199, 1, none⟩ (.int .i64 ((rd_T29 l0 x11_1).f1)))) := ⟨by repeat (first | (with_reducible first | exact HB.out | apply below_alloc | apply pw_below_drewN | apply below_drew1 | refine below_set ?_ GE199.out) | exact HB.out)⟩
                    (try clear HO_5)
                    (try clear BK199)
                    (try clear HB)
                    generalize ((w13.setCell ⟨gb199, 0, none⟩ (.int .i64 ((rd_T29 l0 x11_1).f0))).setCell ⟨gb199, 1, none⟩ (.int .i64 ((rd_T29 l0 x11_1).f1))) = w15 at n0_ n1_ n2_ ⊢
                    have HO_5 := n0_
                    have BK199 := n1_
                    have HB := n2_
                    clear n0_ n1_ n2_
                    have n0_ := Aside0.mk (Kd.R_drew HO_5.out)
                    have n1_ := Aside0.mk (blk_drew BK199.out)
                    have n2_ := Aside0.mk (below_drew1 HB.out)
                    clear HO_5
                    clear BK199
                    clear HB
                    have HO_5 := n0_
                    have BK199 := n1_
                    have HB := n2_
                    clear n0_ n1_ n2_
                    refine start_ (n := 10) (S := fun w' => w'.cell? ⟨gb199, 0, none⟩ = some (.int .i64 ((rd_T29 l0 x11_1).f0)) ∧ w'.cell? ⟨gb199, 1, none⟩ = some (.int .i64 ((rd_T29 l0 x11_1).f1))) (ds := []) #[false, false, false, false, false, false, false, false, false, false] (by kernel_rfl) rfl rfl ⟨(blk_cell BK199.out 0).trans rfl, (blk_cell BK199.out 1).trans rfl⟩ (fun hHeld => ?_); refine with_tabW laws_cut.tab7 laws_cut.bits7 (fun HT_ HW_ => ?_)
                    generalize w15.drew = w16 at HO_5 BK199 HB hHeld ⊢
                    refine pure_ (i := 0) (N := some 22) (v := ?_) (a' := ?_) #[true, false, false, false, false, false, false, false, false, false] rfl rfl (any_of HT_.out (by kernel_rfl)) (fun _ _ _ h => h) (Or.inl ⟨by rfl, ?_⟩) ?_ ?_
                    rotate_left
                    · intro w'
                      go_simp
                      with_reducible rfl
                    rotate_left
                    · simp only [Act.put, List.setIfInBounds_toArray, List.set_cons_zero, List.set_cons_succ, i64_w, i32_w]
                      rfl
                    refine pure_ (i := 1) (N := some 23) (v := ?_) (a' := ?_) #[true, true, false, false, false, false, false, false, false, false] rfl rfl (any_of HT_.out (by kernel_rfl)) (fun _ _ _ h => h) (Or.inl ⟨by rfl, ?_⟩) ?_ ?_
                    rotate_left
                    · intro w'
                      go_simp
                      with_reducible rfl
                    rotate_left
                    · simp only [Act.put, List.setIfInBounds_toArray, List.set_cons_zero, List.set_cons_succ, i64_w, i32_w]
                      rfl
                    refine pure_ (i := 3) (N := some 25) (v := ?_) (a' := ?_) #[true, true, false, true, false, false, false, false, false, false] rfl rfl (any_of HT_.out (by kernel_rfl)) (fun _ _ _ h => h) (Or.inl ⟨by rfl, ?_⟩) ?_ ?_
                    rotate_left
                    · intro w'
                      go_simp
                      with_reducible rfl
                    rotate_left
                    · simp only [Act.put, List.setIfInBounds_toArray, List.set_cons_zero, List.set_cons_succ, i64_w, i32_w]
                      rfl
                    refine pure_ (i := 4) (N := some 26) (v := ?_) (a' := ?_) #[true, true, false, true, true, false, false, false, false, false] rfl rfl (any_of HT_.out (by kernel_rfl)) (fun _ _ _ h => h) (Or.inl ⟨by rfl, ?_⟩) ?_ ?_
                    rotate_left
                    · intro w'
                      go_simp
                      with_reducible rfl
                    rotate_left
                    · simp only [Act.put, List.setIfInBounds_toArray, List.set_cons_zero, List.set_cons_succ, i64_w, i32_w]
                      rfl
                    refine pure_ (i := 5) (N := some 27) (v := ?_) (a' := ?_) #[true, true, false, true, true, true, false, false, false, false] rfl rfl (any_of HT_.out (by kernel_rfl)) (fun _ _ _ h => h) (Or.inl ⟨by rfl, ?_⟩) ?_ ?_
                    rotate_left
                    · intro w'
                      go_simp
                      with_reducible rfl
                    rotate_left
                    · simp only [Act.put, List.setIfInBounds_toArray, List.set_cons_zero, List.set_cons_succ, i64_w, i32_w]
                      rfl
                    refine take_ (i := 2) (N := some 24) (v := ?_) (a' := ?_) #[true, true, true, true, true, true, false, false, false, false] rfl rfl (take_ofW HT_.out HW_.out (by kernel_rfl)) (fun _ _ _ h => h) (Or.inl ⟨by rfl, ?_⟩) hHeld ?_ ?_
                    rotate_left
                    · rintro w' ⟨s0, s1⟩
                      go_simp
                      with_reducible rfl
                    rotate_left
                    · simp only [Act.put, List.setIfInBounds_toArray, List.set_cons_zero, List.set_cons_succ, i64_w, i32_w]
                      rfl
                    refine pure_ (i := 6) (N := some 28) (v := ?_) (a' := ?_) #[true, true, true, true, true, true, true, false, false, false] rfl rfl (any_of HT_.out (by kernel_rfl)) (fun _ _ _ h => h) (Or.inl ⟨by rfl, ?_⟩) ?_ ?_
                    rotate_left
                    · intro w'
                      go_simp
                      with_reducible rfl
                    rotate_left
                    · simp only [Act.put, List.setIfInBounds_toArray, List.set_cons_zero, List.set_cons_succ, i64_w, i32_w]
                      rfl
                    refine one_ (i := 7) (N := some 29) #[true, true, true, true, true, true, true, true, false, false] rfl rfl (one_of HT_.out (by kernel_rfl)) (by decide) (fun K hK => ?_)
                    refine value_ (w1 := ?_) (v := ?_) (by rfl) rfl ?_ ?_
                    rotate_left 2
                    · go_simp
                      constructor
                      · rfl
                      · rfl
                    refine hK.out _ _ ⟨(blk_cell (blk_alloc BK199.out _) 0).trans rfl, (blk_cell (blk_alloc BK199.out _) 1).trans rfl⟩ (fun hHeld => ?_)
                    clear hK K
                    refine norm_ (a' := ?_) ?_ ?_
                    rotate_left
                    · show Act.put _ (some 29) _ = _
                      simp only [Act.put, List.setIfInBounds_toArray, List.set_cons_zero, List.set_cons_succ, i64_w, i32_w]
                      rfl
                    refine one_ (i := 8) (N := some 30) #[true, true, true, true, true, true, true, true, true, false] rfl rfl (one_of HT_.out (by kernel_rfl)) (by decide) (fun K hK => ?_)
                    refine Kd.R_append_step k27 (w0 := w) w.heap.size (by rfl) (.tmp 22) (.tmp 29) 23 27 (.agg #[(.int .i64 0), (.string ⟨#[]⟩)]) 24 rfl Tryd.underlying23 info27 rfl (by decide) (by omega) u5 x5_1 (⟨(rd_T29 l0 x11_1).f0, x1_1.extract 0 ((ji6) : Int).toNat⟩ : S27) [.int .i64 ((rd_T29 l0 x11_1).f0), .string (x1_1.extract 0 ((ji6) : Int).toNat)] (fun _ => True) (fun _ => False) rfl rfl ?aP (fun _ hk => hk.elim) ?aF ?aO ?aB ?aS ?aL ?_
                    (case aP => exact k27_mkM _ _ _ (⟨(rd_T29 l0 x11_1).f0, x1_1.extract 0 ((ji6) : Int).toNat⟩ : S27))
                    (case aB => exact (by repeat (first | (with_reducible first | exact HB.out | apply below_alloc | apply pw_below_drewN | apply below_drew1 | refine below_set ?_ GE199.out) | exact HB.out)))
                    (case aF => exact (fun _ _ => trivial))
                    (case aO => exact (by (with_reducible repeat (first | apply Kd.R_alloc | apply Kd.R_drewN | apply Kd.R_drew)); exact HO_5.out))
                    (case aS => exact (below_size (by repeat (first | (with_reducible first | exact HB.out | apply below_alloc | apply pw_below_drewN | apply below_drew1 | refine below_set ?_ GE199.out) | exact HB.out))))
                    (case aL => have := LMc10.out; omega)
                    intro v201 w17 ho hb hg hat
                    rw [← Ny200.out] at ho
                    have n0_ := Aside0.mk (blk_grown (g := gb199) (o := .cells #[.int .i64 ((rd_T29 l0 x11_1).f0), .int .i64 ((rd_T29 l0 x11_1).f1)] 29 (0, 0)) (by (with_reducible repeat (first | refine blk_drewN ?_ _ | refine blk_drew ?_ | refine blk_alloc ?_ _)); exact BK199.out) hg (Kd.R_ne HO_5.out BK199.out (by decide)))
                    have n1_ := Aside0.mk (hb)
                    have n2_ := Aside0.mk (ho)
                    clear BK199
                    clear HB
                    clear HO_5
                    have BK199 := n0_
                    have HB := n1_
                    have HO202 := n2_
                    clear n0_ n1_ n2_
                    clear ho hb hg hat
                    refine hK.out _ _ ⟨(blk_cell BK199.out 0).trans rfl, (blk_cell BK199.out 1).trans rfl⟩ (fun hHeld => ?_)
                    clear hK K
                    refine norm_ (a' := ?_) ?_ ?_
                    rotate_left
                    · show Act.put _ (some 30) _ = _
                      simp only [Act.put, List.setIfInBounds_toArray, List.set_cons_zero, List.set_cons_succ, i64_w, i32_w]
                      rfl
                    refine pure_ (i := 9) (N := some 5) (v := ?_) (a' := ?_) #[true, true, true, true, true, true, true, true, true, true] rfl rfl (any_of HT_.out (by kernel_rfl)) (fun _ _ _ h => h) (Or.inl ⟨by rfl, ?_⟩) ?_ ?_
                    rotate_left
                    · intro w'
                      go_simp
                      with_reducible rfl
                    rotate_left
                    · simp only [Act.put, List.setIfInBounds_toArray, List.set_cons_zero, List.set_cons_succ, i64_w, i32_w]
                      rfl
                    refine done_ (done_of HT_.out (by kernel_rfl)) ?_
                    try go_wp2
                    go_roundg k1
                    case measure => have := HK1.out; omega
                    case rel => exact ⟨(x1_1.extract ((ji6) : Int).toNat x1_1.size), (y200), (wrap64 (x11_1 + 1)), (by first | rfl | (simp; done) | (simp only [← hji6] <;> (first | rfl | simp)) | (simp [*]; done)), (by first | rfl | (simp; done) | (simp [*]; done)), H', ⟨by have := HK1.out; omega⟩, ⟨by (with_reducible repeat (first | apply Kd.R_alloc | apply Kd.R_drewN | apply Kd.R_drew)); exact HO202.out⟩, ⟨by repeat (first | (with_reducible first | exact HB.out | apply below_alloc | apply pw_below_drewN | apply below_drew1 | refine below_set ?_ GE199.out) | exact HB.out)⟩⟩
                  · rw [if_neg c10] at H
                    exact absurd H (by simp)
                · rw [if_neg c9] at H
                  exact absurd H (by simp)
              · rw [if_neg c8] at H
                exact absurd H (by simp)
            · rw [if_neg c7] at H
              have c7b0 : decide (0 < (ji6)) = false := decide_eq_false c7
              clear c7
              have H' := Aside0.mk H
              clear H
              have p198 : 0 ≤ (x11_1 : Int) := of_decide_eq_true (by first | (with_reducible assumption) | assumption)
              have q198 : x11_1 < (l0.length : Int) := of_decide_eq_true (by first | (with_reducible assumption) | assumption)
              obtain ⟨ad198, e198, hx198_0, hx198_1⟩ := at_T29 HR0.out x11_1 p198 q198
              cases e198
              replace hx198_0 := (HB.out.cell (World.block_lt_of_cell? w _ hx198_0)).trans hx198_0
              replace hx198_1 := (HB.out.cell (World.block_lt_of_cell? w _ hx198_1)).trans hx198_1
              replace p198 := eq_true p198
              replace q198 := eq_true q198
              go_wp2_with (first | ((with_reducible refine gate_dst (N := 7) rfl ?_); refine box_event ?hg (N := 7) ?hd (cs := #[.int .i64 0, .int .i64 0]) (t := 29) ?hr ?_; (case hd => rfl); (case hg => rfl); (case hr => first | (go_simp; done) | (go_simp; rfl)); intro gb199 hg w18 hbox hb; have n0_ := Aside0.mk (Kd.R_below (by (with_reducible repeat (first | apply Kd.R_alloc | apply Kd.R_drewN | apply Kd.R_drew)); exact HO_5.out) hb); have n1_ := Aside0.mk (below_step (by repeat (first | (with_reducible first | exact HB.out | apply below_alloc | apply pw_below_drewN | apply below_drew1) | exact HB.out)) hb); have n2_ := Aside0.mk (hbox); have n3_ := Aside0.mk ((by rw [hg]; exact (below_size (by repeat (first | (with_reducible first | exact HB.out | apply below_alloc | apply pw_below_drewN | apply below_drew1) | exact HB.out))) : w.heap.size ≤ gb199)); have n4_ := Aside0.mk ((by rw [hg]; exact (below_size (by repeat (first | (with_reducible first | exact HB.out | apply below_alloc | apply pw_below_drewN | apply below_drew1) | exact HB.out))) : w.heap.size ≤ gb199)); clear HO_5; clear HB; have HO_5 := n0_; have HB := n1_; have BK199 := n2_; have GW199 := n3_; have GE199 := n4_; clear n0_ n1_ n2_ n3_ n4_; clear hb hbox hg; have hcz19_0 : w18.cell? ⟨gb199, 0, none⟩ = some (.int .i64 0) := (blk_cell BK199.out 0).trans rfl; have hcz19_1 : w18.cell? ⟨gb199, 1, none⟩ = some (.int .i64 0) := (blk_cell BK199.out 1).trans rfl; have hfz19_0 := blk_frozen BK199.out 0; have hfz19_1 := blk_frozen BK199.out 1))
              go_roundg k1
              case measure => have := HK1.out; omega
              case rel => exact ⟨(x1_1), (x5_1), (wrap64 (x11_1 + 1)), (by first | rfl | (simp; done) | (simp [*]; done)), (by first | rfl | (simp; done) | (simp [*]; done)), H', ⟨by have := HK1.out; omega⟩, ⟨by (with_reducible repeat (first | apply Kd.R_alloc | apply Kd.R_drewN | apply Kd.R_drew)); exact Kd.R_mono (Kd.R_far (p := ⟨gb199, 1, none⟩) (Kd.R_far (p := ⟨gb199, 0, none⟩) (Kd.R_types HO_5.out BK199.out (by decide)) (fun _ hk => hk.2) (.int .i64 ((rd_T29 l0 x11_1).f0))) (fun _ hk => hk.2) (.int .i64 ((rd_T29 l0 x11_1).f1))) (fun _ hk => trivial)⟩, ⟨by repeat (first | (with_reducible first | exact HB.out | apply below_alloc | apply pw_below_drewN | apply below_drew1 | refine below_set ?_ GE199.out) | exact HB.out)⟩⟩
          · rw [if_neg c5] at H
            exact absurd H (by simp)
        · rw [if_neg c4] at H
          exact absurd H (by simp)
      · rw [if_neg c3] at H
        have c3b0 : decide (x11_1 < (l0.length : Int)) = false := decide_eq_false c3
        clear c3
        by_cases c20 : x1_1.toList = ([] : List UInt8)
        · rw [if_pos c20] at H
          have c20b0 : (x1_1.toList == ([] : List UInt8)) = true := beq_iff_eq.mpr c20
          have c20b1 : (x1_1.toList != ([] : List UInt8)) = false := bne_eq_false_iff_eq.mpr c20
          clear c20
          obtain rfl := Option.some.inj H
          go_wp2
          go_ret
          exact ⟨_, by first | rfl | (simp [errW_none, errW_some] <;> rfl) | (simp [*, errW_none, errW_some] <;> rfl), by (with_reducible repeat (first | apply Kd.R_alloc | apply Kd.R_drewN | apply Kd.R_drew)); exact HO_5.out, by repeat (first | (with_reducible first | exact HB.out | apply below_alloc | apply pw_below_drewN | apply below_drew1) | exact HB.out)⟩
        · rw [if_neg c20] at H
          have c20b0 : (x1_1.toList == ([] : List UInt8)) = false := beq_eq_false_iff_ne.mpr c20
          have c20b1 : (x1_1.toList != ([] : List UInt8)) = true := bne_iff_ne.mpr c20
          by_cases c21 : x5_1.length < 5864062014805
          · rw [if_pos c21] at H
            have LMc21 := Aside0.mk c21
            clear c21
            obtain ⟨y203, hy203⟩ : ∃ y_ : List (S27), y_ = (x5_1 ++ [(⟨8000, x1_1⟩ : S27)]) := ⟨_, rfl⟩
            replace H : (some y203) = some r := by first | (rw [hy203]; with_reducible exact H) | (have H2_ := (Option.bind_some _ _).symm.trans H; rw [hy203]; with_reducible exact H2_) | (have H2_ := (Option.bind_some _ _).symm.trans H; with_reducible exact H2_) | with_reducible exact H | (rw [hy203]; exact H) | exact H
            have Ny203 := Aside0.mk hy203
            clear hy203
            obtain rfl := Option.some.inj H
            go_wp2_with (first | ((with_reducible refine gate_builtin (b := .append) (xs := #[.tmp 37, .tmp 40]) rfl ?_); at_builtin; refine Kd.R_append k27 (w0 := w) w.heap.size rfl (.tmp 37) (.tmp 40) 23 27 (.agg #[(.int .i64 0), (.string ⟨#[]⟩)]) 24 rfl Tryd.underlying23 info27 rfl (by decide) (by omega) u5 x5_1 (⟨8000, x1_1⟩ : S27) [.int .i64 8000, .string x1_1] (fun _ => True) (fun _ => False) rfl rfl ?aP (fun _ hk => hk.elim) ?aF ?aO ?aB ?aS ?aL ?_; (case aP => exact k27_mkM _ _ _ (⟨8000, x1_1⟩ : S27)); (case aB => exact (by repeat (first | (with_reducible first | exact HB.out | apply below_alloc | apply pw_below_drewN | apply below_drew1) | exact HB.out))); (case aF => exact (fun _ _ => trivial)); (case aO => exact (by (with_reducible repeat (first | apply Kd.R_alloc | apply Kd.R_drewN | apply Kd.R_drew)); exact HO_5.out)); (case aS => exact (below_size (by repeat (first | (with_reducible first | exact HB.out | apply below_alloc | apply pw_below_drewN | apply below_drew1) | exact HB.out)))); (case aL => have := LMc21.out; omega); intro v204 w22 ho hb hg hat; rw [← Ny203.out] at ho; have n0_ := Aside0.mk (hb); have n1_ := Aside0.mk (ho); clear HB; clear HO_5; have HB := n0_; have HO205 := n1_; clear n0_ n1_; clear ho hb hg hat))
            go_ret
            exact ⟨_, by first | rfl | (simp [errW_none, errW_some] <;> rfl) | (simp [*, errW_none, errW_some] <;> rfl), by (with_reducible repeat (first | apply Kd.R_alloc | apply Kd.R_drewN | apply Kd.R_drew)); exact HO205.out, by repeat (first | (with_reducible first | exact HB.out | apply below_alloc | apply pw_below_drewN | apply below_drew1) | exact HB.out)⟩
          · rw [if_neg c21] at H
            exact absurd H (by simp)

end Go.Proofs.YtmldahejeobohaaDoor.M
