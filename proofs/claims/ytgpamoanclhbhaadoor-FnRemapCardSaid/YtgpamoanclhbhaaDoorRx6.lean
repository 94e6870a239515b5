-- WRITTEN BY OUR myprint.py, a program of this session's over the kit's printer
import Derived.Test.YtgpamoanclhbhaaDoorRx0
import Derived.Test.YtgpamoanclhbhaaDoorRx2
import Derived.Test.YtgpamoanclhbhaaDoorRx4
import Derived.Test.YtgpamoanclhbhaaDoorRx5
namespace Go.Proofs.YtgpamoanclhbhaaDoor.R
open Go.RowKit Go.Proofs.YtgpamoanclhbhaaDoorW.PrintWords Go.Proofs.YtgpamoanclhbhaaDoorW.PrintLast Go.Proofs.YtgpamoanclhbhaaDoorW.PrintMore
attribute [local go_sem] max2_int min2_int max_two min_two max_three min_three max_four min_four   -- for this text's walks alone
set_option linter.unusedVariables false
set_option linter.unusedSimpArgs false

/-! ### laws_FnRemap: function 5 -/
mutual
def laws_FnRemap.j0 : Nat → List (S34) → List (S29) → Bool → Option (Bool)
  | 0, _, _, _ => none
  | k + 1, x0, x1, x20 => if x20 = true then (some true) else (if (x0.length : Int) > 20 then (laws_FnRemap.j1 k x0 x1 true) else ((laws_small.f k x1).bind fun t187 => (laws_FnRemap.j1 k x0 x1 (!t187))))
def laws_FnRemap.j1 : Nat → List (S34) → List (S29) → Bool → Option (Bool)
  | 0, _, _, _ => none
  | k + 1, x0, x1, x28 => if x28 = true then (some true) else (laws_FnRemap.l0 k x0 x1 x0 (x0.length : Int) 0)
def laws_FnRemap.l0 : Nat → List (S34) → List (S29) → List (S34) → Int → Int → Option (Bool)
  | 0, _, _, _, _, _ => none
  | k + 1, x0, x1, x29, x30, x31 => if x31 < x30 then (if 0 ≤ x31 then (if x31 < (x29.length : Int) then (if (((rd_T34 x29 x31).f1).length : Int) > 10 then (some true) else ((laws_small.f k ((rd_T34 x29 x31).f1)).bind fun t190 => (if t190 = true then (laws_FnRemap.l0 k x0 x1 x29 x30 (wrap64 (x31 + 1))) else (some true)))) else (none)) else (none)) else (laws_FnRemap.l1 k x0 x1 ([] : List (S29)) x1 (x1.length : Int) 0)
def laws_FnRemap.l1 : Nat → List (S34) → List (S29) → List (S29) → List (S29) → Int → Int → Option (Bool)
  | 0, _, _, _, _, _, _ => none
  | k + 1, x0, x1, x5, x46, x47, x48 => if x48 < x47 then (if 0 ≤ x48 then (if x48 < (x46.length : Int) then (laws_FnRemap.l2 k x0 x1 x5 false x46 x47 x48 x0 (x0.length : Int) 0 ((rd_T29 x46 x48).f0) ((rd_T29 x46 x48).f1)) else (none)) else (none)) else ((impl_Remap.f x0 x1).bind fun t191 => ((laws_same.f k t191 x5).bind fun t194 => (if t194 = true then ((laws_waking.f k).bind fun t195 => (some t195)) else (some false))))
def laws_FnRemap.l2 : Nat → List (S34) → List (S29) → List (S29) → Bool → List (S29) → Int → Int → List (S34) → Int → Int → Int → ByteArray → Option (Bool)
  | 0, _, _, _, _, _, _, _, _, _, _, _, _ => none
  | k + 1, x0, x1, x5, x10, x46, x47, x48, x52, x53, x54, x198000, x198001 => if x54 < x53 then (if 0 ≤ x54 then (if x54 < (x52.length : Int) then (if ((rd_T34 x52 x54).f0) = x198000 then (if x10 = true then (laws_FnRemap.l2 k x0 x1 x5 x10 x46 x47 x48 x52 x53 (wrap64 (x54 + 1)) x198000 x198001) else (if x5.length + ((rd_T34 x52 x54).f1).length < 5864062014805 then (laws_FnRemap.l2 k x0 x1 (x5 ++ ((rd_T34 x52 x54).f1)) true x46 x47 x48 x52 x53 (wrap64 (x54 + 1)) x198000 x198001) else (none))) else (laws_FnRemap.l2 k x0 x1 x5 x10 x46 x47 x48 x52 x53 (wrap64 (x54 + 1)) x198000 x198001)) else (none)) else (none)) else (if x10 = true then (laws_FnRemap.l1 k x0 x1 x5 x46 x47 (wrap64 (x48 + 1))) else (if x5.length < 5864062014805 then (laws_FnRemap.l1 k x0 x1 (x5 ++ [(⟨x198000, x198001⟩ : S29)]) x46 x47 (wrap64 (x48 + 1))) else (none)))
end
def laws_FnRemap.f (k : Nat) (l0 : List (S34)) (l1 : List (S29)) : Option (Bool) := (laws_zzFits23.f k l0).bind fun t185 => (if t185 = true then ((laws_zzFits4.f k l1).bind fun t186 => (laws_FnRemap.j0 k l0 l1 (!t186))) else (laws_FnRemap.j0 k l0 l1 true))
theorem laws_FnRemap.mono_l : ∀ k, (∀ y0 y1 y2, LeO (laws_FnRemap.j0 k y0 y1 y2) (laws_FnRemap.j0 (k + 1) y0 y1 y2)) ∧ (∀ y0 y1 y2, LeO (laws_FnRemap.j1 k y0 y1 y2) (laws_FnRemap.j1 (k + 1) y0 y1 y2)) ∧ (∀ y0 y1 y2 y3 y4, LeO (laws_FnRemap.l0 k y0 y1 y2 y3 y4) (laws_FnRemap.l0 (k + 1) y0 y1 y2 y3 y4)) ∧ (∀ y0 y1 y2 y3 y4 y5, LeO (laws_FnRemap.l1 k y0 y1 y2 y3 y4 y5) (laws_FnRemap.l1 (k + 1) y0 y1 y2 y3 y4 y5)) ∧ (∀ y0 y1 y2 y3 y4 y5 y6 y7 y8 y9 y10 y11, LeO (laws_FnRemap.l2 k y0 y1 y2 y3 y4 y5 y6 y7 y8 y9 y10 y11) (laws_FnRemap.l2 (k + 1) y0 y1 y2 y3 y4 y5 y6 y7 y8 y9 y10 y11))
  | 0 => ⟨fun _ _ _ r h => by simp [laws_FnRemap.j0] at h, fun _ _ _ r h => by simp [laws_FnRemap.j1] at h, fun _ _ _ _ _ r h => by simp [laws_FnRemap.l0] at h, fun _ _ _ _ _ _ r h => by simp [laws_FnRemap.l1] at h, fun _ _ _ _ _ _ _ _ _ _ _ _ r h => by simp [laws_FnRemap.l2] at h⟩
  | k + 1 => by
    obtain ⟨ih0, ih1, ih2, ih3, ih4⟩ := laws_FnRemap.mono_l k
    refine ⟨?_, ?_, ?_, ?_, ?_⟩
    · intro y0 y1 y2
      unfold laws_FnRemap.j0
      repeat' first
      | (with_reducible exact ih0 _ _ _)
      | (with_reducible exact ih1 _ _ _)
      | (with_reducible exact ih2 _ _ _ _ _)
      | (with_reducible exact ih3 _ _ _ _ _ _)
      | (with_reducible exact ih4 _ _ _ _ _ _ _ _ _ _ _ _)
      | (with_reducible exact laws_same.mono _ _ _)
      | (with_reducible exact laws_small.mono _ _)
      | (with_reducible exact laws_waking.mono _)
      | (with_reducible exact laws_zzFits23.mono _ _)
      | (with_reducible exact laws_zzFits4.mono _ _)
      | (with_reducible exact LeO.refl _)
      | (with_reducible exact LeO.none _)
      | (with_reducible refine LeO.ite ?_ ?_)
      | (with_reducible refine LeO.bind ?_ (fun _ => ?_))
      | exact ih0 _ _ _
      | exact ih1 _ _ _
      | exact ih2 _ _ _ _ _
      | exact ih3 _ _ _ _ _ _
      | exact ih4 _ _ _ _ _ _ _ _ _ _ _ _
      | exact laws_same.mono _ _ _
      | exact laws_small.mono _ _
      | exact laws_waking.mono _
      | exact laws_zzFits23.mono _ _
      | exact laws_zzFits4.mono _ _
      | exact LeO.none _
      | refine LeO.ite ?_ ?_
      | refine LeO.bind ?_ (fun _ => ?_)
    · intro y0 y1 y2
      unfold laws_FnRemap.j1
      repeat' first
      | (with_reducible exact ih0 _ _ _)
      | (with_reducible exact ih1 _ _ _)
      | (with_reducible exact ih2 _ _ _ _ _)
      | (with_reducible exact ih3 _ _ _ _ _ _)
      | (with_reducible exact ih4 _ _ _ _ _ _ _ _ _ _ _ _)
      | (with_reducible exact laws_same.mono _ _ _)
      | (with_reducible exact laws_small.mono _ _)
      | (with_reducible exact laws_waking.mono _)
      | (with_reducible exact laws_zzFits23.mono _ _)
      | (with_reducible exact laws_zzFits4.mono _ _)
      | (with_reducible exact LeO.refl _)
      | (with_reducible exact LeO.none _)
      | (with_reducible refine LeO.ite ?_ ?_)
      | (with_reducible refine LeO.bind ?_ (fun _ => ?_))
      | exact ih0 _ _ _
      | exact ih1 _ _ _
      | exact ih2 _ _ _ _ _
      | exact ih3 _ _ _ _ _ _
      | exact ih4 _ _ _ _ _ _ _ _ _ _ _ _
      | exact laws_same.mono _ _ _
      | exact laws_small.mono _ _
      | exact laws_waking.mono _
      | exact laws_zzFits23.mono _ _
      | exact laws_zzFits4.mono _ _
      | exact LeO.none _
      | refine LeO.ite ?_ ?_
      | refine LeO.bind ?_ (fun _ => ?_)
    · intro y0 y1 y2 y3 y4
      unfold laws_FnRemap.l0
      repeat' first
      | (with_reducible exact ih0 _ _ _)
      | (with_reducible exact ih1 _ _ _)
      | (with_reducible exact ih2 _ _ _ _ _)
      | (with_reducible exact ih3 _ _ _ _ _ _)
      | (with_reducible exact ih4 _ _ _ _ _ _ _ _ _ _ _ _)
      | (with_reducible exact laws_same.mono _ _ _)
      | (with_reducible exact laws_small.mono _ _)
      | (with_reducible exact laws_waking.mono _)
      | (with_reducible exact laws_zzFits23.mono _ _)
      | (with_reducible exact laws_zzFits4.mono _ _)
      | (with_reducible exact LeO.refl _)
      | (with_reducible exact LeO.none _)
      | (with_reducible refine LeO.ite ?_ ?_)
      | (with_reducible refine LeO.bind ?_ (fun _ => ?_))
      | exact ih0 _ _ _
      | exact ih1 _ _ _
      | exact ih2 _ _ _ _ _
      | exact ih3 _ _ _ _ _ _
      | exact ih4 _ _ _ _ _ _ _ _ _ _ _ _
      | exact laws_same.mono _ _ _
      | exact laws_small.mono _ _
      | exact laws_waking.mono _
      | exact laws_zzFits23.mono _ _
      | exact laws_zzFits4.mono _ _
      | exact LeO.none _
      | refine LeO.ite ?_ ?_
      | refine LeO.bind ?_ (fun _ => ?_)
    · intro y0 y1 y2 y3 y4 y5
      unfold laws_FnRemap.l1
      repeat' first
      | (with_reducible exact ih0 _ _ _)
      | (with_reducible exact ih1 _ _ _)
      | (with_reducible exact ih2 _ _ _ _ _)
      | (with_reducible exact ih3 _ _ _ _ _ _)
      | (with_reducible exact ih4 _ _ _ _ _ _ _ _ _ _ _ _)
      | (with_reducible exact laws_same.mono _ _ _)
      | (with_reducible exact laws_small.mono _ _)
      | (with_reducible exact laws_waking.mono _)
      | (with_reducible exact laws_zzFits23.mono _ _)
      | (with_reducible exact laws_zzFits4.mono _ _)
      | (with_reducible exact LeO.refl _)
      | (with_reducible exact LeO.none _)
      | (with_reducible refine LeO.ite ?_ ?_)
      | (with_reducible refine LeO.bind ?_ (fun _ => ?_))
      | exact ih0 _ _ _
      | exact ih1 _ _ _
      | exact ih2 _ _ _ _ _
      | exact ih3 _ _ _ _ _ _
      | exact ih4 _ _ _ _ _ _ _ _ _ _ _ _
      | exact laws_same.mono _ _ _
      | exact laws_small.mono _ _
      | exact laws_waking.mono _
      | exact laws_zzFits23.mono _ _
      | exact laws_zzFits4.mono _ _
      | exact LeO.none _
      | refine LeO.ite ?_ ?_
      | refine LeO.bind ?_ (fun _ => ?_)
    · intro y0 y1 y2 y3 y4 y5 y6 y7 y8 y9 y10 y11
      unfold laws_FnRemap.l2
      repeat' first
      | (with_reducible exact ih0 _ _ _)
      | (with_reducible exact ih1 _ _ _)
      | (with_reducible exact ih2 _ _ _ _ _)
      | (with_reducible exact ih3 _ _ _ _ _ _)
      | (with_reducible exact ih4 _ _ _ _ _ _ _ _ _ _ _ _)
      | (with_reducible exact laws_same.mono _ _ _)
      | (with_reducible exact laws_small.mono _ _)
      | (with_reducible exact laws_waking.mono _)
      | (with_reducible exact laws_zzFits23.mono _ _)
      | (with_reducible exact laws_zzFits4.mono _ _)
      | (with_reducible exact LeO.refl _)
      | (with_reducible exact LeO.none _)
      | (with_reducible refine LeO.ite ?_ ?_)
      | (with_reducible refine LeO.bind ?_ (fun _ => ?_))
      | exact ih0 _ _ _
      | exact ih1 _ _ _
      | exact ih2 _ _ _ _ _
      | exact ih3 _ _ _ _ _ _
      | exact ih4 _ _ _ _ _ _ _ _ _ _ _ _
      | exact laws_same.mono _ _ _
      | exact laws_small.mono _ _
      | exact laws_waking.mono _
      | exact laws_zzFits23.mono _ _
      | exact laws_zzFits4.mono _ _
      | exact LeO.none _
      | refine LeO.ite ?_ ?_
      | refine LeO.bind ?_ (fun _ => ?_)
theorem laws_FnRemap.mono : ∀ a0 a1 k, LeO (laws_FnRemap.f k a0 a1) (laws_FnRemap.f (k + 1) a0 a1) := by
  intro a0 a1 k
  obtain ⟨ih0, ih1, ih2, ih3, ih4⟩ := laws_FnRemap.mono_l k
  unfold laws_FnRemap.f
  repeat' first
      | (with_reducible exact ih0 _ _ _)
      | (with_reducible exact ih1 _ _ _)
      | (with_reducible exact ih2 _ _ _ _ _)
      | (with_reducible exact ih3 _ _ _ _ _ _)
      | (with_reducible exact ih4 _ _ _ _ _ _ _ _ _ _ _ _)
      | (with_reducible exact laws_same.mono _ _ _)
      | (with_reducible exact laws_small.mono _ _)
      | (with_reducible exact laws_waking.mono _)
      | (with_reducible exact laws_zzFits23.mono _ _)
      | (with_reducible exact laws_zzFits4.mono _ _)
      | (with_reducible exact LeO.refl _)
      | (with_reducible exact LeO.none _)
      | (with_reducible refine LeO.ite ?_ ?_)
      | (with_reducible refine LeO.bind ?_ (fun _ => ?_))
      | exact ih0 _ _ _
      | exact ih1 _ _ _
      | exact ih2 _ _ _ _ _
      | exact ih3 _ _ _ _ _ _
      | exact ih4 _ _ _ _ _ _ _ _ _ _ _ _
      | exact laws_same.mono _ _ _
      | exact laws_small.mono _ _
      | exact laws_waking.mono _
      | exact laws_zzFits23.mono _ _
      | exact laws_zzFits4.mono _ _
      | exact LeO.none _
      | refine LeO.ite ?_ ?_
      | refine LeO.bind ?_ (fun _ => ?_)
set_option maxHeartbeats 8000000 in
set_option maxRecDepth 100000 in
theorem laws_FnRemap.calls (k : Nat) (A0 : Option Addr) (c0 : Nat) (l0 : List (S34)) (A1 : Option Addr) (c1 : Nat) (l1 : List (S29)) (r : Bool) (w : World) (hr0 : Kd.C k34 w A0 l0.length l0) (hc0 : l0.length ≤ c0) (hr1 : Kd.C k29 w A1 l1.length l1) (hc1 : l1.length ≤ c1) (hV : Go.Proofs.YtgpamoanclhbhaaDoorFmt.VarsOK w) (h : laws_FnRemap.f k l0 l1 = some r) :
    Calls Tryd.prog 5 #[.slice A0 l0.length c0, .slice A1 l1.length c1] w fun e w' => e = .returned (.bool r) ∧ Below w.heap.size w w' := by
  have hu34 := Tryd.underlying34
  have hu29 := Tryd.underlying29
  have HR0 := Aside0.mk hr0
  have HC0 := Aside0.mk hc0
  clear hr0 hc0
  have HR1 := Aside0.mk hr1
  have HC1 := Aside0.mk hc1
  clear hr1 hc1
  have HB := Aside0.mk (Below.refl w.heap.size w)
  have HV := Aside0.mk hV
  clear hV
  have H : ((laws_zzFits23.f k l0).bind fun t185 => (if t185 = true then ((laws_zzFits4.f k l1).bind fun t186 => (laws_FnRemap.j0 k l0 l1 (!t186))) else (laws_FnRemap.j0 k l0 l1 true))) = some r := h
  clear h
  have HC3 := Aside0.mk H
  clear H
  go_enter Tryd.func5, Tryd.ntmps5
  go_upto_region 1 with (fail)
  go_cut [20] (fun v20 wc => ∃ (kq : Nat) (x20_2 : Bool), v20 = .bool x20_2 ∧ Aside0 (laws_FnRemap.j0 kq l0 l1 x20_2 = some r) ∧ Aside0 (kq ≤ k) ∧ Aside0 (Below w.heap.size w wc))
  case first =>
    have H := HC3.out
    clear HC3
    replace H := Option.bind_eq_some_iff.mp H
    obtain ⟨t185, A40, H⟩ := H
    replace H : (if t185 = true then ((laws_zzFits4.f k l1).bind fun t186 => (laws_FnRemap.j0 k l0 l1 (!t186))) else (laws_FnRemap.j0 k l0 l1 true)) = some r := H
    have A4 := Aside0.mk A40
    clear A40
    by_cases c5 : t185 = true
    · subst c5
      have H1 : ((laws_zzFits4.f k l1).bind fun t186 => (laws_FnRemap.j0 k l0 l1 (!t186))) = some r := by rw [if_pos rfl] at H; exact H
      clear H
      have H := H1
      clear H1
      replace H := Option.bind_eq_some_iff.mp H
      obtain ⟨t186, A60, H⟩ := H
      replace H : (laws_FnRemap.j0 k l0 l1 (!t186)) = some r := H
      have A6 := Aside0.mk A60
      clear A60
      have H' := Aside0.mk H
      clear H
      go_wp2_with (first | ((with_reducible refine gate_callee (f := 12) rfl ?_); refine goesL_ (some 14) rfl rfl Tryd.func12 (by kernel_rfl) rfl #[.slice A0 l0.length c0] rfl (by (try simp only [List.map_toArray, List.map_cons, List.map_nil]); first | done | rfl | (simp only [List.length_drop, List.length_take]; rfl)) ?_; (with_reducible refine (laws_zzFits23.calls k _ _ l0 true _ ?side1 ?side2 A4.out).mono ?_); (case side1 => repeat (first | exact (Kd.C_below HR0.out HB.out) | (with_reducible refine Kd.C_alloc ?_ _) | (with_reducible refine Kd.C_drewN ?_ _) | (with_reducible refine Kd.C_drew ?_))); (case side2 => exact HC0.out); rintro e w7 ⟨rfl, hb⟩; refine ⟨_, rfl, ?_⟩; have n0_ := Aside0.mk (below_step (by repeat (first | (with_reducible first | exact HB.out | apply below_alloc | apply pw_below_drewN | apply below_drew1) | exact HB.out)) hb); clear HB; have HB := n0_; clear n0_; (try clear hb); (try clear hb2); (try clear hk); (try clear hi)) | (go_at_call 6; (with_reducible refine (laws_zzFits4.calls k _ _ l1 t186 _ ?side1 ?side2 A6.out).mono ?_); (case side1 => repeat (first | exact (Kd.C_below HR1.out HB.out) | (with_reducible refine Kd.C_alloc ?_ _) | (with_reducible refine Kd.C_drewN ?_ _) | (with_reducible refine Kd.C_drew ?_))); (case side2 => exact HC1.out); rintro e w8 ⟨rfl, hb⟩; have n0_ := Aside0.mk (below_step (by repeat (first | (with_reducible first | exact HB.out | apply below_alloc | apply pw_below_drewN | apply below_drew1) | exact HB.out)) hb); clear HB; have HB := n0_; clear n0_; (try clear hb); (try clear hb2); (try clear hk); (try clear hi)))
      go_meet
      case rel => exact ⟨_, (!t186), (by first | rfl | (simp; done) | (simp [*]; done)), H', ⟨by first | omega | exact Nat.le_refl _⟩, ⟨by repeat (first | (with_reducible first | exact HB.out | apply below_alloc | apply pw_below_drewN | apply below_drew1) | exact HB.out)⟩⟩
    · replace c5 := Bool.eq_false_iff.mpr c5
      subst c5
      have H1 : (laws_FnRemap.j0 k l0 l1 true) = some r := by rw [if_neg (show ¬ (false = true) by decide)] at H; exact H
      clear H
      have H := H1
      clear H1
      have H' := Aside0.mk H
      clear H
      go_wp2_with (first | ((with_reducible refine gate_callee (f := 12) rfl ?_); refine goesL_ (some 14) rfl rfl Tryd.func12 (by kernel_rfl) rfl #[.slice A0 l0.length c0] rfl (by (try simp only [List.map_toArray, List.map_cons, List.map_nil]); first | done | rfl | (simp only [List.length_drop, List.length_take]; rfl)) ?_; (with_reducible refine (laws_zzFits23.calls k _ _ l0 false _ ?side1 ?side2 A4.out).mono ?_); (case side1 => repeat (first | exact (Kd.C_below HR0.out HB.out) | (with_reducible refine Kd.C_alloc ?_ _) | (with_reducible refine Kd.C_drewN ?_ _) | (with_reducible refine Kd.C_drew ?_))); (case side2 => exact HC0.out); rintro e w9 ⟨rfl, hb⟩; refine ⟨_, rfl, ?_⟩; have n0_ := Aside0.mk (below_step (by repeat (first | (with_reducible first | exact HB.out | apply below_alloc | apply pw_below_drewN | apply below_drew1) | exact HB.out)) hb); clear HB; have HB := n0_; clear n0_; (try clear hb); (try clear hb2); (try clear hk); (try clear hi)))
      go_meet
      case rel => exact ⟨_, (true), (by first | rfl | (simp; done) | (simp [*]; done)), H', ⟨by first | omega | exact Nat.le_refl _⟩, ⟨by repeat (first | (with_reducible first | exact HB.out | apply below_alloc | apply pw_below_drewN | apply below_drew1) | exact HB.out)⟩⟩
  case rest =>
    clear HC3
    try clear c1
    try clear p2
    try clear c5
    obtain ⟨kq, x20_2, rfl, HA, HJ2, HB⟩ := hcut
    cases kq with
    | zero => exact absurd HA.out (by simp [laws_FnRemap.j0])
    | succ kj2 =>
      have H := HA.out
      clear HA
      simp only [laws_FnRemap.j0] at H
      by_cases c10 : x20_2 = true
      · subst c10
        have H1 : (some true) = some r := by rw [if_pos rfl] at H; exact H
        clear H
        have H := H1
        clear H1
        obtain rfl := Option.some.inj H
        go_wp2
        go_ret
        exact ⟨by first | rfl | (simp [errW_none, errW_some] <;> rfl) | (simp [*, errW_none, errW_some] <;> rfl), by repeat (first | (with_reducible first | exact HB.out | apply below_alloc | apply pw_below_drewN | apply below_drew1) | exact HB.out)⟩
      · replace c10 := Bool.eq_false_iff.mpr c10
        subst c10
        have H1 : (if (l0.length : Int) > 20 then (laws_FnRemap.j1 kj2 l0 l1 true) else ((laws_small.f kj2 l1).bind fun t187 => (laws_FnRemap.j1 kj2 l0 l1 (!t187)))) = some r := by rw [if_neg (show ¬ (false = true) by decide)] at H; exact H
        clear H
        have H := H1
        clear H1
        have HC11 := Aside0.mk H
        clear H
        go_upto_region 3 with (fail)
        go_cut [28] (fun v28 wc => ∃ (kq : Nat) (x28_10 : Bool), v28 = .bool x28_10 ∧ Aside0 (laws_FnRemap.j1 kq l0 l1 x28_10 = some r) ∧ Aside0 (kq ≤ kj2) ∧ Aside0 (Below w.heap.size w wc))
        case first =>
          have H := HC11.out
          clear HC11
          by_cases c12 : (l0.length : Int) > 20
          · rw [if_pos c12] at H
            have c12b0 : decide (20 < (l0.length : Int)) = true := decide_eq_true c12
            have c12b1 : decide (20 < l0.length) = true := decide_eq_true (by omega)
            clear c12
            (try (have c12b2 := c12b0; simp only [ByteArray.size_extract, Nat.min_self] at c12b2)); (first | rw [c12b0] | (simp only [i64_w, i32_w]; rw [c12b0]) | rw [c12b1] | skip)
            have H' := Aside0.mk H
            clear H
            go_wp2
            go_meet
            case rel => exact ⟨_, (true), (by first | rfl | (simp; done) | (simp [*]; done)), H', ⟨by have := HJ2.out; first | omega | exact Nat.le_refl _⟩, ⟨by repeat (first | (with_reducible first | exact HB.out | apply below_alloc | apply pw_below_drewN | apply below_drew1) | exact HB.out)⟩⟩
          · rw [if_neg c12] at H
            have c12b0 : decide (20 < (l0.length : Int)) = false := decide_eq_false c12
            have c12b1 : decide (20 < l0.length) = false := decide_eq_false (by omega)
            clear c12
            (try (have c12b2 := c12b0; simp only [ByteArray.size_extract, Nat.min_self] at c12b2)); (first | rw [c12b0] | (simp only [i64_w, i32_w]; rw [c12b0]) | rw [c12b1] | skip)
            replace H := Option.bind_eq_some_iff.mp H
            obtain ⟨t187, A130, H⟩ := H
            replace H : (laws_FnRemap.j1 kj2 l0 l1 (!t187)) = some r := H
            have A13 := Aside0.mk A130
            clear A130
            have H' := Aside0.mk H
            clear H
            go_wp2_with (first | (go_at_call 7; (with_reducible refine (laws_small.calls kj2 _ _ l1 t187 _ ?side1 ?side2 A13.out).mono ?_); (case side1 => repeat (first | exact (Kd.C_below HR1.out HB.out) | (with_reducible refine Kd.C_alloc ?_ _) | (with_reducible refine Kd.C_drewN ?_ _) | (with_reducible refine Kd.C_drew ?_))); (case side2 => exact HC1.out); rintro e w14 ⟨rfl, hb⟩; have n0_ := Aside0.mk (below_step (by repeat (first | (with_reducible first | exact HB.out | apply below_alloc | apply pw_below_drewN | apply below_drew1) | exact HB.out)) hb); clear HB; have HB := n0_; clear n0_; (try clear hb); (try clear hb2); (try clear hk); (try clear hi)))
            go_meet
            case rel => exact ⟨_, (!t187), (by first | rfl | (simp; done) | (simp [*]; done)), H', ⟨by have := HJ2.out; first | omega | exact Nat.le_refl _⟩, ⟨by repeat (first | (with_reducible first | exact HB.out | apply below_alloc | apply pw_below_drewN | apply below_drew1) | exact HB.out)⟩⟩
        case rest =>
          clear HC11
          try clear c1
          try clear p2
          try clear c5
          try clear c10
          try clear c12
          try clear c12b0
          try clear c12b1
          try clear c12b2
          try clear p2
          obtain ⟨kq, x28_10, rfl, HA, HJ10, HB⟩ := hcut
          cases kq with
          | zero => exact absurd HA.out (by simp [laws_FnRemap.j1])
          | succ kj10 =>
            have H := HA.out
            clear HA
            simp only [laws_FnRemap.j1] at H
            by_cases c15 : x28_10 = true
            · subst c15
              have H1 : (some true) = some r := by rw [if_pos rfl] at H; exact H
              clear H
              have H := H1
              clear H1
              obtain rfl := Option.some.inj H
              go_wp2
              go_ret
              exact ⟨by first | rfl | (simp [errW_none, errW_some] <;> rfl) | (simp [*, errW_none, errW_some] <;> rfl), by repeat (first | (with_reducible first | exact HB.out | apply below_alloc | apply pw_below_drewN | apply below_drew1) | exact HB.out)⟩
            · replace c15 := Bool.eq_false_iff.mpr c15
              subst c15
              have H1 : (laws_FnRemap.l0 kj10 l0 l1 l0 (l0.length : Int) 0) = some r := by rw [if_neg (show ¬ (false = true) by decide)] at H; exact H
              clear H
              have H := H1
              clear H1
              have H' := Aside0.mk H
              clear H
              go_wp2
              go_loopg [31] kj10 (fun kq v31 w' => ∃ (x31_3 : Int), v31 = .int .i64 x31_3 ∧ Aside0 (laws_FnRemap.l0 kq l0 l1 l0 (l0.length : Int) x31_3 = some r) ∧ Aside0 (kq ≤ kj10) ∧ Aside0 (Below w.heap.size w w'))
              case atStart => exact ⟨(0), (by first | rfl | (simp; done) | (simp [*]; done)), H', ⟨Nat.le_refl _⟩, ⟨by repeat (first | (with_reducible first | exact HB.out | apply below_alloc | apply pw_below_drewN | apply below_drew1) | exact HB.out)⟩⟩
              case round =>
                clear H'
                try clear c1
                try clear p2
                try clear c5
                try clear c10
                try clear c12
                try clear c12b0
                try clear c12b1
                try clear c12b2
                try clear c15
                try clear p2
                obtain ⟨x31_3, rfl, HA, HK3, HB⟩ := hrel
                cases gk with
                | zero => exact absurd HA.out (by simp [laws_FnRemap.l0])
                | succ k3 =>
                  have H := HA.out
                  clear HA
                  simp only [laws_FnRemap.l0] at H
                  by_cases c16 : x31_3 < (l0.length : Int)
                  · rw [if_pos c16] at H
                    have c16b0 : decide (x31_3 < (l0.length : Int)) = true := decide_eq_true c16
                    clear c16
                    by_cases c17 : 0 ≤ x31_3
                    · rw [if_pos c17] at H
                      have c17b0 : decide (0 ≤ x31_3) = true := decide_eq_true c17
                      clear c17
                      by_cases c18 : x31_3 < (l0.length : Int)
                      · rw [if_pos c18] at H
                        have c18b0 : decide (x31_3 < (l0.length : Int)) = true := decide_eq_true c18
                        clear c18
                        by_cases c19 : (((rd_T34 l0 x31_3).f1).length : Int) > 10
                        · rw [if_pos c19] at H
                          have c19b0 : decide (10 < (((rd_T34 l0 x31_3).f1).length : Int)) = true := decide_eq_true c19
                          have c19b1 : decide (10 < ((rd_T34 l0 x31_3).f1).length) = true := decide_eq_true (by omega)
                          clear c19
                          obtain rfl := Option.some.inj H
                          have p188 : 0 ≤ (x31_3 : Int) := of_decide_eq_true (by first | (with_reducible assumption) | assumption)
                          have q188 : x31_3 < (l0.length : Int) := of_decide_eq_true (by first | (with_reducible assumption) | assumption)
                          obtain ⟨ad188, A188_1, c188_1, e188, hx188_0, hx188_1, hl188_1, hi188_1⟩ := at_T34 HR0.out x31_3 p188 q188
                          cases e188
                          replace hx188_0 := (HB.out.cell (World.block_lt_of_cell? w _ hx188_0)).trans hx188_0
                          replace hx188_1 := (HB.out.cell (World.block_lt_of_cell? w _ hx188_1)).trans hx188_1
                          have HR188_1 := Aside0.mk hi188_1
                          have HC188_1 := Aside0.mk hl188_1
                          clear hi188_1 hl188_1
                          replace p188 := eq_true p188
                          replace q188 := eq_true q188
                          go_wp2_with (first | ((with_reducible refine gate_dst (N := 7) rfl ?_); refine box_event ?hg (N := 7) ?hd (cs := #[.int .i64 0, .slice none 0 0]) (t := 34) ?hr ?_; (case hd => rfl); (case hg => rfl); (case hr => first | (go_simp; done) | (go_simp; rfl)); intro gb189 hg w20 hbox hb; have n0_ := Aside0.mk (below_step (by repeat (first | (with_reducible first | exact HB.out | apply below_alloc | apply pw_below_drewN | apply below_drew1) | exact HB.out)) hb); have n1_ := Aside0.mk (hbox); have n2_ := Aside0.mk ((by rw [hg]; exact (below_size (by repeat (first | (with_reducible first | exact HB.out | apply below_alloc | apply pw_below_drewN | apply below_drew1) | exact HB.out))) : w.heap.size ≤ gb189)); have n3_ := Aside0.mk ((by rw [hg]; exact (below_size (by repeat (first | (with_reducible first | exact HB.out | apply below_alloc | apply pw_below_drewN | apply below_drew1) | exact HB.out))) : w.heap.size ≤ gb189)); clear HB; have HB := n0_; have BK189 := n1_; have GW189 := n2_; have GE189 := n3_; clear n0_ n1_ n2_ n3_; clear hb hbox hg; have hcz21_0 : w20.cell? ⟨gb189, 0, none⟩ = some (.int .i64 0) := (blk_cell BK189.out 0).trans rfl; have hcz21_1 : w20.cell? ⟨gb189, 1, none⟩ = some (.slice none 0 0) := (blk_cell BK189.out 1).trans rfl; have hfz21_0 := blk_frozen BK189.out 0; have hfz21_1 := blk_frozen BK189.out 1))
                          go_ret
                          exact ⟨by first | rfl | (simp [errW_none, errW_some] <;> rfl) | (simp [*, errW_none, errW_some] <;> rfl), by repeat (first | (with_reducible first | exact HB.out | apply below_alloc | apply pw_below_drewN | apply below_drew1 | refine below_set ?_ GE189.out) | exact HB.out)⟩
                        · rw [if_neg c19] at H
                          have c19b0 : decide (10 < (((rd_T34 l0 x31_3).f1).length : Int)) = false := decide_eq_false c19
                          have c19b1 : decide (10 < ((rd_T34 l0 x31_3).f1).length) = false := decide_eq_false (by omega)
                          clear c19
                          replace H := Option.bind_eq_some_iff.mp H
                          obtain ⟨t190, A220, H⟩ := H
                          replace H : (if t190 = true then (laws_FnRemap.l0 k3 l0 l1 l0 (l0.length : Int) (wrap64 (x31_3 + 1))) else (some true)) = some r := H
                          have A22 := Aside0.mk A220
                          clear A220
                          by_cases c23 : t190 = true
                          · subst c23
                            have H1 : (laws_FnRemap.l0 k3 l0 l1 l0 (l0.length : Int) (wrap64 (x31_3 + 1))) = some r := by rw [if_pos rfl] at H; exact H
                            clear H
                            have H := H1
                            clear H1
                            have H' := Aside0.mk H
                            clear H
                            have p188 : 0 ≤ (x31_3 : Int) := of_decide_eq_true (by first | (with_reducible assumption) | assumption)
                            have q188 : x31_3 < (l0.length : Int) := of_decide_eq_true (by first | (with_reducible assumption) | assumption)
                            obtain ⟨ad188, A188_1, c188_1, e188, hx188_0, hx188_1, hl188_1, hi188_1⟩ := at_T34 HR0.out x31_3 p188 q188
                            cases e188
                            replace hx188_0 := (HB.out.cell (World.block_lt_of_cell? w _ hx188_0)).trans hx188_0
                            replace hx188_1 := (HB.out.cell (World.block_lt_of_cell? w _ hx188_1)).trans hx188_1
                            have HR188_1 := Aside0.mk hi188_1
                            have HC188_1 := Aside0.mk hl188_1
                            clear hi188_1 hl188_1
                            replace p188 := eq_true p188
                            replace q188 := eq_true q188
                            go_wp2_with (first | ((with_reducible refine gate_dst (N := 7) rfl ?_); refine box_event ?hg (N := 7) ?hd (cs := #[.int .i64 0, .slice none 0 0]) (t := 34) ?hr ?_; (case hd => rfl); (case hg => rfl); (case hr => first | (go_simp; done) | (go_simp; rfl)); intro gb189 hg w24 hbox hb; have n0_ := Aside0.mk (below_step (by repeat (first | (with_reducible first | exact HB.out | apply below_alloc | apply pw_below_drewN | apply below_drew1) | exact HB.out)) hb); have n1_ := Aside0.mk (hbox); have n2_ := Aside0.mk ((by rw [hg]; exact (below_size (by repeat (first | (with_reducible first | exact HB.out | apply below_alloc | apply pw_below_drewN | apply below_drew1) | exact HB.out))) : w.heap.size ≤ gb189)); have n3_ := Aside0.mk ((by rw [hg]; exact (below_size (by repeat (first | (with_reducible first | exact HB.out | apply below_alloc | apply pw_below_drewN | apply below_drew1) | exact HB.out))) : w.heap.size ≤ gb189)); clear HB; have HB := n0_; have BK189 := n1_; have GW189 := n2_; have GE189 := n3_; clear n0_ n1_ n2_ n3_; clear hb hbox hg; have hcz25_0 : w24.cell? ⟨gb189, 0, none⟩ = some (.int .i64 0) := (blk_cell BK189.out 0).trans rfl; have hcz25_1 : w24.cell? ⟨gb189, 1, none⟩ = some (.slice none 0 0) := (blk_cell BK189.out 1).trans rfl; have hfz25_0 := blk_frozen BK189.out 0; have hfz25_1 := blk_frozen BK189.out 1) | (go_at_call 7; (with_reducible refine (laws_small.calls k3 _ _ ((rd_T34 l0 x31_3).f1) true _ ?side1 ?side2 A22.out).mono ?_); (case side1 => exact Kd.C_below HR188_1.out (by repeat (first | (with_reducible first | exact HB.out | apply below_alloc | apply pw_below_drewN | apply below_drew1 | refine below_set ?_ GE189.out) | exact HB.out))); (case side2 => exact HC188_1.out); rintro e w26 ⟨rfl, hb⟩; have n0_ := Aside0.mk (blk_below (g := gb189) (o := .cells #[.int .i64 ((rd_T34 l0 x31_3).f0), .slice A188_1 ((rd_T34 l0 x31_3).f1).length c188_1] 34 (0, 0)) (by (with_reducible repeat (first | refine blk_drewN ?_ _ | refine blk_drew ?_ | refine blk_alloc ?_ _)); refine blk_put (cs := #[.int .i64 ((rd_T34 l0 x31_3).f0), .slice none 0 0]) ?_ 1 _ rfl; (with_reducible repeat (first | refine blk_drewN ?_ _ | refine blk_drew ?_ | refine blk_alloc ?_ _)); refine blk_put (cs := #[.int .i64 0, .slice none 0 0]) ?_ 0 _ rfl; (with_reducible repeat (first | refine blk_drewN ?_ _ | refine blk_drew ?_ | refine blk_alloc ?_ _)); exact BK189.out) hb); have n1_ := Aside0.mk (below_step (by repeat (first | (with_reducible first | exact HB.out | apply below_alloc | apply pw_below_drewN | apply below_drew1 | refine below_set ?_ GE189.out) | exact HB.out)) hb); clear BK189; clear HB; have BK189 := n0_; have HB := n1_; clear n0_ n1_; (try clear hb); (try clear hb2); (try clear hk); (try clear hi)))
                            go_roundg k3
                            case measure => have := HJ2.out; have := HJ10.out; have := HK3.out; omega
                            case rel => exact ⟨(wrap64 (x31_3 + 1)), (by first | rfl | (simp; done) | (simp [*]; done)), H', ⟨by have := HJ2.out; have := HJ10.out; have := HK3.out; omega⟩, ⟨by repeat (first | (with_reducible first | exact HB.out | apply below_alloc | apply pw_below_drewN | apply below_drew1 | refine below_set ?_ GE189.out) | exact HB.out)⟩⟩
                          · replace c23 := Bool.eq_false_iff.mpr c23
                            subst c23
                            have H1 : (some true) = some r := by rw [if_neg (show ¬ (false = true) by decide)] at H; exact H
                            clear H
                            have H := H1
                            clear H1
                            obtain rfl := Option.some.inj H
                            have p188 : 0 ≤ (x31_3 : Int) := of_decide_eq_true (by first | (with_reducible assumption) | assumption)
                            have q188 : x31_3 < (l0.length : Int) := of_decide_eq_true (by first | (with_reducible assumption) | assumption)
                            obtain ⟨ad188, A188_1, c188_1, e188, hx188_0, hx188_1, hl188_1, hi188_1⟩ := at_T34 HR0.out x31_3 p188 q188
                            cases e188
                            replace hx188_0 := (HB.out.cell (World.block_lt_of_cell? w _ hx188_0)).trans hx188_0
                            replace hx188_1 := (HB.out.cell (World.block_lt_of_cell? w _ hx188_1)).trans hx188_1
                            have HR188_1 := Aside0.mk hi188_1
                            have HC188_1 := Aside0.mk hl188_1
                            clear hi188_1 hl188_1
                            replace p188 := eq_true p188
                            replace q188 := eq_true q188
                            go_wp2_with (first | ((with_reducible refine gate_dst (N := 7) rfl ?_); refine box_event ?hg (N := 7) ?hd (cs := #[.int .i64 0, .slice none 0 0]) (t := 34) ?hr ?_; (case hd => rfl); (case hg => rfl); (case hr => first | (go_simp; done) | (go_simp; rfl)); intro gb189 hg w27 hbox hb; have n0_ := Aside0.mk (below_step (by repeat (first | (with_reducible first | exact HB.out | apply below_alloc | apply pw_below_drewN | apply below_drew1) | exact HB.out)) hb); have n1_ := Aside0.mk (hbox); have n2_ := Aside0.mk ((by rw [hg]; exact (below_size (by repeat (first | (with_reducible first | exact HB.out | apply below_alloc | apply pw_below_drewN | apply below_drew1) | exact HB.out))) : w.heap.size ≤ gb189)); have n3_ := Aside0.mk ((by rw [hg]; exact (below_size (by repeat (first | (with_reducible first | exact HB.out | apply below_alloc | apply pw_below_drewN | apply below_drew1) | exact HB.out))) : w.heap.size ≤ gb189)); clear HB; have HB := n0_; have BK189 := n1_; have GW189 := n2_; have GE189 := n3_; clear n0_ n1_ n2_ n3_; clear hb hbox hg; have hcz28_0 : w27.cell? ⟨gb189, 0, none⟩ = some (.int .i64 0) := (blk_cell BK189.out 0).trans rfl; have hcz28_1 : w27.cell? ⟨gb189, 1, none⟩ = some (.slice none 0 0) := (blk_cell BK189.out 1).trans rfl; have hfz28_0 := blk_frozen BK189.out 0; have hfz28_1 := blk_frozen BK189.out 1) | (go_at_call 7; (with_reducible refine (laws_small.calls k3 _ _ ((rd_T34 l0 x31_3).f1) false _ ?side1 ?side2 A22.out).mono ?_); (case side1 => exact Kd.C_below HR188_1.out (by repeat (first | (with_reducible first | exact HB.out | apply below_alloc | apply pw_below_drewN | apply below_drew1 | refine below_set ?_ GE189.out) | exact HB.out))); (case side2 => exact HC188_1.out); rintro e w29 ⟨rfl, hb⟩; have n0_ := Aside0.mk (blk_below (g := gb189) (o := .cells #[.int .i64 ((rd_T34 l0 x31_3).f0), .slice A188_1 ((rd_T34 l0 x31_3).f1).length c188_1] 34 (0, 0)) (by (with_reducible repeat (first | refine blk_drewN ?_ _ | refine blk_drew ?_ | refine blk_alloc ?_ _)); refine blk_put (cs := #[.int .i64 ((rd_T34 l0 x31_3).f0), .slice none 0 0]) ?_ 1 _ rfl; (with_reducible repeat (first | refine blk_drewN ?_ _ | refine blk_drew ?_ | refine blk_alloc ?_ _)); refine blk_put (cs := #[.int .i64 0, .slice none 0 0]) ?_ 0 _ rfl; (with_reducible repeat (first | refine blk_drewN ?_ _ | refine blk_drew ?_ | refine blk_alloc ?_ _)); exact BK189.out) hb); have n1_ := Aside0.mk (below_step (by repeat (first | (with_reducible first | exact HB.out | apply below_alloc | apply pw_below_drewN | apply below_drew1 | refine below_set ?_ GE189.out) | exact HB.out)) hb); clear BK189; clear HB; have BK189 := n0_; have HB := n1_; clear n0_ n1_; (try clear hb); (try clear hb2); (try clear hk); (try clear hi)))
                            go_ret
                            exact ⟨by first | rfl | (simp [errW_none, errW_some] <;> rfl) | (simp [*, errW_none, errW_some] <;> rfl), by repeat (first | (with_reducible first | exact HB.out | apply below_alloc | apply pw_below_drewN | apply below_drew1 | refine below_set ?_ GE189.out) | exact HB.out)⟩
                      · rw [if_neg c18] at H
                        exact absurd H (by simp)
                    · rw [if_neg c17] at H
                      exact absurd H (by simp)
                  · rw [if_neg c16] at H
                    have c16b0 : decide (x31_3 < (l0.length : Int)) = false := decide_eq_false c16
                    clear c16
                    have H' := Aside0.mk H
                    clear H
                    go_wp2
                    go_loopg [5, 48] k3 (fun kq v5 v48 w' => ∃ (x5_4 : List (S29)) (x48_4 : Int), v48 = .int .i64 x48_4 ∧ Aside0 (laws_FnRemap.l1 kq l0 l1 x5_4 l1 (l1.length : Int) x48_4 = some r) ∧ Aside0 (kq ≤ k3) ∧ Aside0 (Kd.R k29 29 w' w.heap.size (fun _ => True) v5 x5_4) ∧ Aside0 (Below w.heap.size w w'))
                    case atStart => exact ⟨(([] : List (S29))), (0), (by first | rfl | (simp; done) | (simp [*]; done)), H', ⟨Nat.le_refl _⟩, ⟨by first | exact Kd.R_nil _ _ _ _ _ | exact Kd.N_nil _ _ _ _ _ | exact Kd.V_nil _ _ _ _ _ | exact Kd.Q_nil _ _ _ _ _ | exact Kd.S_nil _ _ _ _ _⟩, ⟨by repeat (first | (with_reducible first | exact HB.out | apply below_alloc | apply pw_below_drewN | apply below_drew1) | exact HB.out)⟩⟩
                    case round =>
                      clear H'
                      try clear c1
                      try clear p1
                      try clear q1
                      try clear hx1
                      try clear c2
                      try clear p2
                      try clear c5
                      try clear p6
                      try clear c10
                      try clear c12
                      try clear c12b0
                      try clear c12b1
                      try clear c12b2
                      try clear c15
                      try clear c16
                      try clear c16b0
                      try clear c17
                      try clear c17b0
                      try clear c18
                      try clear c18b0
                      try clear p18
                      try clear q18
                      try clear hx18
                      try clear c19
                      try clear c19b0
                      try clear c19b1
                      try clear c23
                      try clear hcz21_0
                      try clear hcz21_1
                      try clear hcz25_0
                      try clear hcz25_1
                      try clear hcz28_0
                      try clear hcz28_1
                      try clear hfz21_0
                      try clear hfz21_1
                      try clear hfz25_0
                      try clear hfz25_1
                      try clear hfz28_0
                      try clear hfz28_1
                      try clear hx188_0
                      try clear hx188_1
                      try clear p188
                      try clear p2
                      try clear q188
                      obtain ⟨x5_4, x48_4, rfl, HA, HK4, HO_5, HB⟩ := hrel
                      cases gk with
                      | zero => exact absurd HA.out (by simp [laws_FnRemap.l1])
                      | succ k4 =>
                        have H := HA.out
                        clear HA
                        simp only [laws_FnRemap.l1] at H
                        by_cases c30 : x48_4 < (l1.length : Int)
                        · rw [if_pos c30] at H
                          have c30b0 : decide (x48_4 < (l1.length : Int)) = true := decide_eq_true c30
                          clear c30
                          by_cases c31 : 0 ≤ x48_4
                          · rw [if_pos c31] at H
                            have c31b0 : decide (0 ≤ x48_4) = true := decide_eq_true c31
                            clear c31
                            by_cases c32 : x48_4 < (l1.length : Int)
                            · rw [if_pos c32] at H
                              have c32b0 : decide (x48_4 < (l1.length : Int)) = true := decide_eq_true c32
                              clear c32
                              have H' := Aside0.mk H
                              clear H
                              have p196 : 0 ≤ (x48_4 : Int) := of_decide_eq_true (by first | (with_reducible assumption) | assumption)
                              have q196 : x48_4 < (l1.length : Int) := of_decide_eq_true (by first | (with_reducible assumption) | assumption)
                              obtain ⟨ad196, e196, hx196_0, hx196_1⟩ := at_T29 HR1.out x48_4 p196 q196
                              cases e196
                              replace hx196_0 := (HB.out.cell (World.block_lt_of_cell? w _ hx196_0)).trans hx196_0
                              replace hx196_1 := (HB.out.cell (World.block_lt_of_cell? w _ hx196_1)).trans hx196_1
                              replace p196 := eq_true p196
                              replace q196 := eq_true q196
                              go_wp2_with (first | ((with_reducible refine gate_dst (N := 9) rfl ?_); refine box_event ?hg (N := 9) ?hd (cs := #[.int .i64 0, .string (⟨#[]⟩ : ByteArray)]) (t := 29) ?hr ?_; (case hd => rfl); (case hg => rfl); (case hr => first | (go_simp; done) | (go_simp; rfl)); intro gb197 hg w33 hbox hb; have n0_ := Aside0.mk (Kd.R_below (Kd.R_elderB (by (with_reducible repeat (first | apply Kd.R_alloc | apply Kd.R_drewN | apply Kd.R_drew)); exact HO_5.out) gb197 (Nat.le_of_eq hg.symm)) hb); have n1_ := Aside0.mk (below_step (by repeat (first | (with_reducible first | exact HB.out | apply below_alloc | apply pw_below_drewN | apply below_drew1) | exact HB.out)) hb); have n2_ := Aside0.mk (hbox); have n3_ := Aside0.mk ((by rw [hg]; exact (below_size (by repeat (first | (with_reducible first | exact HB.out | apply below_alloc | apply pw_below_drewN | apply below_drew1) | exact HB.out))) : w.heap.size ≤ gb197)); have n4_ := Aside0.mk ((by rw [hg]; exact (below_size (by repeat (first | (with_reducible first | exact HB.out | apply below_alloc | apply pw_below_drewN | apply below_drew1) | exact HB.out))) : w.heap.size ≤ gb197)); clear HO_5; clear HB; have HO_5 := n0_; have HB := n1_; have BK197 := n2_; have GW197 := n3_; have GE197 := n4_; clear n0_ n1_ n2_ n3_ n4_; clear hb hbox hg; have hcz34_0 : w33.cell? ⟨gb197, 0, none⟩ = some (.int .i64 0) := (blk_cell BK197.out 0).trans rfl; have hcz34_1 : w33.cell? ⟨gb197, 1, none⟩ = some (.string (⟨#[]⟩ : ByteArray)) := (blk_cell BK197.out 1).trans rfl; have hfz34_0 := blk_frozen BK197.out 0; have hfz34_1 := blk_frozen BK197.out 1))
                              go_loopg [5, 10, 54] k4 (fun kq v5 v10 v54 w' => ∃ (x5_5 : List (S29)) (x10_5 : Bool) (x54_5 : Int), v10 = .bool x10_5 ∧ v54 = .int .i64 x54_5 ∧ Aside0 (laws_FnRemap.l2 kq l0 l1 x5_5 x10_5 l1 (l1.length : Int) x48_4 l0 (l0.length : Int) x54_5 ((rd_T29 l1 x48_4).f0) ((rd_T29 l1 x48_4).f1) = some r) ∧ Aside0 (kq ≤ k4) ∧ Aside0 (Kd.R k29 29 w' w.heap.size (fun k_ => k_ ≠ gb197) v5 x5_5) ∧ Aside0 (w'.heap[gb197]? = some (.cells #[.int .i64 ((rd_T29 l1 x48_4).f0), .string ((rd_T29 l1 x48_4).f1)] 29 (0, 0))) ∧ Aside0 (Below w.heap.size w w'))
                              case atStart => exact ⟨(x5_4), (false), (0), (by first | rfl | (simp; done) | (simp [*]; done)), (by first | rfl | (simp; done) | (simp [*]; done)), H', ⟨Nat.le_refl _⟩, ⟨by (with_reducible repeat (first | apply Kd.R_alloc | apply Kd.R_drewN | apply Kd.R_drew)); exact Kd.R_mono (Kd.R_far (p := ⟨gb197, 1, none⟩) (Kd.R_far (p := ⟨gb197, 0, none⟩) (Kd.R_mono HO_5.out (fun k_ hk => (⟨hk, hk.2⟩ : _ ∧ k_ ≠ gb197))) (fun _ hk => hk.2) (.int .i64 ((rd_T29 l1 x48_4).f0))) (fun _ hk => hk.2) (.string ((rd_T29 l1 x48_4).f1))) (fun _ hk => hk.1.2)⟩, ⟨by (with_reducible repeat (first | refine blk_drewN ?_ _ | refine blk_drew ?_ | refine blk_alloc ?_ _)); refine blk_put (cs := #[.int .i64 ((rd_T29 l1 x48_4).f0), .string (⟨#[]⟩ : ByteArray)]) ?_ 1 _ rfl; (with_reducible repeat (first | refine blk_drewN ?_ _ | refine blk_drew ?_ | refine blk_alloc ?_ _)); refine blk_put (cs := #[.int .i64 0, .string (⟨#[]⟩ : ByteArray)]) ?_ 0 _ rfl; (with_reducible repeat (first | refine blk_drewN ?_ _ | refine blk_drew ?_ | refine blk_alloc ?_ _)); exact BK197.out⟩, ⟨by repeat (first | (with_reducible first | exact HB.out | apply below_alloc | apply pw_below_drewN | apply below_drew1 | refine below_set ?_ GE197.out) | exact HB.out)⟩⟩
                              case round =>
                                clear H'
                                try clear c1
                                try clear p1
                                try clear q1
                                try clear hx1
                                try clear c2
                                try clear p2
                                try clear c3
                                try clear c5
                                try clear p6
                                try clear c10
                                try clear c12
                                try clear c12b0
                                try clear c12b1
                                try clear c12b2
                                try clear c15
                                try clear c16
                                try clear c16b0
                                try clear c17
                                try clear c17b0
                                try clear c18
                                try clear c18b0
                                try clear p18
                                try clear q18
                                try clear hx18
                                try clear c19
                                try clear c19b0
                                try clear c19b1
                                try clear p19
                                try clear q19
                                try clear hx19
                                try clear c23
                                try clear c30
                                try clear c30b0
                                try clear c31
                                try clear c31b0
                                try clear c32
                                try clear c32b0
                                try clear hcz21_0
                                try clear hcz21_1
                                try clear hcz25_0
                                try clear hcz25_1
                                try clear hcz28_0
                                try clear hcz28_1
                                try clear hcz34_0
                                try clear hcz34_1
                                try clear hfz21_0
                                try clear hfz21_1
                                try clear hfz25_0
                                try clear hfz25_1
                                try clear hfz28_0
                                try clear hfz28_1
                                try clear hfz34_0
                                try clear hfz34_1
                                try clear hx188_0
                                try clear hx188_1
                                try clear hx196_0
                                try clear hx196_1
                                try clear p1
                                try clear p18
                                try clear p188
                                try clear p196
                                try clear p2
                                try clear p6
                                try clear q1
                                try clear q18
                                try clear q188
                                try clear q196
                                obtain ⟨x5_5, x10_5, x54_5, rfl, rfl, HA, HK5, HO_5, BK197, HB⟩ := hrel
                                cases gk with
                                | zero => exact absurd HA.out (by simp [laws_FnRemap.l2])
                                | succ k5 =>
                                  have H := HA.out
                                  clear HA
                                  simp only [laws_FnRemap.l2] at H
                                  by_cases c35 : x54_5 < (l0.length : Int)
                                  · rw [if_pos c35] at H
                                    have c35b0 : decide (x54_5 < (l0.length : Int)) = true := decide_eq_true c35
                                    clear c35
                                    by_cases c36 : 0 ≤ x54_5
                                    · rw [if_pos c36] at H
                                      have c36b0 : decide (0 ≤ x54_5) = true := decide_eq_true c36
                                      clear c36
                                      by_cases c37 : x54_5 < (l0.length : Int)
                                      · rw [if_pos c37] at H
                                        have c37b0 : decide (x54_5 < (l0.length : Int)) = true := decide_eq_true c37
                                        clear c37
                                        by_cases c38 : ((rd_T34 l0 x54_5).f0) = ((rd_T29 l1 x48_4).f0)
                                        · rw [if_pos c38] at H
                                          have c38b0 : (((rd_T34 l0 x54_5).f0) == ((rd_T29 l1 x48_4).f0)) = true := beq_iff_eq.mpr c38
                                          have c38b1 : (((rd_T34 l0 x54_5).f0) != ((rd_T29 l1 x48_4).f0)) = false := bne_eq_false_iff_eq.mpr c38
                                          clear c38
                                          by_cases c39 : x10_5 = true
                                          · subst c39
                                            have H1 : (laws_FnRemap.l2 k5 l0 l1 x5_5 true l1 (l1.length : Int) x48_4 l0 (l0.length : Int) (wrap64 (x54_5 + 1)) ((rd_T29 l1 x48_4).f0) ((rd_T29 l1 x48_4).f1)) = some r := by rw [if_pos rfl] at H; exact H
                                            clear H
                                            have H := H1
                                            clear H1
                                            have H' := Aside0.mk H
                                            clear H
                                            have p198 : 0 ≤ (x54_5 : Int) := of_decide_eq_true (by first | (with_reducible assumption) | assumption)
                                            have q198 : x54_5 < (l0.length : Int) := of_decide_eq_true (by first | (with_reducible assumption) | assumption)
                                            obtain ⟨ad198, A198_1, c198_1, e198, hx198_0, hx198_1, hl198_1, hi198_1⟩ := at_T34 HR0.out x54_5 p198 q198
                                            cases e198
                                            replace hx198_0 := (HB.out.cell (World.block_lt_of_cell? w _ hx198_0)).trans hx198_0
                                            replace hx198_1 := (HB.out.cell (World.block_lt_of_cell? w _ hx198_1)).trans hx198_1
                                            have HR198_1 := Aside0.mk hi198_1
                                            have HC198_1 := Aside0.mk hl198_1
                                            clear hi198_1 hl198_1
                                            replace p198 := eq_true p198
                                            replace q198 := eq_true q198
                                            go_wp2_with (first | ((with_reducible refine gate_dst (N := 12) rfl ?_); refine box_event ?hg (N := 12) ?hd (cs := #[.int .i64 0, .slice none 0 0]) (t := 34) ?hr ?_; (case hd => rfl); (case hg => rfl); (case hr => first | (go_simp; done) | (go_simp; rfl)); intro gb199 hg w40 hbox hb; have n0_ := Aside0.mk (Kd.R_below (by (with_reducible repeat (first | apply Kd.R_alloc | apply Kd.R_drewN | apply Kd.R_drew)); exact HO_5.out) hb); have n1_ := Aside0.mk (blk_below (g := gb197) (o := .cells #[.int .i64 ((rd_T29 l1 x48_4).f0), .string ((rd_T29 l1 x48_4).f1)] 29 (0, 0)) (by (with_reducible repeat (first | refine blk_drewN ?_ _ | refine blk_drew ?_ | refine blk_alloc ?_ _)); exact BK197.out) hb); have n2_ := Aside0.mk (below_step (by repeat (first | (with_reducible first | exact HB.out | apply below_alloc | apply pw_below_drewN | apply below_drew1 | refine below_set ?_ GE197.out) | exact HB.out)) hb); have n3_ := Aside0.mk (hbox); have n4_ := Aside0.mk ((by rw [hg]; exact (below_size (by repeat (first | (with_reducible first | exact HB.out | apply below_alloc | apply pw_below_drewN | apply below_drew1 | refine below_set ?_ GE197.out) | exact HB.out))) : w.heap.size ≤ gb199)); have n5_ := Aside0.mk ((by rw [hg]; exact (below_size (by repeat (first | (with_reducible first | exact HB.out | apply below_alloc | apply pw_below_drewN | apply below_drew1 | refine below_set ?_ GE197.out) | exact HB.out))) : w.heap.size ≤ gb199)); have n6_ := Aside0.mk ((by rw [hg]; exact Nat.ne_of_lt (blk_lt (g := gb197) (o := .cells #[.int .i64 ((rd_T29 l1 x48_4).f0), .string ((rd_T29 l1 x48_4).f1)] 29 (0, 0)) (by (with_reducible repeat (first | refine blk_drewN ?_ _ | refine blk_drew ?_ | refine blk_alloc ?_ _)); exact BK197.out)) : gb197 ≠ gb199)); have n7_ := Aside0.mk ((by rw [hg]; exact Nat.ne_of_gt (blk_lt (g := gb197) (o := .cells #[.int .i64 ((rd_T29 l1 x48_4).f0), .string ((rd_T29 l1 x48_4).f1)] 29 (0, 0)) (by (with_reducible repeat (first | refine blk_drewN ?_ _ | refine blk_drew ?_ | refine blk_alloc ?_ _)); exact BK197.out)) : gb199 ≠ gb197)); clear HO_5; clear BK197; clear HB; have HO_5 := n0_; have BK197 := n1_; have HB := n2_; have BK199 := n3_; have GW199 := n4_; have GE199 := n5_; have NB197_199 := n6_; have NB199_197 := n7_; clear n0_ n1_ n2_ n3_ n4_ n5_ n6_ n7_; clear hb hbox hg; have hnb41 := NB199_197.out; have hnc41 := NB197_199.out; have hcz42_0 : w40.cell? ⟨gb199, 0, none⟩ = some (.int .i64 0) := (blk_cell BK199.out 0).trans rfl; have hcz42_1 : w40.cell? ⟨gb199, 1, none⟩ = some (.slice none 0 0) := (blk_cell BK199.out 1).trans rfl; have hfz42_0 := blk_frozen BK199.out 0; have hfz42_1 := blk_frozen BK199.out 1; have hcz43_0 : w40.cell? ⟨gb197, 0, none⟩ = some (.int .i64 ((rd_T29 l1 x48_4).f0)) := (blk_cell BK197.out 0).trans rfl; have hcz43_1 : w40.cell? ⟨gb197, 1, none⟩ = some (.string ((rd_T29 l1 x48_4).f1)) := (blk_cell BK197.out 1).trans rfl; have hfz43_0 := blk_frozen BK197.out 0; have hfz43_1 := blk_frozen BK197.out 1))
                                            go_roundg k5
                                            case measure => have := HJ2.out; have := HJ10.out; have := HK3.out; have := HK4.out; have := HK5.out; omega
                                            case rel => exact ⟨(x5_5), (true), (wrap64 (x54_5 + 1)), (by first | rfl | (simp; done) | (simp [*]; done)), (by first | rfl | (simp; done) | (simp [*]; done)), H', ⟨by have := HJ2.out; have := HJ10.out; have := HK3.out; have := HK4.out; have := HK5.out; omega⟩, ⟨by (with_reducible repeat (first | apply Kd.R_alloc | apply Kd.R_drewN | apply Kd.R_drew)); exact Kd.R_mono (Kd.R_far (p := ⟨gb199, 1, none⟩) (Kd.R_far (p := ⟨gb199, 0, none⟩) (Kd.R_types HO_5.out BK199.out (by decide)) (fun _ hk => hk.2) (.int .i64 ((rd_T34 l0 x54_5).f0))) (fun _ hk => hk.2) (.slice A198_1 ((rd_T34 l0 x54_5).f1).length c198_1)) (fun _ hk => hk.1)⟩, ⟨by (with_reducible repeat (first | refine blk_drewN ?_ _ | refine blk_drew ?_ | refine blk_alloc ?_ _)); refine blk_far ?_ NB197_199.out _; (with_reducible repeat (first | refine blk_drewN ?_ _ | refine blk_drew ?_ | refine blk_alloc ?_ _)); refine blk_far ?_ NB197_199.out _; (with_reducible repeat (first | refine blk_drewN ?_ _ | refine blk_drew ?_ | refine blk_alloc ?_ _)); exact BK197.out⟩, ⟨by repeat (first | (with_reducible first | exact HB.out | apply below_alloc | apply pw_below_drewN | apply below_drew1 | refine below_set ?_ GE197.out | refine below_set ?_ GE199.out) | exact HB.out)⟩⟩
                                          · replace c39 := Bool.eq_false_iff.mpr c39
                                            subst c39
                                            have H1 : (if x5_5.length + ((rd_T34 l0 x54_5).f1).length < 5864062014805 then (laws_FnRemap.l2 k5 l0 l1 (x5_5 ++ ((rd_T34 l0 x54_5).f1)) true l1 (l1.length : Int) x48_4 l0 (l0.length : Int) (wrap64 (x54_5 + 1)) ((rd_T29 l1 x48_4).f0) ((rd_T29 l1 x48_4).f1)) else (none)) = some r := by rw [if_neg (show ¬ (false = true) by decide)] at H; exact H
                                            clear H
                                            have H := H1
                                            clear H1
                                            by_cases c44 : x5_5.length + ((rd_T34 l0 x54_5).f1).length < 5864062014805
                                            · rw [if_pos c44] at H
                                              have LMc44 := Aside0.mk c44
                                              clear c44
                                              obtain ⟨y200, hy200⟩ : ∃ y_ : List (S29), y_ = (x5_5 ++ ((rd_T34 l0 x54_5).f1)) := ⟨_, rfl⟩
                                              replace H : (laws_FnRemap.l2 k5 l0 l1 y200 true l1 (l1.length : Int) x48_4 l0 (l0.length : Int) (wrap64 (x54_5 + 1)) ((rd_T29 l1 x48_4).f0) ((rd_T29 l1 x48_4).f1)) = some r := by first | (rw [hy200]; with_reducible exact H) | (have H2_ := (Option.bind_some _ _).symm.trans H; rw [hy200]; with_reducible exact H2_) | (have H2_ := (Option.bind_some _ _).symm.trans H; with_reducible exact H2_) | with_reducible exact H | (rw [hy200]; exact H) | exact H
                                              have Ny200 := Aside0.mk hy200
                                              clear hy200
                                              have H' := Aside0.mk H
                                              clear H
                                              have p198 : 0 ≤ (x54_5 : Int) := of_decide_eq_true (by first | (with_reducible assumption) | assumption)
                                              have q198 : x54_5 < (l0.length : Int) := of_decide_eq_true (by first | (with_reducible assumption) | assumption)
                                              obtain ⟨ad198, A198_1, c198_1, e198, hx198_0, hx198_1, hl198_1, hi198_1⟩ := at_T34 HR0.out x54_5 p198 q198
                                              cases e198
                                              replace hx198_0 := (HB.out.cell (World.block_lt_of_cell? w _ hx198_0)).trans hx198_0
                                              replace hx198_1 := (HB.out.cell (World.block_lt_of_cell? w _ hx198_1)).trans hx198_1
                                              have HR198_1 := Aside0.mk hi198_1
                                              have HC198_1 := Aside0.mk hl198_1
                                              clear hi198_1 hl198_1
                                              replace p198 := eq_true p198
                                              replace q198 := eq_true q198
                                              go_wp2_with (first | ((with_reducible refine gate_dst (N := 12) rfl ?_); refine box_event ?hg (N := 12) ?hd (cs := #[.int .i64 0, .slice none 0 0]) (t := 34) ?hr ?_; (case hd => rfl); (case hg => rfl); (case hr => first | (go_simp; done) | (go_simp; rfl)); intro gb199 hg w45 hbox hb; have n0_ := Aside0.mk (Kd.R_below (by (with_reducible repeat (first | apply Kd.R_alloc | apply Kd.R_drewN | apply Kd.R_drew)); exact HO_5.out) hb); have n1_ := Aside0.mk (blk_below (g := gb197) (o := .cells #[.int .i64 ((rd_T29 l1 x48_4).f0), .string ((rd_T29 l1 x48_4).f1)] 29 (0, 0)) (by (with_reducible repeat (first | refine blk_drewN ?_ _ | refine blk_drew ?_ | refine blk_alloc ?_ _)); exact BK197.out) hb); have n2_ := Aside0.mk (below_step (by repeat (first | (with_reducible first | exact HB.out | apply below_alloc | apply pw_below_drewN | apply below_drew1 | refine below_set ?_ GE197.out) | exact HB.out)) hb); have n3_ := Aside0.mk (hbox); have n4_ := Aside0.mk ((by rw [hg]; exact (below_size (by repeat (first | (with_reducible first | exact HB.out | apply below_alloc | apply pw_below_drewN | apply below_drew1 | refine below_set ?_ GE197.out) | exact HB.out))) : w.heap.size ≤ gb199)); have n5_ := Aside0.mk ((by rw [hg]; exact (below_size (by repeat (first | (with_reducible first | exact HB.out | apply below_alloc | apply pw_below_drewN | apply below_drew1 | refine below_set ?_ GE197.out) | exact HB.out))) : w.heap.size ≤ gb199)); have n6_ := Aside0.mk ((by rw [hg]; exact Nat.ne_of_lt (blk_lt (g := gb197) (o := .cells #[.int .i64 ((rd_T29 l1 x48_4).f0), .string ((rd_T29 l1 x48_4).f1)] 29 (0, 0)) (by (with_reducible repeat (first | refine blk_drewN ?_ _ | refine blk_drew ?_ | refine blk_alloc ?_ _)); exact BK197.out)) : gb197 ≠ gb199)); have n7_ := Aside0.mk ((by rw [hg]; exact Nat.ne_of_gt (blk_lt (g := gb197) (o := .cells #[.int .i64 ((rd_T29 l1 x48_4).f0), .string ((rd_T29 l1 x48_4).f1)] 29 (0, 0)) (by (with_reducible repeat (first | refine blk_drewN ?_ _ | refine blk_drew ?_ | refine blk_alloc ?_ _)); exact BK197.out)) : gb199 ≠ gb197)); clear HO_5; clear BK197; clear HB; have HO_5 := n0_; have BK197 := n1_; have HB := n2_; have BK199 := n3_; have GW199 := n4_; have GE199 := n5_; have NB197_199 := n6_; have NB199_197 := n7_; clear n0_ n1_ n2_ n3_ n4_ n5_ n6_ n7_; clear hb hbox hg; have hnb46 := NB199_197.out; have hnc46 := NB197_199.out; have hcz47_0 : w45.cell? ⟨gb199, 0, none⟩ = some (.int .i64 0) := (blk_cell BK199.out 0).trans rfl; have hcz47_1 : w45.cell? ⟨gb199, 1, none⟩ = some (.slice none 0 0) := (blk_cell BK199.out 1).trans rfl; have hfz47_0 := blk_frozen BK199.out 0; have hfz47_1 := blk_frozen BK199.out 1; have hcz48_0 : w45.cell? ⟨gb197, 0, none⟩ = some (.int .i64 ((rd_T29 l1 x48_4).f0)) := (blk_cell BK197.out 0).trans rfl; have hcz48_1 : w45.cell? ⟨gb197, 1, none⟩ = some (.string ((rd_T29 l1 x48_4).f1)) := (blk_cell BK197.out 1).trans rfl; have hfz48_0 := blk_frozen BK197.out 0; have hfz48_1 := blk_frozen BK197.out 1) | ((with_reducible refine gate_builtin (b := .append) (xs := #[.tmp 67, .tmp 69]) rfl ?_); at_builtin; refine Kd.R_append_rows k29 (w0 := w) w.heap.size rfl (.tmp 67) (.tmp 69) 22 29 (.agg #[(.int .i64 0), (.string ⟨#[]⟩)]) 24 rfl Tryd.underlying22 info29 rfl (by decide) (by omega) u5 x5_5 ((rd_T34 l0 x54_5).f1) _ _ _ (fun k_ => k_ ≠ gb197) (fun _ => False) rfl rfl ?aO ?aR (fun _ _ h => h) (fun _ h => h.elim) ?aF ?aB ?aS ?aL ?_; (case aR => exact Kd.C_below HR198_1.out (by repeat (first | (with_reducible first | exact HB.out | apply below_alloc | apply pw_below_drewN | apply below_drew1 | refine below_set ?_ GE197.out | refine below_set ?_ GE199.out) | exact HB.out))); (case aB => exact (by repeat (first | (with_reducible first | exact HB.out | apply below_alloc | apply pw_below_drewN | apply below_drew1 | refine below_set ?_ GE197.out | refine below_set ?_ GE199.out) | exact HB.out))); (case aF => exact (fun k_ hk => Kd.freshB (g := gb197) (o := .cells #[.int .i64 ((rd_T29 l1 x48_4).f0), .string ((rd_T29 l1 x48_4).f1)] 29 (0, 0)) (by (with_reducible repeat (first | refine blk_drewN ?_ _ | refine blk_drew ?_ | refine blk_alloc ?_ _)); refine blk_far ?_ NB197_199.out _; (with_reducible repeat (first | refine blk_drewN ?_ _ | refine blk_drew ?_ | refine blk_alloc ?_ _)); refine blk_far ?_ NB197_199.out _; (with_reducible repeat (first | refine blk_drewN ?_ _ | refine blk_drew ?_ | refine blk_alloc ?_ _)); exact BK197.out) k_ hk)); (case aO => exact (by (with_reducible repeat (first | apply Kd.R_alloc | apply Kd.R_drewN | apply Kd.R_drew)); exact Kd.R_mono (Kd.R_far (p := ⟨gb199, 1, none⟩) (Kd.R_far (p := ⟨gb199, 0, none⟩) (Kd.R_types HO_5.out BK199.out (by decide)) (fun _ hk => hk.2) (.int .i64 ((rd_T34 l0 x54_5).f0))) (fun _ hk => hk.2) (.slice A198_1 ((rd_T34 l0 x54_5).f1).length c198_1)) (fun _ hk => hk.1))); (case aS => exact (below_size (by repeat (first | (with_reducible first | exact HB.out | apply below_alloc | apply pw_below_drewN | apply below_drew1 | refine below_set ?_ GE197.out | refine below_set ?_ GE199.out) | exact HB.out)))); (case aL => have := LMc44.out; omega); intro v201 w49 ho hb hg hat; rw [← Ny200.out] at ho; have n0_ := Aside0.mk (blk_grown (g := gb197) (o := .cells #[.int .i64 ((rd_T29 l1 x48_4).f0), .string ((rd_T29 l1 x48_4).f1)] 29 (0, 0)) (by (with_reducible repeat (first | refine blk_drewN ?_ _ | refine blk_drew ?_ | refine blk_alloc ?_ _)); refine blk_far ?_ NB197_199.out _; (with_reducible repeat (first | refine blk_drewN ?_ _ | refine blk_drew ?_ | refine blk_alloc ?_ _)); refine blk_far ?_ NB197_199.out _; (with_reducible repeat (first | refine blk_drewN ?_ _ | refine blk_drew ?_ | refine blk_alloc ?_ _)); exact BK197.out) hg (Kd.R_away HO_5.out (fun _ hk => hk))); have n1_ := Aside0.mk (blk_grown (g := gb199) (o := .cells #[.int .i64 ((rd_T34 l0 x54_5).f0), .slice A198_1 ((rd_T34 l0 x54_5).f1).length c198_1] 34 (0, 0)) (by (with_reducible repeat (first | refine blk_drewN ?_ _ | refine blk_drew ?_ | refine blk_alloc ?_ _)); refine blk_put (cs := #[.int .i64 ((rd_T34 l0 x54_5).f0), .slice none 0 0]) ?_ 1 _ rfl; (with_reducible repeat (first | refine blk_drewN ?_ _ | refine blk_drew ?_ | refine blk_alloc ?_ _)); refine blk_put (cs := #[.int .i64 0, .slice none 0 0]) ?_ 0 _ rfl; (with_reducible repeat (first | refine blk_drewN ?_ _ | refine blk_drew ?_ | refine blk_alloc ?_ _)); exact BK199.out) hg (Kd.R_ne HO_5.out BK199.out (by decide))); have n2_ := Aside0.mk (hb); have n3_ := Aside0.mk (ho); clear BK197; clear BK199; clear HB; clear HO_5; have BK197 := n0_; have BK199 := n1_; have HB := n2_; have HO202 := n3_; clear n0_ n1_ n2_ n3_; clear ho hb hg hat))
                                              go_roundg k5
                                              case measure => have := HJ2.out; have := HJ10.out; have := HK3.out; have := HK4.out; have := HK5.out; omega
                                              case rel => exact ⟨(y200), (true), (wrap64 (x54_5 + 1)), (by first | rfl | (simp; done) | (simp [*]; done)), (by first | rfl | (simp; done) | (simp [*]; done)), H', ⟨by have := HJ2.out; have := HJ10.out; have := HK3.out; have := HK4.out; have := HK5.out; omega⟩, ⟨by (with_reducible repeat (first | apply Kd.R_alloc | apply Kd.R_drewN | apply Kd.R_drew)); exact HO202.out⟩, ⟨by (with_reducible repeat (first | refine blk_drewN ?_ _ | refine blk_drew ?_ | refine blk_alloc ?_ _)); exact BK197.out⟩, ⟨by repeat (first | (with_reducible first | exact HB.out | apply below_alloc | apply pw_below_drewN | apply below_drew1 | refine below_set ?_ GE197.out | refine below_set ?_ GE199.out) | exact HB.out)⟩⟩
                                            · rw [if_neg c44] at H
                                              exact absurd H (by simp)
                                        · rw [if_neg c38] at H
                                          have c38b0 : (((rd_T34 l0 x54_5).f0) == ((rd_T29 l1 x48_4).f0)) = false := beq_eq_false_iff_ne.mpr c38
                                          have c38b1 : (((rd_T34 l0 x54_5).f0) != ((rd_T29 l1 x48_4).f0)) = true := bne_iff_ne.mpr c38
                                          have H' := Aside0.mk H
                                          clear H
                                          have p198 : 0 ≤ (x54_5 : Int) := of_decide_eq_true (by first | (with_reducible assumption) | assumption)
                                          have q198 : x54_5 < (l0.length : Int) := of_decide_eq_true (by first | (with_reducible assumption) | assumption)
                                          obtain ⟨ad198, A198_1, c198_1, e198, hx198_0, hx198_1, hl198_1, hi198_1⟩ := at_T34 HR0.out x54_5 p198 q198
                                          cases e198
                                          replace hx198_0 := (HB.out.cell (World.block_lt_of_cell? w _ hx198_0)).trans hx198_0
                                          replace hx198_1 := (HB.out.cell (World.block_lt_of_cell? w _ hx198_1)).trans hx198_1
                                          have HR198_1 := Aside0.mk hi198_1
                                          have HC198_1 := Aside0.mk hl198_1
                                          clear hi198_1 hl198_1
                                          replace p198 := eq_true p198
                                          replace q198 := eq_true q198
                                          go_wp2_with (first | ((with_reducible refine gate_dst (N := 12) rfl ?_); refine box_event ?hg (N := 12) ?hd (cs := #[.int .i64 0, .slice none 0 0]) (t := 34) ?hr ?_; (case hd => rfl); (case hg => rfl); (case hr => first | (go_simp; done) | (go_simp; rfl)); intro gb199 hg w50 hbox hb; have n0_ := Aside0.mk (Kd.R_below (by (with_reducible repeat (first | apply Kd.R_alloc | apply Kd.R_drewN | apply Kd.R_drew)); exact HO_5.out) hb); have n1_ := Aside0.mk (blk_below (g := gb197) (o := .cells #[.int .i64 ((rd_T29 l1 x48_4).f0), .string ((rd_T29 l1 x48_4).f1)] 29 (0, 0)) (by (with_reducible repeat (first | refine blk_drewN ?_ _ | refine blk_drew ?_ | refine blk_alloc ?_ _)); exact BK197.out) hb); have n2_ := Aside0.mk (below_step (by repeat (first | (with_reducible first | exact HB.out | apply below_alloc | apply pw_below_drewN | apply below_drew1 | refine below_set ?_ GE197.out) | exact HB.out)) hb); have n3_ := Aside0.mk (hbox); have n4_ := Aside0.mk ((by rw [hg]; exact (below_size (by repeat (first | (with_reducible first | exact HB.out | apply below_alloc | apply pw_below_drewN | apply below_drew1 | refine below_set ?_ GE197.out) | exact HB.out))) : w.heap.size ≤ gb199)); have n5_ := Aside0.mk ((by rw [hg]; exact (below_size (by repeat (first | (with_reducible first | exact HB.out | apply below_alloc | apply pw_below_drewN | apply below_drew1 | refine below_set ?_ GE197.out) | exact HB.out))) : w.heap.size ≤ gb199)); have n6_ := Aside0.mk ((by rw [hg]; exact Nat.ne_of_lt (blk_lt (g := gb197) (o := .cells #[.int .i64 ((rd_T29 l1 x48_4).f0), .string ((rd_T29 l1 x48_4).f1)] 29 (0, 0)) (by (with_reducible repeat (first | refine blk_drewN ?_ _ | refine blk_drew ?_ | refine blk_alloc ?_ _)); exact BK197.out)) : gb197 ≠ gb199)); have n7_ := Aside0.mk ((by rw [hg]; exact Nat.ne_of_gt (blk_lt (g := gb197) (o := .cells #[.int .i64 ((rd_T29 l1 x48_4).f0), .string ((rd_T29 l1 x48_4).f1)] 29 (0, 0)) (by (with_reducible repeat (first | refine blk_drewN ?_ _ | refine blk_drew ?_ | refine blk_alloc ?_ _)); exact BK197.out)) : gb199 ≠ gb197)); clear HO_5; clear BK197; clear HB; have HO_5 := n0_; have BK197 := n1_; have HB := n2_; have BK199 := n3_; have GW199 := n4_; have GE199 := n5_; have NB197_199 := n6_; have NB199_197 := n7_; clear n0_ n1_ n2_ n3_ n4_ n5_ n6_ n7_; clear hb hbox hg; have hnb51 := NB199_197.out; have hnc51 := NB197_199.out; have hcz52_0 : w50.cell? ⟨gb199, 0, none⟩ = some (.int .i64 0) := (blk_cell BK199.out 0).trans rfl; have hcz52_1 : w50.cell? ⟨gb199, 1, none⟩ = some (.slice none 0 0) := (blk_cell BK199.out 1).trans rfl; have hfz52_0 := blk_frozen BK199.out 0; have hfz52_1 := blk_frozen BK199.out 1; have hcz53_0 : w50.cell? ⟨gb197, 0, none⟩ = some (.int .i64 ((rd_T29 l1 x48_4).f0)) := (blk_cell BK197.out 0).trans rfl; have hcz53_1 : w50.cell? ⟨gb197, 1, none⟩ = some (.string ((rd_T29 l1 x48_4).f1)) := (blk_cell BK197.out 1).trans rfl; have hfz53_0 := blk_frozen BK197.out 0; have hfz53_1 := blk_frozen BK197.out 1))
                                          go_roundg k5
                                          case measure => have := HJ2.out; have := HJ10.out; have := HK3.out; have := HK4.out; have := HK5.out; omega
                                          case rel => exact ⟨(x5_5), (x10_5), (wrap64 (x54_5 + 1)), (by first | rfl | (simp; done) | (simp [*]; done)), (by first | rfl | (simp; done) | (simp [*]; done)), H', ⟨by have := HJ2.out; have := HJ10.out; have := HK3.out; have := HK4.out; have := HK5.out; omega⟩, ⟨by (with_reducible repeat (first | apply Kd.R_alloc | apply Kd.R_drewN | apply Kd.R_drew)); exact Kd.R_mono (Kd.R_far (p := ⟨gb199, 1, none⟩) (Kd.R_far (p := ⟨gb199, 0, none⟩) (Kd.R_types HO_5.out BK199.out (by decide)) (fun _ hk => hk.2) (.int .i64 ((rd_T34 l0 x54_5).f0))) (fun _ hk => hk.2) (.slice A198_1 ((rd_T34 l0 x54_5).f1).length c198_1)) (fun _ hk => hk.1)⟩, ⟨by (with_reducible repeat (first | refine blk_drewN ?_ _ | refine blk_drew ?_ | refine blk_alloc ?_ _)); refine blk_far ?_ NB197_199.out _; (with_reducible repeat (first | refine blk_drewN ?_ _ | refine blk_drew ?_ | refine blk_alloc ?_ _)); refine blk_far ?_ NB197_199.out _; (with_reducible repeat (first | refine blk_drewN ?_ _ | refine blk_drew ?_ | refine blk_alloc ?_ _)); exact BK197.out⟩, ⟨by repeat (first | (with_reducible first | exact HB.out | apply below_alloc | apply pw_below_drewN | apply below_drew1 | refine below_set ?_ GE197.out | refine below_set ?_ GE199.out) | exact HB.out)⟩⟩
                                      · rw [if_neg c37] at H
                                        exact absurd H (by simp)
                                    · rw [if_neg c36] at H
                                      exact absurd H (by simp)
                                  · rw [if_neg c35] at H
                                    have c35b0 : decide (x54_5 < (l0.length : Int)) = false := decide_eq_false c35
                                    clear c35
                                    by_cases c54 : x10_5 = true
                                    · subst c54
                                      have H1 : (laws_FnRemap.l1 k5 l0 l1 x5_5 l1 (l1.length : Int) (wrap64 (x48_4 + 1))) = some r := by rw [if_pos rfl] at H; exact H
                                      clear H
                                      have H := H1
                                      clear H1
                                      have H' := Aside0.mk H
                                      clear H
                                      go_wp2
                                      go_roundg k5
                                      case measure => have := HJ2.out; have := HJ10.out; have := HK3.out; have := HK4.out; have := HK5.out; omega
                                      case rel => exact ⟨(x5_5), (wrap64 (x48_4 + 1)), (by first | rfl | (simp; done) | (simp [*]; done)), H', ⟨by have := HJ2.out; have := HJ10.out; have := HK3.out; have := HK4.out; have := HK5.out; omega⟩, ⟨by (with_reducible repeat (first | apply Kd.R_alloc | apply Kd.R_drewN | apply Kd.R_drew)); exact Kd.R_mono HO_5.out (fun _ hk => trivial)⟩, ⟨by repeat (first | (with_reducible first | exact HB.out | apply below_alloc | apply pw_below_drewN | apply below_drew1 | refine below_set ?_ GE197.out) | exact HB.out)⟩⟩
                                    · replace c54 := Bool.eq_false_iff.mpr c54
                                      subst c54
                                      have H1 : (if x5_5.length < 5864062014805 then (laws_FnRemap.l1 k5 l0 l1 (x5_5 ++ [(⟨((rd_T29 l1 x48_4).f0), ((rd_T29 l1 x48_4).f1)⟩ : S29)]) l1 (l1.length : Int) (wrap64 (x48_4 + 1))) else (none)) = some r := by rw [if_neg (show ¬ (false = true) by decide)] at H; exact H
                                      clear H
                                      have H := H1
                                      clear H1
                                      by_cases c55 : x5_5.length < 5864062014805
                                      · rw [if_pos c55] at H
                                        have LMc55 := Aside0.mk c55
                                        clear c55
                                        obtain ⟨y203, hy203⟩ : ∃ y_ : List (S29), y_ = (x5_5 ++ [(⟨((rd_T29 l1 x48_4).f0), ((rd_T29 l1 x48_4).f1)⟩ : S29)]) := ⟨_, rfl⟩
                                        replace H : (laws_FnRemap.l1 k5 l0 l1 y203 l1 (l1.length : Int) (wrap64 (x48_4 + 1))) = some r := by first | (rw [hy203]; with_reducible exact H) | (have H2_ := (Option.bind_some _ _).symm.trans H; rw [hy203]; with_reducible exact H2_) | (have H2_ := (Option.bind_some _ _).symm.trans H; with_reducible exact H2_) | with_reducible exact H | (rw [hy203]; exact H) | exact H
                                        have Ny203 := Aside0.mk hy203
                                        clear hy203
                                        have H' := Aside0.mk H
                                        clear H
                                        have hcz56_0 : wr.cell? ⟨gb197, 0, none⟩ = some (.int .i64 ((rd_T29 l1 x48_4).f0)) := (blk_cell BK197.out 0).trans rfl
                                        have hcz56_1 : wr.cell? ⟨gb197, 1, none⟩ = some (.string ((rd_T29 l1 x48_4).f1)) := (blk_cell BK197.out 1).trans rfl
                                        have hfz56_0 := blk_frozen BK197.out 0
                                        have hfz56_1 := blk_frozen BK197.out 1
                                        go_wp2_with (first | ((with_reducible refine gate_builtin (b := .append) (xs := #[.tmp 74, .tmp 76]) rfl ?_); at_builtin; refine Kd.R_append k29 (w0 := w) w.heap.size rfl (.tmp 74) (.tmp 76) 22 29 (.agg #[(.int .i64 0), (.string ⟨#[]⟩)]) 24 rfl Tryd.underlying22 info29 rfl (by decide) (by omega) u5 x5_5 (⟨((rd_T29 l1 x48_4).f0), ((rd_T29 l1 x48_4).f1)⟩ : S29) [.int .i64 ((rd_T29 l1 x48_4).f0), .string ((rd_T29 l1 x48_4).f1)] (fun k_ => k_ ≠ gb197) (fun _ => False) rfl rfl ?aP (fun _ hk => hk.elim) ?aF ?aO ?aB ?aS ?aL ?_; (case aP => exact k29_mkM _ _ _ (⟨((rd_T29 l1 x48_4).f0), ((rd_T29 l1 x48_4).f1)⟩ : S29)); (case aB => exact (by repeat (first | (with_reducible first | exact HB.out | apply below_alloc | apply pw_below_drewN | apply below_drew1 | refine below_set ?_ GE197.out) | exact HB.out))); (case aF => exact (fun k_ hk => Kd.freshB (g := gb197) (o := .cells #[.int .i64 ((rd_T29 l1 x48_4).f0), .string ((rd_T29 l1 x48_4).f1)] 29 (0, 0)) (by (with_reducible repeat (first | refine blk_drewN ?_ _ | refine blk_drew ?_ | refine blk_alloc ?_ _)); exact BK197.out) k_ hk)); (case aO => exact (by (with_reducible repeat (first | apply Kd.R_alloc | apply Kd.R_drewN | apply Kd.R_drew)); exact HO_5.out)); (case aS => exact (below_size (by repeat (first | (with_reducible first | exact HB.out | apply below_alloc | apply pw_below_drewN | apply below_drew1 | refine below_set ?_ GE197.out) | exact HB.out)))); (case aL => have := LMc55.out; omega); intro v204 w57 ho hb hg hat; rw [← Ny203.out] at ho; have n0_ := Aside0.mk (blk_grown (g := gb197) (o := .cells #[.int .i64 ((rd_T29 l1 x48_4).f0), .string ((rd_T29 l1 x48_4).f1)] 29 (0, 0)) (by (with_reducible repeat (first | refine blk_drewN ?_ _ | refine blk_drew ?_ | refine blk_alloc ?_ _)); exact BK197.out) hg (Kd.R_away HO_5.out (fun _ hk => hk))); have n1_ := Aside0.mk (hb); have n2_ := Aside0.mk (ho); clear BK197; clear HB; clear HO_5; have BK197 := n0_; have HB := n1_; have HO205 := n2_; clear n0_ n1_ n2_; clear ho hb hg hat))
                                        go_roundg k5
                                        case measure => have := HJ2.out; have := HJ10.out; have := HK3.out; have := HK4.out; have := HK5.out; omega
                                        case rel => exact ⟨(y203), (wrap64 (x48_4 + 1)), (by first | rfl | (simp; done) | (simp [*]; done)), H', ⟨by have := HJ2.out; have := HJ10.out; have := HK3.out; have := HK4.out; have := HK5.out; omega⟩, ⟨by (with_reducible repeat (first | apply Kd.R_alloc | apply Kd.R_drewN | apply Kd.R_drew)); exact Kd.R_mono HO205.out (fun _ hk => trivial)⟩, ⟨by repeat (first | (with_reducible first | exact HB.out | apply below_alloc | apply pw_below_drewN | apply below_drew1 | refine below_set ?_ GE197.out) | exact HB.out)⟩⟩
                                      · rw [if_neg c55] at H
                                        exact absurd H (by simp)
                            · rw [if_neg c32] at H
                              exact absurd H (by simp)
                          · rw [if_neg c31] at H
                            exact absurd H (by simp)
                        · rw [if_neg c30] at H
                          have c30b0 : decide (x48_4 < (l1.length : Int)) = false := decide_eq_false c30
                          clear c30
                          replace H := Option.bind_eq_some_iff.mp H
                          obtain ⟨t191, A580, H⟩ := H
                          replace H : ((laws_same.f k4 t191 x5_4).bind fun t194 => (if t194 = true then ((laws_waking.f k4).bind fun t195 => (some t195)) else (some false))) = some r := H
                          have A58 := Aside0.mk A580
                          clear A580
                          replace H := Option.bind_eq_some_iff.mp H
                          obtain ⟨t194, A590, H⟩ := H
                          replace H : (if t194 = true then ((laws_waking.f k4).bind fun t195 => (some t195)) else (some false)) = some r := H
                          have A59 := Aside0.mk A590
                          clear A590
                          by_cases c60 : t194 = true
                          · subst c60
                            have H1 : ((laws_waking.f k4).bind fun t195 => (some t195)) = some r := by rw [if_pos rfl] at H; exact H
                            clear H
                            have H := H1
                            clear H1
                            replace H := Option.bind_eq_some_iff.mp H
                            obtain ⟨t195, A610, H⟩ := H
                            replace H : (some t195) = some r := H
                            have A61 := Aside0.mk A610
                            clear A610
                            obtain rfl := Option.some.inj H
                            go_wp2_with (first | ((with_reducible refine gate_callee (f := 13) rfl ?_); refine goesL_ (some 81) rfl rfl Tryd.func13 (by kernel_rfl) rfl #[.slice A0 l0.length c0, .slice A1 l1.length c1] rfl (by (try simp only [List.map_toArray, List.map_cons, List.map_nil]); first | done | rfl | (simp only [List.length_drop, List.length_take]; rfl)) ?_; (with_reducible refine (impl_Remap.calls _ _ l0 _ _ l1 t191 _ ?side1 ?side2 ?side3 ?side4 ?side5 A58.out).mono ?_); (case side1 => repeat (first | exact (Kd.C_below HR0.out HB.out) | (with_reducible refine Kd.C_alloc ?_ _) | (with_reducible refine Kd.C_drewN ?_ _) | (with_reducible refine Kd.C_drew ?_))); (case side2 => exact HC0.out); (case side3 => repeat (first | exact (Kd.C_below HR1.out HB.out) | (with_reducible refine Kd.C_alloc ?_ _) | (with_reducible refine Kd.C_drewN ?_ _) | (with_reducible refine Kd.C_drew ?_))); (case side4 => exact HC1.out); (case side5 => exact Go.Proofs.YtgpamoanclhbhaaDoorFmt.VarsOK.below HV.out (by repeat (first | (with_reducible first | exact HB.out | apply below_alloc | apply pw_below_drewN | apply below_drew1) | exact HB.out))); rintro e w62 ⟨v192, rfl, ho0, hb⟩; refine ⟨_, rfl, ?_⟩; have n0_ := Aside0.mk (Kd.R_elder' (by (with_reducible repeat (first | apply Kd.R_alloc | apply Kd.R_drewN | apply Kd.R_drew)); exact HO_5.out) (Kd.R_base ho0) hb); have n1_ := Aside0.mk (Kd.R_lower (Kd.R_new' ho0 (Kd.R_lt (by (with_reducible repeat (first | apply Kd.R_alloc | apply Kd.R_drewN | apply Kd.R_drew)); exact HO_5.out))) (below_size (by repeat (first | (with_reducible first | exact HB.out | apply below_alloc | apply pw_below_drewN | apply below_drew1) | exact HB.out)))); have n2_ := Aside0.mk (below_step (by repeat (first | (with_reducible first | exact HB.out | apply below_alloc | apply pw_below_drewN | apply below_drew1) | exact HB.out)) hb); clear HO_5; clear HB; have HO_5 := n0_; have HO193 := n1_; have HB := n2_; clear n0_ n1_ n2_; (try clear hb); (try clear hb2); (try clear hk); (try clear hi); (try clear ho0); obtain ⟨Ao63, co63, eo63⟩ := Kd.R_slice HO193.out; subst eo63; obtain ⟨Ao64, co64, eo64⟩ := Kd.R_slice HO_5.out; subst eo64) | ((with_reducible refine gate_callee (f := 8) rfl ?_); refine goesL_ (some 83) rfl rfl Tryd.func8 (by kernel_rfl) rfl #[.slice Ao63 t191.length co63, .slice Ao64 x5_4.length co64] rfl (by (try simp only [List.map_toArray, List.map_cons, List.map_nil]); first | done | rfl | (simp only [List.length_drop, List.length_take]; rfl)) ?_; (with_reducible refine (laws_same.calls k4 _ _ t191 _ _ x5_4 true _ ?side1 ?side2 ?side3 ?side4 A59.out).mono ?_); (case side1 => repeat (first | exact (Kd.R_reads' HO193.out).2.2 | (with_reducible refine Kd.C_alloc ?_ _) | (with_reducible refine Kd.C_drewN ?_ _) | (with_reducible refine Kd.C_drew ?_))); (case side2 => exact (Kd.R_reads' HO193.out).2.1); (case side3 => repeat (first | exact (Kd.R_reads' HO_5.out).2.2 | (with_reducible refine Kd.C_alloc ?_ _) | (with_reducible refine Kd.C_drewN ?_ _) | (with_reducible refine Kd.C_drew ?_))); (case side4 => exact (Kd.R_reads' HO_5.out).2.1); rintro e w' ⟨rfl, ⟨nd, rfl⟩⟩; refine ⟨_, rfl, ?_⟩) | (go_at_call 11; (with_reducible refine (laws_waking.calls k4  t195 _ A61.out).mono ?_); rintro e w65 ⟨rfl, hb⟩; have n0_ := Aside0.mk (Kd.R_below (by (with_reducible repeat (first | apply Kd.R_alloc | apply Kd.R_drewN | apply Kd.R_drew)); exact HO_5.out) hb); have n1_ := Aside0.mk (Kd.R_below (by (with_reducible repeat (first | apply Kd.R_alloc | apply Kd.R_drewN | apply Kd.R_drew)); exact HO193.out) hb); have n2_ := Aside0.mk (below_step (by repeat (first | (with_reducible first | exact HB.out | apply below_alloc | apply pw_below_drewN | apply below_drew1) | exact HB.out)) hb); clear HO_5; clear HO193; clear HB; have HO_5 := n0_; have HO193 := n1_; have HB := n2_; clear n0_ n1_ n2_; (try clear hb); (try clear hb2); (try clear hk); (try clear hi)))
                            go_ret
                            exact ⟨by first | rfl | (simp [errW_none, errW_some] <;> rfl) | (simp [*, errW_none, errW_some] <;> rfl), by repeat (first | (with_reducible first | exact HB.out | apply below_alloc | apply pw_below_drewN | apply below_drew1) | exact HB.out)⟩
                          · replace c60 := Bool.eq_false_iff.mpr c60
                            subst c60
                            have H1 : (some false) = some r := by rw [if_neg (show ¬ (false = true) by decide)] at H; exact H
                            clear H
                            have H := H1
                            clear H1
                            obtain rfl := Option.some.inj H
                            go_wp2_with (first | ((with_reducible refine gate_callee (f := 13) rfl ?_); refine goesL_ (some 81) rfl rfl Tryd.func13 (by kernel_rfl) rfl #[.slice A0 l0.length c0, .slice A1 l1.length c1] rfl (by (try simp only [List.map_toArray, List.map_cons, List.map_nil]); first | done | rfl | (simp only [List.length_drop, List.length_take]; rfl)) ?_; (with_reducible refine (impl_Remap.calls _ _ l0 _ _ l1 t191 _ ?side1 ?side2 ?side3 ?side4 ?side5 A58.out).mono ?_); (case side1 => repeat (first | exact (Kd.C_below HR0.out HB.out) | (with_reducible refine Kd.C_alloc ?_ _) | (with_reducible refine Kd.C_drewN ?_ _) | (with_reducible refine Kd.C_drew ?_))); (case side2 => exact HC0.out); (case side3 => repeat (first | exact (Kd.C_below HR1.out HB.out) | (with_reducible refine Kd.C_alloc ?_ _) | (with_reducible refine Kd.C_drewN ?_ _) | (with_reducible refine Kd.C_drew ?_))); (case side4 => exact HC1.out); (case side5 => exact Go.Proofs.YtgpamoanclhbhaaDoorFmt.VarsOK.below HV.out (by repeat (first | (with_reducible first | exact HB.out | apply below_alloc | apply pw_below_drewN | apply below_drew1) | exact HB.out))); rintro e w66 ⟨v192, rfl, ho0, hb⟩; refine ⟨_, rfl, ?_⟩; have n0_ := Aside0.mk (Kd.R_elder' (by (with_reducible repeat (first | apply Kd.R_alloc | apply Kd.R_drewN | apply Kd.R_drew)); exact HO_5.out) (Kd.R_base ho0) hb); have n1_ := Aside0.mk (Kd.R_lower (Kd.R_new' ho0 (Kd.R_lt (by (with_reducible repeat (first | apply Kd.R_alloc | apply Kd.R_drewN | apply Kd.R_drew)); exact HO_5.out))) (below_size (by repeat (first | (with_reducible first | exact HB.out | apply below_alloc | apply pw_below_drewN | apply below_drew1) | exact HB.out)))); have n2_ := Aside0.mk (below_step (by repeat (first | (with_reducible first | exact HB.out | apply below_alloc | apply pw_below_drewN | apply below_drew1) | exact HB.out)) hb); clear HO_5; clear HB; have HO_5 := n0_; have HO193 := n1_; have HB := n2_; clear n0_ n1_ n2_; (try clear hb); (try clear hb2); (try clear hk); (try clear hi); (try clear ho0); obtain ⟨Ao67, co67, eo67⟩ := Kd.R_slice HO193.out; subst eo67; obtain ⟨Ao68, co68, eo68⟩ := Kd.R_slice HO_5.out; subst eo68) | ((with_reducible refine gate_callee (f := 8) rfl ?_); refine goesL_ (some 83) rfl rfl Tryd.func8 (by kernel_rfl) rfl #[.slice Ao67 t191.length co67, .slice Ao68 x5_4.length co68] rfl (by (try simp only [List.map_toArray, List.map_cons, List.map_nil]); first | done | rfl | (simp only [List.length_drop, List.length_take]; rfl)) ?_; (with_reducible refine (laws_same.calls k4 _ _ t191 _ _ x5_4 false _ ?side1 ?side2 ?side3 ?side4 A59.out).mono ?_); (case side1 => repeat (first | exact (Kd.R_reads' HO193.out).2.2 | (with_reducible refine Kd.C_alloc ?_ _) | (with_reducible refine Kd.C_drewN ?_ _) | (with_reducible refine Kd.C_drew ?_))); (case side2 => exact (Kd.R_reads' HO193.out).2.1); (case side3 => repeat (first | exact (Kd.R_reads' HO_5.out).2.2 | (with_reducible refine Kd.C_alloc ?_ _) | (with_reducible refine Kd.C_drewN ?_ _) | (with_reducible refine Kd.C_drew ?_))); (case side4 => exact (Kd.R_reads' HO_5.out).2.1); rintro e w' ⟨rfl, ⟨nd, rfl⟩⟩; refine ⟨_, rfl, ?_⟩))
                            go_ret
                            exact ⟨by first | rfl | (simp [errW_none, errW_some] <;> rfl) | (simp [*, errW_none, errW_some] <;> rfl), by repeat (first | (with_reducible first | exact HB.out | apply below_alloc | apply pw_below_drewN | apply below_drew1) | exact HB.out)⟩
def wf_S29 (x : S29) : Prop := (IntKind.i64.min ≤ x.f0 ∧ x.f0 ≤ IntKind.i64.max) ∧ (x.f1.size ≤ maxLen)
def wf_S34 (x : S34) : Prop := (IntKind.i64.min ≤ x.f0 ∧ x.f0 ≤ IntKind.i64.max) ∧ (x.f1.length ≤ 9223372036854775807 ∧ ∀ y ∈ x.f1, wf_S29 y)
def laws_FnRemap.Pure : Prop := ∀ (l0 : List (S34)) (l1 : List (S29)), (l0.length ≤ 9223372036854775807 ∧ ∀ x ∈ l0, wf_S34 x) → (l1.length ≤ 9223372036854775807 ∧ ∀ x ∈ l1, wf_S29 x) → ∃ k, laws_FnRemap.f k l0 l1 = some true

end Go.Proofs.YtgpamoanclhbhaaDoor.R
