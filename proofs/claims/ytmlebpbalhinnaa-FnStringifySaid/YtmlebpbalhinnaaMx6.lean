-- WRITTEN BY OUR myprint.py, a program of this session's over the kit's printer
import Derived.Test.YtmlebpbalhinnaaMx0
import Derived.Test.YtmlebpbalhinnaaMx2
import Derived.Test.YtmlebpbalhinnaaMx4
import Derived.Test.YtmlebpbalhinnaaMx5
namespace Go.Proofs.Ytmlebpbalhinnaa.M
open Go.RowKit Go.Proofs.YtmlebpbalhinnaaW.PrintWords Go.Proofs.YtmlebpbalhinnaaW.PrintLast Go.Proofs.YtmlebpbalhinnaaW.PrintMore
attribute [local go_sem] max2_int min2_int max_two min_two max_three min_three max_four min_four   -- for this text's walks alone
set_option linter.unusedVariables false
set_option linter.unusedSimpArgs false

/-! ### laws_FnSplitLines: function 4 -/
def laws_FnSplitLines.l0 : Nat → List (S36) → List (List (S36)) → List (List (S36)) → Int → Int → Option (Bool)
  | 0, _, _, _, _, _ => none
  | k + 1, x0, x3, x17, x18, x19 => if x19 < x18 then (if 0 ≤ x19 then (if x19 < (x17.length : Int) then ((laws_text.f k (rd_L5 x17 x19)).bind fun t209 => ((laws_feeds.f k t209).bind fun t210 => (if t210 > 1 then (some false) else (if t210 = 1 then ((laws_ends.f t209).bind fun t211 => (if t211 = true then (if t210 = 0 then (if x19 < (wrap64 ((x3.length : Int) - 1)) then (some false) else (laws_FnSplitLines.l0 k x0 x3 x17 x18 (wrap64 (x19 + 1)))) else (laws_FnSplitLines.l0 k x0 x3 x17 x18 (wrap64 (x19 + 1)))) else (some false))) else (if t210 = 0 then (if x19 < (wrap64 ((x3.length : Int) - 1)) then (some false) else (laws_FnSplitLines.l0 k x0 x3 x17 x18 (wrap64 (x19 + 1)))) else (laws_FnSplitLines.l0 k x0 x3 x17 x18 (wrap64 (x19 + 1)))))))) else (none)) else (none)) else ((laws_text.f k x0).bind fun t204 => ((laws_feeds.f k t204).bind fun t205 => (if (x3.length : Int) = t205 then ((laws_waking.f k).bind fun t206 => (some t206)) else (if (x3.length : Int) = (wrap64 (t205 + 1)) then ((laws_waking.f k).bind fun t207 => (some t207)) else (some false)))))
def laws_FnSplitLines.f (k : Nat) (l0 : List (S36)) : Option (Bool) := (laws_zzFits4.f k l0).bind fun t199 => (if t199 = true then ((laws_small.f k l0).bind fun t200 => (if t200 = true then ((impl_SplitLines.f k l0).bind fun t201 => (laws_FnSplitLines.l0 k l0 t201 t201 (t201.length : Int) 0)) else (some true))) else (some true))
theorem laws_FnSplitLines.mono_l : ∀ k, (∀ y0 y1 y2 y3 y4, LeO (laws_FnSplitLines.l0 k y0 y1 y2 y3 y4) (laws_FnSplitLines.l0 (k + 1) y0 y1 y2 y3 y4))
  | 0 => fun _ _ _ _ _ r h => by simp [laws_FnSplitLines.l0] at h
  | k + 1 => by
    have ih0 := laws_FnSplitLines.mono_l k
    · intro y0 y1 y2 y3 y4
      unfold laws_FnSplitLines.l0
      repeat' first
      | (with_reducible exact ih0 _ _ _ _ _)
      | (with_reducible exact impl_SplitLines.mono _ _)
      | (with_reducible exact laws_feeds.mono _ _)
      | (with_reducible exact laws_small.mono _ _)
      | (with_reducible exact laws_text.mono _ _)
      | (with_reducible exact laws_waking.mono _)
      | (with_reducible exact laws_zzFits4.mono _ _)
      | (with_reducible exact LeO.refl _)
      | (with_reducible exact LeO.none _)
      | (with_reducible refine LeO.ite ?_ ?_)
      | (with_reducible refine LeO.bind ?_ (fun _ => ?_))
      | exact ih0 _ _ _ _ _
      | exact impl_SplitLines.mono _ _
      | exact laws_feeds.mono _ _
      | exact laws_small.mono _ _
      | exact laws_text.mono _ _
      | exact laws_waking.mono _
      | exact laws_zzFits4.mono _ _
      | exact LeO.none _
      | refine LeO.ite ?_ ?_
      | refine LeO.bind ?_ (fun _ => ?_)
theorem laws_FnSplitLines.mono : ∀ a0 k, LeO (laws_FnSplitLines.f k a0) (laws_FnSplitLines.f (k + 1) a0) := by
  intro a0 k
  have ih0 := laws_FnSplitLines.mono_l k
  unfold laws_FnSplitLines.f
  repeat' first
      | (with_reducible exact ih0 _ _ _ _ _)
      | (with_reducible exact impl_SplitLines.mono _ _)
      | (with_reducible exact laws_feeds.mono _ _)
      | (with_reducible exact laws_small.mono _ _)
      | (with_reducible exact laws_text.mono _ _)
      | (with_reducible exact laws_waking.mono _)
      | (with_reducible exact laws_zzFits4.mono _ _)
      | (with_reducible exact LeO.refl _)
      | (with_reducible exact LeO.none _)
      | (with_reducible refine LeO.ite ?_ ?_)
      | (with_reducible refine LeO.bind ?_ (fun _ => ?_))
      | exact ih0 _ _ _ _ _
      | exact impl_SplitLines.mono _ _
      | exact laws_feeds.mono _ _
      | exact laws_small.mono _ _
      | exact laws_text.mono _ _
      | exact laws_waking.mono _
      | exact laws_zzFits4.mono _ _
      | exact LeO.none _
      | refine LeO.ite ?_ ?_
      | refine LeO.bind ?_ (fun _ => ?_)
set_option maxHeartbeats 8000000 in
set_option maxRecDepth 100000 in
theorem laws_FnSplitLines.calls (k : Nat) (A0 : Option Addr) (c0 : Nat) (l0 : List (S36)) (r : Bool) (w : World) (hr0 : Kd.C k36 w A0 l0.length l0) (hc0 : l0.length ≤ c0) (h : laws_FnSplitLines.f k l0 = some r) :
    Calls Try.prog 4 #[.slice A0 l0.length c0] w fun e w' => e = .returned (.bool r) ∧ Below w.heap.size w w' := by
  have HR0 := Aside0.mk hr0
  have HC0 := Aside0.mk hc0
  clear hr0 hc0
  have HB := Aside0.mk (Below.refl w.heap.size w)
  have H : ((laws_zzFits4.f k l0).bind fun t199 => (if t199 = true then ((laws_small.f k l0).bind fun t200 => (if t200 = true then ((impl_SplitLines.f k l0).bind fun t201 => (laws_FnSplitLines.l0 k l0 t201 t201 (t201.length : Int) 0)) else (some true))) else (some true))) = some r := h
  clear h
  replace H := Option.bind_eq_some_iff.mp H
  obtain ⟨t199, A20, H⟩ := H
  replace H : (if t199 = true then ((laws_small.f k l0).bind fun t200 => (if t200 = true then ((impl_SplitLines.f k l0).bind fun t201 => (laws_FnSplitLines.l0 k l0 t201 t201 (t201.length : Int) 0)) else (some true))) else (some true)) = some r := H
  have A2 := Aside0.mk A20
  clear A20
  by_cases c3 : t199 = true
  · subst c3
    have H1 : ((laws_small.f k l0).bind fun t200 => (if t200 = true then ((impl_SplitLines.f k l0).bind fun t201 => (laws_FnSplitLines.l0 k l0 t201 t201 (t201.length : Int) 0)) else (some true))) = some r := by rw [if_pos rfl] at H; exact H
    clear H
    have H := H1
    clear H1
    replace H := Option.bind_eq_some_iff.mp H
    obtain ⟨t200, A40, H⟩ := H
    replace H : (if t200 = true then ((impl_SplitLines.f k l0).bind fun t201 => (laws_FnSplitLines.l0 k l0 t201 t201 (t201.length : Int) 0)) else (some true)) = some r := H
    have A4 := Aside0.mk A40
    clear A40
    by_cases c5 : t200 = true
    · subst c5
      have H1 : ((impl_SplitLines.f k l0).bind fun t201 => (laws_FnSplitLines.l0 k l0 t201 t201 (t201.length : Int) 0)) = some r := by rw [if_pos rfl] at H; exact H
      clear H
      have H := H1
      clear H1
      replace H := Option.bind_eq_some_iff.mp H
      obtain ⟨t201, A60, H⟩ := H
      replace H : (laws_FnSplitLines.l0 k l0 t201 t201 (t201.length : Int) 0) = some r := H
      have A6 := Aside0.mk A60
      clear A60
      have H' := Aside0.mk H
      clear H
      go_enter Try.func4, Try.ntmps4
      go_wp2_with (first | ((with_reducible refine gate_callee (f := 7) rfl ?_); refine goesL_ (some 10) rfl rfl Try.func7 (by kernel_rfl) rfl #[.slice A0 l0.length c0] rfl (by (try simp only [List.map_toArray, List.map_cons, List.map_nil]); first | done | rfl | (simp only [List.length_drop, List.length_take]; rfl)) ?_; (with_reducible refine (laws_zzFits4.calls k _ _ l0 true _ ?side1 ?side2 A2.out).mono ?_); (case side1 => repeat (first | exact HR0.out | (with_reducible refine Kd.C_alloc ?_ _) | (with_reducible refine Kd.C_drewN ?_ _) | (with_reducible refine Kd.C_drew ?_))); (case side2 => exact HC0.out); rintro e w7 ⟨rfl, hb⟩; refine ⟨_, rfl, ?_⟩; have n0_ := Aside0.mk (below_step (by repeat (first | (with_reducible first | exact HB.out | apply below_alloc | apply pw_below_drewN | apply below_drew1) | exact HB.out)) hb); clear HB; have HB := n0_; clear n0_; (try clear hb); (try clear hb2); (try clear hk); (try clear hi)) | ((with_reducible refine gate_callee (f := 8) rfl ?_); refine goesL_ (some 13) rfl rfl Try.func8 (by kernel_rfl) rfl #[.slice A0 l0.length c0] rfl (by (try simp only [List.map_toArray, List.map_cons, List.map_nil]); first | done | rfl | (simp only [List.length_drop, List.length_take]; rfl)) ?_; (with_reducible refine (laws_small.calls k _ _ l0 true _ ?side1 ?side2 A4.out).mono ?_); (case side1 => repeat (first | exact (Kd.C_below HR0.out HB.out) | (with_reducible refine Kd.C_alloc ?_ _) | (with_reducible refine Kd.C_drewN ?_ _) | (with_reducible refine Kd.C_drew ?_))); (case side2 => exact HC0.out); rintro e w8 ⟨rfl, hb⟩; refine ⟨_, rfl, ?_⟩; have n0_ := Aside0.mk (below_step (by repeat (first | (with_reducible first | exact HB.out | apply below_alloc | apply pw_below_drewN | apply below_drew1) | exact HB.out)) hb); clear HB; have HB := n0_; clear n0_; (try clear hb); (try clear hb2); (try clear hk); (try clear hi)) | ((with_reducible refine gate_callee (f := 9) rfl ?_); refine goesL_ (some 16) rfl rfl Try.func9 (by kernel_rfl) rfl #[.slice A0 l0.length c0] rfl (by (try simp only [List.map_toArray, List.map_cons, List.map_nil]); first | done | rfl | (simp only [List.length_drop, List.length_take]; rfl)) ?_; (with_reducible refine (impl_SplitLines.calls k _ _ l0 t201 _ ?side1 ?side2 A6.out).mono ?_); (case side1 => repeat (first | exact (Kd.C_below HR0.out HB.out) | (with_reducible refine Kd.C_alloc ?_ _) | (with_reducible refine Kd.C_drewN ?_ _) | (with_reducible refine Kd.C_drew ?_))); (case side2 => exact HC0.out); rintro e w9 ⟨v202, rfl, ho0, hb⟩; refine ⟨_, rfl, ?_⟩; have n0_ := Aside0.mk (Kd.S_lower ho0 (below_size (by repeat (first | (with_reducible first | exact HB.out | apply below_alloc | apply pw_below_drewN | apply below_drew1) | exact HB.out)))); have n1_ := Aside0.mk (below_step (by repeat (first | (with_reducible first | exact HB.out | apply below_alloc | apply pw_below_drewN | apply below_drew1) | exact HB.out)) hb); clear HB; have HO203 := n0_; have HB := n1_; clear n0_ n1_; (try clear hb); (try clear hb2); (try clear hk); (try clear hi); (try clear ho0); obtain ⟨Ao10, co10, eo10⟩ := Kd.S_slice HO203.out; subst eo10))
      go_loopg [19] k (fun kq v19 w' => ∃ (x19_1 : Int), v19 = .int .i64 x19_1 ∧ Aside0 (laws_FnSplitLines.l0 kq l0 t201 t201 (t201.length : Int) x19_1 = some r) ∧ Aside0 (kq ≤ k) ∧ Aside0 (Kd.S (Kd.slice 36 k36) 22 w' w.heap.size (fun _ => True) (.slice Ao10 t201.length co10) t201) ∧ Aside0 (Kd.S (Kd.slice 36 k36) 22 w' w.heap.size (fun _ => True) (.slice Ao10 t201.length co10) t201) ∧ Aside0 (Below w.heap.size w w'))
      case atStart => exact ⟨(0), (by first | rfl | (simp; done) | (simp [*]; done)), H', ⟨Nat.le_refl _⟩, ⟨by (with_reducible repeat (first | apply Kd.S_alloc | apply Kd.S_drewN | apply Kd.S_drew)); exact HO203.out⟩, ⟨by (with_reducible repeat (first | apply Kd.S_alloc | apply Kd.S_drewN | apply Kd.S_drew)); exact HO203.out⟩, ⟨by repeat (first | (with_reducible first | exact HB.out | apply below_alloc | apply pw_below_drewN | apply below_drew1) | exact HB.out)⟩⟩
      case round =>
        clear H'
        try clear p2
        try clear c3
        try clear c4
        try clear c5
        try clear c7
        try clear c8
        try clear c9
        obtain ⟨x19_1, rfl, HA, HK1, HO_3, HO_17, HB⟩ := hrel
        cases gk with
        | zero => exact absurd HA.out (by simp [laws_FnSplitLines.l0])
        | succ k1 =>
          have H := HA.out
          clear HA
          simp only [laws_FnSplitLines.l0] at H
          by_cases c11 : x19_1 < (t201.length : Int)
          · rw [if_pos c11] at H
            have c11b0 : decide (x19_1 < (t201.length : Int)) = true := decide_eq_true c11
            clear c11
            by_cases c12 : 0 ≤ x19_1
            · rw [if_pos c12] at H
              have c12b0 : decide (0 ≤ x19_1) = true := decide_eq_true c12
              clear c12
              by_cases c13 : x19_1 < (t201.length : Int)
              · rw [if_pos c13] at H
                have c13b0 : decide (x19_1 < (t201.length : Int)) = true := decide_eq_true c13
                clear c13
                replace H := Option.bind_eq_some_iff.mp H
                obtain ⟨t209, A140, H⟩ := H
                replace H : ((laws_feeds.f k1 t209).bind fun t210 => (if t210 > 1 then (some false) else (if t210 = 1 then ((laws_ends.f t209).bind fun t211 => (if t211 = true then (if t210 = 0 then (if x19_1 < (wrap64 ((t201.length : Int) - 1)) then (some false) else (laws_FnSplitLines.l0 k1 l0 t201 t201 (t201.length : Int) (wrap64 (x19_1 + 1)))) else (laws_FnSplitLines.l0 k1 l0 t201 t201 (t201.length : Int) (wrap64 (x19_1 + 1)))) else (some false))) else (if t210 = 0 then (if x19_1 < (wrap64 ((t201.length : Int) - 1)) then (some false) else (laws_FnSplitLines.l0 k1 l0 t201 t201 (t201.length : Int) (wrap64 (x19_1 + 1)))) else (laws_FnSplitLines.l0 k1 l0 t201 t201 (t201.length : Int) (wrap64 (x19_1 + 1))))))) = some r := H
                have A14 := Aside0.mk A140
                clear A140
                replace H := Option.bind_eq_some_iff.mp H
                obtain ⟨t210, A150, H⟩ := H
                replace H : (if t210 > 1 then (some false) else (if t210 = 1 then ((laws_ends.f t209).bind fun t211 => (if t211 = true then (if t210 = 0 then (if x19_1 < (wrap64 ((t201.length : Int) - 1)) then (some false) else (laws_FnSplitLines.l0 k1 l0 t201 t201 (t201.length : Int) (wrap64 (x19_1 + 1)))) else (laws_FnSplitLines.l0 k1 l0 t201 t201 (t201.length : Int) (wrap64 (x19_1 + 1)))) else (some false))) else (if t210 = 0 then (if x19_1 < (wrap64 ((t201.length : Int) - 1)) then (some false) else (laws_FnSplitLines.l0 k1 l0 t201 t201 (t201.length : Int) (wrap64 (x19_1 + 1)))) else (laws_FnSplitLines.l0 k1 l0 t201 t201 (t201.length : Int) (wrap64 (x19_1 + 1)))))) = some r := H
                have A15 := Aside0.mk A150
                clear A150
                by_cases c16 : t210 > 1
                · rw [if_pos c16] at H
                  have c16b0 : decide (1 < t210) = true := decide_eq_true c16
                  clear c16
                  obtain rfl := Option.some.inj H
                  have p208 : 0 ≤ (x19_1 : Int) := of_decide_eq_true (by first | (with_reducible assumption) | assumption)
                  have q208 : x19_1 < (t201.length : Int) := of_decide_eq_true (by first | (with_reducible assumption) | assumption)
                  obtain ⟨ad208, A208_0, c208_0, e208, hx208_0, hl208_0, hi208_0⟩ := at_L5 (Kd.S_reads' HO_17.out).2.2 x19_1 p208 q208
                  cases e208
                  obtain ⟨ce208, hce208, hMe208, hcc208⟩ := Kd.S_get HO_17.out [] x19_1 p208 (by first | exact q208 | exact of_decide_eq_true (by first | (with_reducible assumption) | assumption) | (have e_ := (Kd.S_reads' HO_17.out).1; omega))
                  obtain ⟨ve208_0, rfl, ge208_0⟩ := hMe208
                  have hv208_0 := hcc208 0 _ rfl
                  rw [Nat.add_zero, show ((Kd.slice 36 k36)).sz = 1 from rfl, Nat.mul_one] at hv208_0
                  replace hv208_0 := Option.some.inj (hv208_0.symm.trans hx208_0)
                  rw [hv208_0] at ge208_0
                  have HL208_0 := Aside0.mk (show Kd.R k36 36 _ _ _ _ (rd_L5 t201 x19_1) from ge208_0)
                  clear hv208_0 ge208_0
                  clear hcc208 hce208
                  have HR208_0 := Aside0.mk hi208_0
                  have HC208_0 := Aside0.mk hl208_0
                  clear hi208_0 hl208_0
                  replace p208 := eq_true p208
                  replace q208 := eq_true q208
                  go_wp2_with (first | ((with_reducible refine gate_callee (f := 13) rfl ?_); refine goesL_ (some 25) rfl rfl Try.func13 (by kernel_rfl) rfl #[.slice A208_0 (rd_L5 t201 x19_1).length c208_0] rfl (by (try simp only [List.map_toArray, List.map_cons, List.map_nil]); first | done | rfl | (simp only [List.length_drop, List.length_take]; rfl)) ?_; (with_reducible refine (laws_text.calls k1 _ _ (rd_L5 t201 x19_1) t209 _ ?side1 ?side2 A14.out).mono ?_); (case side1 => repeat (first | exact (by repeat (first | (with_reducible exact HR208_0.out) | (with_reducible refine Kd.C_alloc ?_ _) | (with_reducible refine Kd.C_drewN ?_ _) | (with_reducible refine Kd.C_drew ?_) | exact HR208_0.out)) | (with_reducible refine Kd.C_alloc ?_ _) | (with_reducible refine Kd.C_drewN ?_ _) | (with_reducible refine Kd.C_drew ?_))); (case side2 => exact HC208_0.out); rintro e w17 ⟨rfl, hb⟩; refine ⟨_, rfl, ?_⟩; have n0_ := Aside0.mk (Kd.S_below (by (with_reducible repeat (first | apply Kd.S_alloc | apply Kd.S_drewN | apply Kd.S_drew)); exact HO_3.out) hb); have n1_ := Aside0.mk (Kd.S_below (by (with_reducible repeat (first | apply Kd.S_alloc | apply Kd.S_drewN | apply Kd.S_drew)); exact HO_17.out) hb); have n2_ := Aside0.mk (Kd.R_below (by (with_reducible repeat (first | apply Kd.R_alloc | apply Kd.R_drewN | apply Kd.R_drew)); exact HL208_0.out) hb); have n3_ := Aside0.mk (Kd.C_below (by repeat (first | (with_reducible exact HR208_0.out) | (with_reducible refine Kd.C_alloc ?_ _) | (with_reducible refine Kd.C_drewN ?_ _) | (with_reducible refine Kd.C_drew ?_) | exact HR208_0.out)) hb); have n4_ := Aside0.mk (below_step (by repeat (first | (with_reducible first | exact HB.out | apply below_alloc | apply pw_below_drewN | apply below_drew1) | exact HB.out)) hb); clear HO_3; clear HO_17; clear HL208_0; clear HR208_0; clear HB; have HO_3 := n0_; have HO_17 := n1_; have HL208_0 := n2_; have HR208_0 := n3_; have HB := n4_; clear n0_ n1_ n2_ n3_ n4_; (try clear hb); (try clear hb2); (try clear hk); (try clear hi)) | ((with_reducible refine gate_callee (f := 14) rfl ?_); refine goesL_ (some 27) rfl rfl Try.func14 (by kernel_rfl) rfl #[.string t209] rfl (by (try simp only [List.map_toArray, List.map_cons, List.map_nil]); first | done | rfl | (simp only [List.length_drop, List.length_take]; rfl)) ?_; (with_reducible refine (laws_feeds.calls k1 t209 t210 _ A15.out).mono ?_); rintro e w' ⟨rfl, ⟨nd, rfl⟩⟩; refine ⟨_, rfl, ?_⟩))
                  go_ret
                  exact ⟨by first | rfl | (simp [errW_none, errW_some] <;> rfl) | (simp [*, errW_none, errW_some] <;> rfl), by repeat (first | (with_reducible first | exact HB.out | apply below_alloc | apply pw_below_drewN | apply below_drew1) | exact HB.out)⟩
                · rw [if_neg c16] at H
                  have c16b0 : decide (1 < t210) = false := decide_eq_false c16
                  clear c16
                  by_cases c18 : t210 = 1
                  · rw [if_pos c18] at H
                    have c18b0 : (t210 == 1) = true := beq_iff_eq.mpr c18
                    have c18b1 : (t210 != 1) = false := bne_eq_false_iff_eq.mpr c18
                    clear c18
                    replace H := Option.bind_eq_some_iff.mp H
                    obtain ⟨t211, A190, H⟩ := H
                    replace H : (if t211 = true then (if t210 = 0 then (if x19_1 < (wrap64 ((t201.length : Int) - 1)) then (some false) else (laws_FnSplitLines.l0 k1 l0 t201 t201 (t201.length : Int) (wrap64 (x19_1 + 1)))) else (laws_FnSplitLines.l0 k1 l0 t201 t201 (t201.length : Int) (wrap64 (x19_1 + 1)))) else (some false)) = some r := H
                    have A19 := Aside0.mk A190
                    clear A190
                    by_cases c20 : t211 = true
                    · subst c20
                      have H1 : (if t210 = 0 then (if x19_1 < (wrap64 ((t201.length : Int) - 1)) then (some false) else (laws_FnSplitLines.l0 k1 l0 t201 t201 (t201.length : Int) (wrap64 (x19_1 + 1)))) else (laws_FnSplitLines.l0 k1 l0 t201 t201 (t201.length : Int) (wrap64 (x19_1 + 1)))) = some r := by rw [if_pos rfl] at H; exact H
                      clear H
                      have H := H1
                      clear H1
                      by_cases c21 : t210 = 0
                      · rw [if_pos c21] at H
                        have c21b0 : (t210 == 0) = true := beq_iff_eq.mpr c21
                        have c21b1 : (t210 != 0) = false := bne_eq_false_iff_eq.mpr c21
                        clear c21
                        by_cases c22 : x19_1 < (wrap64 ((t201.length : Int) - 1))
                        · rw [if_pos c22] at H
                          have c22b0 : decide (x19_1 < (wrap64 ((t201.length : Int) - 1))) = true := decide_eq_true c22
                          clear c22
                          obtain rfl := Option.some.inj H
                          have p208 : 0 ≤ (x19_1 : Int) := of_decide_eq_true (by first | (with_reducible assumption) | assumption)
                          have q208 : x19_1 < (t201.length : Int) := of_decide_eq_true (by first | (with_reducible assumption) | assumption)
                          obtain ⟨ad208, A208_0, c208_0, e208, hx208_0, hl208_0, hi208_0⟩ := at_L5 (Kd.S_reads' HO_17.out).2.2 x19_1 p208 q208
                          cases e208
                          obtain ⟨ce208, hce208, hMe208, hcc208⟩ := Kd.S_get HO_17.out [] x19_1 p208 (by first | exact q208 | exact of_decide_eq_true (by first | (with_reducible assumption) | assumption) | (have e_ := (Kd.S_reads' HO_17.out).1; omega))
                          obtain ⟨ve208_0, rfl, ge208_0⟩ := hMe208
                          have hv208_0 := hcc208 0 _ rfl
                          rw [Nat.add_zero, show ((Kd.slice 36 k36)).sz = 1 from rfl, Nat.mul_one] at hv208_0
                          replace hv208_0 := Option.some.inj (hv208_0.symm.trans hx208_0)
                          rw [hv208_0] at ge208_0
                          have HL208_0 := Aside0.mk (show Kd.R k36 36 _ _ _ _ (rd_L5 t201 x19_1) from ge208_0)
                          clear hv208_0 ge208_0
                          clear hcc208 hce208
                          have HR208_0 := Aside0.mk hi208_0
                          have HC208_0 := Aside0.mk hl208_0
                          clear hi208_0 hl208_0
                          replace p208 := eq_true p208
                          replace q208 := eq_true q208
                          go_wp2_with (first | ((with_reducible refine gate_callee (f := 13) rfl ?_); refine goesL_ (some 25) rfl rfl Try.func13 (by kernel_rfl) rfl #[.slice A208_0 (rd_L5 t201 x19_1).length c208_0] rfl (by (try simp only [List.map_toArray, List.map_cons, List.map_nil]); first | done | rfl | (simp only [List.length_drop, List.length_take]; rfl)) ?_; (with_reducible refine (laws_text.calls k1 _ _ (rd_L5 t201 x19_1) t209 _ ?side1 ?side2 A14.out).mono ?_); (case side1 => repeat (first | exact (by repeat (first | (with_reducible exact HR208_0.out) | (with_reducible refine Kd.C_alloc ?_ _) | (with_reducible refine Kd.C_drewN ?_ _) | (with_reducible refine Kd.C_drew ?_) | exact HR208_0.out)) | (with_reducible refine Kd.C_alloc ?_ _) | (with_reducible refine Kd.C_drewN ?_ _) | (with_reducible refine Kd.C_drew ?_))); (case side2 => exact HC208_0.out); rintro e w23 ⟨rfl, hb⟩; refine ⟨_, rfl, ?_⟩; have n0_ := Aside0.mk (Kd.S_below (by (with_reducible repeat (first | apply Kd.S_alloc | apply Kd.S_drewN | apply Kd.S_drew)); exact HO_3.out) hb); have n1_ := Aside0.mk (Kd.S_below (by (with_reducible repeat (first | apply Kd.S_alloc | apply Kd.S_drewN | apply Kd.S_drew)); exact HO_17.out) hb); have n2_ := Aside0.mk (Kd.R_below (by (with_reducible repeat (first | apply Kd.R_alloc | apply Kd.R_drewN | apply Kd.R_drew)); exact HL208_0.out) hb); have n3_ := Aside0.mk (Kd.C_below (by repeat (first | (with_reducible exact HR208_0.out) | (with_reducible refine Kd.C_alloc ?_ _) | (with_reducible refine Kd.C_drewN ?_ _) | (with_reducible refine Kd.C_drew ?_) | exact HR208_0.out)) hb); have n4_ := Aside0.mk (below_step (by repeat (first | (with_reducible first | exact HB.out | apply below_alloc | apply pw_below_drewN | apply below_drew1) | exact HB.out)) hb); clear HO_3; clear HO_17; clear HL208_0; clear HR208_0; clear HB; have HO_3 := n0_; have HO_17 := n1_; have HL208_0 := n2_; have HR208_0 := n3_; have HB := n4_; clear n0_ n1_ n2_ n3_ n4_; (try clear hb); (try clear hb2); (try clear hk); (try clear hi)) | ((with_reducible refine gate_callee (f := 14) rfl ?_); refine goesL_ (some 27) rfl rfl Try.func14 (by kernel_rfl) rfl #[.string t209] rfl (by (try simp only [List.map_toArray, List.map_cons, List.map_nil]); first | done | rfl | (simp only [List.length_drop, List.length_take]; rfl)) ?_; (with_reducible refine (laws_feeds.calls k1 t209 t210 _ A15.out).mono ?_); rintro e w' ⟨rfl, ⟨nd, rfl⟩⟩; refine ⟨_, rfl, ?_⟩) | (go_at_call 15; (with_reducible refine (laws_ends.calls t209 true _ A19.out).mono ?_); rintro e w' ⟨rfl, ⟨nd, rfl⟩⟩))
                          go_ret
                          exact ⟨by first | rfl | (simp [errW_none, errW_some] <;> rfl) | (simp [*, errW_none, errW_some] <;> rfl), by repeat (first | (with_reducible first | exact HB.out | apply below_alloc | apply pw_below_drewN | apply below_drew1) | exact HB.out)⟩
                        · rw [if_neg c22] at H
                          have c22b0 : decide (x19_1 < (wrap64 ((t201.length : Int) - 1))) = false := decide_eq_false c22
                          clear c22
                          have H' := Aside0.mk H
                          clear H
                          have p208 : 0 ≤ (x19_1 : Int) := of_decide_eq_true (by first | (with_reducible assumption) | assumption)
                          have q208 : x19_1 < (t201.length : Int) := of_decide_eq_true (by first | (with_reducible assumption) | assumption)
                          obtain ⟨ad208, A208_0, c208_0, e208, hx208_0, hl208_0, hi208_0⟩ := at_L5 (Kd.S_reads' HO_17.out).2.2 x19_1 p208 q208
                          cases e208
                          obtain ⟨ce208, hce208, hMe208, hcc208⟩ := Kd.S_get HO_17.out [] x19_1 p208 (by first | exact q208 | exact of_decide_eq_true (by first | (with_reducible assumption) | assumption) | (have e_ := (Kd.S_reads' HO_17.out).1; omega))
                          obtain ⟨ve208_0, rfl, ge208_0⟩ := hMe208
                          have hv208_0 := hcc208 0 _ rfl
                          rw [Nat.add_zero, show ((Kd.slice 36 k36)).sz = 1 from rfl, Nat.mul_one] at hv208_0
                          replace hv208_0 := Option.some.inj (hv208_0.symm.trans hx208_0)
                          rw [hv208_0] at ge208_0
                          have HL208_0 := Aside0.mk (show Kd.R k36 36 _ _ _ _ (rd_L5 t201 x19_1) from ge208_0)
                          clear hv208_0 ge208_0
                          clear hcc208 hce208
                          have HR208_0 := Aside0.mk hi208_0
                          have HC208_0 := Aside0.mk hl208_0
                          clear hi208_0 hl208_0
                          replace p208 := eq_true p208
                          replace q208 := eq_true q208
                          go_wp2_with (first | ((with_reducible refine gate_callee (f := 13) rfl ?_); refine goesL_ (some 25) rfl rfl Try.func13 (by kernel_rfl) rfl #[.slice A208_0 (rd_L5 t201 x19_1).length c208_0] rfl (by (try simp only [List.map_toArray, List.map_cons, List.map_nil]); first | done | rfl | (simp only [List.length_drop, List.length_take]; rfl)) ?_; (with_reducible refine (laws_text.calls k1 _ _ (rd_L5 t201 x19_1) t209 _ ?side1 ?side2 A14.out).mono ?_); (case side1 => repeat (first | exact (by repeat (first | (with_reducible exact HR208_0.out) | (with_reducible refine Kd.C_alloc ?_ _) | (with_reducible refine Kd.C_drewN ?_ _) | (with_reducible refine Kd.C_drew ?_) | exact HR208_0.out)) | (with_reducible refine Kd.C_alloc ?_ _) | (with_reducible refine Kd.C_drewN ?_ _) | (with_reducible refine Kd.C_drew ?_))); (case side2 => exact HC208_0.out); rintro e w24 ⟨rfl, hb⟩; refine ⟨_, rfl, ?_⟩; have n0_ := Aside0.mk (Kd.S_below (by (with_reducible repeat (first | apply Kd.S_alloc | apply Kd.S_drewN | apply Kd.S_drew)); exact HO_3.out) hb); have n1_ := Aside0.mk (Kd.S_below (by (with_reducible repeat (first | apply Kd.S_alloc | apply Kd.S_drewN | apply Kd.S_drew)); exact HO_17.out) hb); have n2_ := Aside0.mk (Kd.R_below (by (with_reducible repeat (first | apply Kd.R_alloc | apply Kd.R_drewN | apply Kd.R_drew)); exact HL208_0.out) hb); have n3_ := Aside0.mk (Kd.C_below (by repeat (first | (with_reducible exact HR208_0.out) | (with_reducible refine Kd.C_alloc ?_ _) | (with_reducible refine Kd.C_drewN ?_ _) | (with_reducible refine Kd.C_drew ?_) | exact HR208_0.out)) hb); have n4_ := Aside0.mk (below_step (by repeat (first | (with_reducible first | exact HB.out | apply below_alloc | apply pw_below_drewN | apply below_drew1) | exact HB.out)) hb); clear HO_3; clear HO_17; clear HL208_0; clear HR208_0; clear HB; have HO_3 := n0_; have HO_17 := n1_; have HL208_0 := n2_; have HR208_0 := n3_; have HB := n4_; clear n0_ n1_ n2_ n3_ n4_; (try clear hb); (try clear hb2); (try clear hk); (try clear hi)) | ((with_reducible refine gate_callee (f := 14) rfl ?_); refine goesL_ (some 27) rfl rfl Try.func14 (by kernel_rfl) rfl #[.string t209] rfl (by (try simp only [List.map_toArray, List.map_cons, List.map_nil]); first | done | rfl | (simp only [List.length_drop, List.length_take]; rfl)) ?_; (with_reducible refine (laws_feeds.calls k1 t209 t210 _ A15.out).mono ?_); rintro e w' ⟨rfl, ⟨nd, rfl⟩⟩; refine ⟨_, rfl, ?_⟩) | (go_at_call 15; (with_reducible refine (laws_ends.calls t209 true _ A19.out).mono ?_); rintro e w' ⟨rfl, ⟨nd, rfl⟩⟩))
                          go_roundg k1
                          case measure => have := HK1.out; omega
                          case rel => exact ⟨(wrap64 (x19_1 + 1)), (by first | rfl | (simp; done) | (simp [*]; done)), H', ⟨by have := HK1.out; omega⟩, ⟨by (with_reducible repeat (first | apply Kd.S_alloc | apply Kd.S_drewN | apply Kd.S_drew)); exact HO_3.out⟩, ⟨by (with_reducible repeat (first | apply Kd.S_alloc | apply Kd.S_drewN | apply Kd.S_drew)); exact HO_17.out⟩, ⟨by repeat (first | (with_reducible first | exact HB.out | apply below_alloc | apply pw_below_drewN | apply below_drew1) | exact HB.out)⟩⟩
                      · rw [if_neg c21] at H
                        have c21b0 : (t210 == 0) = false := beq_eq_false_iff_ne.mpr c21
                        have c21b1 : (t210 != 0) = true := bne_iff_ne.mpr c21
                        have H' := Aside0.mk H
                        clear H
                        have p208 : 0 ≤ (x19_1 : Int) := of_decide_eq_true (by first | (with_reducible assumption) | assumption)
                        have q208 : x19_1 < (t201.length : Int) := of_decide_eq_true (by first | (with_reducible assumption) | assumption)
                        obtain ⟨ad208, A208_0, c208_0, e208, hx208_0, hl208_0, hi208_0⟩ := at_L5 (Kd.S_reads' HO_17.out).2.2 x19_1 p208 q208
                        cases e208
                        obtain ⟨ce208, hce208, hMe208, hcc208⟩ := Kd.S_get HO_17.out [] x19_1 p208 (by first | exact q208 | exact of_decide_eq_true (by first | (with_reducible assumption) | assumption) | (have e_ := (Kd.S_reads' HO_17.out).1; omega))
                        obtain ⟨ve208_0, rfl, ge208_0⟩ := hMe208
                        have hv208_0 := hcc208 0 _ rfl
                        rw [Nat.add_zero, show ((Kd.slice 36 k36)).sz = 1 from rfl, Nat.mul_one] at hv208_0
                        replace hv208_0 := Option.some.inj (hv208_0.symm.trans hx208_0)
                        rw [hv208_0] at ge208_0
                        have HL208_0 := Aside0.mk (show Kd.R k36 36 _ _ _ _ (rd_L5 t201 x19_1) from ge208_0)
                        clear hv208_0 ge208_0
                        clear hcc208 hce208
                        have HR208_0 := Aside0.mk hi208_0
                        have HC208_0 := Aside0.mk hl208_0
                        clear hi208_0 hl208_0
                        replace p208 := eq_true p208
                        replace q208 := eq_true q208
                        go_wp2_with (first | ((with_reducible refine gate_callee (f := 13) rfl ?_); refine goesL_ (some 25) rfl rfl Try.func13 (by kernel_rfl) rfl #[.slice A208_0 (rd_L5 t201 x19_1).length c208_0] rfl (by (try simp only [List.map_toArray, List.map_cons, List.map_nil]); first | done | rfl | (simp only [List.length_drop, List.length_take]; rfl)) ?_; (with_reducible refine (laws_text.calls k1 _ _ (rd_L5 t201 x19_1) t209 _ ?side1 ?side2 A14.out).mono ?_); (case side1 => repeat (first | exact (by repeat (first | (with_reducible exact HR208_0.out) | (with_reducible refine Kd.C_alloc ?_ _) | (with_reducible refine Kd.C_drewN ?_ _) | (with_reducible refine Kd.C_drew ?_) | exact HR208_0.out)) | (with_reducible refine Kd.C_alloc ?_ _) | (with_reducible refine Kd.C_drewN ?_ _) | (with_reducible refine Kd.C_drew ?_))); (case side2 => exact HC208_0.out); rintro e w25 ⟨rfl, hb⟩; refine ⟨_, rfl, ?_⟩; have n0_ := Aside0.mk (Kd.S_below (by (with_reducible repeat (first | apply Kd.S_alloc | apply Kd.S_drewN | apply Kd.S_drew)); exact HO_3.out) hb); have n1_ := Aside0.mk (Kd.S_below (by (with_reducible repeat (first | apply Kd.S_alloc | apply Kd.S_drewN | apply Kd.S_drew)); exact HO_17.out) hb); have n2_ := Aside0.mk (Kd.R_below (by (with_reducible repeat (first | apply Kd.R_alloc | apply Kd.R_drewN | apply Kd.R_drew)); exact HL208_0.out) hb); have n3_ := Aside0.mk (Kd.C_below (by repeat (first | (with_reducible exact HR208_0.out) | (with_reducible refine Kd.C_alloc ?_ _) | (with_reducible refine Kd.C_drewN ?_ _) | (with_reducible refine Kd.C_drew ?_) | exact HR208_0.out)) hb); have n4_ := Aside0.mk (below_step (by repeat (first | (with_reducible first | exact HB.out | apply below_alloc | apply pw_below_drewN | apply below_drew1) | exact HB.out)) hb); clear HO_3; clear HO_17; clear HL208_0; clear HR208_0; clear HB; have HO_3 := n0_; have HO_17 := n1_; have HL208_0 := n2_; have HR208_0 := n3_; have HB := n4_; clear n0_ n1_ n2_ n3_ n4_; (try clear hb); (try clear hb2); (try clear hk); (try clear hi)) | ((with_reducible refine gate_callee (f := 14) rfl ?_); refine goesL_ (some 27) rfl rfl Try.func14 (by kernel_rfl) rfl #[.string t209] rfl (by (try simp only [List.map_toArray, List.map_cons, List.map_nil]); first | done | rfl | (simp only [List.length_drop, List.length_take]; rfl)) ?_; (with_reducible refine (laws_feeds.calls k1 t209 t210 _ A15.out).mono ?_); rintro e w' ⟨rfl, ⟨nd, rfl⟩⟩; refine ⟨_, rfl, ?_⟩) | (go_at_call 15; (with_reducible refine (laws_ends.calls t209 true _ A19.out).mono ?_); rintro e w' ⟨rfl, ⟨nd, rfl⟩⟩))
                        go_roundg k1
                        case measure => have := HK1.out; omega
                        case rel => exact ⟨(wrap64 (x19_1 + 1)), (by first | rfl | (simp; done) | (simp [*]; done)), H', ⟨by have := HK1.out; omega⟩, ⟨by (with_reducible repeat (first | apply Kd.S_alloc | apply Kd.S_drewN | apply Kd.S_drew)); exact HO_3.out⟩, ⟨by (with_reducible repeat (first | apply Kd.S_alloc | apply Kd.S_drewN | apply Kd.S_drew)); exact HO_17.out⟩, ⟨by repeat (first | (with_reducible first | exact HB.out | apply below_alloc | apply pw_below_drewN | apply below_drew1) | exact HB.out)⟩⟩
                    · replace c20 := Bool.eq_false_iff.mpr c20
                      subst c20
                      have H1 : (some false) = some r := by rw [if_neg (show ¬ (false = true) by decide)] at H; exact H
                      clear H
                      have H := H1
                      clear H1
                      obtain rfl := Option.some.inj H
                      have p208 : 0 ≤ (x19_1 : Int) := of_decide_eq_true (by first | (with_reducible assumption) | assumption)
                      have q208 : x19_1 < (t201.length : Int) := of_decide_eq_true (by first | (with_reducible assumption) | assumption)
                      obtain ⟨ad208, A208_0, c208_0, e208, hx208_0, hl208_0, hi208_0⟩ := at_L5 (Kd.S_reads' HO_17.out).2.2 x19_1 p208 q208
                      cases e208
                      obtain ⟨ce208, hce208, hMe208, hcc208⟩ := Kd.S_get HO_17.out [] x19_1 p208 (by first | exact q208 | exact of_decide_eq_true (by first | (with_reducible assumption) | assumption) | (have e_ := (Kd.S_reads' HO_17.out).1; omega))
                      obtain ⟨ve208_0, rfl, ge208_0⟩ := hMe208
                      have hv208_0 := hcc208 0 _ rfl
                      rw [Nat.add_zero, show ((Kd.slice 36 k36)).sz = 1 from rfl, Nat.mul_one] at hv208_0
                      replace hv208_0 := Option.some.inj (hv208_0.symm.trans hx208_0)
                      rw [hv208_0] at ge208_0
                      have HL208_0 := Aside0.mk (show Kd.R k36 36 _ _ _ _ (rd_L5 t201 x19_1) from ge208_0)
                      clear hv208_0 ge208_0
                      clear hcc208 hce208
                      have HR208_0 := Aside0.mk hi208_0
                      have HC208_0 := Aside0.mk hl208_0
                      clear hi208_0 hl208_0
                      replace p208 := eq_true p208
                      replace q208 := eq_true q208
                      go_wp2_with (first | ((with_reducible refine gate_callee (f := 13) rfl ?_); refine goesL_ (some 25) rfl rfl Try.func13 (by kernel_rfl) rfl #[.slice A208_0 (rd_L5 t201 x19_1).length c208_0] rfl (by (try simp only [List.map_toArray, List.map_cons, List.map_nil]); first | done | rfl | (simp only [List.length_drop, List.length_take]; rfl)) ?_; (with_reducible refine (laws_text.calls k1 _ _ (rd_L5 t201 x19_1) t209 _ ?side1 ?side2 A14.out).mono ?_); (case side1 => repeat (first | exact (by repeat (first | (with_reducible exact HR208_0.out) | (with_reducible refine Kd.C_alloc ?_ _) | (with_reducible refine Kd.C_drewN ?_ _) | (with_reducible refine Kd.C_drew ?_) | exact HR208_0.out)) | (with_reducible refine Kd.C_alloc ?_ _) | (with_reducible refine Kd.C_drewN ?_ _) | (with_reducible refine Kd.C_drew ?_))); (case side2 => exact HC208_0.out); rintro e w26 ⟨rfl, hb⟩; refine ⟨_, rfl, ?_⟩; have n0_ := Aside0.mk (Kd.S_below (by (with_reducible repeat (first | apply Kd.S_alloc | apply Kd.S_drewN | apply Kd.S_drew)); exact HO_3.out) hb); have n1_ := Aside0.mk (Kd.S_below (by (with_reducible repeat (first | apply Kd.S_alloc | apply Kd.S_drewN | apply Kd.S_drew)); exact HO_17.out) hb); have n2_ := Aside0.mk (Kd.R_below (by (with_reducible repeat (first | apply Kd.R_alloc | apply Kd.R_drewN | apply Kd.R_drew)); exact HL208_0.out) hb); have n3_ := Aside0.mk (Kd.C_below (by repeat (first | (with_reducible exact HR208_0.out) | (with_reducible refine Kd.C_alloc ?_ _) | (with_reducible refine Kd.C_drewN ?_ _) | (with_reducible refine Kd.C_drew ?_) | exact HR208_0.out)) hb); have n4_ := Aside0.mk (below_step (by repeat (first | (with_reducible first | exact HB.out | apply below_alloc | apply pw_below_drewN | apply below_drew1) | exact HB.out)) hb); clear HO_3; clear HO_17; clear HL208_0; clear HR208_0; clear HB; have HO_3 := n0_; have HO_17 := n1_; have HL208_0 := n2_; have HR208_0 := n3_; have HB := n4_; clear n0_ n1_ n2_ n3_ n4_; (try clear hb); (try clear hb2); (try clear hk); (try clear hi)) | ((with_reducible refine gate_callee (f := 14) rfl ?_); refine goesL_ (some 27) rfl rfl Try.func14 (by kernel_rfl) rfl #[.string t209] rfl (by (try simp only [List.map_toArray, List.map_cons, List.map_nil]); first | done | rfl | (simp only [List.length_drop, List.length_take]; rfl)) ?_; (with_reducible refine (laws_feeds.calls k1 t209 t210 _ A15.out).mono ?_); rintro e w' ⟨rfl, ⟨nd, rfl⟩⟩; refine ⟨_, rfl, ?_⟩) | (go_at_call 15; (with_reducible refine (laws_ends.calls t209 false _ A19.out).mono ?_); rintro e w' ⟨rfl, ⟨nd, rfl⟩⟩))
                      go_ret
                      exact ⟨by first | rfl | (simp [errW_none, errW_some] <;> rfl) | (simp [*, errW_none, errW_some] <;> rfl), by repeat (first | (with_reducible first | exact HB.out | apply below_alloc | apply pw_below_drewN | apply below_drew1) | exact HB.out)⟩
                  · rw [if_neg c18] at H
                    have c18b0 : (t210 == 1) = false := beq_eq_false_iff_ne.mpr c18
                    have c18b1 : (t210 != 1) = true := bne_iff_ne.mpr c18
                    by_cases c27 : t210 = 0
                    · rw [if_pos c27] at H
                      have c27b0 : (t210 == 0) = true := beq_iff_eq.mpr c27
                      have c27b1 : (t210 != 0) = false := bne_eq_false_iff_eq.mpr c27
                      clear c27
                      by_cases c28 : x19_1 < (wrap64 ((t201.length : Int) - 1))
                      · rw [if_pos c28] at H
                        have c28b0 : decide (x19_1 < (wrap64 ((t201.length : Int) - 1))) = true := decide_eq_true c28
                        clear c28
                        obtain rfl := Option.some.inj H
                        have p208 : 0 ≤ (x19_1 : Int) := of_decide_eq_true (by first | (with_reducible assumption) | assumption)
                        have q208 : x19_1 < (t201.length : Int) := of_decide_eq_true (by first | (with_reducible assumption) | assumption)
                        obtain ⟨ad208, A208_0, c208_0, e208, hx208_0, hl208_0, hi208_0⟩ := at_L5 (Kd.S_reads' HO_17.out).2.2 x19_1 p208 q208
                        cases e208
                        obtain ⟨ce208, hce208, hMe208, hcc208⟩ := Kd.S_get HO_17.out [] x19_1 p208 (by first | exact q208 | exact of_decide_eq_true (by first | (with_reducible assumption) | assumption) | (have e_ := (Kd.S_reads' HO_17.out).1; omega))
                        obtain ⟨ve208_0, rfl, ge208_0⟩ := hMe208
                        have hv208_0 := hcc208 0 _ rfl
                        rw [Nat.add_zero, show ((Kd.slice 36 k36)).sz = 1 from rfl, Nat.mul_one] at hv208_0
                        replace hv208_0 := Option.some.inj (hv208_0.symm.trans hx208_0)
                        rw [hv208_0] at ge208_0
                        have HL208_0 := Aside0.mk (show Kd.R k36 36 _ _ _ _ (rd_L5 t201 x19_1) from ge208_0)
                        clear hv208_0 ge208_0
                        clear hcc208 hce208
                        have HR208_0 := Aside0.mk hi208_0
                        have HC208_0 := Aside0.mk hl208_0
                        clear hi208_0 hl208_0
                        replace p208 := eq_true p208
                        replace q208 := eq_true q208
                        go_wp2_with (first | ((with_reducible refine gate_callee (f := 13) rfl ?_); refine goesL_ (some 25) rfl rfl Try.func13 (by kernel_rfl) rfl #[.slice A208_0 (rd_L5 t201 x19_1).length c208_0] rfl (by (try simp only [List.map_toArray, List.map_cons, List.map_nil]); first | done | rfl | (simp only [List.length_drop, List.length_take]; rfl)) ?_; (with_reducible refine (laws_text.calls k1 _ _ (rd_L5 t201 x19_1) t209 _ ?side1 ?side2 A14.out).mono ?_); (case side1 => repeat (first | exact (by repeat (first | (with_reducible exact HR208_0.out) | (with_reducible refine Kd.C_alloc ?_ _) | (with_reducible refine Kd.C_drewN ?_ _) | (with_reducible refine Kd.C_drew ?_) | exact HR208_0.out)) | (with_reducible refine Kd.C_alloc ?_ _) | (with_reducible refine Kd.C_drewN ?_ _) | (with_reducible refine Kd.C_drew ?_))); (case side2 => exact HC208_0.out); rintro e w29 ⟨rfl, hb⟩; refine ⟨_, rfl, ?_⟩; have n0_ := Aside0.mk (Kd.S_below (by (with_reducible repeat (first | apply Kd.S_alloc | apply Kd.S_drewN | apply Kd.S_drew)); exact HO_3.out) hb); have n1_ := Aside0.mk (Kd.S_below (by (with_reducible repeat (first | apply Kd.S_alloc | apply Kd.S_drewN | apply Kd.S_drew)); exact HO_17.out) hb); have n2_ := Aside0.mk (Kd.R_below (by (with_reducible repeat (first | apply Kd.R_alloc | apply Kd.R_drewN | apply Kd.R_drew)); exact HL208_0.out) hb); have n3_ := Aside0.mk (Kd.C_below (by repeat (first | (with_reducible exact HR208_0.out) | (with_reducible refine Kd.C_alloc ?_ _) | (with_reducible refine Kd.C_drewN ?_ _) | (with_reducible refine Kd.C_drew ?_) | exact HR208_0.out)) hb); have n4_ := Aside0.mk (below_step (by repeat (first | (with_reducible first | exact HB.out | apply below_alloc | apply pw_below_drewN | apply below_drew1) | exact HB.out)) hb); clear HO_3; clear HO_17; clear HL208_0; clear HR208_0; clear HB; have HO_3 := n0_; have HO_17 := n1_; have HL208_0 := n2_; have HR208_0 := n3_; have HB := n4_; clear n0_ n1_ n2_ n3_ n4_; (try clear hb); (try clear hb2); (try clear hk); (try clear hi)) | ((with_reducible refine gate_callee (f := 14) rfl ?_); refine goesL_ (some 27) rfl rfl Try.func14 (by kernel_rfl) rfl #[.string t209] rfl (by (try simp only [List.map_toArray, List.map_cons, List.map_nil]); first | done | rfl | (simp only [List.length_drop, List.length_take]; rfl)) ?_; (with_reducible refine (laws_feeds.calls k1 t209 t210 _ A15.out).mono ?_); rintro e w' ⟨rfl, ⟨nd, rfl⟩⟩; refine ⟨_, rfl, ?_⟩))
                        go_ret
                        exact ⟨by first | rfl | (simp [errW_none, errW_some] <;> rfl) | (simp [*, errW_none, errW_some] <;> rfl), by repeat (first | (with_reducible first | exact HB.out | apply below_alloc | apply pw_below_drewN | apply below_drew1) | exact HB.out)⟩
                      · rw [if_neg c28] at H
                        have c28b0 : decide (x19_1 < (wrap64 ((t201.length : Int) - 1))) = false := decide_eq_false c28
                        clear c28
                        have H' := Aside0.mk H
                        clear H
                        have p208 : 0 ≤ (x19_1 : Int) := of_decide_eq_true (by first | (with_reducible assumption) | assumption)
                        have q208 : x19_1 < (t201.length : Int) := of_decide_eq_true (by first | (with_reducible assumption) | assumption)
                        obtain ⟨ad208, A208_0, c208_0, e208, hx208_0, hl208_0, hi208_0⟩ := at_L5 (Kd.S_reads' HO_17.out).2.2 x19_1 p208 q208
                        cases e208
                        obtain ⟨ce208, hce208, hMe208, hcc208⟩ := Kd.S_get HO_17.out [] x19_1 p208 (by first | exact q208 | exact of_decide_eq_true (by first | (with_reducible assumption) | assumption) | (have e_ := (Kd.S_reads' HO_17.out).1; omega))
                        obtain ⟨ve208_0, rfl, ge208_0⟩ := hMe208
                        have hv208_0 := hcc208 0 _ rfl
                        rw [Nat.add_zero, show ((Kd.slice 36 k36)).sz = 1 from rfl, Nat.mul_one] at hv208_0
                        replace hv208_0 := Option.some.inj (hv208_0.symm.trans hx208_0)
                        rw [hv208_0] at ge208_0
                        have HL208_0 := Aside0.mk (show Kd.R k36 36 _ _ _ _ (rd_L5 t201 x19_1) from ge208_0)
                        clear hv208_0 ge208_0
                        clear hcc208 hce208
                        have HR208_0 := Aside0.mk hi208_0
                        have HC208_0 := Aside0.mk hl208_0
                        clear hi208_0 hl208_0
                        replace p208 := eq_true p208
                        replace q208 := eq_true q208
                        go_wp2_with (first | ((with_reducible refine gate_callee (f := 13) rfl ?_); refine goesL_ (some 25) rfl rfl Try.func13 (by kernel_rfl) rfl #[.slice A208_0 (rd_L5 t201 x19_1).length c208_0] rfl (by (try simp only [List.map_toArray, List.map_cons, List.map_nil]); first | done | rfl | (simp only [List.length_drop, List.length_take]; rfl)) ?_; (with_reducible refine (laws_text.calls k1 _ _ (rd_L5 t201 x19_1) t209 _ ?side1 ?side2 A14.out).mono ?_); (case side1 => repeat (first | exact (by repeat (first | (with_reducible exact HR208_0.out) | (with_reducible refine Kd.C_alloc ?_ _) | (with_reducible refine Kd.C_drewN ?_ _) | (with_reducible refine Kd.C_drew ?_) | exact HR208_0.out)) | (with_reducible refine Kd.C_alloc ?_ _) | (with_reducible refine Kd.C_drewN ?_ _) | (with_reducible refine Kd.C_drew ?_))); (case side2 => exact HC208_0.out); rintro e w30 ⟨rfl, hb⟩; refine ⟨_, rfl, ?_⟩; have n0_ := Aside0.mk (Kd.S_below (by (with_reducible repeat (first | apply Kd.S_alloc | apply Kd.S_drewN | apply Kd.S_drew)); exact HO_3.out) hb); have n1_ := Aside0.mk (Kd.S_below (by (with_reducible repeat (first | apply Kd.S_alloc | apply Kd.S_drewN | apply Kd.S_drew)); exact HO_17.out) hb); have n2_ := Aside0.mk (Kd.R_below (by (with_reducible repeat (first | apply Kd.R_alloc | apply Kd.R_drewN | apply Kd.R_drew)); exact HL208_0.out) hb); have n3_ := Aside0.mk (Kd.C_below (by repeat (first | (with_reducible exact HR208_0.out) | (with_reducible refine Kd.C_alloc ?_ _) | (with_reducible refine Kd.C_drewN ?_ _) | (with_reducible refine Kd.C_drew ?_) | exact HR208_0.out)) hb); have n4_ := Aside0.mk (below_step (by repeat (first | (with_reducible first | exact HB.out | apply below_alloc | apply pw_below_drewN | apply below_drew1) | exact HB.out)) hb); clear HO_3; clear HO_17; clear HL208_0; clear HR208_0; clear HB; have HO_3 := n0_; have HO_17 := n1_; have HL208_0 := n2_; have HR208_0 := n3_; have HB := n4_; clear n0_ n1_ n2_ n3_ n4_; (try clear hb); (try clear hb2); (try clear hk); (try clear hi)) | ((with_reducible refine gate_callee (f := 14) rfl ?_); refine goesL_ (some 27) rfl rfl Try.func14 (by kernel_rfl) rfl #[.string t209] rfl (by (try simp only [List.map_toArray, List.map_cons, List.map_nil]); first | done | rfl | (simp only [List.length_drop, List.length_take]; rfl)) ?_; (with_reducible refine (laws_feeds.calls k1 t209 t210 _ A15.out).mono ?_); rintro e w' ⟨rfl, ⟨nd, rfl⟩⟩; refine ⟨_, rfl, ?_⟩))
                        go_roundg k1
                        case measure => have := HK1.out; omega
                        case rel => exact ⟨(wrap64 (x19_1 + 1)), (by first | rfl | (simp; done) | (simp [*]; done)), H', ⟨by have := HK1.out; omega⟩, ⟨by (with_reducible repeat (first | apply Kd.S_alloc | apply Kd.S_drewN | apply Kd.S_drew)); exact HO_3.out⟩, ⟨by (with_reducible repeat (first | apply Kd.S_alloc | apply Kd.S_drewN | apply Kd.S_drew)); exact HO_17.out⟩, ⟨by repeat (first | (with_reducible first | exact HB.out | apply below_alloc | apply pw_below_drewN | apply below_drew1) | exact HB.out)⟩⟩
                    · rw [if_neg c27] at H
                      have c27b0 : (t210 == 0) = false := beq_eq_false_iff_ne.mpr c27
                      have c27b1 : (t210 != 0) = true := bne_iff_ne.mpr c27
                      have H' := Aside0.mk H
                      clear H
                      have p208 : 0 ≤ (x19_1 : Int) := of_decide_eq_true (by first | (with_reducible assumption) | assumption)
                      have q208 : x19_1 < (t201.length : Int) := of_decide_eq_true (by first | (with_reducible assumption) | assumption)
                      obtain ⟨ad208, A208_0, c208_0, e208, hx208_0, hl208_0, hi208_0⟩ := at_L5 (Kd.S_reads' HO_17.out).2.2 x19_1 p208 q208
                      cases e208
                      obtain ⟨ce208, hce208, hMe208, hcc208⟩ := Kd.S_get HO_17.out [] x19_1 p208 (by first | exact q208 | exact of_decide_eq_true (by first | (with_reducible assumption) | assumption) | (have e_ := (Kd.S_reads' HO_17.out).1; omega))
                      obtain ⟨ve208_0, rfl, ge208_0⟩ := hMe208
                      have hv208_0 := hcc208 0 _ rfl
                      rw [Nat.add_zero, show ((Kd.slice 36 k36)).sz = 1 from rfl, Nat.mul_one] at hv208_0
                      replace hv208_0 := Option.some.inj (hv208_0.symm.trans hx208_0)
                      rw [hv208_0] at ge208_0
                      have HL208_0 := Aside0.mk (show Kd.R k36 36 _ _ _ _ (rd_L5 t201 x19_1) from ge208_0)
                      clear hv208_0 ge208_0
                      clear hcc208 hce208
                      have HR208_0 := Aside0.mk hi208_0
                      have HC208_0 := Aside0.mk hl208_0
                      clear hi208_0 hl208_0
                      replace p208 := eq_true p208
                      replace q208 := eq_true q208
                      go_wp2_with (first | ((with_reducible refine gate_callee (f := 13) rfl ?_); refine goesL_ (some 25) rfl rfl Try.func13 (by kernel_rfl) rfl #[.slice A208_0 (rd_L5 t201 x19_1).length c208_0] rfl (by (try simp only [List.map_toArray, List.map_cons, List.map_nil]); first | done | rfl | (simp only [List.length_drop, List.length_take]; rfl)) ?_; (with_reducible refine (laws_text.calls k1 _ _ (rd_L5 t201 x19_1) t209 _ ?side1 ?side2 A14.out).mono ?_); (case side1 => repeat (first | exact (by repeat (first | (with_reducible exact HR208_0.out) | (with_reducible refine Kd.C_alloc ?_ _) | (with_reducible refine Kd.C_drewN ?_ _) | (with_reducible refine Kd.C_drew ?_) | exact HR208_0.out)) | (with_reducible refine Kd.C_alloc ?_ _) | (with_reducible refine Kd.C_drewN ?_ _) | (with_reducible refine Kd.C_drew ?_))); (case side2 => exact HC208_0.out); rintro e w31 ⟨rfl, hb⟩; refine ⟨_, rfl, ?_⟩; have n0_ := Aside0.mk (Kd.S_below (by (with_reducible repeat (first | apply Kd.S_alloc | apply Kd.S_drewN | apply Kd.S_drew)); exact HO_3.out) hb); have n1_ := Aside0.mk (Kd.S_below (by (with_reducible repeat (first | apply Kd.S_alloc | apply Kd.S_drewN | apply Kd.S_drew)); exact HO_17.out) hb); have n2_ := Aside0.mk (Kd.R_below (by (with_reducible repeat (first | apply Kd.R_alloc | apply Kd.R_drewN | apply Kd.R_drew)); exact HL208_0.out) hb); have n3_ := Aside0.mk (Kd.C_below (by repeat (first | (with_reducible exact HR208_0.out) | (with_reducible refine Kd.C_alloc ?_ _) | (with_reducible refine Kd.C_drewN ?_ _) | (with_reducible refine Kd.C_drew ?_) | exact HR208_0.out)) hb); have n4_ := Aside0.mk (below_step (by repeat (first | (with_reducible first | exact HB.out | apply below_alloc | apply pw_below_drewN | apply below_drew1) | exact HB.out)) hb); clear HO_3; clear HO_17; clear HL208_0; clear HR208_0; clear HB; have HO_3 := n0_; have HO_17 := n1_; have HL208_0 := n2_; have HR208_0 := n3_; have HB := n4_; clear n0_ n1_ n2_ n3_ n4_; (try clear hb); (try clear hb2); (try clear hk); (try clear hi)) | ((with_reducible refine gate_callee (f := 14) rfl ?_); refine goesL_ (some 27) rfl rfl Try.func14 (by kernel_rfl) rfl #[.string t209] rfl (by (try simp only [List.map_toArray, List.map_cons, List.map_nil]); first | done | rfl | (simp only [List.length_drop, List.length_take]; rfl)) ?_; (with_reducible refine (laws_feeds.calls k1 t209 t210 _ A15.out).mono ?_); rintro e w' ⟨rfl, ⟨nd, rfl⟩⟩; refine ⟨_, rfl, ?_⟩))
                      go_roundg k1
                      case measure => have := HK1.out; omega
                      case rel => exact ⟨(wrap64 (x19_1 + 1)), (by first | rfl | (simp; done) | (simp [*]; done)), H', ⟨by have := HK1.out; omega⟩, ⟨by (with_reducible repeat (first | apply Kd.S_alloc | apply Kd.S_drewN | apply Kd.S_drew)); exact HO_3.out⟩, ⟨by (with_reducible repeat (first | apply Kd.S_alloc | apply Kd.S_drewN | apply Kd.S_drew)); exact HO_17.out⟩, ⟨by repeat (first | (with_reducible first | exact HB.out | apply below_alloc | apply pw_below_drewN | apply below_drew1) | exact HB.out)⟩⟩
              · rw [if_neg c13] at H
                exact absurd H (by simp)
            · rw [if_neg c12] at H
              exact absurd H (by simp)
          · rw [if_neg c11] at H
            have c11b0 : decide (x19_1 < (t201.length : Int)) = false := decide_eq_false c11
            clear c11
            replace H := Option.bind_eq_some_iff.mp H
            obtain ⟨t204, A320, H⟩ := H
            replace H : ((laws_feeds.f k1 t204).bind fun t205 => (if (t201.length : Int) = t205 then ((laws_waking.f k1).bind fun t206 => (some t206)) else (if (t201.length : Int) = (wrap64 (t205 + 1)) then ((laws_waking.f k1).bind fun t207 => (some t207)) else (some false)))) = some r := H
            have A32 := Aside0.mk A320
            clear A320
            replace H := Option.bind_eq_some_iff.mp H
            obtain ⟨t205, A330, H⟩ := H
            replace H : (if (t201.length : Int) = t205 then ((laws_waking.f k1).bind fun t206 => (some t206)) else (if (t201.length : Int) = (wrap64 (t205 + 1)) then ((laws_waking.f k1).bind fun t207 => (some t207)) else (some false))) = some r := H
            have A33 := Aside0.mk A330
            clear A330
            by_cases c34 : (t201.length : Int) = t205
            · rw [if_pos c34] at H
              have c34b0 : ((t201.length : Int) == t205) = true := beq_iff_eq.mpr c34
              have c34b1 : ((t201.length : Int) != t205) = false := bne_eq_false_iff_eq.mpr c34
              clear c34
              replace H := Option.bind_eq_some_iff.mp H
              obtain ⟨t206, A350, H⟩ := H
              replace H : (some t206) = some r := H
              have A35 := Aside0.mk A350
              clear A350
              obtain rfl := Option.some.inj H
              go_wp2_with (first | ((with_reducible refine gate_callee (f := 13) rfl ?_); refine goesL_ (some 52) rfl rfl Try.func13 (by kernel_rfl) rfl #[.slice A0 l0.length c0] rfl (by (try simp only [List.map_toArray, List.map_cons, List.map_nil]); first | done | rfl | (simp only [List.length_drop, List.length_take]; rfl)) ?_; (with_reducible refine (laws_text.calls k1 _ _ l0 t204 _ ?side1 ?side2 A32.out).mono ?_); (case side1 => repeat (first | exact (Kd.C_below HR0.out HB.out) | (with_reducible refine Kd.C_alloc ?_ _) | (with_reducible refine Kd.C_drewN ?_ _) | (with_reducible refine Kd.C_drew ?_))); (case side2 => exact HC0.out); rintro e w36 ⟨rfl, hb⟩; refine ⟨_, rfl, ?_⟩; have n0_ := Aside0.mk (Kd.S_below (by (with_reducible repeat (first | apply Kd.S_alloc | apply Kd.S_drewN | apply Kd.S_drew)); exact HO_3.out) hb); have n1_ := Aside0.mk (Kd.S_below (by (with_reducible repeat (first | apply Kd.S_alloc | apply Kd.S_drewN | apply Kd.S_drew)); exact HO_17.out) hb); have n2_ := Aside0.mk (below_step (by repeat (first | (with_reducible first | exact HB.out | apply below_alloc | apply pw_below_drewN | apply below_drew1) | exact HB.out)) hb); clear HO_3; clear HO_17; clear HB; have HO_3 := n0_; have HO_17 := n1_; have HB := n2_; clear n0_ n1_ n2_; (try clear hb); (try clear hb2); (try clear hk); (try clear hi)) | ((with_reducible refine gate_callee (f := 14) rfl ?_); refine goesL_ (some 53) rfl rfl Try.func14 (by kernel_rfl) rfl #[.string t204] rfl (by (try simp only [List.map_toArray, List.map_cons, List.map_nil]); first | done | rfl | (simp only [List.length_drop, List.length_take]; rfl)) ?_; (with_reducible refine (laws_feeds.calls k1 t204 t205 _ A33.out).mono ?_); rintro e w' ⟨rfl, ⟨nd, rfl⟩⟩; refine ⟨_, rfl, ?_⟩) | (go_at_call 12; (with_reducible refine (laws_waking.calls k1  t206 _ A35.out).mono ?_); rintro e w37 ⟨rfl, hb⟩; have n0_ := Aside0.mk (Kd.S_below (by (with_reducible repeat (first | apply Kd.S_alloc | apply Kd.S_drewN | apply Kd.S_drew)); exact HO_3.out) hb); have n1_ := Aside0.mk (Kd.S_below (by (with_reducible repeat (first | apply Kd.S_alloc | apply Kd.S_drewN | apply Kd.S_drew)); exact HO_17.out) hb); have n2_ := Aside0.mk (below_step (by repeat (first | (with_reducible first | exact HB.out | apply below_alloc | apply pw_below_drewN | apply below_drew1) | exact HB.out)) hb); clear HO_3; clear HO_17; clear HB; have HO_3 := n0_; have HO_17 := n1_; have HB := n2_; clear n0_ n1_ n2_; (try clear hb); (try clear hb2); (try clear hk); (try clear hi)))
              go_ret
              exact ⟨by first | rfl | (simp [errW_none, errW_some] <;> rfl) | (simp [*, errW_none, errW_some] <;> rfl), by repeat (first | (with_reducible first | exact HB.out | apply below_alloc | apply pw_below_drewN | apply below_drew1) | exact HB.out)⟩
            · rw [if_neg c34] at H
              have c34b0 : ((t201.length : Int) == t205) = false := beq_eq_false_iff_ne.mpr c34
              have c34b1 : ((t201.length : Int) != t205) = true := bne_iff_ne.mpr c34
              by_cases c38 : (t201.length : Int) = (wrap64 (t205 + 1))
              · rw [if_pos c38] at H
                have c38b0 : ((t201.length : Int) == (wrap64 (t205 + 1))) = true := beq_iff_eq.mpr c38
                have c38b1 : ((t201.length : Int) != (wrap64 (t205 + 1))) = false := bne_eq_false_iff_eq.mpr c38
                clear c38
                replace H := Option.bind_eq_some_iff.mp H
                obtain ⟨t207, A390, H⟩ := H
                replace H : (some t207) = some r := H
                have A39 := Aside0.mk A390
                clear A390
                obtain rfl := Option.some.inj H
                go_wp2_with (first | ((with_reducible refine gate_callee (f := 13) rfl ?_); refine goesL_ (some 52) rfl rfl Try.func13 (by kernel_rfl) rfl #[.slice A0 l0.length c0] rfl (by (try simp only [List.map_toArray, List.map_cons, List.map_nil]); first | done | rfl | (simp only [List.length_drop, List.length_take]; rfl)) ?_; (with_reducible refine (laws_text.calls k1 _ _ l0 t204 _ ?side1 ?side2 A32.out).mono ?_); (case side1 => repeat (first | exact (Kd.C_below HR0.out HB.out) | (with_reducible refine Kd.C_alloc ?_ _) | (with_reducible refine Kd.C_drewN ?_ _) | (with_reducible refine Kd.C_drew ?_))); (case side2 => exact HC0.out); rintro e w40 ⟨rfl, hb⟩; refine ⟨_, rfl, ?_⟩; have n0_ := Aside0.mk (Kd.S_below (by (with_reducible repeat (first | apply Kd.S_alloc | apply Kd.S_drewN | apply Kd.S_drew)); exact HO_3.out) hb); have n1_ := Aside0.mk (Kd.S_below (by (with_reducible repeat (first | apply Kd.S_alloc | apply Kd.S_drewN | apply Kd.S_drew)); exact HO_17.out) hb); have n2_ := Aside0.mk (below_step (by repeat (first | (with_reducible first | exact HB.out | apply below_alloc | apply pw_below_drewN | apply below_drew1) | exact HB.out)) hb); clear HO_3; clear HO_17; clear HB; have HO_3 := n0_; have HO_17 := n1_; have HB := n2_; clear n0_ n1_ n2_; (try clear hb); (try clear hb2); (try clear hk); (try clear hi)) | ((with_reducible refine gate_callee (f := 14) rfl ?_); refine goesL_ (some 53) rfl rfl Try.func14 (by kernel_rfl) rfl #[.string t204] rfl (by (try simp only [List.map_toArray, List.map_cons, List.map_nil]); first | done | rfl | (simp only [List.length_drop, List.length_take]; rfl)) ?_; (with_reducible refine (laws_feeds.calls k1 t204 t205 _ A33.out).mono ?_); rintro e w' ⟨rfl, ⟨nd, rfl⟩⟩; refine ⟨_, rfl, ?_⟩) | (go_at_call 12; (with_reducible refine (laws_waking.calls k1  t207 _ A39.out).mono ?_); rintro e w41 ⟨rfl, hb⟩; have n0_ := Aside0.mk (Kd.S_below (by (with_reducible repeat (first | apply Kd.S_alloc | apply Kd.S_drewN | apply Kd.S_drew)); exact HO_3.out) hb); have n1_ := Aside0.mk (Kd.S_below (by (with_reducible repeat (first | apply Kd.S_alloc | apply Kd.S_drewN | apply Kd.S_drew)); exact HO_17.out) hb); have n2_ := Aside0.mk (below_step (by repeat (first | (with_reducible first | exact HB.out | apply below_alloc | apply pw_below_drewN | apply below_drew1) | exact HB.out)) hb); clear HO_3; clear HO_17; clear HB; have HO_3 := n0_; have HO_17 := n1_; have HB := n2_; clear n0_ n1_ n2_; (try clear hb); (try clear hb2); (try clear hk); (try clear hi)))
                go_ret
                exact ⟨by first | rfl | (simp [errW_none, errW_some] <;> rfl) | (simp [*, errW_none, errW_some] <;> rfl), by repeat (first | (with_reducible first | exact HB.out | apply below_alloc | apply pw_below_drewN | apply below_drew1) | exact HB.out)⟩
              · rw [if_neg c38] at H
                have c38b0 : ((t201.length : Int) == (wrap64 (t205 + 1))) = false := beq_eq_false_iff_ne.mpr c38
                have c38b1 : ((t201.length : Int) != (wrap64 (t205 + 1))) = true := bne_iff_ne.mpr c38
                obtain rfl := Option.some.inj H
                go_wp2_with (first | ((with_reducible refine gate_callee (f := 13) rfl ?_); refine goesL_ (some 52) rfl rfl Try.func13 (by kernel_rfl) rfl #[.slice A0 l0.length c0] rfl (by (try simp only [List.map_toArray, List.map_cons, List.map_nil]); first | done | rfl | (simp only [List.length_drop, List.length_take]; rfl)) ?_; (with_reducible refine (laws_text.calls k1 _ _ l0 t204 _ ?side1 ?side2 A32.out).mono ?_); (case side1 => repeat (first | exact (Kd.C_below HR0.out HB.out) | (with_reducible refine Kd.C_alloc ?_ _) | (with_reducible refine Kd.C_drewN ?_ _) | (with_reducible refine Kd.C_drew ?_))); (case side2 => exact HC0.out); rintro e w42 ⟨rfl, hb⟩; refine ⟨_, rfl, ?_⟩; have n0_ := Aside0.mk (Kd.S_below (by (with_reducible repeat (first | apply Kd.S_alloc | apply Kd.S_drewN | apply Kd.S_drew)); exact HO_3.out) hb); have n1_ := Aside0.mk (Kd.S_below (by (with_reducible repeat (first | apply Kd.S_alloc | apply Kd.S_drewN | apply Kd.S_drew)); exact HO_17.out) hb); have n2_ := Aside0.mk (below_step (by repeat (first | (with_reducible first | exact HB.out | apply below_alloc | apply pw_below_drewN | apply below_drew1) | exact HB.out)) hb); clear HO_3; clear HO_17; clear HB; have HO_3 := n0_; have HO_17 := n1_; have HB := n2_; clear n0_ n1_ n2_; (try clear hb); (try clear hb2); (try clear hk); (try clear hi)) | ((with_reducible refine gate_callee (f := 14) rfl ?_); refine goesL_ (some 53) rfl rfl Try.func14 (by kernel_rfl) rfl #[.string t204] rfl (by (try simp only [List.map_toArray, List.map_cons, List.map_nil]); first | done | rfl | (simp only [List.length_drop, List.length_take]; rfl)) ?_; (with_reducible refine (laws_feeds.calls k1 t204 t205 _ A33.out).mono ?_); rintro e w' ⟨rfl, ⟨nd, rfl⟩⟩; refine ⟨_, rfl, ?_⟩))
                go_ret
                exact ⟨by first | rfl | (simp [errW_none, errW_some] <;> rfl) | (simp [*, errW_none, errW_some] <;> rfl), by repeat (first | (with_reducible first | exact HB.out | apply below_alloc | apply pw_below_drewN | apply below_drew1) | exact HB.out)⟩
    · replace c5 := Bool.eq_false_iff.mpr c5
      subst c5
      have H1 : (some true) = some r := by rw [if_neg (show ¬ (false = true) by decide)] at H; exact H
      clear H
      have H := H1
      clear H1
      obtain rfl := Option.some.inj H
      go_enter Try.func4, Try.ntmps4
      go_wp2_with (first | ((with_reducible refine gate_callee (f := 7) rfl ?_); refine goesL_ (some 10) rfl rfl Try.func7 (by kernel_rfl) rfl #[.slice A0 l0.length c0] rfl (by (try simp only [List.map_toArray, List.map_cons, List.map_nil]); first | done | rfl | (simp only [List.length_drop, List.length_take]; rfl)) ?_; (with_reducible refine (laws_zzFits4.calls k _ _ l0 true _ ?side1 ?side2 A2.out).mono ?_); (case side1 => repeat (first | exact HR0.out | (with_reducible refine Kd.C_alloc ?_ _) | (with_reducible refine Kd.C_drewN ?_ _) | (with_reducible refine Kd.C_drew ?_))); (case side2 => exact HC0.out); rintro e w43 ⟨rfl, hb⟩; refine ⟨_, rfl, ?_⟩; have n0_ := Aside0.mk (below_step (by repeat (first | (with_reducible first | exact HB.out | apply below_alloc | apply pw_below_drewN | apply below_drew1) | exact HB.out)) hb); clear HB; have HB := n0_; clear n0_; (try clear hb); (try clear hb2); (try clear hk); (try clear hi)) | ((with_reducible refine gate_callee (f := 8) rfl ?_); refine goesL_ (some 13) rfl rfl Try.func8 (by kernel_rfl) rfl #[.slice A0 l0.length c0] rfl (by (try simp only [List.map_toArray, List.map_cons, List.map_nil]); first | done | rfl | (simp only [List.length_drop, List.length_take]; rfl)) ?_; (with_reducible refine (laws_small.calls k _ _ l0 false _ ?side1 ?side2 A4.out).mono ?_); (case side1 => repeat (first | exact (Kd.C_below HR0.out HB.out) | (with_reducible refine Kd.C_alloc ?_ _) | (with_reducible refine Kd.C_drewN ?_ _) | (with_reducible refine Kd.C_drew ?_))); (case side2 => exact HC0.out); rintro e w44 ⟨rfl, hb⟩; refine ⟨_, rfl, ?_⟩; have n0_ := Aside0.mk (below_step (by repeat (first | (with_reducible first | exact HB.out | apply below_alloc | apply pw_below_drewN | apply below_drew1) | exact HB.out)) hb); clear HB; have HB := n0_; clear n0_; (try clear hb); (try clear hb2); (try clear hk); (try clear hi)))
      go_ret
      exact ⟨by first | rfl | (simp [errW_none, errW_some] <;> rfl) | (simp [*, errW_none, errW_some] <;> rfl), by repeat (first | (with_reducible first | exact HB.out | apply below_alloc | apply pw_below_drewN | apply below_drew1) | exact HB.out)⟩
  · replace c3 := Bool.eq_false_iff.mpr c3
    subst c3
    have H1 : (some true) = some r := by rw [if_neg (show ¬ (false = true) by decide)] at H; exact H
    clear H
    have H := H1
    clear H1
    obtain rfl := Option.some.inj H
    go_enter Try.func4, Try.ntmps4
    go_wp2_with (first | ((with_reducible refine gate_callee (f := 7) rfl ?_); refine goesL_ (some 10) rfl rfl Try.func7 (by kernel_rfl) rfl #[.slice A0 l0.length c0] rfl (by (try simp only [List.map_toArray, List.map_cons, List.map_nil]); first | done | rfl | (simp only [List.length_drop, List.length_take]; rfl)) ?_; (with_reducible refine (laws_zzFits4.calls k _ _ l0 false _ ?side1 ?side2 A2.out).mono ?_); (case side1 => repeat (first | exact HR0.out | (with_reducible refine Kd.C_alloc ?_ _) | (with_reducible refine Kd.C_drewN ?_ _) | (with_reducible refine Kd.C_drew ?_))); (case side2 => exact HC0.out); rintro e w45 ⟨rfl, hb⟩; refine ⟨_, rfl, ?_⟩; have n0_ := Aside0.mk (below_step (by repeat (first | (with_reducible first | exact HB.out | apply below_alloc | apply pw_below_drewN | apply below_drew1) | exact HB.out)) hb); clear HB; have HB := n0_; clear n0_; (try clear hb); (try clear hb2); (try clear hk); (try clear hi)))
    go_ret
    exact ⟨by first | rfl | (simp [errW_none, errW_some] <;> rfl) | (simp [*, errW_none, errW_some] <;> rfl), by repeat (first | (with_reducible first | exact HB.out | apply below_alloc | apply pw_below_drewN | apply below_drew1) | exact HB.out)⟩
def laws_FnSplitLines.Pure : Prop := ∀ (l0 : List (S36)), (l0.length ≤ 9223372036854775807 ∧ ∀ x ∈ l0, wf_S36 x) → ∃ k, laws_FnSplitLines.f k l0 = some true

/-! ### laws_sameInts: function 16 -/
def laws_sameInts.l0 : Nat → List Int → List Int → Int → Int → Option (Bool)
  | 0, _, _, _, _ => none
  | k + 1, x0, x1, x12, x13 => if x13 < x12 then (if 0 ≤ x13 then (if x13 < (x0.length : Int) then (if x13 < (x1.length : Int) then (if (rd x0 x13) = (rd x1 x13) then (laws_sameInts.l0 k x0 x1 x12 (wrap64 (x13 + 1))) else (some false)) else (none)) else (none)) else (none)) else (some true)
def laws_sameInts.f (k : Nat) (l0 : List Int) (l1 : List Int) : Option (Bool) := if (l0.length : Int) = (l1.length : Int) then (laws_sameInts.l0 k l0 l1 (l0.length : Int) 0) else (some false)
theorem laws_sameInts.mono_l : ∀ k, (∀ y0 y1 y2 y3, LeO (laws_sameInts.l0 k y0 y1 y2 y3) (laws_sameInts.l0 (k + 1) y0 y1 y2 y3))
  | 0 => fun _ _ _ _ r h => by simp [laws_sameInts.l0] at h
  | k + 1 => by
    have ih0 := laws_sameInts.mono_l k
    · intro y0 y1 y2 y3
      unfold laws_sameInts.l0
      repeat' first
      | (with_reducible exact ih0 _ _ _ _)
      | (with_reducible exact LeO.refl _)
      | (with_reducible exact LeO.none _)
      | (with_reducible refine LeO.ite ?_ ?_)
      | (with_reducible refine LeO.bind ?_ (fun _ => ?_))
      | exact ih0 _ _ _ _
      | exact LeO.none _
      | refine LeO.ite ?_ ?_
      | refine LeO.bind ?_ (fun _ => ?_)
theorem laws_sameInts.mono : ∀ a0 a1 k, LeO (laws_sameInts.f k a0 a1) (laws_sameInts.f (k + 1) a0 a1) := by
  intro a0 a1 k
  have ih0 := laws_sameInts.mono_l k
  unfold laws_sameInts.f
  repeat' first
      | (with_reducible exact ih0 _ _ _ _)
      | (with_reducible exact LeO.refl _)
      | (with_reducible exact LeO.none _)
      | (with_reducible refine LeO.ite ?_ ?_)
      | (with_reducible refine LeO.bind ?_ (fun _ => ?_))
      | exact ih0 _ _ _ _
      | exact LeO.none _
      | refine LeO.ite ?_ ?_
      | refine LeO.bind ?_ (fun _ => ?_)
set_option maxHeartbeats 8000000 in
set_option maxRecDepth 100000 in
theorem laws_sameInts.calls (k : Nat) (A0 : Option Addr) (c0 : Nat) (l0 : List Int) (A1 : Option Addr) (c1 : Nat) (l1 : List Int) (r : Bool) (w : World) (hr0 : Kd.C (Kd.int .i64) w A0 l0.length l0) (hc0 : l0.length ≤ c0) (hr1 : Kd.C (Kd.int .i64) w A1 l1.length l1) (hc1 : l1.length ≤ c1) (h : laws_sameInts.f k l0 l1 = some r) :
    Calls Try.prog 16 #[.slice A0 l0.length c0, .slice A1 l1.length c1] w fun e w' => e = .returned (.bool r) ∧ Drawn0 w w' := by
  have HR0 := Aside0.mk hr0
  have HC0 := Aside0.mk hc0
  clear hr0 hc0
  have HR1 := Aside0.mk hr1
  have HC1 := Aside0.mk hc1
  clear hr1 hc1
  have H : (if (l0.length : Int) = (l1.length : Int) then (laws_sameInts.l0 k l0 l1 (l0.length : Int) 0) else (some false)) = some r := h
  clear h
  by_cases c3 : (l0.length : Int) = (l1.length : Int)
  · rw [if_pos c3] at H
    have c3b0 : ((l0.length : Int) == (l1.length : Int)) = true := beq_iff_eq.mpr c3
    have c3b1 : ((l0.length : Int) != (l1.length : Int)) = false := bne_eq_false_iff_eq.mpr c3
    have c3b2 : (l0.length == l1.length) = true := by first | simpa using c3 | (simp at c3 ⊢; omega)
    clear c3
    have H' := Aside0.mk H
    clear H
    go_enter Try.func16, Try.ntmps16
    go_wp2
    repeat (go_quiet (fail); try go_wp2)
    go_loopg [13] k (fun kq v13 w' => ∃ (x13_1 : Int), v13 = .int .i64 x13_1 ∧ Aside0 (laws_sameInts.l0 kq l0 l1 (l0.length : Int) x13_1 = some r) ∧ Aside0 (kq ≤ k) ∧ Drawn0 w w')
    case atStart => exact ⟨(0), (by first | rfl | (simp; done) | (simp [*]; done)), H', ⟨Nat.le_refl _⟩, by repeat (first | exact Drawn0.refl _ | apply Drawn0.step)⟩
    case round =>
      clear H'
      try clear c1
      try clear p2
      try clear c3
      try clear c3b0
      try clear c3b1
      try clear c3b2
      obtain ⟨x13_1, rfl, HA, HK1, ⟨m1, rfl⟩⟩ := hrel
      cases gk with
      | zero => exact absurd HA.out (by simp [laws_sameInts.l0])
      | succ k1 =>
        have H := HA.out
        clear HA
        simp only [laws_sameInts.l0] at H
        by_cases c4 : x13_1 < (l0.length : Int)
        · rw [if_pos c4] at H
          have c4b0 : decide (x13_1 < (l0.length : Int)) = true := decide_eq_true c4
          clear c4
          by_cases c5 : 0 ≤ x13_1
          · rw [if_pos c5] at H
            have c5b0 : decide (0 ≤ x13_1) = true := decide_eq_true c5
            clear c5
            by_cases c6 : x13_1 < (l0.length : Int)
            · rw [if_pos c6] at H
              have c6b0 : decide (x13_1 < (l0.length : Int)) = true := decide_eq_true c6
              clear c6
              by_cases c7 : x13_1 < (l1.length : Int)
              · rw [if_pos c7] at H
                have c7b0 : decide (x13_1 < (l1.length : Int)) = true := decide_eq_true c7
                clear c7
                by_cases c8 : (rd l0 x13_1) = (rd l1 x13_1)
                · rw [if_pos c8] at H
                  have c8b0 : ((rd l0 x13_1) == (rd l1 x13_1)) = true := beq_iff_eq.mpr c8
                  have c8b1 : ((rd l0 x13_1) != (rd l1 x13_1)) = false := bne_eq_false_iff_eq.mpr c8
                  clear c8
                  have H' := Aside0.mk H
                  clear H
                  have p212 : 0 ≤ (x13_1 : Int) := of_decide_eq_true (by first | (with_reducible assumption) | assumption)
                  have q212 : x13_1 < (l0.length : Int) := of_decide_eq_true (by first | (with_reducible assumption) | assumption)
                  obtain ⟨ad212, e212, hx212_0⟩ := Kd.at_int HR0.out x13_1 p212 q212
                  cases e212
                  replace p212 := eq_true p212
                  replace q212 := eq_true q212
                  have p213 : 0 ≤ (x13_1 : Int) := of_decide_eq_true (by first | (with_reducible assumption) | assumption)
                  have q213 : x13_1 < (l1.length : Int) := of_decide_eq_true (by first | (with_reducible assumption) | assumption)
                  obtain ⟨ad213, e213, hx213_0⟩ := Kd.at_int HR1.out x13_1 p213 q213
                  cases e213
                  replace p213 := eq_true p213
                  replace q213 := eq_true q213
                  go_wp2
                  repeat (go_quiet (fail); try go_wp2)
                  go_roundg k1
                  case measure => have := HK1.out; omega
                  case rel => exact ⟨(wrap64 (x13_1 + 1)), (by first | rfl | (simp; done) | (simp [*]; done)), H', ⟨by have := HK1.out; omega⟩, by repeat (first | exact Drawn0.refl _ | apply Drawn0.step)⟩
                · rw [if_neg c8] at H
                  have c8b0 : ((rd l0 x13_1) == (rd l1 x13_1)) = false := beq_eq_false_iff_ne.mpr c8
                  have c8b1 : ((rd l0 x13_1) != (rd l1 x13_1)) = true := bne_iff_ne.mpr c8
                  obtain rfl := Option.some.inj H
                  have p212 : 0 ≤ (x13_1 : Int) := of_decide_eq_true (by first | (with_reducible assumption) | assumption)
                  have q212 : x13_1 < (l0.length : Int) := of_decide_eq_true (by first | (with_reducible assumption) | assumption)
                  obtain ⟨ad212, e212, hx212_0⟩ := Kd.at_int HR0.out x13_1 p212 q212
                  cases e212
                  replace p212 := eq_true p212
                  replace q212 := eq_true q212
                  have p213 : 0 ≤ (x13_1 : Int) := of_decide_eq_true (by first | (with_reducible assumption) | assumption)
                  have q213 : x13_1 < (l1.length : Int) := of_decide_eq_true (by first | (with_reducible assumption) | assumption)
                  obtain ⟨ad213, e213, hx213_0⟩ := Kd.at_int HR1.out x13_1 p213 q213
                  cases e213
                  replace p213 := eq_true p213
                  replace q213 := eq_true q213
                  go_wp2
                  repeat (go_quiet (fail); try go_wp2)
                  go_ret
                  exact ⟨by first | rfl | (simp; done) | (simp [*]; done), by repeat (first | exact Drawn0.refl _ | apply Drawn0.step)⟩
              · rw [if_neg c7] at H
                exact absurd H (by simp)
            · rw [if_neg c6] at H
              exact absurd H (by simp)
          · rw [if_neg c5] at H
            exact absurd H (by simp)
        · rw [if_neg c4] at H
          have c4b0 : decide (x13_1 < (l0.length : Int)) = false := decide_eq_false c4
          clear c4
          obtain rfl := Option.some.inj H
          go_wp2
          repeat (go_quiet (fail); try go_wp2)
          go_ret
          exact ⟨by first | rfl | (simp; done) | (simp [*]; done), by repeat (first | exact Drawn0.refl _ | apply Drawn0.step)⟩
  · rw [if_neg c3] at H
    have c3b0 : ((l0.length : Int) == (l1.length : Int)) = false := beq_eq_false_iff_ne.mpr c3
    have c3b1 : ((l0.length : Int) != (l1.length : Int)) = true := bne_iff_ne.mpr c3
    have c3b2 : (l0.length == l1.length) = false := by first | simpa using c3 | (simp at c3 ⊢; omega)
    obtain rfl := Option.some.inj H
    go_enter Try.func16, Try.ntmps16
    go_wp2
    repeat (go_quiet (fail); try go_wp2)
    go_ret
    exact ⟨by first | rfl | (simp; done) | (simp [*]; done), by repeat (first | exact Drawn0.refl _ | apply Drawn0.step)⟩

/-! ### laws_each: function 17 -/
mutual
def laws_each.l0 : Nat → List Int → List (S36) → Int → Int → Option (List Int)
  | 0, _, _, _, _ => none
  | k + 1, x3, x6, x7, x8 => if x8 < x7 then (if 0 ≤ x8 then (if x8 < (x6.length : Int) then (laws_each.l1 k x3 x6 x7 x8 (((rd_T36 x6 x8).f1).size : Int) 0 ((rd_T36 x6 x8).f0) ((rd_T36 x6 x8).f1)) else (none)) else (none)) else (some x3)
def laws_each.l1 : Nat → List Int → List (S36) → Int → Int → Int → Int → Int → ByteArray → Option (List Int)
  | 0, _, _, _, _, _, _, _, _ => none
  | k + 1, x3, x6, x7, x8, x14, x15, x216000, x216001 => if x15 < x14 then (if x3.length < 17592186044416 then (laws_each.l1 k (x3 ++ [x216000]) x6 x7 x8 x14 (wrap64 (x15 + 1)) x216000 x216001) else (none)) else (laws_each.l0 k x3 x6 x7 (wrap64 (x8 + 1)))
end
def laws_each.f (k : Nat) (l0 : List (S36)) : Option (List Int) := laws_each.l0 k ([] : List Int) l0 (l0.length : Int) 0
theorem laws_each.mono_l : ∀ k, (∀ y0 y1 y2 y3, LeO (laws_each.l0 k y0 y1 y2 y3) (laws_each.l0 (k + 1) y0 y1 y2 y3)) ∧ (∀ y0 y1 y2 y3 y4 y5 y6 y7, LeO (laws_each.l1 k y0 y1 y2 y3 y4 y5 y6 y7) (laws_each.l1 (k + 1) y0 y1 y2 y3 y4 y5 y6 y7))
  | 0 => ⟨fun _ _ _ _ r h => by simp [laws_each.l0] at h, fun _ _ _ _ _ _ _ _ r h => by simp [laws_each.l1] at h⟩
  | k + 1 => by
    obtain ⟨ih0, ih1⟩ := laws_each.mono_l k
    refine ⟨?_, ?_⟩
    · intro y0 y1 y2 y3
      unfold laws_each.l0
      repeat' first
      | (with_reducible exact ih0 _ _ _ _)
      | (with_reducible exact ih1 _ _ _ _ _ _ _ _)
      | (with_reducible exact LeO.refl _)
      | (with_reducible exact LeO.none _)
      | (with_reducible refine LeO.ite ?_ ?_)
      | (with_reducible refine LeO.bind ?_ (fun _ => ?_))
      | exact ih0 _ _ _ _
      | exact ih1 _ _ _ _ _ _ _ _
      | exact LeO.none _
      | refine LeO.ite ?_ ?_
      | refine LeO.bind ?_ (fun _ => ?_)
    · intro y0 y1 y2 y3 y4 y5 y6 y7
      unfold laws_each.l1
      repeat' first
      | (with_reducible exact ih0 _ _ _ _)
      | (with_reducible exact ih1 _ _ _ _ _ _ _ _)
      | (with_reducible exact LeO.refl _)
      | (with_reducible exact LeO.none _)
      | (with_reducible refine LeO.ite ?_ ?_)
      | (with_reducible refine LeO.bind ?_ (fun _ => ?_))
      | exact ih0 _ _ _ _
      | exact ih1 _ _ _ _ _ _ _ _
      | exact LeO.none _
      | refine LeO.ite ?_ ?_
      | refine LeO.bind ?_ (fun _ => ?_)
theorem laws_each.mono : ∀ a0 k, LeO (laws_each.f k a0) (laws_each.f (k + 1) a0) := by
  intro a0 k
  obtain ⟨ih0, ih1⟩ := laws_each.mono_l k
  unfold laws_each.f
  repeat' first
      | (with_reducible exact ih0 _ _ _ _)
      | (with_reducible exact ih1 _ _ _ _ _ _ _ _)
      | (with_reducible exact LeO.refl _)
      | (with_reducible exact LeO.none _)
      | (with_reducible refine LeO.ite ?_ ?_)
      | (with_reducible refine LeO.bind ?_ (fun _ => ?_))
      | exact ih0 _ _ _ _
      | exact ih1 _ _ _ _ _ _ _ _
      | exact LeO.none _
      | refine LeO.ite ?_ ?_
      | refine LeO.bind ?_ (fun _ => ?_)
set_option maxHeartbeats 8000000 in
set_option maxRecDepth 100000 in
theorem laws_each.calls (k : Nat) (A0 : Option Addr) (c0 : Nat) (l0 : List (S36)) (r : List Int) (w : World) (hr0 : Kd.C k36 w A0 l0.length l0) (hc0 : l0.length ≤ c0) (h : laws_each.f k l0 = some r) :
    Calls Try.prog 17 #[.slice A0 l0.length c0] w fun e w' => ∃ v0_ : Value, e = .returned (v0_) ∧ Kd.R (Kd.int .i64) 3 w' w.heap.size (fun _ => True) v0_ r ∧ Below w.heap.size w w' := by
  have hu36 := Try.underlying36
  have HR0 := Aside0.mk hr0
  have HC0 := Aside0.mk hc0
  clear hr0 hc0
  have HB := Aside0.mk (Below.refl w.heap.size w)
  have H : (laws_each.l0 k ([] : List Int) l0 (l0.length : Int) 0) = some r := h
  clear h
  have H' := Aside0.mk H
  clear H
  go_enter Try.func17, Try.ntmps17
  go_wp2
  go_loopg [3, 8] k (fun kq v3 v8 w' => ∃ (x3_1 : List Int) (x8_1 : Int), v8 = .int .i64 x8_1 ∧ Aside0 (laws_each.l0 kq x3_1 l0 (l0.length : Int) x8_1 = some r) ∧ Aside0 (kq ≤ k) ∧ Aside0 (Kd.R (Kd.int .i64) 3 w' w.heap.size (fun _ => True) v3 x3_1) ∧ Aside0 (Below w.heap.size w w'))
  case atStart => exact ⟨(([] : List Int)), (0), (by first | rfl | (simp; done) | (simp [*]; done)), H', ⟨Nat.le_refl _⟩, ⟨by first | exact Kd.R_nil _ _ _ _ _ | exact Kd.N_nil _ _ _ _ _ | exact Kd.V_nil _ _ _ _ _ | exact Kd.Q_nil _ _ _ _ _ | exact Kd.S_nil _ _ _ _ _⟩, ⟨by repeat (first | (with_reducible first | exact HB.out | apply below_alloc | apply pw_below_drewN | apply below_drew1) | exact HB.out)⟩⟩
  case round =>
    clear H'
    try clear c1
    obtain ⟨x3_1, x8_1, rfl, HA, HK1, HO_3, HB⟩ := hrel
    cases gk with
    | zero => exact absurd HA.out (by simp [laws_each.l0])
    | succ k1 =>
      have H := HA.out
      clear HA
      simp only [laws_each.l0] at H
      by_cases c2 : x8_1 < (l0.length : Int)
      · rw [if_pos c2] at H
        have c2b0 : decide (x8_1 < (l0.length : Int)) = true := decide_eq_true c2
        clear c2
        by_cases c3 : 0 ≤ x8_1
        · rw [if_pos c3] at H
          have c3b0 : decide (0 ≤ x8_1) = true := decide_eq_true c3
          clear c3
          by_cases c4 : x8_1 < (l0.length : Int)
          · rw [if_pos c4] at H
            have c4b0 : decide (x8_1 < (l0.length : Int)) = true := decide_eq_true c4
            clear c4
            have H' := Aside0.mk H
            clear H
            have p214 : 0 ≤ (x8_1 : Int) := of_decide_eq_true (by first | (with_reducible assumption) | assumption)
            have q214 : x8_1 < (l0.length : Int) := of_decide_eq_true (by first | (with_reducible assumption) | assumption)
            obtain ⟨ad214, e214, hx214_0, hx214_1⟩ := at_T36 HR0.out x8_1 p214 q214
            cases e214
            replace hx214_0 := (HB.out.cell (World.block_lt_of_cell? w _ hx214_0)).trans hx214_0
            replace hx214_1 := (HB.out.cell (World.block_lt_of_cell? w _ hx214_1)).trans hx214_1
            replace p214 := eq_true p214
            replace q214 := eq_true q214
            go_wp2_with (first | ((with_reducible refine gate_dst (N := 5) rfl ?_); refine box_event ?hg (N := 5) ?hd (cs := #[.int .i64 0, .string (⟨#[]⟩ : ByteArray)]) (t := 36) ?hr ?_; (case hd => rfl); (case hg => rfl); (case hr => first | (go_simp; done) | (go_simp; rfl)); intro gb215 hg w5 hbox hb; have n0_ := Aside0.mk (Kd.R_below (by (with_reducible repeat (first | apply Kd.R_alloc | apply Kd.R_drewN | apply Kd.R_drew)); exact HO_3.out) hb); have n1_ := Aside0.mk (below_step (by repeat (first | (with_reducible first | exact HB.out | apply below_alloc | apply pw_below_drewN | apply below_drew1) | exact HB.out)) hb); have n2_ := Aside0.mk (hbox); have n3_ := Aside0.mk ((by rw [hg]; exact (below_size (by repeat (first | (with_reducible first | exact HB.out | apply below_alloc | apply pw_below_drewN | apply below_drew1) | exact HB.out))) : w.heap.size ≤ gb215)); have n4_ := Aside0.mk ((by rw [hg]; exact (below_size (by repeat (first | (with_reducible first | exact HB.out | apply below_alloc | apply pw_below_drewN | apply below_drew1) | exact HB.out))) : w.heap.size ≤ gb215)); clear HO_3; clear HB; have HO_3 := n0_; have HB := n1_; have BK215 := n2_; have GW215 := n3_; have GE215 := n4_; clear n0_ n1_ n2_ n3_ n4_; clear hb hbox hg; have hcz6_0 : w5.cell? ⟨gb215, 0, none⟩ = some (.int .i64 0) := (blk_cell BK215.out 0).trans rfl; have hcz6_1 : w5.cell? ⟨gb215, 1, none⟩ = some (.string (⟨#[]⟩ : ByteArray)) := (blk_cell BK215.out 1).trans rfl; have hfz6_0 := blk_frozen BK215.out 0; have hfz6_1 := blk_frozen BK215.out 1))
            go_loopg [3, 15] k1 (fun kq v3 v15 w' => ∃ (x3_2 : List Int) (x15_2 : Int), v15 = .int .i64 x15_2 ∧ Aside0 (laws_each.l1 kq x3_2 l0 (l0.length : Int) x8_1 (((rd_T36 l0 x8_1).f1).size : Int) x15_2 ((rd_T36 l0 x8_1).f0) ((rd_T36 l0 x8_1).f1) = some r) ∧ Aside0 (kq ≤ k1) ∧ Aside0 (Kd.R (Kd.int .i64) 3 w' w.heap.size (fun _ => True) v3 x3_2) ∧ Aside0 (w'.heap[gb215]? = some (.cells #[.int .i64 ((rd_T36 l0 x8_1).f0), .string ((rd_T36 l0 x8_1).f1)] 36 (0, 0))) ∧ Aside0 (Below w.heap.size w w'))
            case atStart => exact ⟨(x3_1), (0), (by first | rfl | (simp; done) | (simp [*]; done)), H', ⟨Nat.le_refl _⟩, ⟨by (with_reducible repeat (first | apply Kd.R_alloc | apply Kd.R_drewN | apply Kd.R_drew)); exact Kd.R_mono (Kd.R_far (p := ⟨gb215, 1, none⟩) (Kd.R_far (p := ⟨gb215, 0, none⟩) (Kd.R_types HO_3.out BK215.out (by decide)) (fun _ hk => hk.2) (.int .i64 ((rd_T36 l0 x8_1).f0))) (fun _ hk => hk.2) (.string ((rd_T36 l0 x8_1).f1))) (fun _ hk => trivial)⟩, ⟨by (with_reducible repeat (first | refine blk_drewN ?_ _ | refine blk_drew ?_ | refine blk_alloc ?_ _)); refine blk_put (cs := #[.int .i64 ((rd_T36 l0 x8_1).f0), .string (⟨#[]⟩ : ByteArray)]) ?_ 1 _ rfl; (with_reducible repeat (first | refine blk_drewN ?_ _ | refine blk_drew ?_ | refine blk_alloc ?_ _)); refine blk_put (cs := #[.int .i64 0, .string (⟨#[]⟩ : ByteArray)]) ?_ 0 _ rfl; (with_reducible repeat (first | refine blk_drewN ?_ _ | refine blk_drew ?_ | refine blk_alloc ?_ _)); exact BK215.out⟩, ⟨by repeat (first | (with_reducible first | exact HB.out | apply below_alloc | apply pw_below_drewN | apply below_drew1 | refine below_set ?_ GE215.out) | exact HB.out)⟩⟩
            case round =>
              clear H'
              try clear c1
              try clear c2
              try clear c2b0
              try clear p2
              try clear q2
              try clear hx2
              try clear c3
              try clear c3b0
              try clear c4
              try clear c4b0
              try clear hcz6_0
              try clear hcz6_1
              try clear hfz6_0
              try clear hfz6_1
              try clear hx214_0
              try clear hx214_1
              try clear p214
              try clear q214
              obtain ⟨x3_2, x15_2, rfl, HA, HK2, HO_3, BK215, HB⟩ := hrel
              cases gk with
              | zero => exact absurd HA.out (by simp [laws_each.l1])
              | succ k2 =>
                have H := HA.out
                clear HA
                simp only [laws_each.l1] at H
                by_cases c7 : x15_2 < (((rd_T36 l0 x8_1).f1).size : Int)
                · rw [if_pos c7] at H
                  have c7b0 : decide (x15_2 < (((rd_T36 l0 x8_1).f1).size : Int)) = true := decide_eq_true c7
                  clear c7
                  by_cases c8 : x3_2.length < 17592186044416
                  · rw [if_pos c8] at H
                    have LMc8 := Aside0.mk c8
                    clear c8
                    obtain ⟨y216, hy216⟩ : ∃ y_ : List Int, y_ = (x3_2 ++ [((rd_T36 l0 x8_1).f0)]) := ⟨_, rfl⟩
                    replace H : (laws_each.l1 k2 y216 l0 (l0.length : Int) x8_1 (((rd_T36 l0 x8_1).f1).size : Int) (wrap64 (x15_2 + 1)) ((rd_T36 l0 x8_1).f0) ((rd_T36 l0 x8_1).f1)) = some r := by first | (rw [hy216]; with_reducible exact H) | (have H2_ := (Option.bind_some _ _).symm.trans H; rw [hy216]; with_reducible exact H2_) | (have H2_ := (Option.bind_some _ _).symm.trans H; with_reducible exact H2_) | with_reducible exact H | (rw [hy216]; exact H) | exact H
                    have Ny216 := Aside0.mk hy216
                    clear hy216
                    have H' := Aside0.mk H
                    clear H
                    have hcz9_0 : wr.cell? ⟨gb215, 0, none⟩ = some (.int .i64 ((rd_T36 l0 x8_1).f0)) := (blk_cell BK215.out 0).trans rfl
                    have hcz9_1 : wr.cell? ⟨gb215, 1, none⟩ = some (.string ((rd_T36 l0 x8_1).f1)) := (blk_cell BK215.out 1).trans rfl
                    have hfz9_0 := blk_frozen BK215.out 0
                    have hfz9_1 := blk_frozen BK215.out 1
                    go_wp2_with (first | ((with_reducible refine gate_builtin (b := .append) (xs := #[.tmp 17, .tmp 20]) rfl ?_); at_builtin; refine Kd.R_append (Kd.int .i64) (w0 := w) w.heap.size rfl (.tmp 17) (.tmp 20) 33 3 (.int .i64 0) 8 rfl Try.underlying33 info3 rfl (by decide) (by omega) u3 x3_2 ((rd_T36 l0 x8_1).f0) [.int .i64 ((rd_T36 l0 x8_1).f0)] (fun _ => True) (fun _ => False) rfl rfl ?aP (fun _ hk => hk.elim) ?aF ?aO ?aB ?aS ?aL ?_; (case aP => exact rfl); (case aB => exact (by repeat (first | (with_reducible first | exact HB.out | apply below_alloc | apply pw_below_drewN | apply below_drew1 | refine below_set ?_ GE215.out) | exact HB.out))); (case aF => exact (fun _ _ => trivial)); (case aO => exact (by (with_reducible repeat (first | apply Kd.R_alloc | apply Kd.R_drewN | apply Kd.R_drew)); exact HO_3.out)); (case aS => exact (below_size (by repeat (first | (with_reducible first | exact HB.out | apply below_alloc | apply pw_below_drewN | apply below_drew1 | refine below_set ?_ GE215.out) | exact HB.out)))); (case aL => have := LMc8.out; omega); intro v217 w10 ho hb hg hat; rw [← Ny216.out] at ho; have n0_ := Aside0.mk (blk_grown (g := gb215) (o := .cells #[.int .i64 ((rd_T36 l0 x8_1).f0), .string ((rd_T36 l0 x8_1).f1)] 36 (0, 0)) (by (with_reducible repeat (first | refine blk_drewN ?_ _ | refine blk_drew ?_ | refine blk_alloc ?_ _)); exact BK215.out) hg (Kd.R_ne HO_3.out BK215.out (by decide))); have n1_ := Aside0.mk (hb); have n2_ := Aside0.mk (ho); clear BK215; clear HB; clear HO_3; have BK215 := n0_; have HB := n1_; have HO218 := n2_; clear n0_ n1_ n2_; clear ho hb hg hat))
                    go_roundg k2
                    case measure => have := HK1.out; have := HK2.out; omega
                    case rel => exact ⟨(y216), (wrap64 (x15_2 + 1)), (by first | rfl | (simp; done) | (simp [*]; done)), H', ⟨by have := HK1.out; have := HK2.out; omega⟩, ⟨by (with_reducible repeat (first | apply Kd.R_alloc | apply Kd.R_drewN | apply Kd.R_drew)); exact HO218.out⟩, ⟨by (with_reducible repeat (first | refine blk_drewN ?_ _ | refine blk_drew ?_ | refine blk_alloc ?_ _)); exact BK215.out⟩, ⟨by repeat (first | (with_reducible first | exact HB.out | apply below_alloc | apply pw_below_drewN | apply below_drew1 | refine below_set ?_ GE215.out) | exact HB.out)⟩⟩
                  · rw [if_neg c8] at H
                    exact absurd H (by simp)
                · rw [if_neg c7] at H
                  have c7b0 : decide (x15_2 < (((rd_T36 l0 x8_1).f1).size : Int)) = false := decide_eq_false c7
                  clear c7
                  have H' := Aside0.mk H
                  clear H
                  go_wp2
                  go_roundg k2
                  case measure => have := HK1.out; have := HK2.out; omega
                  case rel => exact ⟨(x3_2), (wrap64 (x8_1 + 1)), (by first | rfl | (simp; done) | (simp [*]; done)), H', ⟨by have := HK1.out; have := HK2.out; omega⟩, ⟨by (with_reducible repeat (first | apply Kd.R_alloc | apply Kd.R_drewN | apply Kd.R_drew)); exact HO_3.out⟩, ⟨by repeat (first | (with_reducible first | exact HB.out | apply below_alloc | apply pw_below_drewN | apply below_drew1 | refine below_set ?_ GE215.out) | exact HB.out)⟩⟩
          · rw [if_neg c4] at H
            exact absurd H (by simp)
        · rw [if_neg c3] at H
          exact absurd H (by simp)
      · rw [if_neg c2] at H
        have c2b0 : decide (x8_1 < (l0.length : Int)) = false := decide_eq_false c2
        clear c2
        obtain rfl := Option.some.inj H
        go_wp2
        go_ret
        exact ⟨_, by first | rfl | (simp [errW_none, errW_some] <;> rfl) | (simp [*, errW_none, errW_some] <;> rfl), by (with_reducible repeat (first | apply Kd.R_alloc | apply Kd.R_drewN | apply Kd.R_drew)); exact HO_3.out, by repeat (first | (with_reducible first | exact HB.out | apply below_alloc | apply pw_below_drewN | apply below_drew1) | exact HB.out)⟩

end Go.Proofs.Ytmlebpbalhinnaa.M
