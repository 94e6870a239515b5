-- WRITTEN BY OUR myprint.py, a program of this session's over the kit's printer
import Derived.Test.YtmlebpbalhinnaaMx0
import Derived.Test.YtmlebpbalhinnaaMx1
import Derived.Test.YtmlebpbalhinnaaMx3
namespace Go.Proofs.Ytmlebpbalhinnaa.M
open Go.RowKit Go.Proofs.YtmlebpbalhinnaaW.PrintWords Go.Proofs.YtmlebpbalhinnaaW.PrintLast Go.Proofs.YtmlebpbalhinnaaW.PrintMore
attribute [local go_sem] max2_int min2_int max_two min_two max_three min_three max_four min_four   -- for this text's walks alone
set_option linter.unusedVariables false
set_option linter.unusedSimpArgs false

attribute [local go_sem high] eqA36
/-! ### impl_SplitLines: function 9 -/
def impl_SplitLines.l0 : Nat → List (List (S36)) → List (List (S47)) → Int → Int → Option ((List (List (S36))))
  | 0, _, _, _, _ => none
  | k + 1, x3, x8, x9, x10 => if x10 < x9 then (if 0 ≤ x10 then (if x10 < (x8.length : Int) then ((impl_outer.f k (rd_L4 x8 x10)).bind fun t157 => (if x3.length < 5864062014805 then (impl_SplitLines.l0 k (x3 ++ [t157]) x8 x9 (wrap64 (x10 + 1))) else (none))) else (none)) else (none)) else (some x3)
def impl_SplitLines.f (k : Nat) (l0 : List (S36)) : Option ((List (List (S36)))) := (impl_inner.f k l0).bind fun t150 => ((chroma_SplitTokensIntoLines.f k t150).bind fun t153 => (impl_SplitLines.l0 k ([] : List (List (S36))) t153 (t153.length : Int) 0))
theorem impl_SplitLines.mono_l : ∀ k, (∀ y0 y1 y2 y3, LeO (impl_SplitLines.l0 k y0 y1 y2 y3) (impl_SplitLines.l0 (k + 1) y0 y1 y2 y3))
  | 0 => fun _ _ _ _ r h => by simp [impl_SplitLines.l0] at h
  | k + 1 => by
    have ih0 := impl_SplitLines.mono_l k
    · intro y0 y1 y2 y3
      unfold impl_SplitLines.l0
      repeat' first
      | (with_reducible exact ih0 _ _ _ _)
      | (with_reducible exact chroma_SplitTokensIntoLines.mono _ _)
      | (with_reducible exact impl_inner.mono _ _)
      | (with_reducible exact impl_outer.mono _ _)
      | (with_reducible exact LeO.refl _)
      | (with_reducible exact LeO.none _)
      | (with_reducible refine LeO.ite ?_ ?_)
      | (with_reducible refine LeO.bind ?_ (fun _ => ?_))
      | exact ih0 _ _ _ _
      | exact chroma_SplitTokensIntoLines.mono _ _
      | exact impl_inner.mono _ _
      | exact impl_outer.mono _ _
      | exact LeO.none _
      | refine LeO.ite ?_ ?_
      | refine LeO.bind ?_ (fun _ => ?_)
theorem impl_SplitLines.mono : ∀ a0 k, LeO (impl_SplitLines.f k a0) (impl_SplitLines.f (k + 1) a0) := by
  intro a0 k
  have ih0 := impl_SplitLines.mono_l k
  unfold impl_SplitLines.f
  repeat' first
      | (with_reducible exact ih0 _ _ _ _)
      | (with_reducible exact chroma_SplitTokensIntoLines.mono _ _)
      | (with_reducible exact impl_inner.mono _ _)
      | (with_reducible exact impl_outer.mono _ _)
      | (with_reducible exact LeO.refl _)
      | (with_reducible exact LeO.none _)
      | (with_reducible refine LeO.ite ?_ ?_)
      | (with_reducible refine LeO.bind ?_ (fun _ => ?_))
      | exact ih0 _ _ _ _
      | exact chroma_SplitTokensIntoLines.mono _ _
      | exact impl_inner.mono _ _
      | exact impl_outer.mono _ _
      | exact LeO.none _
      | refine LeO.ite ?_ ?_
      | refine LeO.bind ?_ (fun _ => ?_)
set_option maxHeartbeats 8000000 in
set_option maxRecDepth 100000 in
theorem impl_SplitLines.calls (k : Nat) (A0 : Option Addr) (c0 : Nat) (l0 : List (S36)) (r : List (List (S36))) (w : World) (hr0 : Kd.C k36 w A0 l0.length l0) (hc0 : l0.length ≤ c0) (h : impl_SplitLines.f k l0 = some r) :
    Calls Try.prog 9 #[.slice A0 l0.length c0] w fun e w' => ∃ v0_ : Value, e = .returned (v0_) ∧ Kd.S (Kd.slice 36 k36) 22 w' w.heap.size (fun _ => True) v0_ r ∧ Below w.heap.size w w' := by
  have HR0 := Aside0.mk hr0
  have HC0 := Aside0.mk hc0
  clear hr0 hc0
  have HB := Aside0.mk (Below.refl w.heap.size w)
  have H : ((impl_inner.f k l0).bind fun t150 => ((chroma_SplitTokensIntoLines.f k t150).bind fun t153 => (impl_SplitLines.l0 k ([] : List (List (S36))) t153 (t153.length : Int) 0))) = some r := h
  clear h
  replace H := Option.bind_eq_some_iff.mp H
  obtain ⟨t150, A20, H⟩ := H
  replace H : ((chroma_SplitTokensIntoLines.f k t150).bind fun t153 => (impl_SplitLines.l0 k ([] : List (List (S36))) t153 (t153.length : Int) 0)) = some r := H
  have A2 := Aside0.mk A20
  clear A20
  replace H := Option.bind_eq_some_iff.mp H
  obtain ⟨t153, A30, H⟩ := H
  replace H : (impl_SplitLines.l0 k ([] : List (List (S36))) t153 (t153.length : Int) 0) = some r := H
  have A3 := Aside0.mk A30
  clear A30
  have H' := Aside0.mk H
  clear H
  go_enter Try.func9, Try.ntmps9
  go_wp2_with (first | ((with_reducible refine gate_callee (f := 21) rfl ?_); refine goesL_ (some 7) rfl rfl Try.func21 (by kernel_rfl) rfl #[.slice A0 l0.length c0] rfl (by (try simp only [List.map_toArray, List.map_cons, List.map_nil]); first | done | rfl | (simp only [List.length_drop, List.length_take]; rfl)) ?_; (with_reducible refine (impl_inner.calls k _ _ l0 t150 _ ?side1 ?side2 A2.out).mono ?_); (case side1 => repeat (first | exact HR0.out | (with_reducible refine Kd.C_alloc ?_ _) | (with_reducible refine Kd.C_drewN ?_ _) | (with_reducible refine Kd.C_drew ?_))); (case side2 => exact HC0.out); rintro e w4 ⟨v151, rfl, ho0, hb⟩; refine ⟨_, rfl, ?_⟩; have n0_ := Aside0.mk (Kd.R_lower ho0 (below_size (by repeat (first | (with_reducible first | exact HB.out | apply below_alloc | apply pw_below_drewN | apply below_drew1) | exact HB.out)))); have n1_ := Aside0.mk (below_step (by repeat (first | (with_reducible first | exact HB.out | apply below_alloc | apply pw_below_drewN | apply below_drew1) | exact HB.out)) hb); clear HB; have HO152 := n0_; have HB := n1_; clear n0_ n1_; (try clear hb); (try clear hb2); (try clear hk); (try clear hi); (try clear ho0); obtain ⟨Ao5, co5, eo5⟩ := Kd.R_slice HO152.out; subst eo5) | ((with_reducible refine gate_callee (f := 20) rfl ?_); refine goesL_ (some 8) rfl rfl Try.func20 (by kernel_rfl) rfl #[.slice Ao5 t150.length co5] rfl (by (try simp only [List.map_toArray, List.map_cons, List.map_nil]); first | done | rfl | (simp only [List.length_drop, List.length_take]; rfl)) ?_; (with_reducible refine (chroma_SplitTokensIntoLines.calls k _ _ t150 t153 _ ?side1 ?side2 A3.out).mono ?_); (case side1 => repeat (first | exact (Kd.R_reads' HO152.out).2.2 | (with_reducible refine Kd.C_alloc ?_ _) | (with_reducible refine Kd.C_drewN ?_ _) | (with_reducible refine Kd.C_drew ?_))); (case side2 => exact (Kd.R_reads' HO152.out).2.1); rintro e w6 ⟨v154, rfl, ho0, hb⟩; refine ⟨_, rfl, ?_⟩; have n0_ := Aside0.mk (Kd.R_below (by (with_reducible repeat (first | apply Kd.R_alloc | apply Kd.R_drewN | apply Kd.R_drew)); exact HO152.out) hb); have n1_ := Aside0.mk (Kd.S_lower (Kd.S_new' ho0 (Kd.R_lt (by (with_reducible repeat (first | apply Kd.R_alloc | apply Kd.R_drewN | apply Kd.R_drew)); exact HO152.out))) (below_size (by repeat (first | (with_reducible first | exact HB.out | apply below_alloc | apply pw_below_drewN | apply below_drew1) | exact HB.out)))); have n2_ := Aside0.mk (below_step (by repeat (first | (with_reducible first | exact HB.out | apply below_alloc | apply pw_below_drewN | apply below_drew1) | exact HB.out)) hb); clear HO152; clear HB; have HO152 := n0_; have HO155 := n1_; have HB := n2_; clear n0_ n1_ n2_; (try clear hb); (try clear hb2); (try clear hk); (try clear hi); (try clear ho0); obtain ⟨Ao7, co7, eo7⟩ := Kd.S_slice HO155.out; subst eo7))
  go_loopg [3, 10] k (fun kq v3 v10 w' => ∃ (x3_1 : List (List (S36))) (x10_1 : Int), v10 = .int .i64 x10_1 ∧ Aside0 (impl_SplitLines.l0 kq x3_1 t153 (t153.length : Int) x10_1 = some r) ∧ Aside0 (kq ≤ k) ∧ Aside0 (Kd.S (Kd.slice 36 k36) 22 w' w.heap.size (fun _ => True) v3 x3_1) ∧ Aside0 (Kd.S (Kd.slice 47 k47) 40 w' w.heap.size (fun _ => True) (.slice Ao7 t153.length co7) t153) ∧ Aside0 (Below w.heap.size w w'))
  case atStart => exact ⟨(([] : List (List (S36)))), (0), (by first | rfl | (simp; done) | (simp [*]; done)), H', ⟨Nat.le_refl _⟩, ⟨by first | exact Kd.S_nil _ _ _ _ _ | exact Kd.N_nil _ _ _ _ _ | exact Kd.V_nil _ _ _ _ _ | exact Kd.Q_nil _ _ _ _ _ | exact Kd.R_nil _ _ _ _ _⟩, ⟨by (with_reducible repeat (first | apply Kd.S_alloc | apply Kd.S_drewN | apply Kd.S_drew)); exact Kd.S_mono HO155.out (fun _ hk => trivial)⟩, ⟨by repeat (first | (with_reducible first | exact HB.out | apply below_alloc | apply pw_below_drewN | apply below_drew1) | exact HB.out)⟩⟩
  case round =>
    clear H'
    try clear c2
    try clear p2
    obtain ⟨x3_1, x10_1, rfl, HA, HK1, HO_3, HO_8, HB⟩ := hrel
    cases gk with
    | zero => exact absurd HA.out (by simp [impl_SplitLines.l0])
    | succ k1 =>
      have H := HA.out
      clear HA
      simp only [impl_SplitLines.l0] at H
      by_cases c8 : x10_1 < (t153.length : Int)
      · rw [if_pos c8] at H
        have c8b0 : decide (x10_1 < (t153.length : Int)) = true := decide_eq_true c8
        clear c8
        by_cases c9 : 0 ≤ x10_1
        · rw [if_pos c9] at H
          have c9b0 : decide (0 ≤ x10_1) = true := decide_eq_true c9
          clear c9
          by_cases c10 : x10_1 < (t153.length : Int)
          · rw [if_pos c10] at H
            have c10b0 : decide (x10_1 < (t153.length : Int)) = true := decide_eq_true c10
            clear c10
            replace H := Option.bind_eq_some_iff.mp H
            obtain ⟨t157, A110, H⟩ := H
            replace H : (if x3_1.length < 5864062014805 then (impl_SplitLines.l0 k1 (x3_1 ++ [t157]) t153 (t153.length : Int) (wrap64 (x10_1 + 1))) else (none)) = some r := H
            have A11 := Aside0.mk A110
            clear A110
            by_cases c12 : x3_1.length < 5864062014805
            · rw [if_pos c12] at H
              have LMc12 := Aside0.mk c12
              clear c12
              obtain ⟨y160, hy160⟩ : ∃ y_ : List (List (S36)), y_ = (x3_1 ++ [t157]) := ⟨_, rfl⟩
              replace H : (impl_SplitLines.l0 k1 y160 t153 (t153.length : Int) (wrap64 (x10_1 + 1))) = some r := by first | (rw [hy160]; with_reducible exact H) | (have H2_ := (Option.bind_some _ _).symm.trans H; rw [hy160]; with_reducible exact H2_) | (have H2_ := (Option.bind_some _ _).symm.trans H; with_reducible exact H2_) | with_reducible exact H | (rw [hy160]; exact H) | exact H
              have Ny160 := Aside0.mk hy160
              clear hy160
              have H' := Aside0.mk H
              clear H
              have p156 : 0 ≤ (x10_1 : Int) := of_decide_eq_true (by first | (with_reducible assumption) | assumption)
              have q156 : x10_1 < (t153.length : Int) := of_decide_eq_true (by first | (with_reducible assumption) | assumption)
              obtain ⟨ad156, A156_0, c156_0, e156, hx156_0, hl156_0, hi156_0⟩ := at_L4 (Kd.S_reads' HO_8.out).2.2 x10_1 p156 q156
              cases e156
              obtain ⟨ce156, hce156, hMe156, hcc156⟩ := Kd.S_get HO_8.out [] x10_1 p156 (by first | exact q156 | exact of_decide_eq_true (by first | (with_reducible assumption) | assumption) | (have e_ := (Kd.S_reads' HO_8.out).1; omega))
              obtain ⟨ve156_0, rfl, ge156_0⟩ := hMe156
              have hv156_0 := hcc156 0 _ rfl
              rw [Nat.add_zero, show ((Kd.slice 47 k47)).sz = 1 from rfl, Nat.mul_one] at hv156_0
              replace hv156_0 := Option.some.inj (hv156_0.symm.trans hx156_0)
              rw [hv156_0] at ge156_0
              have HL156_0 := Aside0.mk (show Kd.R k47 47 _ _ _ _ (rd_L4 t153 x10_1) from ge156_0)
              clear hv156_0 ge156_0
              clear hcc156 hce156
              have HR156_0 := Aside0.mk hi156_0
              have HC156_0 := Aside0.mk hl156_0
              clear hi156_0 hl156_0
              replace p156 := eq_true p156
              replace q156 := eq_true q156
              go_wp2_with (first | ((with_reducible refine gate_callee (f := 22) rfl ?_); refine goesL_ (some 16) rfl rfl Try.func22 (by kernel_rfl) rfl #[.slice A156_0 (rd_L4 t153 x10_1).length c156_0] rfl (by (try simp only [List.map_toArray, List.map_cons, List.map_nil]); first | done | rfl | (simp only [List.length_drop, List.length_take]; rfl)) ?_; (with_reducible refine (impl_outer.calls k1 _ _ (rd_L4 t153 x10_1) t157 _ ?side1 ?side2 A11.out).mono ?_); (case side1 => repeat (first | exact (by repeat (first | (with_reducible exact HR156_0.out) | (with_reducible refine Kd.C_alloc ?_ _) | (with_reducible refine Kd.C_drewN ?_ _) | (with_reducible refine Kd.C_drew ?_) | exact HR156_0.out)) | (with_reducible refine Kd.C_alloc ?_ _) | (with_reducible refine Kd.C_drewN ?_ _) | (with_reducible refine Kd.C_drew ?_))); (case side2 => exact HC156_0.out); rintro e w13 ⟨v158, rfl, ho0, hb⟩; refine ⟨_, rfl, ?_⟩; have n0_ := Aside0.mk (Kd.S_elder' (by (with_reducible repeat (first | apply Kd.S_alloc | apply Kd.S_drewN | apply Kd.S_drew)); exact HO_3.out) (Kd.R_base ho0) hb); have n1_ := Aside0.mk (Kd.S_below (by (with_reducible repeat (first | apply Kd.S_alloc | apply Kd.S_drewN | apply Kd.S_drew)); exact HO_8.out) hb); have n2_ := Aside0.mk (Kd.R_below (by (with_reducible repeat (first | apply Kd.R_alloc | apply Kd.R_drewN | apply Kd.R_drew)); exact HL156_0.out) hb); have n3_ := Aside0.mk (Kd.R_lower ho0 (below_size (by repeat (first | (with_reducible first | exact HB.out | apply below_alloc | apply pw_below_drewN | apply below_drew1) | exact HB.out)))); have n4_ := Aside0.mk (Kd.C_below (by repeat (first | (with_reducible exact HR156_0.out) | (with_reducible refine Kd.C_alloc ?_ _) | (with_reducible refine Kd.C_drewN ?_ _) | (with_reducible refine Kd.C_drew ?_) | exact HR156_0.out)) hb); have n5_ := Aside0.mk (below_step (by repeat (first | (with_reducible first | exact HB.out | apply below_alloc | apply pw_below_drewN | apply below_drew1) | exact HB.out)) hb); clear HO_3; clear HO_8; clear HL156_0; clear HR156_0; clear HB; have HO_3 := n0_; have HO_8 := n1_; have HL156_0 := n2_; have HO159 := n3_; have HR156_0 := n4_; have HB := n5_; clear n0_ n1_ n2_ n3_ n4_ n5_; (try clear hb); (try clear hb2); (try clear hk); (try clear hi); (try clear ho0); obtain ⟨Ao15, co15, eo15⟩ := Kd.R_slice HO159.out; subst eo15) | ((with_reducible refine gate_builtin (b := .append) (xs := #[.tmp 14, .tmp 17]) rfl ?_); at_builtin; refine Kd.S_append (Kd.slice 36 k36) (w0 := w) w.heap.size rfl (.tmp 14) (.tmp 17) 24 22 (.slice none 0 0) 24 rfl Try.underlying24 info22 rfl (by decide) (by omega) u3 x3_1 t157 [.slice Ao15 t157.length co15] (fun _ => True) (fun k_ => some k_ = (.slice Ao15 t157.length co15 : Value).ownBlock) rfl rfl ?aP (fun k_ hk_ => ((Kd.R_mono (ok' := fun k_ => ((fun _ => True)) k_ ∧ some k_ ≠ (u3 : Value).ownBlock) (Kd.R_apart' (HO159.out) (Kd.S_typed HO_3.out) (by decide)) (fun k_ hk => ⟨trivial, hk.2⟩))).1 k_ hk_.symm) ?aF ?aO ?aB ?aS ?aL ?_; (case aP => exact Kd.M_row (Kd.R_mono (Kd.R_tight rfl (Kd.R_mono (ok' := fun k_ => ((fun _ => True)) k_ ∧ some k_ ≠ (u3 : Value).ownBlock) (Kd.R_apart' (HO159.out) (Kd.S_typed HO_3.out) (by decide)) (fun k_ hk => ⟨trivial, hk.2⟩))) (fun _ h_ => h_))); (case aB => exact (by repeat (first | (with_reducible first | exact HB.out | apply below_alloc | apply pw_below_drewN | apply below_drew1) | exact HB.out))); (case aF => exact (fun _ _ => trivial)); (case aO => exact (by (with_reducible repeat (first | apply Kd.S_alloc | apply Kd.S_drewN | apply Kd.S_drew)); exact Kd.S_mono HO_3.out (fun k_ hk => ⟨trivial, fun e_ => hk.2 e_⟩))); (case aS => exact (below_size (by repeat (first | (with_reducible first | exact HB.out | apply below_alloc | apply pw_below_drewN | apply below_drew1) | exact HB.out)))); (case aL => have := LMc12.out; omega); intro v161 w14 ho hb hg hat; rw [← Ny160.out] at ho; have n0_ := Aside0.mk (Kd.S_over' (by (with_reducible repeat (first | apply Kd.S_alloc | apply Kd.S_drewN | apply Kd.S_drew)); exact HO_8.out) (Kd.S_typed (by (with_reducible repeat (first | apply Kd.S_alloc | apply Kd.S_drewN | apply Kd.S_drew)); exact HO_3.out)) (by decide) hg); have n1_ := Aside0.mk (Kd.R_over' (by (with_reducible repeat (first | apply Kd.R_alloc | apply Kd.R_drewN | apply Kd.R_drew)); exact HL156_0.out) (Kd.S_typed (by (with_reducible repeat (first | apply Kd.S_alloc | apply Kd.S_drewN | apply Kd.S_drew)); exact HO_3.out)) (by decide) hg); have n2_ := Aside0.mk (hb); have n3_ := Aside0.mk (ho); clear HO_8; clear HL156_0; clear HB; clear HO_3; clear HO159; have HO_8 := n0_; have HL156_0 := n1_; have HB := n2_; have HO162 := n3_; clear n0_ n1_ n2_ n3_; clear ho hb hg hat))
              go_roundg k1
              case measure => have := HK1.out; omega
              case rel => exact ⟨(y160), (wrap64 (x10_1 + 1)), (by first | rfl | (simp; done) | (simp [*]; done)), H', ⟨by have := HK1.out; omega⟩, ⟨by (with_reducible repeat (first | apply Kd.S_alloc | apply Kd.S_drewN | apply Kd.S_drew)); exact HO162.out⟩, ⟨by (with_reducible repeat (first | apply Kd.S_alloc | apply Kd.S_drewN | apply Kd.S_drew)); exact HO_8.out⟩, ⟨by repeat (first | (with_reducible first | exact HB.out | apply below_alloc | apply pw_below_drewN | apply below_drew1) | exact HB.out)⟩⟩
            · rw [if_neg c12] at H
              exact absurd H (by simp)
          · rw [if_neg c10] at H
            exact absurd H (by simp)
        · rw [if_neg c9] at H
          exact absurd H (by simp)
      · rw [if_neg c8] at H
        have c8b0 : decide (x10_1 < (t153.length : Int)) = false := decide_eq_false c8
        clear c8
        obtain rfl := Option.some.inj H
        go_wp2
        go_ret
        exact ⟨_, by first | rfl | (simp [errW_none, errW_some] <;> rfl) | (simp [*, errW_none, errW_some] <;> rfl), by (with_reducible repeat (first | apply Kd.S_alloc | apply Kd.S_drewN | apply Kd.S_drew)); exact HO_3.out, by repeat (first | (with_reducible first | exact HB.out | apply below_alloc | apply pw_below_drewN | apply below_drew1) | exact HB.out)⟩

/-! ### laws_flat: function 10 -/
def laws_flat.l0 : Nat → List (S36) → List (List (S36)) → Int → Int → Option ((List (S36)))
  | 0, _, _, _, _ => none
  | k + 1, x3, x6, x7, x8 => if x8 < x7 then (if 0 ≤ x8 then (if x8 < (x6.length : Int) then (if x3.length + (rd_L5 x6 x8).length < 5864062014805 then (laws_flat.l0 k (x3 ++ (rd_L5 x6 x8)) x6 x7 (wrap64 (x8 + 1))) else (none)) else (none)) else (none)) else (some x3)
def laws_flat.f (k : Nat) (l0 : List (List (S36))) : Option ((List (S36))) := laws_flat.l0 k ([] : List (S36)) l0 (l0.length : Int) 0
theorem laws_flat.mono_l : ∀ k, (∀ y0 y1 y2 y3, LeO (laws_flat.l0 k y0 y1 y2 y3) (laws_flat.l0 (k + 1) y0 y1 y2 y3))
  | 0 => fun _ _ _ _ r h => by simp [laws_flat.l0] at h
  | k + 1 => by
    have ih0 := laws_flat.mono_l k
    · intro y0 y1 y2 y3
      unfold laws_flat.l0
      repeat' first
      | (with_reducible exact ih0 _ _ _ _)
      | (with_reducible exact LeO.refl _)
      | (with_reducible exact LeO.none _)
      | (with_reducible refine LeO.ite ?_ ?_)
      | (with_reducible refine LeO.bind ?_ (fun _ => ?_))
      | exact ih0 _ _ _ _
      | exact LeO.none _
      | refine LeO.ite ?_ ?_
      | refine LeO.bind ?_ (fun _ => ?_)
theorem laws_flat.mono : ∀ a0 k, LeO (laws_flat.f k a0) (laws_flat.f (k + 1) a0) := by
  intro a0 k
  have ih0 := laws_flat.mono_l k
  unfold laws_flat.f
  repeat' first
      | (with_reducible exact ih0 _ _ _ _)
      | (with_reducible exact LeO.refl _)
      | (with_reducible exact LeO.none _)
      | (with_reducible refine LeO.ite ?_ ?_)
      | (with_reducible refine LeO.bind ?_ (fun _ => ?_))
      | exact ih0 _ _ _ _
      | exact LeO.none _
      | refine LeO.ite ?_ ?_
      | refine LeO.bind ?_ (fun _ => ?_)
set_option maxHeartbeats 8000000 in
set_option maxRecDepth 100000 in
theorem laws_flat.calls (k : Nat) (A0 : Option Addr) (c0 : Nat) (l0 : List (List (S36))) (r : List (S36)) (w : World) (hr0 : Kd.C (Kd.slice 36 k36) w A0 l0.length l0) (hc0 : l0.length ≤ c0) (h : laws_flat.f k l0 = some r) :
    Calls Try.prog 10 #[.slice A0 l0.length c0] w fun e w' => ∃ v0_ : Value, e = .returned (v0_) ∧ Kd.R k36 36 w' w.heap.size (fun _ => True) v0_ r ∧ Below w.heap.size w w' := by
  have HR0 := Aside0.mk hr0
  have HC0 := Aside0.mk hc0
  clear hr0 hc0
  have HB := Aside0.mk (Below.refl w.heap.size w)
  have H : (laws_flat.l0 k ([] : List (S36)) l0 (l0.length : Int) 0) = some r := h
  clear h
  have H' := Aside0.mk H
  clear H
  go_enter Try.func10, Try.ntmps10
  go_wp2
  go_loopg [3, 8] k (fun kq v3 v8 w' => ∃ (x3_1 : List (S36)) (x8_1 : Int), v8 = .int .i64 x8_1 ∧ Aside0 (laws_flat.l0 kq x3_1 l0 (l0.length : Int) x8_1 = some r) ∧ Aside0 (kq ≤ k) ∧ Aside0 (Kd.R k36 36 w' w.heap.size (fun _ => True) v3 x3_1) ∧ Aside0 (Below w.heap.size w w'))
  case atStart => exact ⟨(([] : List (S36))), (0), (by first | rfl | (simp; done) | (simp [*]; done)), H', ⟨Nat.le_refl _⟩, ⟨by first | exact Kd.R_nil _ _ _ _ _ | exact Kd.N_nil _ _ _ _ _ | exact Kd.V_nil _ _ _ _ _ | exact Kd.Q_nil _ _ _ _ _ | exact Kd.S_nil _ _ _ _ _⟩, ⟨by repeat (first | (with_reducible first | exact HB.out | apply below_alloc | apply pw_below_drewN | apply below_drew1) | exact HB.out)⟩⟩
  case round =>
    clear H'
    try clear c1
    obtain ⟨x3_1, x8_1, rfl, HA, HK1, HO_3, HB⟩ := hrel
    cases gk with
    | zero => exact absurd HA.out (by simp [laws_flat.l0])
    | succ k1 =>
      have H := HA.out
      clear HA
      simp only [laws_flat.l0] at H
      by_cases c2 : x8_1 < (l0.length : Int)
      · rw [if_pos c2] at H
        have c2b0 : decide (x8_1 < (l0.length : Int)) = true := decide_eq_true c2
        clear c2
        by_cases c3 : 0 ≤ x8_1
        · rw [if_pos c3] at H
          have c3b0 : decide (0 ≤ x8_1) = true := decide_eq_true c3
          clear c3
          by_cases c4 : x8_1 < (l0.length : Int)
          · rw [if_pos c4] at H
            have c4b0 : decide (x8_1 < (l0.length : Int)) = true := decide_eq_true c4
            clear c4
            by_cases c5 : x3_1.length + (rd_L5 l0 x8_1).length < 5864062014805
            · rw [if_pos c5] at H
              have LMc5 := Aside0.mk c5
              clear c5
              obtain ⟨y164, hy164⟩ : ∃ y_ : List (S36), y_ = (x3_1 ++ (rd_L5 l0 x8_1)) := ⟨_, rfl⟩
              replace H : (laws_flat.l0 k1 y164 l0 (l0.length : Int) (wrap64 (x8_1 + 1))) = some r := by first | (rw [hy164]; with_reducible exact H) | (have H2_ := (Option.bind_some _ _).symm.trans H; rw [hy164]; with_reducible exact H2_) | (have H2_ := (Option.bind_some _ _).symm.trans H; with_reducible exact H2_) | with_reducible exact H | (rw [hy164]; exact H) | exact H
              have Ny164 := Aside0.mk hy164
              clear hy164
              have H' := Aside0.mk H
              clear H
              have p163 : 0 ≤ (x8_1 : Int) := of_decide_eq_true (by first | (with_reducible assumption) | assumption)
              have q163 : x8_1 < (l0.length : Int) := of_decide_eq_true (by first | (with_reducible assumption) | assumption)
              obtain ⟨ad163, A163_0, c163_0, e163, hx163_0, hl163_0, hi163_0⟩ := at_L5 HR0.out x8_1 p163 q163
              cases e163
              replace hx163_0 := (HB.out.cell (World.block_lt_of_cell? w _ hx163_0)).trans hx163_0
              have HR163_0 := Aside0.mk hi163_0
              have HC163_0 := Aside0.mk hl163_0
              clear hi163_0 hl163_0
              replace p163 := eq_true p163
              replace q163 := eq_true q163
              go_wp2_with (first | ((with_reducible refine gate_builtin (b := .append) (xs := #[.tmp 12, .tmp 13]) rfl ?_); at_builtin; refine Kd.R_append_rows k36 (w0 := w) w.heap.size rfl (.tmp 12) (.tmp 13) 22 36 (.agg #[(.int .i64 0), (.string ⟨#[]⟩)]) 24 rfl Try.underlying22 info36 rfl (by decide) (by omega) u3 x3_1 (rd_L5 l0 x8_1) _ _ _ (fun _ => True) (fun _ => False) rfl rfl ?aO ?aR (fun _ _ h => h) (fun _ h => h.elim) ?aF ?aB ?aS ?aL ?_; (case aR => repeat (first | exact (Kd.C_below HR163_0.out HB.out) | (with_reducible refine Kd.C_alloc ?_ _) | (with_reducible refine Kd.C_drewN ?_ _) | (with_reducible refine Kd.C_drew ?_))); (case aB => exact (by repeat (first | (with_reducible first | exact HB.out | apply below_alloc | apply pw_below_drewN | apply below_drew1) | exact HB.out))); (case aF => exact (fun _ _ => trivial)); (case aO => exact (by (with_reducible repeat (first | apply Kd.R_alloc | apply Kd.R_drewN | apply Kd.R_drew)); exact HO_3.out)); (case aS => exact (below_size (by repeat (first | (with_reducible first | exact HB.out | apply below_alloc | apply pw_below_drewN | apply below_drew1) | exact HB.out)))); (case aL => have := LMc5.out; omega); intro v165 w6 ho hb hg hat; rw [← Ny164.out] at ho; have n0_ := Aside0.mk (hb); have n1_ := Aside0.mk (ho); clear HB; clear HO_3; have HB := n0_; have HO166 := n1_; clear n0_ n1_; clear ho hb hg hat))
              go_roundg k1
              case measure => have := HK1.out; omega
              case rel => exact ⟨(y164), (wrap64 (x8_1 + 1)), (by first | rfl | (simp; done) | (simp [*]; done)), H', ⟨by have := HK1.out; omega⟩, ⟨by (with_reducible repeat (first | apply Kd.R_alloc | apply Kd.R_drewN | apply Kd.R_drew)); exact HO166.out⟩, ⟨by repeat (first | (with_reducible first | exact HB.out | apply below_alloc | apply pw_below_drewN | apply below_drew1) | exact HB.out)⟩⟩
            · rw [if_neg c5] at H
              exact absurd H (by simp)
          · rw [if_neg c4] at H
            exact absurd H (by simp)
        · rw [if_neg c3] at H
          exact absurd H (by simp)
      · rw [if_neg c2] at H
        have c2b0 : decide (x8_1 < (l0.length : Int)) = false := decide_eq_false c2
        clear c2
        obtain rfl := Option.some.inj H
        go_wp2
        go_ret
        exact ⟨_, by first | rfl | (simp [errW_none, errW_some] <;> rfl) | (simp [*, errW_none, errW_some] <;> rfl), by (with_reducible repeat (first | apply Kd.R_alloc | apply Kd.R_drewN | apply Kd.R_drew)); exact HO_3.out, by repeat (first | (with_reducible first | exact HB.out | apply below_alloc | apply pw_below_drewN | apply below_drew1) | exact HB.out)⟩

/-! ### laws_same: function 11 -/
def laws_same.l0 : Nat → List (S36) → List (S36) → Int → Int → Option (Bool)
  | 0, _, _, _, _ => none
  | k + 1, x0, x1, x12, x13 => if x13 < x12 then (if 0 ≤ x13 then (if x13 < (x0.length : Int) then (if x13 < (x1.length : Int) then (if (!(((rd_T36 x0 x13).f0) == ((rd_T36 x1 x13).f0)) || (!((((rd_T36 x0 x13).f1).toList) == (((rd_T36 x1 x13).f1).toList)))) = true then (some false) else (laws_same.l0 k x0 x1 x12 (wrap64 (x13 + 1)))) else (none)) else (none)) else (none)) else (some true)
def laws_same.f (k : Nat) (l0 : List (S36)) (l1 : List (S36)) : Option (Bool) := if (l0.length : Int) = (l1.length : Int) then (laws_same.l0 k l0 l1 (l0.length : Int) 0) else (some false)
theorem laws_same.mono_l : ∀ k, (∀ y0 y1 y2 y3, LeO (laws_same.l0 k y0 y1 y2 y3) (laws_same.l0 (k + 1) y0 y1 y2 y3))
  | 0 => fun _ _ _ _ r h => by simp [laws_same.l0] at h
  | k + 1 => by
    have ih0 := laws_same.mono_l k
    · intro y0 y1 y2 y3
      unfold laws_same.l0
      repeat' first
      | (with_reducible exact ih0 _ _ _ _)
      | (with_reducible exact LeO.refl _)
      | (with_reducible exact LeO.none _)
      | (with_reducible refine LeO.ite ?_ ?_)
      | (with_reducible refine LeO.bind ?_ (fun _ => ?_))
      | exact ih0 _ _ _ _
      | exact LeO.none _
      | refine LeO.ite ?_ ?_
      | refine LeO.bind ?_ (fun _ => ?_)
theorem laws_same.mono : ∀ a0 a1 k, LeO (laws_same.f k a0 a1) (laws_same.f (k + 1) a0 a1) := by
  intro a0 a1 k
  have ih0 := laws_same.mono_l k
  unfold laws_same.f
  repeat' first
      | (with_reducible exact ih0 _ _ _ _)
      | (with_reducible exact LeO.refl _)
      | (with_reducible exact LeO.none _)
      | (with_reducible refine LeO.ite ?_ ?_)
      | (with_reducible refine LeO.bind ?_ (fun _ => ?_))
      | exact ih0 _ _ _ _
      | exact LeO.none _
      | refine LeO.ite ?_ ?_
      | refine LeO.bind ?_ (fun _ => ?_)
set_option maxHeartbeats 8000000 in
set_option maxRecDepth 100000 in
theorem laws_same.calls (k : Nat) (A0 : Option Addr) (c0 : Nat) (l0 : List (S36)) (A1 : Option Addr) (c1 : Nat) (l1 : List (S36)) (r : Bool) (w : World) (hr0 : Kd.C k36 w A0 l0.length l0) (hc0 : l0.length ≤ c0) (hr1 : Kd.C k36 w A1 l1.length l1) (hc1 : l1.length ≤ c1) (h : laws_same.f k l0 l1 = some r) :
    Calls Try.prog 11 #[.slice A0 l0.length c0, .slice A1 l1.length c1] w fun e w' => e = .returned (.bool r) ∧ Drawn0 w w' := by
  have hu36 := Try.underlying36
  have HR0 := Aside0.mk hr0
  have HC0 := Aside0.mk hc0
  clear hr0 hc0
  have HR1 := Aside0.mk hr1
  have HC1 := Aside0.mk hc1
  clear hr1 hc1
  have H : (if (l0.length : Int) = (l1.length : Int) then (laws_same.l0 k l0 l1 (l0.length : Int) 0) else (some false)) = some r := h
  clear h
  by_cases c3 : (l0.length : Int) = (l1.length : Int)
  · rw [if_pos c3] at H
    have c3b0 : ((l0.length : Int) == (l1.length : Int)) = true := beq_iff_eq.mpr c3
    have c3b1 : ((l0.length : Int) != (l1.length : Int)) = false := bne_eq_false_iff_eq.mpr c3
    have c3b2 : (l0.length == l1.length) = true := by first | simpa using c3 | (simp at c3 ⊢; omega)
    clear c3
    have H' := Aside0.mk H
    clear H
    go_enter Try.func11, Try.ntmps11
    go_wp2
    repeat (go_quiet (fail); try go_wp2)
    go_loopg [13] k (fun kq v13 w' => ∃ (x13_1 : Int), v13 = .int .i64 x13_1 ∧ Aside0 (laws_same.l0 kq l0 l1 (l0.length : Int) x13_1 = some r) ∧ Aside0 (kq ≤ k) ∧ Drawn0 w w')
    case atStart => exact ⟨(0), (by first | rfl | (simp; done) | (simp [*]; done)), H', ⟨Nat.le_refl _⟩, by repeat (first | exact Drawn0.refl _ | apply Drawn0.step)⟩
    case round =>
      clear H'
      try clear c1
      try clear p2
      try clear c3
      try clear c3b0
      try clear c3b1
      try clear c3b2
      obtain ⟨x13_1, rfl, HA, HK1, ⟨m1, rfl⟩⟩ := hrel
      cases gk with
      | zero => exact absurd HA.out (by simp [laws_same.l0])
      | succ k1 =>
        have H := HA.out
        clear HA
        simp only [laws_same.l0] at H
        by_cases c4 : x13_1 < (l0.length : Int)
        · rw [if_pos c4] at H
          have c4b0 : decide (x13_1 < (l0.length : Int)) = true := decide_eq_true c4
          clear c4
          by_cases c5 : 0 ≤ x13_1
          · rw [if_pos c5] at H
            have c5b0 : decide (0 ≤ x13_1) = true := decide_eq_true c5
            clear c5
            by_cases c6 : x13_1 < (l0.length : Int)
            · rw [if_pos c6] at H
              have c6b0 : decide (x13_1 < (l0.length : Int)) = true := decide_eq_true c6
              clear c6
              by_cases c7 : x13_1 < (l1.length : Int)
              · rw [if_pos c7] at H
                have c7b0 : decide (x13_1 < (l1.length : Int)) = true := decide_eq_true c7
                clear c7
                by_cases c8 : (!(((rd_T36 l0 x13_1).f0) == ((rd_T36 l1 x13_1).f0)) || (!((((rd_T36 l0 x13_1).f1).toList) == (((rd_T36 l1 x13_1).f1).toList)))) = true
                · rw [if_pos c8] at H
                  have c8b0 : (!(((rd_T36 l0 x13_1).f0) == ((rd_T36 l1 x13_1).f0)) || (!((((rd_T36 l0 x13_1).f1).toList) == (((rd_T36 l1 x13_1).f1).toList)))) = true := c8
                  clear c8
                  obtain rfl := Option.some.inj H
                  have p167 : 0 ≤ (x13_1 : Int) := of_decide_eq_true (by first | (with_reducible assumption) | assumption)
                  have q167 : x13_1 < (l0.length : Int) := of_decide_eq_true (by first | (with_reducible assumption) | assumption)
                  obtain ⟨ad167, e167, hx167_0, hx167_1⟩ := at_T36 HR0.out x13_1 p167 q167
                  cases e167
                  replace p167 := eq_true p167
                  replace q167 := eq_true q167
                  have p168 : 0 ≤ (x13_1 : Int) := of_decide_eq_true (by first | (with_reducible assumption) | assumption)
                  have q168 : x13_1 < (l1.length : Int) := of_decide_eq_true (by first | (with_reducible assumption) | assumption)
                  obtain ⟨ad168, e168, hx168_0, hx168_1⟩ := at_T36 HR1.out x13_1 p168 q168
                  cases e168
                  replace p168 := eq_true p168
                  replace q168 := eq_true q168
                  go_wp2
                  repeat (go_quiet (fail); try go_wp2)
                  go_ret
                  exact ⟨by first | rfl | (simp; done) | (simp [*]; done), by repeat (first | exact Drawn0.refl _ | apply Drawn0.step)⟩
                · rw [if_neg c8] at H
                  have c8b0 : (!(((rd_T36 l0 x13_1).f0) == ((rd_T36 l1 x13_1).f0)) || (!((((rd_T36 l0 x13_1).f1).toList) == (((rd_T36 l1 x13_1).f1).toList)))) = false := by simpa using c8
                  clear c8
                  have H' := Aside0.mk H
                  clear H
                  have p167 : 0 ≤ (x13_1 : Int) := of_decide_eq_true (by first | (with_reducible assumption) | assumption)
                  have q167 : x13_1 < (l0.length : Int) := of_decide_eq_true (by first | (with_reducible assumption) | assumption)
                  obtain ⟨ad167, e167, hx167_0, hx167_1⟩ := at_T36 HR0.out x13_1 p167 q167
                  cases e167
                  replace p167 := eq_true p167
                  replace q167 := eq_true q167
                  have p168 : 0 ≤ (x13_1 : Int) := of_decide_eq_true (by first | (with_reducible assumption) | assumption)
                  have q168 : x13_1 < (l1.length : Int) := of_decide_eq_true (by first | (with_reducible assumption) | assumption)
                  obtain ⟨ad168, e168, hx168_0, hx168_1⟩ := at_T36 HR1.out x13_1 p168 q168
                  cases e168
                  replace p168 := eq_true p168
                  replace q168 := eq_true q168
                  go_wp2
                  repeat (go_quiet (fail); try go_wp2)
                  go_roundg k1
                  case measure => have := HK1.out; omega
                  case rel => exact ⟨(wrap64 (x13_1 + 1)), (by first | rfl | (simp; done) | (simp [*]; done)), H', ⟨by have := HK1.out; omega⟩, by repeat (first | exact Drawn0.refl _ | apply Drawn0.step)⟩
              · rw [if_neg c7] at H
                exact absurd H (by simp)
            · rw [if_neg c6] at H
              exact absurd H (by simp)
          · rw [if_neg c5] at H
            exact absurd H (by simp)
        · rw [if_neg c4] at H
          have c4b0 : decide (x13_1 < (l0.length : Int)) = false := decide_eq_false c4
          clear c4
          obtain rfl := Option.some.inj H
          go_wp2
          repeat (go_quiet (fail); try go_wp2)
          go_ret
          exact ⟨by first | rfl | (simp; done) | (simp [*]; done), by repeat (first | exact Drawn0.refl _ | apply Drawn0.step)⟩
  · rw [if_neg c3] at H
    have c3b0 : ((l0.length : Int) == (l1.length : Int)) = false := beq_eq_false_iff_ne.mpr c3
    have c3b1 : ((l0.length : Int) != (l1.length : Int)) = true := bne_iff_ne.mpr c3
    have c3b2 : (l0.length == l1.length) = false := by first | simpa using c3 | (simp at c3 ⊢; omega)
    obtain rfl := Option.some.inj H
    go_enter Try.func11, Try.ntmps11
    go_wp2
    repeat (go_quiet (fail); try go_wp2)
    go_ret
    exact ⟨by first | rfl | (simp; done) | (simp [*]; done), by repeat (first | exact Drawn0.refl _ | apply Drawn0.step)⟩

/-! ### laws_text: function 13 -/
def laws_text.l0 : Nat → List Int → List (S36) → Int → Int → Option (ByteArray)
  | 0, _, _, _, _ => none
  | k + 1, x3, x6, x7, x8 => if x8 < x7 then (if 0 ≤ x8 then (if x8 < (x6.length : Int) then (if x3.length + ((rd_T36 x6 x8).f1).size < 140737488355328 then (laws_text.l0 k (x3 ++ bytesOf ((rd_T36 x6 x8).f1)) x6 x7 (wrap64 (x8 + 1))) else (none)) else (none)) else (none)) else (some (strOfNums x3))
def laws_text.f (k : Nat) (l0 : List (S36)) : Option (ByteArray) := laws_text.l0 k ([] : List Int) l0 (l0.length : Int) 0
theorem laws_text.mono_l : ∀ k, (∀ y0 y1 y2 y3, LeO (laws_text.l0 k y0 y1 y2 y3) (laws_text.l0 (k + 1) y0 y1 y2 y3))
  | 0 => fun _ _ _ _ r h => by simp [laws_text.l0] at h
  | k + 1 => by
    have ih0 := laws_text.mono_l k
    · intro y0 y1 y2 y3
      unfold laws_text.l0
      repeat' first
      | (with_reducible exact ih0 _ _ _ _)
      | (with_reducible exact LeO.refl _)
      | (with_reducible exact LeO.none _)
      | (with_reducible refine LeO.ite ?_ ?_)
      | (with_reducible refine LeO.bind ?_ (fun _ => ?_))
      | exact ih0 _ _ _ _
      | exact LeO.none _
      | refine LeO.ite ?_ ?_
      | refine LeO.bind ?_ (fun _ => ?_)
theorem laws_text.mono : ∀ a0 k, LeO (laws_text.f k a0) (laws_text.f (k + 1) a0) := by
  intro a0 k
  have ih0 := laws_text.mono_l k
  unfold laws_text.f
  repeat' first
      | (with_reducible exact ih0 _ _ _ _)
      | (with_reducible exact LeO.refl _)
      | (with_reducible exact LeO.none _)
      | (with_reducible refine LeO.ite ?_ ?_)
      | (with_reducible refine LeO.bind ?_ (fun _ => ?_))
      | exact ih0 _ _ _ _
      | exact LeO.none _
      | refine LeO.ite ?_ ?_
      | refine LeO.bind ?_ (fun _ => ?_)
set_option maxHeartbeats 8000000 in
set_option maxRecDepth 100000 in
theorem laws_text.calls (k : Nat) (A0 : Option Addr) (c0 : Nat) (l0 : List (S36)) (r : ByteArray) (w : World) (hr0 : Kd.C k36 w A0 l0.length l0) (hc0 : l0.length ≤ c0) (h : laws_text.f k l0 = some r) :
    Calls Try.prog 13 #[.slice A0 l0.length c0] w fun e w' => e = .returned (.string r) ∧ Below w.heap.size w w' := by
  have hu36 := Try.underlying36
  have HR0 := Aside0.mk hr0
  have HC0 := Aside0.mk hc0
  clear hr0 hc0
  have HB := Aside0.mk (Below.refl w.heap.size w)
  have H : (laws_text.l0 k ([] : List Int) l0 (l0.length : Int) 0) = some r := h
  clear h
  have H' := Aside0.mk H
  clear H
  go_enter Try.func13, Try.ntmps13
  go_wp2
  go_loopg [3, 8] k (fun kq v3 v8 w' => ∃ (x3_1 : List Int) (x8_1 : Int), v8 = .int .i64 x8_1 ∧ Aside0 (laws_text.l0 kq x3_1 l0 (l0.length : Int) x8_1 = some r) ∧ Aside0 (kq ≤ k) ∧ Aside0 (Kd.R (Kd.int .u8) 5 w' w.heap.size (fun _ => True) v3 x3_1) ∧ Aside0 (Below w.heap.size w w'))
  case atStart => exact ⟨(([] : List Int)), (0), (by first | rfl | (simp; done) | (simp [*]; done)), H', ⟨Nat.le_refl _⟩, ⟨by first | exact Kd.R_nil _ _ _ _ _ | exact Kd.N_nil _ _ _ _ _ | exact Kd.V_nil _ _ _ _ _ | exact Kd.Q_nil _ _ _ _ _ | exact Kd.S_nil _ _ _ _ _⟩, ⟨by repeat (first | (with_reducible first | exact HB.out | apply below_alloc | apply pw_below_drewN | apply below_drew1) | exact HB.out)⟩⟩
  case round =>
    clear H'
    try clear c1
    obtain ⟨x3_1, x8_1, rfl, HA, HK1, HO_3, HB⟩ := hrel
    cases gk with
    | zero => exact absurd HA.out (by simp [laws_text.l0])
    | succ k1 =>
      have H := HA.out
      clear HA
      simp only [laws_text.l0] at H
      by_cases c2 : x8_1 < (l0.length : Int)
      · rw [if_pos c2] at H
        have c2b0 : decide (x8_1 < (l0.length : Int)) = true := decide_eq_true c2
        clear c2
        by_cases c3 : 0 ≤ x8_1
        · rw [if_pos c3] at H
          have c3b0 : decide (0 ≤ x8_1) = true := decide_eq_true c3
          clear c3
          by_cases c4 : x8_1 < (l0.length : Int)
          · rw [if_pos c4] at H
            have c4b0 : decide (x8_1 < (l0.length : Int)) = true := decide_eq_true c4
            clear c4
            by_cases c5 : x3_1.length + ((rd_T36 l0 x8_1).f1).size < 140737488355328
            · rw [if_pos c5] at H
              have LMc5 := Aside0.mk c5
              clear c5
              obtain ⟨y171, hy171⟩ : ∃ y_ : List Int, y_ = (x3_1 ++ bytesOf ((rd_T36 l0 x8_1).f1)) := ⟨_, rfl⟩
              replace H : (laws_text.l0 k1 y171 l0 (l0.length : Int) (wrap64 (x8_1 + 1))) = some r := by first | (rw [hy171]; with_reducible exact H) | (have H2_ := (Option.bind_some _ _).symm.trans H; rw [hy171]; with_reducible exact H2_) | (have H2_ := (Option.bind_some _ _).symm.trans H; with_reducible exact H2_) | with_reducible exact H | (rw [hy171]; exact H) | exact H
              have Ny171 := Aside0.mk hy171
              clear hy171
              have H' := Aside0.mk H
              clear H
              have p169 : 0 ≤ (x8_1 : Int) := of_decide_eq_true (by first | (with_reducible assumption) | assumption)
              have q169 : x8_1 < (l0.length : Int) := of_decide_eq_true (by first | (with_reducible assumption) | assumption)
              obtain ⟨ad169, e169, hx169_0, hx169_1⟩ := at_T36 HR0.out x8_1 p169 q169
              cases e169
              replace hx169_0 := (HB.out.cell (World.block_lt_of_cell? w _ hx169_0)).trans hx169_0
              replace hx169_1 := (HB.out.cell (World.block_lt_of_cell? w _ hx169_1)).trans hx169_1
              replace p169 := eq_true p169
              replace q169 := eq_true q169
              go_wp2_with (first | ((with_reducible refine gate_dst (N := 5) rfl ?_); refine box_event ?hg (N := 5) ?hd (cs := #[.int .i64 0, .string (⟨#[]⟩ : ByteArray)]) (t := 36) ?hr ?_; (case hd => rfl); (case hg => rfl); (case hr => first | (go_simp; done) | (go_simp; rfl)); intro gb170 hg w6 hbox hb; have n0_ := Aside0.mk (Kd.R_below (by (with_reducible repeat (first | apply Kd.R_alloc | apply Kd.R_drewN | apply Kd.R_drew)); exact HO_3.out) hb); have n1_ := Aside0.mk (below_step (by repeat (first | (with_reducible first | exact HB.out | apply below_alloc | apply pw_below_drewN | apply below_drew1) | exact HB.out)) hb); have n2_ := Aside0.mk (hbox); have n3_ := Aside0.mk ((by rw [hg]; exact (below_size (by repeat (first | (with_reducible first | exact HB.out | apply below_alloc | apply pw_below_drewN | apply below_drew1) | exact HB.out))) : w.heap.size ≤ gb170)); have n4_ := Aside0.mk ((by rw [hg]; exact (below_size (by repeat (first | (with_reducible first | exact HB.out | apply below_alloc | apply pw_below_drewN | apply below_drew1) | exact HB.out))) : w.heap.size ≤ gb170)); clear HO_3; clear HB; have HO_3 := n0_; have HB := n1_; have BK170 := n2_; have GW170 := n3_; have GE170 := n4_; clear n0_ n1_ n2_ n3_ n4_; clear hb hbox hg; have hcz7_0 : w6.cell? ⟨gb170, 0, none⟩ = some (.int .i64 0) := (blk_cell BK170.out 0).trans rfl; have hcz7_1 : w6.cell? ⟨gb170, 1, none⟩ = some (.string (⟨#[]⟩ : ByteArray)) := (blk_cell BK170.out 1).trans rfl; have hfz7_0 := blk_frozen BK170.out 0; have hfz7_1 := blk_frozen BK170.out 1) | (at_builtin; refine print_append_str (w0 := w) w.heap.size rfl (.tmp 12) _ 43 9 5 rfl Try.underlying43 Try.underlying9 info5 u3 x3_1 ((rd_T36 l0 x8_1).f1) rfl rfl ?aO ?aB ?aS ?aL ?_; (case aB => exact (by repeat (first | (with_reducible first | exact HB.out | apply below_alloc | apply pw_below_drewN | apply below_drew1 | refine below_set ?_ GE170.out) | exact HB.out))); (case aO => exact (Kd.own_of_R (by (with_reducible repeat (first | apply Kd.R_alloc | apply Kd.R_drewN | apply Kd.R_drew)); exact Kd.R_mono (Kd.R_far (p := ⟨gb170, 1, none⟩) (Kd.R_far (p := ⟨gb170, 0, none⟩) (Kd.R_types HO_3.out BK170.out (by decide)) (fun _ hk => hk.2) (.int .i64 ((rd_T36 l0 x8_1).f0))) (fun _ hk => hk.2) (.string ((rd_T36 l0 x8_1).f1))) (fun _ hk => trivial)))); (case aS => exact (below_size (by repeat (first | (with_reducible first | exact HB.out | apply below_alloc | apply pw_below_drewN | apply below_drew1 | refine below_set ?_ GE170.out) | exact HB.out)))); (case aL => have := LMc5.out; omega); intro v172 w8 ho0 hb hg; have ho := Kd.R_of_own (h1 := fun _ => rfl) (ok := fun _ => True) ho0 (fun _ _ => trivial); clear ho0; have hat := True.intro; rw [← Ny171.out] at ho; change Kd.R (Kd.int .u8) 5 w8 w.heap.size (fun _ => True) v172 y171 at ho; have n0_ := Aside0.mk (blk_grown (g := gb170) (o := .cells #[.int .i64 ((rd_T36 l0 x8_1).f0), .string ((rd_T36 l0 x8_1).f1)] 36 (0, 0)) (by (with_reducible repeat (first | refine blk_drewN ?_ _ | refine blk_drew ?_ | refine blk_alloc ?_ _)); refine blk_put (cs := #[.int .i64 ((rd_T36 l0 x8_1).f0), .string (⟨#[]⟩ : ByteArray)]) ?_ 1 _ rfl; (with_reducible repeat (first | refine blk_drewN ?_ _ | refine blk_drew ?_ | refine blk_alloc ?_ _)); refine blk_put (cs := #[.int .i64 0, .string (⟨#[]⟩ : ByteArray)]) ?_ 0 _ rfl; (with_reducible repeat (first | refine blk_drewN ?_ _ | refine blk_drew ?_ | refine blk_alloc ?_ _)); exact BK170.out) hg (Kd.R_ne HO_3.out BK170.out (by decide))); have n1_ := Aside0.mk (hb); have n2_ := Aside0.mk (ho); clear BK170; clear HB; clear HO_3; have BK170 := n0_; have HB := n1_; have HO173 := n2_; clear n0_ n1_ n2_; clear ho hb hg hat))
              go_roundg k1
              case measure => have := HK1.out; omega
              case rel => exact ⟨(y171), (wrap64 (x8_1 + 1)), (by first | rfl | (simp; done) | (simp [*]; done)), H', ⟨by have := HK1.out; omega⟩, ⟨by (with_reducible repeat (first | apply Kd.R_alloc | apply Kd.R_drewN | apply Kd.R_drew)); exact HO173.out⟩, ⟨by repeat (first | (with_reducible first | exact HB.out | apply below_alloc | apply pw_below_drewN | apply below_drew1 | refine below_set ?_ GE170.out) | exact HB.out)⟩⟩
            · rw [if_neg c5] at H
              exact absurd H (by simp)
          · rw [if_neg c4] at H
            exact absurd H (by simp)
        · rw [if_neg c3] at H
          exact absurd H (by simp)
      · rw [if_neg c2] at H
        have c2b0 : decide (x8_1 < (l0.length : Int)) = false := decide_eq_false c2
        clear c2
        obtain rfl := Option.some.inj H
        have hcv9 := own_string (P := Try.prog) Try.underlying43 Try.underlying5 Try.underlying9 (Kd.own_of_R HO_3.out)
        go_wp2
        go_ret
        exact ⟨by first | rfl | (simp [errW_none, errW_some] <;> rfl) | (simp [*, errW_none, errW_some] <;> rfl), by repeat (first | (with_reducible first | exact HB.out | apply below_alloc | apply pw_below_drewN | apply below_drew1) | exact HB.out)⟩

/-! ### laws_waking: function 12 -/
def laws_waking.f (k : Nat)  : Option (Bool) := (impl_SplitLines.f k (([(⟨1000, (⟨#[105, 102, 10, 120]⟩ : ByteArray)⟩ : S36), (⟨2000, (⟨#[121]⟩ : ByteArray)⟩ : S36)] : List (S36)))).bind fun t177 => (if (t177.length : Int) = 2 then (if 0 < (t177.length : Int) then ((laws_text.f k (rd_L5 t177 0)).bind fun t181 => (if t181.toList = ([105, 102, 10] : List UInt8) then (if 1 < (t177.length : Int) then ((laws_text.f k (rd_L5 t177 1)).bind fun t183 => (some (t183.toList == ([120, 121] : List UInt8)))) else (none)) else (some false))) else (none)) else (some false))
theorem laws_waking.mono : ∀ k, LeO (laws_waking.f k ) (laws_waking.f (k + 1) ) := by
  intro  k
  unfold laws_waking.f
  repeat' first
      | (with_reducible exact impl_SplitLines.mono _ _)
      | (with_reducible exact laws_text.mono _ _)
      | (with_reducible exact LeO.refl _)
      | (with_reducible exact LeO.none _)
      | (with_reducible refine LeO.ite ?_ ?_)
      | (with_reducible refine LeO.bind ?_ (fun _ => ?_))
      | exact impl_SplitLines.mono _ _
      | exact laws_text.mono _ _
      | exact LeO.none _
      | refine LeO.ite ?_ ?_
      | refine LeO.bind ?_ (fun _ => ?_)
set_option maxHeartbeats 8000000 in
set_option maxRecDepth 100000 in
theorem laws_waking.calls (k : Nat)  (r : Bool) (w : World) (h : laws_waking.f k  = some r) :
    Calls Try.prog 12 #[] w fun e w' => e = .returned (.bool r) ∧ Below w.heap.size w w' := by
  have hu36 := Try.underlying36
  have HB := Aside0.mk (Below.refl w.heap.size w)
  have H : ((impl_SplitLines.f k (([(⟨1000, (⟨#[105, 102, 10, 120]⟩ : ByteArray)⟩ : S36), (⟨2000, (⟨#[121]⟩ : ByteArray)⟩ : S36)] : List (S36)))).bind fun t177 => (if (t177.length : Int) = 2 then (if 0 < (t177.length : Int) then ((laws_text.f k (rd_L5 t177 0)).bind fun t181 => (if t181.toList = ([105, 102, 10] : List UInt8) then (if 1 < (t177.length : Int) then ((laws_text.f k (rd_L5 t177 1)).bind fun t183 => (some (t183.toList == ([120, 121] : List UInt8)))) else (none)) else (some false))) else (none)) else (some false))) = some r := h
  clear h
  obtain ⟨y174, hy174⟩ : ∃ y_ : List (S36), y_ = (([(⟨1000, (⟨#[105, 102, 10, 120]⟩ : ByteArray)⟩ : S36), (⟨2000, (⟨#[121]⟩ : ByteArray)⟩ : S36)] : List (S36))) := ⟨_, rfl⟩
  replace H : ((impl_SplitLines.f k y174).bind fun t177 => (if (t177.length : Int) = 2 then (if 0 < (t177.length : Int) then ((laws_text.f k (rd_L5 t177 0)).bind fun t181 => (if t181.toList = ([105, 102, 10] : List UInt8) then (if 1 < (t177.length : Int) then ((laws_text.f k (rd_L5 t177 1)).bind fun t183 => (some (t183.toList == ([120, 121] : List UInt8)))) else (none)) else (some false))) else (none)) else (some false))) = some r := by first | (rw [hy174]; with_reducible exact H) | (have H2_ := (Option.bind_some _ _).symm.trans H; rw [hy174]; with_reducible exact H2_) | (have H2_ := (Option.bind_some _ _).symm.trans H; with_reducible exact H2_) | with_reducible exact H | (rw [hy174]; exact H) | exact H
  have Ny174 := Aside0.mk hy174
  clear hy174
  replace H := Option.bind_eq_some_iff.mp H
  obtain ⟨t177, A10, H⟩ := H
  replace H : (if (t177.length : Int) = 2 then (if 0 < (t177.length : Int) then ((laws_text.f k (rd_L5 t177 0)).bind fun t181 => (if t181.toList = ([105, 102, 10] : List UInt8) then (if 1 < (t177.length : Int) then ((laws_text.f k (rd_L5 t177 1)).bind fun t183 => (some (t183.toList == ([120, 121] : List UInt8)))) else (none)) else (some false))) else (none)) else (some false)) = some r := H
  have A1 := Aside0.mk A10
  clear A10
  by_cases c2 : (t177.length : Int) = 2
  · rw [if_pos c2] at H
    have c2b0 : ((t177.length : Int) == 2) = true := beq_iff_eq.mpr c2
    have c2b1 : ((t177.length : Int) != 2) = false := bne_eq_false_iff_eq.mpr c2
    clear c2
    by_cases c3 : 0 < (t177.length : Int)
    · rw [if_pos c3] at H
      have c3b0 : decide (0 < (t177.length : Int)) = true := decide_eq_true c3
      have c3b1 : decide (0 < t177.length) = true := decide_eq_true (by omega)
      clear c3
      replace H := Option.bind_eq_some_iff.mp H
      obtain ⟨t181, A40, H⟩ := H
      replace H : (if t181.toList = ([105, 102, 10] : List UInt8) then (if 1 < (t177.length : Int) then ((laws_text.f k (rd_L5 t177 1)).bind fun t183 => (some (t183.toList == ([120, 121] : List UInt8)))) else (none)) else (some false)) = some r := H
      have A4 := Aside0.mk A40
      clear A40
      by_cases c5 : t181.toList = ([105, 102, 10] : List UInt8)
      · rw [if_pos c5] at H
        have c5b0 : (t181.toList == ([105, 102, 10] : List UInt8)) = true := beq_iff_eq.mpr c5
        have c5b1 : (t181.toList != ([105, 102, 10] : List UInt8)) = false := bne_eq_false_iff_eq.mpr c5
        clear c5
        by_cases c6 : 1 < (t177.length : Int)
        · rw [if_pos c6] at H
          have c6b0 : decide (1 < (t177.length : Int)) = true := decide_eq_true c6
          have c6b1 : decide (1 < t177.length) = true := decide_eq_true (by omega)
          clear c6
          replace H := Option.bind_eq_some_iff.mp H
          obtain ⟨t183, A70, H⟩ := H
          replace H : (some (t183.toList == ([120, 121] : List UInt8))) = some r := H
          have A7 := Aside0.mk A70
          clear A70
          obtain rfl := Option.some.inj H
          go_enter Try.func12, Try.ntmps12
          go_wp2_with (first | ((with_reducible refine gate_dst (N := 4) rfl ?_); refine Kd.R_lit k36 _ 36 ?hg (N := 4) ?hd (xs := ([(⟨1000, (⟨#[105, 102, 10, 120]⟩ : ByteArray)⟩ : S36), (⟨2000, (⟨#[121]⟩ : ByteArray)⟩ : S36)] : List (S36))) (inner := [.int .i64 1000, .string (⟨#[105, 102, 10, 120]⟩ : ByteArray), .int .i64 2000, .string (⟨#[121]⟩ : ByteArray)]) (ok := fun _ => True) (okp := fun _ => True) ?hr ?hp (fun _ hk => hk) trivial (Below.refl _ _) (Nat.le_refl _) (by simp) ?_; (case hd => rfl); (case hg => rfl); (case hr => first | (go_simp; done) | (go_simp; rfl)); (case hp => exact (Reps.c2 (show Kd.M k36 _ _ _ (⟨1000, (⟨#[105, 102, 10, 120]⟩ : ByteArray)⟩ : S36) [.int .i64 1000, .string (⟨#[105, 102, 10, 120]⟩ : ByteArray)] from (k36_mkM _ _ _ (⟨1000, (⟨#[105, 102, 10, 120]⟩ : ByteArray)⟩ : S36) )) (Reps.c2 (show Kd.M k36 _ _ _ (⟨2000, (⟨#[121]⟩ : ByteArray)⟩ : S36) [.int .i64 2000, .string (⟨#[121]⟩ : ByteArray)] from (k36_mkM _ _ _ (⟨2000, (⟨#[121]⟩ : ByteArray)⟩ : S36) )) (Reps.none _ _)))); intro v175 w8 ho9 hb hg_ hnew_; clear hg_ hnew_; (first | rw [← Ny174.out] at ho9 | (simp only [Int.reduceToNat] at ho9; rw [← Ny174.out] at ho9)); have n0_ := Aside0.mk (Kd.R_lower ho9 (below_size (by repeat (first | (with_reducible first | exact HB.out | apply below_alloc | apply pw_below_drewN | apply below_drew1) | exact HB.out)))); have n1_ := Aside0.mk (below_step (by repeat (first | (with_reducible first | exact HB.out | apply below_alloc | apply pw_below_drewN | apply below_drew1) | exact HB.out)) hb); clear HB; have HO176 := n0_; have HB := n1_; clear n0_ n1_; clear hb ho9; obtain ⟨Ao10, co10, eo10⟩ := Kd.R_slice HO176.out; subst eo10) | ((with_reducible refine gate_callee (f := 9) rfl ?_); refine goesL_ (some 5) rfl rfl Try.func9 (by kernel_rfl) rfl #[.slice Ao10 y174.length co10] rfl (by (try simp only [List.map_toArray, List.map_cons, List.map_nil]); first | done | rfl | (simp only [List.length_drop, List.length_take]; rfl)) ?_; (with_reducible refine (impl_SplitLines.calls k _ _ y174 t177 _ ?side1 ?side2 A1.out).mono ?_); (case side1 => repeat (first | exact (Kd.R_reads' HO176.out).2.2 | (with_reducible refine Kd.C_alloc ?_ _) | (with_reducible refine Kd.C_drewN ?_ _) | (with_reducible refine Kd.C_drew ?_))); (case side2 => exact (Kd.R_reads' HO176.out).2.1); rintro e w11 ⟨v178, rfl, ho0, hb⟩; refine ⟨_, rfl, ?_⟩; have n0_ := Aside0.mk (Kd.R_below (by (with_reducible repeat (first | apply Kd.R_alloc | apply Kd.R_drewN | apply Kd.R_drew)); exact HO176.out) hb); have n1_ := Aside0.mk (Kd.S_lower (Kd.S_new' ho0 (Kd.R_lt (by (with_reducible repeat (first | apply Kd.R_alloc | apply Kd.R_drewN | apply Kd.R_drew)); exact HO176.out))) (below_size (by repeat (first | (with_reducible first | exact HB.out | apply below_alloc | apply pw_below_drewN | apply below_drew1) | exact HB.out)))); have n2_ := Aside0.mk (below_step (by repeat (first | (with_reducible first | exact HB.out | apply below_alloc | apply pw_below_drewN | apply below_drew1) | exact HB.out)) hb); clear HO176; clear HB; have HO176 := n0_; have HO179 := n1_; have HB := n2_; clear n0_ n1_ n2_; (try clear hb); (try clear hb2); (try clear hk); (try clear hi); (try clear ho0); obtain ⟨Ao12, co12, eo12⟩ := Kd.S_slice HO179.out; subst eo12; have p180 : 0 ≤ (0 : Int) := (by omega); have q180 : 0 < (t177.length : Int) := of_decide_eq_true (by first | (with_reducible assumption) | assumption); obtain ⟨ad180, A180_0, c180_0, e180, hx180_0, hl180_0, hi180_0⟩ := at_L5 (Kd.S_reads' HO179.out).2.2 0 p180 q180; cases e180; obtain ⟨ce180, hce180, hMe180, hcc180⟩ := Kd.S_get HO179.out [] 0 p180 (by first | exact q180 | exact of_decide_eq_true (by first | (with_reducible assumption) | assumption) | (have e_ := (Kd.S_reads' HO179.out).1; omega)); obtain ⟨ve180_0, rfl, ge180_0⟩ := hMe180; have hv180_0 := hcc180 0 _ rfl; rw [Nat.add_zero, show ((Kd.slice 36 k36)).sz = 1 from rfl, Nat.mul_one] at hv180_0; replace hv180_0 := Option.some.inj (hv180_0.symm.trans hx180_0); rw [hv180_0] at ge180_0; have HL180_0 := Aside0.mk (show Kd.R k36 36 _ _ _ _ (rd_L5 t177 0) from ge180_0); clear hv180_0 ge180_0; clear hcc180 hce180; have qi180 : (0 < t177.length) = True := eq_true (by omega); (try rw [show ((0 : Int)).toNat = 0 from rfl] at hx180_0); (try rw [Addr.add_zero'] at hx180_0); have HR180_0 := Aside0.mk hi180_0; have HC180_0 := Aside0.mk hl180_0; clear hi180_0 hl180_0; replace p180 := eq_true p180; replace q180 := eq_true q180) | (go_at_call 13; (with_reducible refine (laws_text.calls k _ _ (rd_L5 t177 0) t181 _ ?side1 ?side2 A4.out).mono ?_); (case side1 => repeat (first | exact (by repeat (first | (with_reducible exact HR180_0.out) | (with_reducible refine Kd.C_alloc ?_ _) | (with_reducible refine Kd.C_drewN ?_ _) | (with_reducible refine Kd.C_drew ?_) | exact HR180_0.out)) | (with_reducible refine Kd.C_alloc ?_ _) | (with_reducible refine Kd.C_drewN ?_ _) | (with_reducible refine Kd.C_drew ?_))); (case side2 => exact HC180_0.out); rintro e w13 ⟨rfl, hb⟩; have n0_ := Aside0.mk (Kd.R_below (by (with_reducible repeat (first | apply Kd.R_alloc | apply Kd.R_drewN | apply Kd.R_drew)); exact HO176.out) hb); have n1_ := Aside0.mk (Kd.S_below (by (with_reducible repeat (first | apply Kd.S_alloc | apply Kd.S_drewN | apply Kd.S_drew)); exact HO179.out) hb); have n2_ := Aside0.mk (Kd.R_below (by (with_reducible repeat (first | apply Kd.R_alloc | apply Kd.R_drewN | apply Kd.R_drew)); exact HL180_0.out) hb); have n3_ := Aside0.mk (Kd.C_below (by repeat (first | (with_reducible exact HR180_0.out) | (with_reducible refine Kd.C_alloc ?_ _) | (with_reducible refine Kd.C_drewN ?_ _) | (with_reducible refine Kd.C_drew ?_) | exact HR180_0.out)) hb); have n4_ := Aside0.mk (below_step (by repeat (first | (with_reducible first | exact HB.out | apply below_alloc | apply pw_below_drewN | apply below_drew1) | exact HB.out)) hb); clear HO176; clear HO179; clear HL180_0; clear HR180_0; clear HB; have HO176 := n0_; have HO179 := n1_; have HL180_0 := n2_; have HR180_0 := n3_; have HB := n4_; clear n0_ n1_ n2_ n3_ n4_; (try clear hb); (try clear hb2); (try clear hk); (try clear hi); have p182 : 0 ≤ (1 : Int) := (by omega); have q182 : 1 < (t177.length : Int) := of_decide_eq_true (by first | (with_reducible assumption) | assumption); obtain ⟨ad182, A182_0, c182_0, e182, hx182_0, hl182_0, hi182_0⟩ := at_L5 (Kd.S_reads' HO179.out).2.2 1 p182 q182; obtain rfl : ad180 = ad182 := (by injection e182); obtain ⟨ce182, hce182, hMe182, hcc182⟩ := Kd.S_get HO179.out [] 1 p182 (by first | exact q182 | exact of_decide_eq_true (by first | (with_reducible assumption) | assumption) | (have e_ := (Kd.S_reads' HO179.out).1; omega)); obtain ⟨ve182_0, rfl, ge182_0⟩ := hMe182; have hv182_0 := hcc182 0 _ rfl; rw [Nat.add_zero, show ((Kd.slice 36 k36)).sz = 1 from rfl, Nat.mul_one] at hv182_0; replace hv182_0 := Option.some.inj (hv182_0.symm.trans hx182_0); rw [hv182_0] at ge182_0; have HL182_0 := Aside0.mk (show Kd.R k36 36 _ _ _ _ (rd_L5 t177 1) from ge182_0); clear hv182_0 ge182_0; clear hcc182 hce182; (try simp only [show (1 : Int).toNat = 1 from rfl, Nat.reduceMul, Nat.reduceEqDiff, Go.Addr.add, ↓reduceIte] at hx182_0); have qi182 : (1 < t177.length) = True := eq_true (by omega); (try rw [show ((1 : Int)).toNat = 1 from rfl] at hx182_0); have HR182_0 := Aside0.mk hi182_0; have HC182_0 := Aside0.mk hl182_0; clear hi182_0 hl182_0; replace p182 := eq_true p182; replace q182 := eq_true q182) | (go_at_call 13; (with_reducible refine (laws_text.calls k _ _ (rd_L5 t177 1) t183 _ ?side1 ?side2 A7.out).mono ?_); (case side1 => repeat (first | exact (by repeat (first | (with_reducible exact HR182_0.out) | (with_reducible refine Kd.C_alloc ?_ _) | (with_reducible refine Kd.C_drewN ?_ _) | (with_reducible refine Kd.C_drew ?_) | exact HR182_0.out)) | (with_reducible refine Kd.C_alloc ?_ _) | (with_reducible refine Kd.C_drewN ?_ _) | (with_reducible refine Kd.C_drew ?_))); (case side2 => exact HC182_0.out); rintro e w14 ⟨rfl, hb⟩; have n0_ := Aside0.mk (Kd.R_below (by (with_reducible repeat (first | apply Kd.R_alloc | apply Kd.R_drewN | apply Kd.R_drew)); exact HO176.out) hb); have n1_ := Aside0.mk (Kd.S_below (by (with_reducible repeat (first | apply Kd.S_alloc | apply Kd.S_drewN | apply Kd.S_drew)); exact HO179.out) hb); have n2_ := Aside0.mk (Kd.R_below (by (with_reducible repeat (first | apply Kd.R_alloc | apply Kd.R_drewN | apply Kd.R_drew)); exact HL180_0.out) hb); have n3_ := Aside0.mk (Kd.R_below (by (with_reducible repeat (first | apply Kd.R_alloc | apply Kd.R_drewN | apply Kd.R_drew)); exact HL182_0.out) hb); have n4_ := Aside0.mk (Kd.C_below (by repeat (first | (with_reducible exact HR180_0.out) | (with_reducible refine Kd.C_alloc ?_ _) | (with_reducible refine Kd.C_drewN ?_ _) | (with_reducible refine Kd.C_drew ?_) | exact HR180_0.out)) hb); have n5_ := Aside0.mk (Kd.C_below (by repeat (first | (with_reducible exact HR182_0.out) | (with_reducible refine Kd.C_alloc ?_ _) | (with_reducible refine Kd.C_drewN ?_ _) | (with_reducible refine Kd.C_drew ?_) | exact HR182_0.out)) hb); have n6_ := Aside0.mk (below_step (by repeat (first | (with_reducible first | exact HB.out | apply below_alloc | apply pw_below_drewN | apply below_drew1) | exact HB.out)) hb); clear HO176; clear HO179; clear HL180_0; clear HL182_0; clear HR180_0; clear HR182_0; clear HB; have HO176 := n0_; have HO179 := n1_; have HL180_0 := n2_; have HL182_0 := n3_; have HR180_0 := n4_; have HR182_0 := n5_; have HB := n6_; clear n0_ n1_ n2_ n3_ n4_ n5_ n6_; (try clear hb); (try clear hb2); (try clear hk); (try clear hi)))
          go_ret
          exact ⟨by first | rfl | (simp [errW_none, errW_some] <;> rfl) | (simp [*, errW_none, errW_some] <;> rfl), by repeat (first | (with_reducible first | exact HB.out | apply below_alloc | apply pw_below_drewN | apply below_drew1) | exact HB.out)⟩
        · rw [if_neg c6] at H
          exact absurd H (by simp)
      · rw [if_neg c5] at H
        have c5b0 : (t181.toList == ([105, 102, 10] : List UInt8)) = false := beq_eq_false_iff_ne.mpr c5
        have c5b1 : (t181.toList != ([105, 102, 10] : List UInt8)) = true := bne_iff_ne.mpr c5
        obtain rfl := Option.some.inj H
        go_enter Try.func12, Try.ntmps12
        go_wp2_with (first | ((with_reducible refine gate_dst (N := 4) rfl ?_); refine Kd.R_lit k36 _ 36 ?hg (N := 4) ?hd (xs := ([(⟨1000, (⟨#[105, 102, 10, 120]⟩ : ByteArray)⟩ : S36), (⟨2000, (⟨#[121]⟩ : ByteArray)⟩ : S36)] : List (S36))) (inner := [.int .i64 1000, .string (⟨#[105, 102, 10, 120]⟩ : ByteArray), .int .i64 2000, .string (⟨#[121]⟩ : ByteArray)]) (ok := fun _ => True) (okp := fun _ => True) ?hr ?hp (fun _ hk => hk) trivial (Below.refl _ _) (Nat.le_refl _) (by simp) ?_; (case hd => rfl); (case hg => rfl); (case hr => first | (go_simp; done) | (go_simp; rfl)); (case hp => exact (Reps.c2 (show Kd.M k36 _ _ _ (⟨1000, (⟨#[105, 102, 10, 120]⟩ : ByteArray)⟩ : S36) [.int .i64 1000, .string (⟨#[105, 102, 10, 120]⟩ : ByteArray)] from (k36_mkM _ _ _ (⟨1000, (⟨#[105, 102, 10, 120]⟩ : ByteArray)⟩ : S36) )) (Reps.c2 (show Kd.M k36 _ _ _ (⟨2000, (⟨#[121]⟩ : ByteArray)⟩ : S36) [.int .i64 2000, .string (⟨#[121]⟩ : ByteArray)] from (k36_mkM _ _ _ (⟨2000, (⟨#[121]⟩ : ByteArray)⟩ : S36) )) (Reps.none _ _)))); intro v175 w15 ho16 hb hg_ hnew_; clear hg_ hnew_; (first | rw [← Ny174.out] at ho16 | (simp only [Int.reduceToNat] at ho16; rw [← Ny174.out] at ho16)); have n0_ := Aside0.mk (Kd.R_lower ho16 (below_size (by repeat (first | (with_reducible first | exact HB.out | apply below_alloc | apply pw_below_drewN | apply below_drew1) | exact HB.out)))); have n1_ := Aside0.mk (below_step (by repeat (first | (with_reducible first | exact HB.out | apply below_alloc | apply pw_below_drewN | apply below_drew1) | exact HB.out)) hb); clear HB; have HO176 := n0_; have HB := n1_; clear n0_ n1_; clear hb ho16; obtain ⟨Ao17, co17, eo17⟩ := Kd.R_slice HO176.out; subst eo17) | ((with_reducible refine gate_callee (f := 9) rfl ?_); refine goesL_ (some 5) rfl rfl Try.func9 (by kernel_rfl) rfl #[.slice Ao17 y174.length co17] rfl (by (try simp only [List.map_toArray, List.map_cons, List.map_nil]); first | done | rfl | (simp only [List.length_drop, List.length_take]; rfl)) ?_; (with_reducible refine (impl_SplitLines.calls k _ _ y174 t177 _ ?side1 ?side2 A1.out).mono ?_); (case side1 => repeat (first | exact (Kd.R_reads' HO176.out).2.2 | (with_reducible refine Kd.C_alloc ?_ _) | (with_reducible refine Kd.C_drewN ?_ _) | (with_reducible refine Kd.C_drew ?_))); (case side2 => exact (Kd.R_reads' HO176.out).2.1); rintro e w18 ⟨v178, rfl, ho0, hb⟩; refine ⟨_, rfl, ?_⟩; have n0_ := Aside0.mk (Kd.R_below (by (with_reducible repeat (first | apply Kd.R_alloc | apply Kd.R_drewN | apply Kd.R_drew)); exact HO176.out) hb); have n1_ := Aside0.mk (Kd.S_lower (Kd.S_new' ho0 (Kd.R_lt (by (with_reducible repeat (first | apply Kd.R_alloc | apply Kd.R_drewN | apply Kd.R_drew)); exact HO176.out))) (below_size (by repeat (first | (with_reducible first | exact HB.out | apply below_alloc | apply pw_below_drewN | apply below_drew1) | exact HB.out)))); have n2_ := Aside0.mk (below_step (by repeat (first | (with_reducible first | exact HB.out | apply below_alloc | apply pw_below_drewN | apply below_drew1) | exact HB.out)) hb); clear HO176; clear HB; have HO176 := n0_; have HO179 := n1_; have HB := n2_; clear n0_ n1_ n2_; (try clear hb); (try clear hb2); (try clear hk); (try clear hi); (try clear ho0); obtain ⟨Ao19, co19, eo19⟩ := Kd.S_slice HO179.out; subst eo19; have p180 : 0 ≤ (0 : Int) := (by omega); have q180 : 0 < (t177.length : Int) := of_decide_eq_true (by first | (with_reducible assumption) | assumption); obtain ⟨ad180, A180_0, c180_0, e180, hx180_0, hl180_0, hi180_0⟩ := at_L5 (Kd.S_reads' HO179.out).2.2 0 p180 q180; cases e180; obtain ⟨ce180, hce180, hMe180, hcc180⟩ := Kd.S_get HO179.out [] 0 p180 (by first | exact q180 | exact of_decide_eq_true (by first | (with_reducible assumption) | assumption) | (have e_ := (Kd.S_reads' HO179.out).1; omega)); obtain ⟨ve180_0, rfl, ge180_0⟩ := hMe180; have hv180_0 := hcc180 0 _ rfl; rw [Nat.add_zero, show ((Kd.slice 36 k36)).sz = 1 from rfl, Nat.mul_one] at hv180_0; replace hv180_0 := Option.some.inj (hv180_0.symm.trans hx180_0); rw [hv180_0] at ge180_0; have HL180_0 := Aside0.mk (show Kd.R k36 36 _ _ _ _ (rd_L5 t177 0) from ge180_0); clear hv180_0 ge180_0; clear hcc180 hce180; have qi180 : (0 < t177.length) = True := eq_true (by omega); (try rw [show ((0 : Int)).toNat = 0 from rfl] at hx180_0); (try rw [Addr.add_zero'] at hx180_0); have HR180_0 := Aside0.mk hi180_0; have HC180_0 := Aside0.mk hl180_0; clear hi180_0 hl180_0; replace p180 := eq_true p180; replace q180 := eq_true q180) | (go_at_call 13; (with_reducible refine (laws_text.calls k _ _ (rd_L5 t177 0) t181 _ ?side1 ?side2 A4.out).mono ?_); (case side1 => repeat (first | exact (by repeat (first | (with_reducible exact HR180_0.out) | (with_reducible refine Kd.C_alloc ?_ _) | (with_reducible refine Kd.C_drewN ?_ _) | (with_reducible refine Kd.C_drew ?_) | exact HR180_0.out)) | (with_reducible refine Kd.C_alloc ?_ _) | (with_reducible refine Kd.C_drewN ?_ _) | (with_reducible refine Kd.C_drew ?_))); (case side2 => exact HC180_0.out); rintro e w20 ⟨rfl, hb⟩; have n0_ := Aside0.mk (Kd.R_below (by (with_reducible repeat (first | apply Kd.R_alloc | apply Kd.R_drewN | apply Kd.R_drew)); exact HO176.out) hb); have n1_ := Aside0.mk (Kd.S_below (by (with_reducible repeat (first | apply Kd.S_alloc | apply Kd.S_drewN | apply Kd.S_drew)); exact HO179.out) hb); have n2_ := Aside0.mk (Kd.R_below (by (with_reducible repeat (first | apply Kd.R_alloc | apply Kd.R_drewN | apply Kd.R_drew)); exact HL180_0.out) hb); have n3_ := Aside0.mk (Kd.C_below (by repeat (first | (with_reducible exact HR180_0.out) | (with_reducible refine Kd.C_alloc ?_ _) | (with_reducible refine Kd.C_drewN ?_ _) | (with_reducible refine Kd.C_drew ?_) | exact HR180_0.out)) hb); have n4_ := Aside0.mk (below_step (by repeat (first | (with_reducible first | exact HB.out | apply below_alloc | apply pw_below_drewN | apply below_drew1) | exact HB.out)) hb); clear HO176; clear HO179; clear HL180_0; clear HR180_0; clear HB; have HO176 := n0_; have HO179 := n1_; have HL180_0 := n2_; have HR180_0 := n3_; have HB := n4_; clear n0_ n1_ n2_ n3_ n4_; (try clear hb); (try clear hb2); (try clear hk); (try clear hi)))
        go_ret
        exact ⟨by first | rfl | (simp [errW_none, errW_some] <;> rfl) | (simp [*, errW_none, errW_some] <;> rfl), by repeat (first | (with_reducible first | exact HB.out | apply below_alloc | apply pw_below_drewN | apply below_drew1) | exact HB.out)⟩
    · rw [if_neg c3] at H
      exact absurd H (by simp)
  · rw [if_neg c2] at H
    have c2b0 : ((t177.length : Int) == 2) = false := beq_eq_false_iff_ne.mpr c2
    have c2b1 : ((t177.length : Int) != 2) = true := bne_iff_ne.mpr c2
    obtain rfl := Option.some.inj H
    go_enter Try.func12, Try.ntmps12
    go_wp2_with (first | ((with_reducible refine gate_dst (N := 4) rfl ?_); refine Kd.R_lit k36 _ 36 ?hg (N := 4) ?hd (xs := ([(⟨1000, (⟨#[105, 102, 10, 120]⟩ : ByteArray)⟩ : S36), (⟨2000, (⟨#[121]⟩ : ByteArray)⟩ : S36)] : List (S36))) (inner := [.int .i64 1000, .string (⟨#[105, 102, 10, 120]⟩ : ByteArray), .int .i64 2000, .string (⟨#[121]⟩ : ByteArray)]) (ok := fun _ => True) (okp := fun _ => True) ?hr ?hp (fun _ hk => hk) trivial (Below.refl _ _) (Nat.le_refl _) (by simp) ?_; (case hd => rfl); (case hg => rfl); (case hr => first | (go_simp; done) | (go_simp; rfl)); (case hp => exact (Reps.c2 (show Kd.M k36 _ _ _ (⟨1000, (⟨#[105, 102, 10, 120]⟩ : ByteArray)⟩ : S36) [.int .i64 1000, .string (⟨#[105, 102, 10, 120]⟩ : ByteArray)] from (k36_mkM _ _ _ (⟨1000, (⟨#[105, 102, 10, 120]⟩ : ByteArray)⟩ : S36) )) (Reps.c2 (show Kd.M k36 _ _ _ (⟨2000, (⟨#[121]⟩ : ByteArray)⟩ : S36) [.int .i64 2000, .string (⟨#[121]⟩ : ByteArray)] from (k36_mkM _ _ _ (⟨2000, (⟨#[121]⟩ : ByteArray)⟩ : S36) )) (Reps.none _ _)))); intro v175 w21 ho22 hb hg_ hnew_; clear hg_ hnew_; (first | rw [← Ny174.out] at ho22 | (simp only [Int.reduceToNat] at ho22; rw [← Ny174.out] at ho22)); have n0_ := Aside0.mk (Kd.R_lower ho22 (below_size (by repeat (first | (with_reducible first | exact HB.out | apply below_alloc | apply pw_below_drewN | apply below_drew1) | exact HB.out)))); have n1_ := Aside0.mk (below_step (by repeat (first | (with_reducible first | exact HB.out | apply below_alloc | apply pw_below_drewN | apply below_drew1) | exact HB.out)) hb); clear HB; have HO176 := n0_; have HB := n1_; clear n0_ n1_; clear hb ho22; obtain ⟨Ao23, co23, eo23⟩ := Kd.R_slice HO176.out; subst eo23) | ((with_reducible refine gate_callee (f := 9) rfl ?_); refine goesL_ (some 5) rfl rfl Try.func9 (by kernel_rfl) rfl #[.slice Ao23 y174.length co23] rfl (by (try simp only [List.map_toArray, List.map_cons, List.map_nil]); first | done | rfl | (simp only [List.length_drop, List.length_take]; rfl)) ?_; (with_reducible refine (impl_SplitLines.calls k _ _ y174 t177 _ ?side1 ?side2 A1.out).mono ?_); (case side1 => repeat (first | exact (Kd.R_reads' HO176.out).2.2 | (with_reducible refine Kd.C_alloc ?_ _) | (with_reducible refine Kd.C_drewN ?_ _) | (with_reducible refine Kd.C_drew ?_))); (case side2 => exact (Kd.R_reads' HO176.out).2.1); rintro e w24 ⟨v178, rfl, ho0, hb⟩; refine ⟨_, rfl, ?_⟩; have n0_ := Aside0.mk (Kd.R_below (by (with_reducible repeat (first | apply Kd.R_alloc | apply Kd.R_drewN | apply Kd.R_drew)); exact HO176.out) hb); have n1_ := Aside0.mk (Kd.S_lower (Kd.S_new' ho0 (Kd.R_lt (by (with_reducible repeat (first | apply Kd.R_alloc | apply Kd.R_drewN | apply Kd.R_drew)); exact HO176.out))) (below_size (by repeat (first | (with_reducible first | exact HB.out | apply below_alloc | apply pw_below_drewN | apply below_drew1) | exact HB.out)))); have n2_ := Aside0.mk (below_step (by repeat (first | (with_reducible first | exact HB.out | apply below_alloc | apply pw_below_drewN | apply below_drew1) | exact HB.out)) hb); clear HO176; clear HB; have HO176 := n0_; have HO179 := n1_; have HB := n2_; clear n0_ n1_ n2_; (try clear hb); (try clear hb2); (try clear hk); (try clear hi); (try clear ho0); obtain ⟨Ao25, co25, eo25⟩ := Kd.S_slice HO179.out; subst eo25))
    go_ret
    exact ⟨by first | rfl | (simp [errW_none, errW_some] <;> rfl) | (simp [*, errW_none, errW_some] <;> rfl), by repeat (first | (with_reducible first | exact HB.out | apply below_alloc | apply pw_below_drewN | apply below_drew1) | exact HB.out)⟩

end Go.Proofs.Ytmlebpbalhinnaa.M
