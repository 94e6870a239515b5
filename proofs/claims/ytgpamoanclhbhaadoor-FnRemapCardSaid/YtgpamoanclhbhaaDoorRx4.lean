-- WRITTEN BY OUR myprint.py, a program of this session's over the kit's printer
import Derived.Test.YtgpamoanclhbhaaDoorRx0
import Derived.Test.YtgpamoanclhbhaaDoorRx2
import Derived.Test.YtgpamoanclhbhaaDoorRx3
namespace Go.Proofs.YtgpamoanclhbhaaDoor.R
open Go.RowKit Go.Proofs.YtgpamoanclhbhaaDoorW.PrintWords Go.Proofs.YtgpamoanclhbhaaDoorW.PrintLast Go.Proofs.YtgpamoanclhbhaaDoorW.PrintMore
attribute [local go_sem] max2_int min2_int max_two min_two max_three min_three max_four min_four   -- for this text's walks alone
set_option linter.unusedVariables false
set_option linter.unusedSimpArgs false

/-! ### impl_SplitLines: function 18 -/
def impl_SplitLines.l0 : Nat → List (List (S29)) → List (List (S51)) → Int → Int → Option ((List (List (S29))))
  | 0, _, _, _, _ => none
  | k + 1, x3, x8, x9, x10 => if x10 < x9 then (if 0 ≤ x10 then (if x10 < (x8.length : Int) then ((impl_outer.f k (rd_L4 x8 x10)).bind fun t159 => (if x3.length < 5864062014805 then (impl_SplitLines.l0 k (x3 ++ [t159]) x8 x9 (wrap64 (x10 + 1))) else (none))) else (none)) else (none)) else (some x3)
def impl_SplitLines.f (k : Nat) (l0 : List (S29)) : Option ((List (List (S29)))) := (impl_inner.f k l0).bind fun t152 => ((chroma_SplitTokensIntoLines.f k t152).bind fun t155 => (impl_SplitLines.l0 k ([] : List (List (S29))) t155 (t155.length : Int) 0))
theorem impl_SplitLines.mono_l : ∀ k, (∀ y0 y1 y2 y3, LeO (impl_SplitLines.l0 k y0 y1 y2 y3) (impl_SplitLines.l0 (k + 1) y0 y1 y2 y3))
  | 0 => fun _ _ _ _ r h => by simp [impl_SplitLines.l0] at h
  | k + 1 => by
    have ih0 := impl_SplitLines.mono_l k
    · intro y0 y1 y2 y3
      unfold impl_SplitLines.l0
      repeat' first
      | (with_reducible exact ih0 _ _ _ _)
      | (with_reducible exact chroma_SplitTokensIntoLines.mono _ _)
      | (with_reducible exact impl_inner.mono _ _)
      | (with_reducible exact impl_outer.mono _ _)
      | (with_reducible exact LeO.refl _)
      | (with_reducible exact LeO.none _)
      | (with_reducible refine LeO.ite ?_ ?_)
      | (with_reducible refine LeO.bind ?_ (fun _ => ?_))
      | exact ih0 _ _ _ _
      | exact chroma_SplitTokensIntoLines.mono _ _
      | exact impl_inner.mono _ _
      | exact impl_outer.mono _ _
      | exact LeO.none _
      | refine LeO.ite ?_ ?_
      | refine LeO.bind ?_ (fun _ => ?_)
theorem impl_SplitLines.mono : ∀ a0 k, LeO (impl_SplitLines.f k a0) (impl_SplitLines.f (k + 1) a0) := by
  intro a0 k
  have ih0 := impl_SplitLines.mono_l k
  unfold impl_SplitLines.f
  repeat' first
      | (with_reducible exact ih0 _ _ _ _)
      | (with_reducible exact chroma_SplitTokensIntoLines.mono _ _)
      | (with_reducible exact impl_inner.mono _ _)
      | (with_reducible exact impl_outer.mono _ _)
      | (with_reducible exact LeO.refl _)
      | (with_reducible exact LeO.none _)
      | (with_reducible refine LeO.ite ?_ ?_)
      | (with_reducible refine LeO.bind ?_ (fun _ => ?_))
      | exact ih0 _ _ _ _
      | exact chroma_SplitTokensIntoLines.mono _ _
      | exact impl_inner.mono _ _
      | exact impl_outer.mono _ _
      | exact LeO.none _
      | refine LeO.ite ?_ ?_
      | refine LeO.bind ?_ (fun _ => ?_)
set_option maxHeartbeats 8000000 in
set_option maxRecDepth 100000 in
theorem impl_SplitLines.calls (k : Nat) (A0 : Option Addr) (c0 : Nat) (l0 : List (S29)) (r : List (List (S29))) (w : World) (hr0 : Kd.C k29 w A0 l0.length l0) (hc0 : l0.length ≤ c0) (h : impl_SplitLines.f k l0 = some r) :
    Calls Tryd.prog 18 #[.slice A0 l0.length c0] w fun e w' => ∃ v0_ : Value, e = .returned (v0_) ∧ Kd.S (Kd.slice 29 k29) 22 w' w.heap.size (fun _ => True) v0_ r ∧ Below w.heap.size w w' := by
  have HR0 := Aside0.mk hr0
  have HC0 := Aside0.mk hc0
  clear hr0 hc0
  have HB := Aside0.mk (Below.refl w.heap.size w)
  have H : ((impl_inner.f k l0).bind fun t152 => ((chroma_SplitTokensIntoLines.f k t152).bind fun t155 => (impl_SplitLines.l0 k ([] : List (List (S29))) t155 (t155.length : Int) 0))) = some r := h
  clear h
  replace H := Option.bind_eq_some_iff.mp H
  obtain ⟨t152, A20, H⟩ := H
  replace H : ((chroma_SplitTokensIntoLines.f k t152).bind fun t155 => (impl_SplitLines.l0 k ([] : List (List (S29))) t155 (t155.length : Int) 0)) = some r := H
  have A2 := Aside0.mk A20
  clear A20
  replace H := Option.bind_eq_some_iff.mp H
  obtain ⟨t155, A30, H⟩ := H
  replace H : (impl_SplitLines.l0 k ([] : List (List (S29))) t155 (t155.length : Int) 0) = some r := H
  have A3 := Aside0.mk A30
  clear A30
  have H' := Aside0.mk H
  clear H
  go_enter Tryd.func18, Tryd.ntmps18
  go_wp2_with (first | ((with_reducible refine gate_callee (f := 23) rfl ?_); refine goesL_ (some 7) rfl rfl Tryd.func23 (by kernel_rfl) rfl #[.slice A0 l0.length c0] rfl (by (try simp only [List.map_toArray, List.map_cons, List.map_nil]); first | done | rfl | (simp only [List.length_drop, List.length_take]; rfl)) ?_; (with_reducible refine (impl_inner.calls k _ _ l0 t152 _ ?side1 ?side2 A2.out).mono ?_); (case side1 => repeat (first | exact HR0.out | (with_reducible refine Kd.C_alloc ?_ _) | (with_reducible refine Kd.C_drewN ?_ _) | (with_reducible refine Kd.C_drew ?_))); (case side2 => exact HC0.out); rintro e w4 ⟨v153, rfl, ho0, hb⟩; refine ⟨_, rfl, ?_⟩; have n0_ := Aside0.mk (Kd.R_lower ho0 (below_size (by repeat (first | (with_reducible first | exact HB.out | apply below_alloc | apply pw_below_drewN | apply below_drew1) | exact HB.out)))); have n1_ := Aside0.mk (below_step (by repeat (first | (with_reducible first | exact HB.out | apply below_alloc | apply pw_below_drewN | apply below_drew1) | exact HB.out)) hb); clear HB; have HO154 := n0_; have HB := n1_; clear n0_ n1_; (try clear hb); (try clear hb2); (try clear hk); (try clear hi); (try clear ho0); obtain ⟨Ao5, co5, eo5⟩ := Kd.R_slice HO154.out; subst eo5) | ((with_reducible refine gate_callee (f := 27) rfl ?_); refine goesL_ (some 8) rfl rfl Tryd.func27 (by kernel_rfl) rfl #[.slice Ao5 t152.length co5] rfl (by (try simp only [List.map_toArray, List.map_cons, List.map_nil]); first | done | rfl | (simp only [List.length_drop, List.length_take]; rfl)) ?_; (with_reducible refine (chroma_SplitTokensIntoLines.calls k _ _ t152 t155 _ ?side1 ?side2 A3.out).mono ?_); (case side1 => repeat (first | exact (Kd.R_reads' HO154.out).2.2 | (with_reducible refine Kd.C_alloc ?_ _) | (with_reducible refine Kd.C_drewN ?_ _) | (with_reducible refine Kd.C_drew ?_))); (case side2 => exact (Kd.R_reads' HO154.out).2.1); rintro e w6 ⟨v156, rfl, ho0, hb⟩; refine ⟨_, rfl, ?_⟩; have n0_ := Aside0.mk (Kd.R_below (by (with_reducible repeat (first | apply Kd.R_alloc | apply Kd.R_drewN | apply Kd.R_drew)); exact HO154.out) hb); have n1_ := Aside0.mk (Kd.S_lower (Kd.S_new' ho0 (Kd.R_lt (by (with_reducible repeat (first | apply Kd.R_alloc | apply Kd.R_drewN | apply Kd.R_drew)); exact HO154.out))) (below_size (by repeat (first | (with_reducible first | exact HB.out | apply below_alloc | apply pw_below_drewN | apply below_drew1) | exact HB.out)))); have n2_ := Aside0.mk (below_step (by repeat (first | (with_reducible first | exact HB.out | apply below_alloc | apply pw_below_drewN | apply below_drew1) | exact HB.out)) hb); clear HO154; clear HB; have HO154 := n0_; have HO157 := n1_; have HB := n2_; clear n0_ n1_ n2_; (try clear hb); (try clear hb2); (try clear hk); (try clear hi); (try clear ho0); obtain ⟨Ao7, co7, eo7⟩ := Kd.S_slice HO157.out; subst eo7))
  go_loopg [3, 10] k (fun kq v3 v10 w' => ∃ (x3_1 : List (List (S29))) (x10_1 : Int), v10 = .int .i64 x10_1 ∧ Aside0 (impl_SplitLines.l0 kq x3_1 t155 (t155.length : Int) x10_1 = some r) ∧ Aside0 (kq ≤ k) ∧ Aside0 (Kd.S (Kd.slice 29 k29) 22 w' w.heap.size (fun _ => True) v3 x3_1) ∧ Aside0 (Kd.S (Kd.slice 51 k51) 52 w' w.heap.size (fun _ => True) (.slice Ao7 t155.length co7) t155) ∧ Aside0 (Below w.heap.size w w'))
  case atStart => exact ⟨(([] : List (List (S29)))), (0), (by first | rfl | (simp; done) | (simp [*]; done)), H', ⟨Nat.le_refl _⟩, ⟨by first | exact Kd.S_nil _ _ _ _ _ | exact Kd.N_nil _ _ _ _ _ | exact Kd.V_nil _ _ _ _ _ | exact Kd.Q_nil _ _ _ _ _ | exact Kd.R_nil _ _ _ _ _⟩, ⟨by (with_reducible repeat (first | apply Kd.S_alloc | apply Kd.S_drewN | apply Kd.S_drew)); exact Kd.S_mono HO157.out (fun _ hk => trivial)⟩, ⟨by repeat (first | (with_reducible first | exact HB.out | apply below_alloc | apply pw_below_drewN | apply below_drew1) | exact HB.out)⟩⟩
  case round =>
    clear H'
    try clear c1
    try clear c2
    try clear p2
    obtain ⟨x3_1, x10_1, rfl, HA, HK1, HO_3, HO_8, HB⟩ := hrel
    cases gk with
    | zero => exact absurd HA.out (by simp [impl_SplitLines.l0])
    | succ k1 =>
      have H := HA.out
      clear HA
      simp only [impl_SplitLines.l0] at H
      by_cases c8 : x10_1 < (t155.length : Int)
      · rw [if_pos c8] at H
        have c8b0 : decide (x10_1 < (t155.length : Int)) = true := decide_eq_true c8
        clear c8
        by_cases c9 : 0 ≤ x10_1
        · rw [if_pos c9] at H
          have c9b0 : decide (0 ≤ x10_1) = true := decide_eq_true c9
          clear c9
          by_cases c10 : x10_1 < (t155.length : Int)
          · rw [if_pos c10] at H
            have c10b0 : decide (x10_1 < (t155.length : Int)) = true := decide_eq_true c10
            clear c10
            replace H := Option.bind_eq_some_iff.mp H
            obtain ⟨t159, A110, H⟩ := H
            replace H : (if x3_1.length < 5864062014805 then (impl_SplitLines.l0 k1 (x3_1 ++ [t159]) t155 (t155.length : Int) (wrap64 (x10_1 + 1))) else (none)) = some r := H
            have A11 := Aside0.mk A110
            clear A110
            by_cases c12 : x3_1.length < 5864062014805
            · rw [if_pos c12] at H
              have LMc12 := Aside0.mk c12
              clear c12
              obtain ⟨y162, hy162⟩ : ∃ y_ : List (List (S29)), y_ = (x3_1 ++ [t159]) := ⟨_, rfl⟩
              replace H : (impl_SplitLines.l0 k1 y162 t155 (t155.length : Int) (wrap64 (x10_1 + 1))) = some r := by first | (rw [hy162]; with_reducible exact H) | (have H2_ := (Option.bind_some _ _).symm.trans H; rw [hy162]; with_reducible exact H2_) | (have H2_ := (Option.bind_some _ _).symm.trans H; with_reducible exact H2_) | with_reducible exact H | (rw [hy162]; exact H) | exact H
              have Ny162 := Aside0.mk hy162
              clear hy162
              have H' := Aside0.mk H
              clear H
              have p158 : 0 ≤ (x10_1 : Int) := of_decide_eq_true (by first | (with_reducible assumption) | assumption)
              have q158 : x10_1 < (t155.length : Int) := of_decide_eq_true (by first | (with_reducible assumption) | assumption)
              obtain ⟨ad158, A158_0, c158_0, e158, hx158_0, hl158_0, hi158_0⟩ := at_L4 (Kd.S_reads' HO_8.out).2.2 x10_1 p158 q158
              cases e158
              obtain ⟨ce158, hce158, hMe158, hcc158⟩ := Kd.S_get HO_8.out [] x10_1 p158 (by first | exact q158 | exact of_decide_eq_true (by first | (with_reducible assumption) | assumption) | (have e_ := (Kd.S_reads' HO_8.out).1; omega))
              obtain ⟨ve158_0, rfl, ge158_0⟩ := hMe158
              have hv158_0 := hcc158 0 _ rfl
              rw [Nat.add_zero, show ((Kd.slice 51 k51)).sz = 1 from rfl, Nat.mul_one] at hv158_0
              replace hv158_0 := Option.some.inj (hv158_0.symm.trans hx158_0)
              rw [hv158_0] at ge158_0
              have HL158_0 := Aside0.mk (show Kd.R k51 51 _ _ _ _ (rd_L4 t155 x10_1) from ge158_0)
              clear hv158_0 ge158_0
              clear hcc158 hce158
              have HR158_0 := Aside0.mk hi158_0
              have HC158_0 := Aside0.mk hl158_0
              clear hi158_0 hl158_0
              replace p158 := eq_true p158
              replace q158 := eq_true q158
              go_wp2_with (first | ((with_reducible refine gate_callee (f := 25) rfl ?_); refine goesL_ (some 16) rfl rfl Tryd.func25 (by kernel_rfl) rfl #[.slice A158_0 (rd_L4 t155 x10_1).length c158_0] rfl (by (try simp only [List.map_toArray, List.map_cons, List.map_nil]); first | done | rfl | (simp only [List.length_drop, List.length_take]; rfl)) ?_; (with_reducible refine (impl_outer.calls k1 _ _ (rd_L4 t155 x10_1) t159 _ ?side1 ?side2 A11.out).mono ?_); (case side1 => repeat (first | exact (by repeat (first | (with_reducible exact HR158_0.out) | (with_reducible refine Kd.C_alloc ?_ _) | (with_reducible refine Kd.C_drewN ?_ _) | (with_reducible refine Kd.C_drew ?_) | exact HR158_0.out)) | (with_reducible refine Kd.C_alloc ?_ _) | (with_reducible refine Kd.C_drewN ?_ _) | (with_reducible refine Kd.C_drew ?_))); (case side2 => exact HC158_0.out); rintro e w13 ⟨v160, rfl, ho0, hb⟩; refine ⟨_, rfl, ?_⟩; have n0_ := Aside0.mk (Kd.S_elder' (by (with_reducible repeat (first | apply Kd.S_alloc | apply Kd.S_drewN | apply Kd.S_drew)); exact HO_3.out) (Kd.R_base ho0) hb); have n1_ := Aside0.mk (Kd.S_below (by (with_reducible repeat (first | apply Kd.S_alloc | apply Kd.S_drewN | apply Kd.S_drew)); exact HO_8.out) hb); have n2_ := Aside0.mk (Kd.R_below (by (with_reducible repeat (first | apply Kd.R_alloc | apply Kd.R_drewN | apply Kd.R_drew)); exact HL158_0.out) hb); have n3_ := Aside0.mk (Kd.R_lower ho0 (below_size (by repeat (first | (with_reducible first | exact HB.out | apply below_alloc | apply pw_below_drewN | apply below_drew1) | exact HB.out)))); have n4_ := Aside0.mk (Kd.C_below (by repeat (first | (with_reducible exact HR158_0.out) | (with_reducible refine Kd.C_alloc ?_ _) | (with_reducible refine Kd.C_drewN ?_ _) | (with_reducible refine Kd.C_drew ?_) | exact HR158_0.out)) hb); have n5_ := Aside0.mk (below_step (by repeat (first | (with_reducible first | exact HB.out | apply below_alloc | apply pw_below_drewN | apply below_drew1) | exact HB.out)) hb); clear HO_3; clear HO_8; clear HL158_0; clear HR158_0; clear HB; have HO_3 := n0_; have HO_8 := n1_; have HL158_0 := n2_; have HO161 := n3_; have HR158_0 := n4_; have HB := n5_; clear n0_ n1_ n2_ n3_ n4_ n5_; (try clear hb); (try clear hb2); (try clear hk); (try clear hi); (try clear ho0); obtain ⟨Ao15, co15, eo15⟩ := Kd.R_slice HO161.out; subst eo15) | ((with_reducible refine gate_builtin (b := .append) (xs := #[.tmp 14, .tmp 17]) rfl ?_); at_builtin; refine Kd.S_append (Kd.slice 29 k29) (w0 := w) w.heap.size rfl (.tmp 14) (.tmp 17) 44 22 (.slice none 0 0) 24 rfl Tryd.underlying44 info22 rfl (by decide) (by omega) u3 x3_1 t159 [.slice Ao15 t159.length co15] (fun _ => True) (fun k_ => some k_ = (.slice Ao15 t159.length co15 : Value).ownBlock) rfl rfl ?aP (fun k_ hk_ => ((Kd.R_mono (ok' := fun k_ => ((fun _ => True)) k_ ∧ some k_ ≠ (u3 : Value).ownBlock) (Kd.R_apart' (HO161.out) (Kd.S_typed HO_3.out) (by decide)) (fun k_ hk => ⟨trivial, hk.2⟩))).1 k_ hk_.symm) ?aF ?aO ?aB ?aS ?aL ?_; (case aP => exact Kd.M_row (Kd.R_mono (Kd.R_tight rfl (Kd.R_mono (ok' := fun k_ => ((fun _ => True)) k_ ∧ some k_ ≠ (u3 : Value).ownBlock) (Kd.R_apart' (HO161.out) (Kd.S_typed HO_3.out) (by decide)) (fun k_ hk => ⟨trivial, hk.2⟩))) (fun _ h_ => h_))); (case aB => exact (by repeat (first | (with_reducible first | exact HB.out | apply below_alloc | apply pw_below_drewN | apply below_drew1) | exact HB.out))); (case aF => exact (fun _ _ => trivial)); (case aO => exact (by (with_reducible repeat (first | apply Kd.S_alloc | apply Kd.S_drewN | apply Kd.S_drew)); exact Kd.S_mono HO_3.out (fun k_ hk => ⟨trivial, fun e_ => hk.2 e_⟩))); (case aS => exact (below_size (by repeat (first | (with_reducible first | exact HB.out | apply below_alloc | apply pw_below_drewN | apply below_drew1) | exact HB.out)))); (case aL => have := LMc12.out; omega); intro v163 w14 ho hb hg hat; rw [← Ny162.out] at ho; have n0_ := Aside0.mk (Kd.S_over' (by (with_reducible repeat (first | apply Kd.S_alloc | apply Kd.S_drewN | apply Kd.S_drew)); exact HO_8.out) (Kd.S_typed (by (with_reducible repeat (first | apply Kd.S_alloc | apply Kd.S_drewN | apply Kd.S_drew)); exact HO_3.out)) (by decide) hg); have n1_ := Aside0.mk (Kd.R_over' (by (with_reducible repeat (first | apply Kd.R_alloc | apply Kd.R_drewN | apply Kd.R_drew)); exact HL158_0.out) (Kd.S_typed (by (with_reducible repeat (first | apply Kd.S_alloc | apply Kd.S_drewN | apply Kd.S_drew)); exact HO_3.out)) (by decide) hg); have n2_ := Aside0.mk (hb); have n3_ := Aside0.mk (ho); clear HO_8; clear HL158_0; clear HB; clear HO_3; clear HO161; have HO_8 := n0_; have HL158_0 := n1_; have HB := n2_; have HO164 := n3_; clear n0_ n1_ n2_ n3_; clear ho hb hg hat))
              go_roundg k1
              case measure => have := HK1.out; omega
              case rel => exact ⟨(y162), (wrap64 (x10_1 + 1)), (by first | rfl | (simp; done) | (simp [*]; done)), H', ⟨by have := HK1.out; omega⟩, ⟨by (with_reducible repeat (first | apply Kd.S_alloc | apply Kd.S_drewN | apply Kd.S_drew)); exact HO164.out⟩, ⟨by (with_reducible repeat (first | apply Kd.S_alloc | apply Kd.S_drewN | apply Kd.S_drew)); exact HO_8.out⟩, ⟨by repeat (first | (with_reducible first | exact HB.out | apply below_alloc | apply pw_below_drewN | apply below_drew1) | exact HB.out)⟩⟩
            · rw [if_neg c12] at H
              exact absurd H (by simp)
          · rw [if_neg c10] at H
            exact absurd H (by simp)
        · rw [if_neg c9] at H
          exact absurd H (by simp)
      · rw [if_neg c8] at H
        have c8b0 : decide (x10_1 < (t155.length : Int)) = false := decide_eq_false c8
        clear c8
        obtain rfl := Option.some.inj H
        go_wp2
        go_ret
        exact ⟨_, by first | rfl | (simp [errW_none, errW_some] <;> rfl) | (simp [*, errW_none, errW_some] <;> rfl), by (with_reducible repeat (first | apply Kd.S_alloc | apply Kd.S_drewN | apply Kd.S_drew)); exact HO_3.out, by repeat (first | (with_reducible first | exact HB.out | apply below_alloc | apply pw_below_drewN | apply below_drew1) | exact HB.out)⟩

/-! ### laws_text: function 19 -/
def laws_text.l0 : Nat → List Int → List (S29) → Int → Int → Option (ByteArray)
  | 0, _, _, _, _ => none
  | k + 1, x3, x6, x7, x8 => if x8 < x7 then (if 0 ≤ x8 then (if x8 < (x6.length : Int) then (if x3.length + ((rd_T29 x6 x8).f1).size < 140737488355328 then (laws_text.l0 k (x3 ++ bytesOf ((rd_T29 x6 x8).f1)) x6 x7 (wrap64 (x8 + 1))) else (none)) else (none)) else (none)) else (some (strOfNums x3))
def laws_text.f (k : Nat) (l0 : List (S29)) : Option (ByteArray) := laws_text.l0 k ([] : List Int) l0 (l0.length : Int) 0
theorem laws_text.mono_l : ∀ k, (∀ y0 y1 y2 y3, LeO (laws_text.l0 k y0 y1 y2 y3) (laws_text.l0 (k + 1) y0 y1 y2 y3))
  | 0 => fun _ _ _ _ r h => by simp [laws_text.l0] at h
  | k + 1 => by
    have ih0 := laws_text.mono_l k
    · intro y0 y1 y2 y3
      unfold laws_text.l0
      repeat' first
      | (with_reducible exact ih0 _ _ _ _)
      | (with_reducible exact LeO.refl _)
      | (with_reducible exact LeO.none _)
      | (with_reducible refine LeO.ite ?_ ?_)
      | (with_reducible refine LeO.bind ?_ (fun _ => ?_))
      | exact ih0 _ _ _ _
      | exact LeO.none _
      | refine LeO.ite ?_ ?_
      | refine LeO.bind ?_ (fun _ => ?_)
theorem laws_text.mono : ∀ a0 k, LeO (laws_text.f k a0) (laws_text.f (k + 1) a0) := by
  intro a0 k
  have ih0 := laws_text.mono_l k
  unfold laws_text.f
  repeat' first
      | (with_reducible exact ih0 _ _ _ _)
      | (with_reducible exact LeO.refl _)
      | (with_reducible exact LeO.none _)
      | (with_reducible refine LeO.ite ?_ ?_)
      | (with_reducible refine LeO.bind ?_ (fun _ => ?_))
      | exact ih0 _ _ _ _
      | exact LeO.none _
      | refine LeO.ite ?_ ?_
      | refine LeO.bind ?_ (fun _ => ?_)
set_option maxHeartbeats 8000000 in
set_option maxRecDepth 100000 in
theorem laws_text.calls (k : Nat) (A0 : Option Addr) (c0 : Nat) (l0 : List (S29)) (r : ByteArray) (w : World) (hr0 : Kd.C k29 w A0 l0.length l0) (hc0 : l0.length ≤ c0) (h : laws_text.f k l0 = some r) :
    Calls Tryd.prog 19 #[.slice A0 l0.length c0] w fun e w' => e = .returned (.string r) ∧ Below w.heap.size w w' := by
  have hu29 := Tryd.underlying29
  have HR0 := Aside0.mk hr0
  have HC0 := Aside0.mk hc0
  clear hr0 hc0
  have HB := Aside0.mk (Below.refl w.heap.size w)
  have H : (laws_text.l0 k ([] : List Int) l0 (l0.length : Int) 0) = some r := h
  clear h
  have H' := Aside0.mk H
  clear H
  go_enter Tryd.func19, Tryd.ntmps19
  go_wp2
  go_loopg [3, 8] k (fun kq v3 v8 w' => ∃ (x3_1 : List Int) (x8_1 : Int), v8 = .int .i64 x8_1 ∧ Aside0 (laws_text.l0 kq x3_1 l0 (l0.length : Int) x8_1 = some r) ∧ Aside0 (kq ≤ k) ∧ Aside0 (Kd.R (Kd.int .u8) 5 w' w.heap.size (fun _ => True) v3 x3_1) ∧ Aside0 (Below w.heap.size w w'))
  case atStart => exact ⟨(([] : List Int)), (0), (by first | rfl | (simp; done) | (simp [*]; done)), H', ⟨Nat.le_refl _⟩, ⟨by first | exact Kd.R_nil _ _ _ _ _ | exact Kd.N_nil _ _ _ _ _ | exact Kd.V_nil _ _ _ _ _ | exact Kd.Q_nil _ _ _ _ _ | exact Kd.S_nil _ _ _ _ _⟩, ⟨by repeat (first | (with_reducible first | exact HB.out | apply below_alloc | apply pw_below_drewN | apply below_drew1) | exact HB.out)⟩⟩
  case round =>
    clear H'
    try clear c1
    obtain ⟨x3_1, x8_1, rfl, HA, HK1, HO_3, HB⟩ := hrel
    cases gk with
    | zero => exact absurd HA.out (by simp [laws_text.l0])
    | succ k1 =>
      have H := HA.out
      clear HA
      simp only [laws_text.l0] at H
      by_cases c2 : x8_1 < (l0.length : Int)
      · rw [if_pos c2] at H
        have c2b0 : decide (x8_1 < (l0.length : Int)) = true := decide_eq_true c2
        clear c2
        by_cases c3 : 0 ≤ x8_1
        · rw [if_pos c3] at H
          have c3b0 : decide (0 ≤ x8_1) = true := decide_eq_true c3
          clear c3
          by_cases c4 : x8_1 < (l0.length : Int)
          · rw [if_pos c4] at H
            have c4b0 : decide (x8_1 < (l0.length : Int)) = true := decide_eq_true c4
            clear c4
            by_cases c5 : x3_1.length + ((rd_T29 l0 x8_1).f1).size < 140737488355328
            · rw [if_pos c5] at H
              have LMc5 := Aside0.mk c5
              clear c5
              obtain ⟨y167, hy167⟩ : ∃ y_ : List Int, y_ = (x3_1 ++ bytesOf ((rd_T29 l0 x8_1).f1)) := ⟨_, rfl⟩
              replace H : (laws_text.l0 k1 y167 l0 (l0.length : Int) (wrap64 (x8_1 + 1))) = some r := by first | (rw [hy167]; with_reducible exact H) | (have H2_ := (Option.bind_some _ _).symm.trans H; rw [hy167]; with_reducible exact H2_) | (have H2_ := (Option.bind_some _ _).symm.trans H; with_reducible exact H2_) | with_reducible exact H | (rw [hy167]; exact H) | exact H
              have Ny167 := Aside0.mk hy167
              clear hy167
              have H' := Aside0.mk H
              clear H
              have p165 : 0 ≤ (x8_1 : Int) := of_decide_eq_true (by first | (with_reducible assumption) | assumption)
              have q165 : x8_1 < (l0.length : Int) := of_decide_eq_true (by first | (with_reducible assumption) | assumption)
              obtain ⟨ad165, e165, hx165_0, hx165_1⟩ := at_T29 HR0.out x8_1 p165 q165
              cases e165
              replace hx165_0 := (HB.out.cell (World.block_lt_of_cell? w _ hx165_0)).trans hx165_0
              replace hx165_1 := (HB.out.cell (World.block_lt_of_cell? w _ hx165_1)).trans hx165_1
              replace p165 := eq_true p165
              replace q165 := eq_true q165
              go_wp2_with (first | ((with_reducible refine gate_dst (N := 5) rfl ?_); refine box_event ?hg (N := 5) ?hd (cs := #[.int .i64 0, .string (⟨#[]⟩ : ByteArray)]) (t := 29) ?hr ?_; (case hd => rfl); (case hg => rfl); (case hr => first | (go_simp; done) | (go_simp; rfl)); intro gb166 hg w6 hbox hb; have n0_ := Aside0.mk (Kd.R_below (by (with_reducible repeat (first | apply Kd.R_alloc | apply Kd.R_drewN | apply Kd.R_drew)); exact HO_3.out) hb); have n1_ := Aside0.mk (below_step (by repeat (first | (with_reducible first | exact HB.out | apply below_alloc | apply pw_below_drewN | apply below_drew1) | exact HB.out)) hb); have n2_ := Aside0.mk (hbox); have n3_ := Aside0.mk ((by rw [hg]; exact (below_size (by repeat (first | (with_reducible first | exact HB.out | apply below_alloc | apply pw_below_drewN | apply below_drew1) | exact HB.out))) : w.heap.size ≤ gb166)); have n4_ := Aside0.mk ((by rw [hg]; exact (below_size (by repeat (first | (with_reducible first | exact HB.out | apply below_alloc | apply pw_below_drewN | apply below_drew1) | exact HB.out))) : w.heap.size ≤ gb166)); clear HO_3; clear HB; have HO_3 := n0_; have HB := n1_; have BK166 := n2_; have GW166 := n3_; have GE166 := n4_; clear n0_ n1_ n2_ n3_ n4_; clear hb hbox hg; have hcz7_0 : w6.cell? ⟨gb166, 0, none⟩ = some (.int .i64 0) := (blk_cell BK166.out 0).trans rfl; have hcz7_1 : w6.cell? ⟨gb166, 1, none⟩ = some (.string (⟨#[]⟩ : ByteArray)) := (blk_cell BK166.out 1).trans rfl; have hfz7_0 := blk_frozen BK166.out 0; have hfz7_1 := blk_frozen BK166.out 1) | (at_builtin; refine print_append_str (w0 := w) w.heap.size rfl (.tmp 12) _ 27 9 5 rfl Tryd.underlying27 Tryd.underlying9 info5 u3 x3_1 ((rd_T29 l0 x8_1).f1) rfl rfl ?aO ?aB ?aS ?aL ?_; (case aB => exact (by repeat (first | (with_reducible first | exact HB.out | apply below_alloc | apply pw_below_drewN | apply below_drew1 | refine below_set ?_ GE166.out) | exact HB.out))); (case aO => exact (Kd.own_of_R (by (with_reducible repeat (first | apply Kd.R_alloc | apply Kd.R_drewN | apply Kd.R_drew)); exact Kd.R_mono (Kd.R_far (p := ⟨gb166, 1, none⟩) (Kd.R_far (p := ⟨gb166, 0, none⟩) (Kd.R_types HO_3.out BK166.out (by decide)) (fun _ hk => hk.2) (.int .i64 ((rd_T29 l0 x8_1).f0))) (fun _ hk => hk.2) (.string ((rd_T29 l0 x8_1).f1))) (fun _ hk => trivial)))); (case aS => exact (below_size (by repeat (first | (with_reducible first | exact HB.out | apply below_alloc | apply pw_below_drewN | apply below_drew1 | refine below_set ?_ GE166.out) | exact HB.out)))); (case aL => have := LMc5.out; omega); intro v168 w8 ho0 hb hg; have ho := Kd.R_of_own (h1 := fun _ => rfl) (ok := fun _ => True) ho0 (fun _ _ => trivial); clear ho0; have hat := True.intro; rw [← Ny167.out] at ho; change Kd.R (Kd.int .u8) 5 w8 w.heap.size (fun _ => True) v168 y167 at ho; have n0_ := Aside0.mk (blk_grown (g := gb166) (o := .cells #[.int .i64 ((rd_T29 l0 x8_1).f0), .string ((rd_T29 l0 x8_1).f1)] 29 (0, 0)) (by (with_reducible repeat (first | refine blk_drewN ?_ _ | refine blk_drew ?_ | refine blk_alloc ?_ _)); refine blk_put (cs := #[.int .i64 ((rd_T29 l0 x8_1).f0), .string (⟨#[]⟩ : ByteArray)]) ?_ 1 _ rfl; (with_reducible repeat (first | refine blk_drewN ?_ _ | refine blk_drew ?_ | refine blk_alloc ?_ _)); refine blk_put (cs := #[.int .i64 0, .string (⟨#[]⟩ : ByteArray)]) ?_ 0 _ rfl; (with_reducible repeat (first | refine blk_drewN ?_ _ | refine blk_drew ?_ | refine blk_alloc ?_ _)); exact BK166.out) hg (Kd.R_ne HO_3.out BK166.out (by decide))); have n1_ := Aside0.mk (hb); have n2_ := Aside0.mk (ho); clear BK166; clear HB; clear HO_3; have BK166 := n0_; have HB := n1_; have HO169 := n2_; clear n0_ n1_ n2_; clear ho hb hg hat))
              go_roundg k1
              case measure => have := HK1.out; omega
              case rel => exact ⟨(y167), (wrap64 (x8_1 + 1)), (by first | rfl | (simp; done) | (simp [*]; done)), H', ⟨by have := HK1.out; omega⟩, ⟨by (with_reducible repeat (first | apply Kd.R_alloc | apply Kd.R_drewN | apply Kd.R_drew)); exact HO169.out⟩, ⟨by repeat (first | (with_reducible first | exact HB.out | apply below_alloc | apply pw_below_drewN | apply below_drew1 | refine below_set ?_ GE166.out) | exact HB.out)⟩⟩
            · rw [if_neg c5] at H
              exact absurd H (by simp)
          · rw [if_neg c4] at H
            exact absurd H (by simp)
        · rw [if_neg c3] at H
          exact absurd H (by simp)
      · rw [if_neg c2] at H
        have c2b0 : decide (x8_1 < (l0.length : Int)) = false := decide_eq_false c2
        clear c2
        obtain rfl := Option.some.inj H
        have hcv9 := own_string (P := Tryd.prog) Tryd.underlying27 Tryd.underlying5 Tryd.underlying9 (Kd.own_of_R HO_3.out)
        go_wp2
        go_ret
        exact ⟨by first | rfl | (simp [errW_none, errW_some] <;> rfl) | (simp [*, errW_none, errW_some] <;> rfl), by repeat (first | (with_reducible first | exact HB.out | apply below_alloc | apply pw_below_drewN | apply below_drew1) | exact HB.out)⟩

/-! ### laws_waking: function 11 -/
def laws_waking.f (k : Nat)  : Option (Bool) := (impl_SplitLines.f k (([(⟨1000, (⟨#[105, 102, 10, 120]⟩ : ByteArray)⟩ : S29), (⟨2000, (⟨#[121]⟩ : ByteArray)⟩ : S29)] : List (S29)))).bind fun t173 => (if (t173.length : Int) = 2 then (if 0 < (t173.length : Int) then ((laws_text.f k (rd_L5 t173 0)).bind fun t177 => (if t177.toList = ([105, 102, 10] : List UInt8) then (if 1 < (t173.length : Int) then ((laws_text.f k (rd_L5 t173 1)).bind fun t179 => (some (t179.toList == ([120, 121] : List UInt8)))) else (none)) else (some false))) else (none)) else (some false))
theorem laws_waking.mono : ∀ k, LeO (laws_waking.f k ) (laws_waking.f (k + 1) ) := by
  intro  k
  unfold laws_waking.f
  repeat' first
      | (with_reducible exact impl_SplitLines.mono _ _)
      | (with_reducible exact laws_text.mono _ _)
      | (with_reducible exact LeO.refl _)
      | (with_reducible exact LeO.none _)
      | (with_reducible refine LeO.ite ?_ ?_)
      | (with_reducible refine LeO.bind ?_ (fun _ => ?_))
      | exact impl_SplitLines.mono _ _
      | exact laws_text.mono _ _
      | exact LeO.none _
      | refine LeO.ite ?_ ?_
      | refine LeO.bind ?_ (fun _ => ?_)
set_option maxHeartbeats 8000000 in
set_option maxRecDepth 100000 in
theorem laws_waking.calls (k : Nat)  (r : Bool) (w : World) (h : laws_waking.f k  = some r) :
    Calls Tryd.prog 11 #[] w fun e w' => e = .returned (.bool r) ∧ Below w.heap.size w w' := by
  have hu29 := Tryd.underlying29
  have HB := Aside0.mk (Below.refl w.heap.size w)
  have H : ((impl_SplitLines.f k (([(⟨1000, (⟨#[105, 102, 10, 120]⟩ : ByteArray)⟩ : S29), (⟨2000, (⟨#[121]⟩ : ByteArray)⟩ : S29)] : List (S29)))).bind fun t173 => (if (t173.length : Int) = 2 then (if 0 < (t173.length : Int) then ((laws_text.f k (rd_L5 t173 0)).bind fun t177 => (if t177.toList = ([105, 102, 10] : List UInt8) then (if 1 < (t173.length : Int) then ((laws_text.f k (rd_L5 t173 1)).bind fun t179 => (some (t179.toList == ([120, 121] : List UInt8)))) else (none)) else (some false))) else (none)) else (some false))) = some r := h
  clear h
  obtain ⟨y170, hy170⟩ : ∃ y_ : List (S29), y_ = (([(⟨1000, (⟨#[105, 102, 10, 120]⟩ : ByteArray)⟩ : S29), (⟨2000, (⟨#[121]⟩ : ByteArray)⟩ : S29)] : List (S29))) := ⟨_, rfl⟩
  replace H : ((impl_SplitLines.f k y170).bind fun t173 => (if (t173.length : Int) = 2 then (if 0 < (t173.length : Int) then ((laws_text.f k (rd_L5 t173 0)).bind fun t177 => (if t177.toList = ([105, 102, 10] : List UInt8) then (if 1 < (t173.length : Int) then ((laws_text.f k (rd_L5 t173 1)).bind fun t179 => (some (t179.toList == ([120, 121] : List UInt8)))) else (none)) else (some false))) else (none)) else (some false))) = some r := by first | (rw [hy170]; with_reducible exact H) | (have H2_ := (Option.bind_some _ _).symm.trans H; rw [hy170]; with_reducible exact H2_) | (have H2_ := (Option.bind_some _ _).symm.trans H; with_reducible exact H2_) | with_reducible exact H | (rw [hy170]; exact H) | exact H
  have Ny170 := Aside0.mk hy170
  clear hy170
  replace H := Option.bind_eq_some_iff.mp H
  obtain ⟨t173, A10, H⟩ := H
  replace H : (if (t173.length : Int) = 2 then (if 0 < (t173.length : Int) then ((laws_text.f k (rd_L5 t173 0)).bind fun t177 => (if t177.toList = ([105, 102, 10] : List UInt8) then (if 1 < (t173.length : Int) then ((laws_text.f k (rd_L5 t173 1)).bind fun t179 => (some (t179.toList == ([120, 121] : List UInt8)))) else (none)) else (some false))) else (none)) else (some false)) = some r := H
  have A1 := Aside0.mk A10
  clear A10
  by_cases c2 : (t173.length : Int) = 2
  · rw [if_pos c2] at H
    have c2b0 : ((t173.length : Int) == 2) = true := beq_iff_eq.mpr c2
    have c2b1 : ((t173.length : Int) != 2) = false := bne_eq_false_iff_eq.mpr c2
    clear c2
    by_cases c3 : 0 < (t173.length : Int)
    · rw [if_pos c3] at H
      have c3b0 : decide (0 < (t173.length : Int)) = true := decide_eq_true c3
      have c3b1 : decide (0 < t173.length) = true := decide_eq_true (by omega)
      clear c3
      replace H := Option.bind_eq_some_iff.mp H
      obtain ⟨t177, A40, H⟩ := H
      replace H : (if t177.toList = ([105, 102, 10] : List UInt8) then (if 1 < (t173.length : Int) then ((laws_text.f k (rd_L5 t173 1)).bind fun t179 => (some (t179.toList == ([120, 121] : List UInt8)))) else (none)) else (some false)) = some r := H
      have A4 := Aside0.mk A40
      clear A40
      by_cases c5 : t177.toList = ([105, 102, 10] : List UInt8)
      · rw [if_pos c5] at H
        have c5b0 : (t177.toList == ([105, 102, 10] : List UInt8)) = true := beq_iff_eq.mpr c5
        have c5b1 : (t177.toList != ([105, 102, 10] : List UInt8)) = false := bne_eq_false_iff_eq.mpr c5
        clear c5
        by_cases c6 : 1 < (t173.length : Int)
        · rw [if_pos c6] at H
          have c6b0 : decide (1 < (t173.length : Int)) = true := decide_eq_true c6
          have c6b1 : decide (1 < t173.length) = true := decide_eq_true (by omega)
          clear c6
          replace H := Option.bind_eq_some_iff.mp H
          obtain ⟨t179, A70, H⟩ := H
          replace H : (some (t179.toList == ([120, 121] : List UInt8))) = some r := H
          have A7 := Aside0.mk A70
          clear A70
          obtain rfl := Option.some.inj H
          go_enter Tryd.func11, Tryd.ntmps11
          go_wp2_with (first | ((with_reducible refine gate_dst (N := 4) rfl ?_); refine Kd.R_lit k29 _ 29 ?hg (N := 4) ?hd (xs := ([(⟨1000, (⟨#[105, 102, 10, 120]⟩ : ByteArray)⟩ : S29), (⟨2000, (⟨#[121]⟩ : ByteArray)⟩ : S29)] : List (S29))) (inner := [.int .i64 1000, .string (⟨#[105, 102, 10, 120]⟩ : ByteArray), .int .i64 2000, .string (⟨#[121]⟩ : ByteArray)]) (ok := fun _ => True) (okp := fun _ => True) ?hr ?hp (fun _ hk => hk) trivial (Below.refl _ _) (Nat.le_refl _) (by simp) ?_; (case hd => rfl); (case hg => rfl); (case hr => first | (go_simp; done) | (go_simp; rfl)); (case hp => exact (Reps.c2 (show Kd.M k29 _ _ _ (⟨1000, (⟨#[105, 102, 10, 120]⟩ : ByteArray)⟩ : S29) [.int .i64 1000, .string (⟨#[105, 102, 10, 120]⟩ : ByteArray)] from (k29_mkM _ _ _ (⟨1000, (⟨#[105, 102, 10, 120]⟩ : ByteArray)⟩ : S29) )) (Reps.c2 (show Kd.M k29 _ _ _ (⟨2000, (⟨#[121]⟩ : ByteArray)⟩ : S29) [.int .i64 2000, .string (⟨#[121]⟩ : ByteArray)] from (k29_mkM _ _ _ (⟨2000, (⟨#[121]⟩ : ByteArray)⟩ : S29) )) (Reps.none _ _)))); intro v171 w8 ho9 hb hg_ hnew_; clear hg_ hnew_; (first | rw [← Ny170.out] at ho9 | (simp only [Int.reduceToNat] at ho9; rw [← Ny170.out] at ho9)); have n0_ := Aside0.mk (Kd.R_lower ho9 (below_size (by repeat (first | (with_reducible first | exact HB.out | apply below_alloc | apply pw_below_drewN | apply below_drew1) | exact HB.out)))); have n1_ := Aside0.mk (below_step (by repeat (first | (with_reducible first | exact HB.out | apply below_alloc | apply pw_below_drewN | apply below_drew1) | exact HB.out)) hb); clear HB; have HO172 := n0_; have HB := n1_; clear n0_ n1_; clear hb ho9; obtain ⟨Ao10, co10, eo10⟩ := Kd.R_slice HO172.out; subst eo10) | ((with_reducible refine gate_callee (f := 18) rfl ?_); refine goesL_ (some 5) rfl rfl Tryd.func18 (by kernel_rfl) rfl #[.slice Ao10 y170.length co10] rfl (by (try simp only [List.map_toArray, List.map_cons, List.map_nil]); first | done | rfl | (simp only [List.length_drop, List.length_take]; rfl)) ?_; (with_reducible refine (impl_SplitLines.calls k _ _ y170 t173 _ ?side1 ?side2 A1.out).mono ?_); (case side1 => repeat (first | exact (Kd.R_reads' HO172.out).2.2 | (with_reducible refine Kd.C_alloc ?_ _) | (with_reducible refine Kd.C_drewN ?_ _) | (with_reducible refine Kd.C_drew ?_))); (case side2 => exact (Kd.R_reads' HO172.out).2.1); rintro e w11 ⟨v174, rfl, ho0, hb⟩; refine ⟨_, rfl, ?_⟩; have n0_ := Aside0.mk (Kd.R_below (by (with_reducible repeat (first | apply Kd.R_alloc | apply Kd.R_drewN | apply Kd.R_drew)); exact HO172.out) hb); have n1_ := Aside0.mk (Kd.S_lower (Kd.S_new' ho0 (Kd.R_lt (by (with_reducible repeat (first | apply Kd.R_alloc | apply Kd.R_drewN | apply Kd.R_drew)); exact HO172.out))) (below_size (by repeat (first | (with_reducible first | exact HB.out | apply below_alloc | apply pw_below_drewN | apply below_drew1) | exact HB.out)))); have n2_ := Aside0.mk (below_step (by repeat (first | (with_reducible first | exact HB.out | apply below_alloc | apply pw_below_drewN | apply below_drew1) | exact HB.out)) hb); clear HO172; clear HB; have HO172 := n0_; have HO175 := n1_; have HB := n2_; clear n0_ n1_ n2_; (try clear hb); (try clear hb2); (try clear hk); (try clear hi); (try clear ho0); obtain ⟨Ao12, co12, eo12⟩ := Kd.S_slice HO175.out; subst eo12; have p176 : 0 ≤ (0 : Int) := (by omega); have q176 : 0 < (t173.length : Int) := of_decide_eq_true (by first | (with_reducible assumption) | assumption); obtain ⟨ad176, A176_0, c176_0, e176, hx176_0, hl176_0, hi176_0⟩ := at_L5 (Kd.S_reads' HO175.out).2.2 0 p176 q176; cases e176; obtain ⟨ce176, hce176, hMe176, hcc176⟩ := Kd.S_get HO175.out [] 0 p176 (by first | exact q176 | exact of_decide_eq_true (by first | (with_reducible assumption) | assumption) | (have e_ := (Kd.S_reads' HO175.out).1; omega)); obtain ⟨ve176_0, rfl, ge176_0⟩ := hMe176; have hv176_0 := hcc176 0 _ rfl; rw [Nat.add_zero, show ((Kd.slice 29 k29)).sz = 1 from rfl, Nat.mul_one] at hv176_0; replace hv176_0 := Option.some.inj (hv176_0.symm.trans hx176_0); rw [hv176_0] at ge176_0; have HL176_0 := Aside0.mk (show Kd.R k29 29 _ _ _ _ (rd_L5 t173 0) from ge176_0); clear hv176_0 ge176_0; clear hcc176 hce176; have qi176 : (0 < t173.length) = True := eq_true (by omega); (try rw [show ((0 : Int)).toNat = 0 from rfl] at hx176_0); (try rw [Addr.add_zero'] at hx176_0); have HR176_0 := Aside0.mk hi176_0; have HC176_0 := Aside0.mk hl176_0; clear hi176_0 hl176_0; replace p176 := eq_true p176; replace q176 := eq_true q176) | (go_at_call 19; (with_reducible refine (laws_text.calls k _ _ (rd_L5 t173 0) t177 _ ?side1 ?side2 A4.out).mono ?_); (case side1 => repeat (first | exact (by repeat (first | (with_reducible exact HR176_0.out) | (with_reducible refine Kd.C_alloc ?_ _) | (with_reducible refine Kd.C_drewN ?_ _) | (with_reducible refine Kd.C_drew ?_) | exact HR176_0.out)) | (with_reducible refine Kd.C_alloc ?_ _) | (with_reducible refine Kd.C_drewN ?_ _) | (with_reducible refine Kd.C_drew ?_))); (case side2 => exact HC176_0.out); rintro e w13 ⟨rfl, hb⟩; have n0_ := Aside0.mk (Kd.R_below (by (with_reducible repeat (first | apply Kd.R_alloc | apply Kd.R_drewN | apply Kd.R_drew)); exact HO172.out) hb); have n1_ := Aside0.mk (Kd.S_below (by (with_reducible repeat (first | apply Kd.S_alloc | apply Kd.S_drewN | apply Kd.S_drew)); exact HO175.out) hb); have n2_ := Aside0.mk (Kd.R_below (by (with_reducible repeat (first | apply Kd.R_alloc | apply Kd.R_drewN | apply Kd.R_drew)); exact HL176_0.out) hb); have n3_ := Aside0.mk (Kd.C_below (by repeat (first | (with_reducible exact HR176_0.out) | (with_reducible refine Kd.C_alloc ?_ _) | (with_reducible refine Kd.C_drewN ?_ _) | (with_reducible refine Kd.C_drew ?_) | exact HR176_0.out)) hb); have n4_ := Aside0.mk (below_step (by repeat (first | (with_reducible first | exact HB.out | apply below_alloc | apply pw_below_drewN | apply below_drew1) | exact HB.out)) hb); clear HO172; clear HO175; clear HL176_0; clear HR176_0; clear HB; have HO172 := n0_; have HO175 := n1_; have HL176_0 := n2_; have HR176_0 := n3_; have HB := n4_; clear n0_ n1_ n2_ n3_ n4_; (try clear hb); (try clear hb2); (try clear hk); (try clear hi); have p178 : 0 ≤ (1 : Int) := (by omega); have q178 : 1 < (t173.length : Int) := of_decide_eq_true (by first | (with_reducible assumption) | assumption); obtain ⟨ad178, A178_0, c178_0, e178, hx178_0, hl178_0, hi178_0⟩ := at_L5 (Kd.S_reads' HO175.out).2.2 1 p178 q178; obtain rfl : ad176 = ad178 := (by injection e178); obtain ⟨ce178, hce178, hMe178, hcc178⟩ := Kd.S_get HO175.out [] 1 p178 (by first | exact q178 | exact of_decide_eq_true (by first | (with_reducible assumption) | assumption) | (have e_ := (Kd.S_reads' HO175.out).1; omega)); obtain ⟨ve178_0, rfl, ge178_0⟩ := hMe178; have hv178_0 := hcc178 0 _ rfl; rw [Nat.add_zero, show ((Kd.slice 29 k29)).sz = 1 from rfl, Nat.mul_one] at hv178_0; replace hv178_0 := Option.some.inj (hv178_0.symm.trans hx178_0); rw [hv178_0] at ge178_0; have HL178_0 := Aside0.mk (show Kd.R k29 29 _ _ _ _ (rd_L5 t173 1) from ge178_0); clear hv178_0 ge178_0; clear hcc178 hce178; (try simp only [show (1 : Int).toNat = 1 from rfl, Nat.reduceMul, Nat.reduceEqDiff, Go.Addr.add, ↓reduceIte] at hx178_0); have qi178 : (1 < t173.length) = True := eq_true (by omega); (try rw [show ((1 : Int)).toNat = 1 from rfl] at hx178_0); have HR178_0 := Aside0.mk hi178_0; have HC178_0 := Aside0.mk hl178_0; clear hi178_0 hl178_0; replace p178 := eq_true p178; replace q178 := eq_true q178) | (go_at_call 19; (with_reducible refine (laws_text.calls k _ _ (rd_L5 t173 1) t179 _ ?side1 ?side2 A7.out).mono ?_); (case side1 => repeat (first | exact (by repeat (first | (with_reducible exact HR178_0.out) | (with_reducible refine Kd.C_alloc ?_ _) | (with_reducible refine Kd.C_drewN ?_ _) | (with_reducible refine Kd.C_drew ?_) | exact HR178_0.out)) | (with_reducible refine Kd.C_alloc ?_ _) | (with_reducible refine Kd.C_drewN ?_ _) | (with_reducible refine Kd.C_drew ?_))); (case side2 => exact HC178_0.out); rintro e w14 ⟨rfl, hb⟩; have n0_ := Aside0.mk (Kd.R_below (by (with_reducible repeat (first | apply Kd.R_alloc | apply Kd.R_drewN | apply Kd.R_drew)); exact HO172.out) hb); have n1_ := Aside0.mk (Kd.S_below (by (with_reducible repeat (first | apply Kd.S_alloc | apply Kd.S_drewN | apply Kd.S_drew)); exact HO175.out) hb); have n2_ := Aside0.mk (Kd.R_below (by (with_reducible repeat (first | apply Kd.R_alloc | apply Kd.R_drewN | apply Kd.R_drew)); exact HL176_0.out) hb); have n3_ := Aside0.mk (Kd.R_below (by (with_reducible repeat (first | apply Kd.R_alloc | apply Kd.R_drewN | apply Kd.R_drew)); exact HL178_0.out) hb); have n4_ := Aside0.mk (Kd.C_below (by repeat (first | (with_reducible exact HR176_0.out) | (with_reducible refine Kd.C_alloc ?_ _) | (with_reducible refine Kd.C_drewN ?_ _) | (with_reducible refine Kd.C_drew ?_) | exact HR176_0.out)) hb); have n5_ := Aside0.mk (Kd.C_below (by repeat (first | (with_reducible exact HR178_0.out) | (with_reducible refine Kd.C_alloc ?_ _) | (with_reducible refine Kd.C_drewN ?_ _) | (with_reducible refine Kd.C_drew ?_) | exact HR178_0.out)) hb); have n6_ := Aside0.mk (below_step (by repeat (first | (with_reducible first | exact HB.out | apply below_alloc | apply pw_below_drewN | apply below_drew1) | exact HB.out)) hb); clear HO172; clear HO175; clear HL176_0; clear HL178_0; clear HR176_0; clear HR178_0; clear HB; have HO172 := n0_; have HO175 := n1_; have HL176_0 := n2_; have HL178_0 := n3_; have HR176_0 := n4_; have HR178_0 := n5_; have HB := n6_; clear n0_ n1_ n2_ n3_ n4_ n5_ n6_; (try clear hb); (try clear hb2); (try clear hk); (try clear hi)))
          go_ret
          exact ⟨by first | rfl | (simp [errW_none, errW_some] <;> rfl) | (simp [*, errW_none, errW_some] <;> rfl), by repeat (first | (with_reducible first | exact HB.out | apply below_alloc | apply pw_below_drewN | apply below_drew1) | exact HB.out)⟩
        · rw [if_neg c6] at H
          exact absurd H (by simp)
      · rw [if_neg c5] at H
        have c5b0 : (t177.toList == ([105, 102, 10] : List UInt8)) = false := beq_eq_false_iff_ne.mpr c5
        have c5b1 : (t177.toList != ([105, 102, 10] : List UInt8)) = true := bne_iff_ne.mpr c5
        obtain rfl := Option.some.inj H
        go_enter Tryd.func11, Tryd.ntmps11
        go_wp2_with (first | ((with_reducible refine gate_dst (N := 4) rfl ?_); refine Kd.R_lit k29 _ 29 ?hg (N := 4) ?hd (xs := ([(⟨1000, (⟨#[105, 102, 10, 120]⟩ : ByteArray)⟩ : S29), (⟨2000, (⟨#[121]⟩ : ByteArray)⟩ : S29)] : List (S29))) (inner := [.int .i64 1000, .string (⟨#[105, 102, 10, 120]⟩ : ByteArray), .int .i64 2000, .string (⟨#[121]⟩ : ByteArray)]) (ok := fun _ => True) (okp := fun _ => True) ?hr ?hp (fun _ hk => hk) trivial (Below.refl _ _) (Nat.le_refl _) (by simp) ?_; (case hd => rfl); (case hg => rfl); (case hr => first | (go_simp; done) | (go_simp; rfl)); (case hp => exact (Reps.c2 (show Kd.M k29 _ _ _ (⟨1000, (⟨#[105, 102, 10, 120]⟩ : ByteArray)⟩ : S29) [.int .i64 1000, .string (⟨#[105, 102, 10, 120]⟩ : ByteArray)] from (k29_mkM _ _ _ (⟨1000, (⟨#[105, 102, 10, 120]⟩ : ByteArray)⟩ : S29) )) (Reps.c2 (show Kd.M k29 _ _ _ (⟨2000, (⟨#[121]⟩ : ByteArray)⟩ : S29) [.int .i64 2000, .string (⟨#[121]⟩ : ByteArray)] from (k29_mkM _ _ _ (⟨2000, (⟨#[121]⟩ : ByteArray)⟩ : S29) )) (Reps.none _ _)))); intro v171 w15 ho16 hb hg_ hnew_; clear hg_ hnew_; (first | rw [← Ny170.out] at ho16 | (simp only [Int.reduceToNat] at ho16; rw [← Ny170.out] at ho16)); have n0_ := Aside0.mk (Kd.R_lower ho16 (below_size (by repeat (first | (with_reducible first | exact HB.out | apply below_alloc | apply pw_below_drewN | apply below_drew1) | exact HB.out)))); have n1_ := Aside0.mk (below_step (by repeat (first | (with_reducible first | exact HB.out | apply below_alloc | apply pw_below_drewN | apply below_drew1) | exact HB.out)) hb); clear HB; have HO172 := n0_; have HB := n1_; clear n0_ n1_; clear hb ho16; obtain ⟨Ao17, co17, eo17⟩ := Kd.R_slice HO172.out; subst eo17) | ((with_reducible refine gate_callee (f := 18) rfl ?_); refine goesL_ (some 5) rfl rfl Tryd.func18 (by kernel_rfl) rfl #[.slice Ao17 y170.length co17] rfl (by (try simp only [List.map_toArray, List.map_cons, List.map_nil]); first | done | rfl | (simp only [List.length_drop, List.length_take]; rfl)) ?_; (with_reducible refine (impl_SplitLines.calls k _ _ y170 t173 _ ?side1 ?side2 A1.out).mono ?_); (case side1 => repeat (first | exact (Kd.R_reads' HO172.out).2.2 | (with_reducible refine Kd.C_alloc ?_ _) | (with_reducible refine Kd.C_drewN ?_ _) | (with_reducible refine Kd.C_drew ?_))); (case side2 => exact (Kd.R_reads' HO172.out).2.1); rintro e w18 ⟨v174, rfl, ho0, hb⟩; refine ⟨_, rfl, ?_⟩; have n0_ := Aside0.mk (Kd.R_below (by (with_reducible repeat (first | apply Kd.R_alloc | apply Kd.R_drewN | apply Kd.R_drew)); exact HO172.out) hb); have n1_ := Aside0.mk (Kd.S_lower (Kd.S_new' ho0 (Kd.R_lt (by (with_reducible repeat (first | apply Kd.R_alloc | apply Kd.R_drewN | apply Kd.R_drew)); exact HO172.out))) (below_size (by repeat (first | (with_reducible first | exact HB.out | apply below_alloc | apply pw_below_drewN | apply below_drew1) | exact HB.out)))); have n2_ := Aside0.mk (below_step (by repeat (first | (with_reducible first | exact HB.out | apply below_alloc | apply pw_below_drewN | apply below_drew1) | exact HB.out)) hb); clear HO172; clear HB; have HO172 := n0_; have HO175 := n1_; have HB := n2_; clear n0_ n1_ n2_; (try clear hb); (try clear hb2); (try clear hk); (try clear hi); (try clear ho0); obtain ⟨Ao19, co19, eo19⟩ := Kd.S_slice HO175.out; subst eo19; have p176 : 0 ≤ (0 : Int) := (by omega); have q176 : 0 < (t173.length : Int) := of_decide_eq_true (by first | (with_reducible assumption) | assumption); obtain ⟨ad176, A176_0, c176_0, e176, hx176_0, hl176_0, hi176_0⟩ := at_L5 (Kd.S_reads' HO175.out).2.2 0 p176 q176; cases e176; obtain ⟨ce176, hce176, hMe176, hcc176⟩ := Kd.S_get HO175.out [] 0 p176 (by first | exact q176 | exact of_decide_eq_true (by first | (with_reducible assumption) | assumption) | (have e_ := (Kd.S_reads' HO175.out).1; omega)); obtain ⟨ve176_0, rfl, ge176_0⟩ := hMe176; have hv176_0 := hcc176 0 _ rfl; rw [Nat.add_zero, show ((Kd.slice 29 k29)).sz = 1 from rfl, Nat.mul_one] at hv176_0; replace hv176_0 := Option.some.inj (hv176_0.symm.trans hx176_0); rw [hv176_0] at ge176_0; have HL176_0 := Aside0.mk (show Kd.R k29 29 _ _ _ _ (rd_L5 t173 0) from ge176_0); clear hv176_0 ge176_0; clear hcc176 hce176; have qi176 : (0 < t173.length) = True := eq_true (by omega); (try rw [show ((0 : Int)).toNat = 0 from rfl] at hx176_0); (try rw [Addr.add_zero'] at hx176_0); have HR176_0 := Aside0.mk hi176_0; have HC176_0 := Aside0.mk hl176_0; clear hi176_0 hl176_0; replace p176 := eq_true p176; replace q176 := eq_true q176) | (go_at_call 19; (with_reducible refine (laws_text.calls k _ _ (rd_L5 t173 0) t177 _ ?side1 ?side2 A4.out).mono ?_); (case side1 => repeat (first | exact (by repeat (first | (with_reducible exact HR176_0.out) | (with_reducible refine Kd.C_alloc ?_ _) | (with_reducible refine Kd.C_drewN ?_ _) | (with_reducible refine Kd.C_drew ?_) | exact HR176_0.out)) | (with_reducible refine Kd.C_alloc ?_ _) | (with_reducible refine Kd.C_drewN ?_ _) | (with_reducible refine Kd.C_drew ?_))); (case side2 => exact HC176_0.out); rintro e w20 ⟨rfl, hb⟩; have n0_ := Aside0.mk (Kd.R_below (by (with_reducible repeat (first | apply Kd.R_alloc | apply Kd.R_drewN | apply Kd.R_drew)); exact HO172.out) hb); have n1_ := Aside0.mk (Kd.S_below (by (with_reducible repeat (first | apply Kd.S_alloc | apply Kd.S_drewN | apply Kd.S_drew)); exact HO175.out) hb); have n2_ := Aside0.mk (Kd.R_below (by (with_reducible repeat (first | apply Kd.R_alloc | apply Kd.R_drewN | apply Kd.R_drew)); exact HL176_0.out) hb); have n3_ := Aside0.mk (Kd.C_below (by repeat (first | (with_reducible exact HR176_0.out) | (with_reducible refine Kd.C_alloc ?_ _) | (with_reducible refine Kd.C_drewN ?_ _) | (with_reducible refine Kd.C_drew ?_) | exact HR176_0.out)) hb); have n4_ := Aside0.mk (below_step (by repeat (first | (with_reducible first | exact HB.out | apply below_alloc | apply pw_below_drewN | apply below_drew1) | exact HB.out)) hb); clear HO172; clear HO175; clear HL176_0; clear HR176_0; clear HB; have HO172 := n0_; have HO175 := n1_; have HL176_0 := n2_; have HR176_0 := n3_; have HB := n4_; clear n0_ n1_ n2_ n3_ n4_; (try clear hb); (try clear hb2); (try clear hk); (try clear hi)))
        go_ret
        exact ⟨by first | rfl | (simp [errW_none, errW_some] <;> rfl) | (simp [*, errW_none, errW_some] <;> rfl), by repeat (first | (with_reducible first | exact HB.out | apply below_alloc | apply pw_below_drewN | apply below_drew1) | exact HB.out)⟩
    · rw [if_neg c3] at H
      exact absurd H (by simp)
  · rw [if_neg c2] at H
    have c2b0 : ((t173.length : Int) == 2) = false := beq_eq_false_iff_ne.mpr c2
    have c2b1 : ((t173.length : Int) != 2) = true := bne_iff_ne.mpr c2
    obtain rfl := Option.some.inj H
    go_enter Tryd.func11, Tryd.ntmps11
    go_wp2_with (first | ((with_reducible refine gate_dst (N := 4) rfl ?_); refine Kd.R_lit k29 _ 29 ?hg (N := 4) ?hd (xs := ([(⟨1000, (⟨#[105, 102, 10, 120]⟩ : ByteArray)⟩ : S29), (⟨2000, (⟨#[121]⟩ : ByteArray)⟩ : S29)] : List (S29))) (inner := [.int .i64 1000, .string (⟨#[105, 102, 10, 120]⟩ : ByteArray), .int .i64 2000, .string (⟨#[121]⟩ : ByteArray)]) (ok := fun _ => True) (okp := fun _ => True) ?hr ?hp (fun _ hk => hk) trivial (Below.refl _ _) (Nat.le_refl _) (by simp) ?_; (case hd => rfl); (case hg => rfl); (case hr => first | (go_simp; done) | (go_simp; rfl)); (case hp => exact (Reps.c2 (show Kd.M k29 _ _ _ (⟨1000, (⟨#[105, 102, 10, 120]⟩ : ByteArray)⟩ : S29) [.int .i64 1000, .string (⟨#[105, 102, 10, 120]⟩ : ByteArray)] from (k29_mkM _ _ _ (⟨1000, (⟨#[105, 102, 10, 120]⟩ : ByteArray)⟩ : S29) )) (Reps.c2 (show Kd.M k29 _ _ _ (⟨2000, (⟨#[121]⟩ : ByteArray)⟩ : S29) [.int .i64 2000, .string (⟨#[121]⟩ : ByteArray)] from (k29_mkM _ _ _ (⟨2000, (⟨#[121]⟩ : ByteArray)⟩ : S29) )) (Reps.none _ _)))); intro v171 w21 ho22 hb hg_ hnew_; clear hg_ hnew_; (first | rw [← Ny170.out] at ho22 | (simp only [Int.reduceToNat] at ho22; rw [← Ny170.out] at ho22)); have n0_ := Aside0.mk (Kd.R_lower ho22 (below_size (by repeat (first | (with_reducible first | exact HB.out | apply below_alloc | apply pw_below_drewN | apply below_drew1) | exact HB.out)))); have n1_ := Aside0.mk (below_step (by repeat (first | (with_reducible first | exact HB.out | apply below_alloc | apply pw_below_drewN | apply below_drew1) | exact HB.out)) hb); clear HB; have HO172 := n0_; have HB := n1_; clear n0_ n1_; clear hb ho22; obtain ⟨Ao23, co23, eo23⟩ := Kd.R_slice HO172.out; subst eo23) | ((with_reducible refine gate_callee (f := 18) rfl ?_); refine goesL_ (some 5) rfl rfl Tryd.func18 (by kernel_rfl) rfl #[.slice Ao23 y170.length co23] rfl (by (try simp only [List.map_toArray, List.map_cons, List.map_nil]); first | done | rfl | (simp only [List.length_drop, List.length_take]; rfl)) ?_; (with_reducible refine (impl_SplitLines.calls k _ _ y170 t173 _ ?side1 ?side2 A1.out).mono ?_); (case side1 => repeat (first | exact (Kd.R_reads' HO172.out).2.2 | (with_reducible refine Kd.C_alloc ?_ _) | (with_reducible refine Kd.C_drewN ?_ _) | (with_reducible refine Kd.C_drew ?_))); (case side2 => exact (Kd.R_reads' HO172.out).2.1); rintro e w24 ⟨v174, rfl, ho0, hb⟩; refine ⟨_, rfl, ?_⟩; have n0_ := Aside0.mk (Kd.R_below (by (with_reducible repeat (first | apply Kd.R_alloc | apply Kd.R_drewN | apply Kd.R_drew)); exact HO172.out) hb); have n1_ := Aside0.mk (Kd.S_lower (Kd.S_new' ho0 (Kd.R_lt (by (with_reducible repeat (first | apply Kd.R_alloc | apply Kd.R_drewN | apply Kd.R_drew)); exact HO172.out))) (below_size (by repeat (first | (with_reducible first | exact HB.out | apply below_alloc | apply pw_below_drewN | apply below_drew1) | exact HB.out)))); have n2_ := Aside0.mk (below_step (by repeat (first | (with_reducible first | exact HB.out | apply below_alloc | apply pw_below_drewN | apply below_drew1) | exact HB.out)) hb); clear HO172; clear HB; have HO172 := n0_; have HO175 := n1_; have HB := n2_; clear n0_ n1_ n2_; (try clear hb); (try clear hb2); (try clear hk); (try clear hi); (try clear ho0); obtain ⟨Ao25, co25, eo25⟩ := Kd.S_slice HO175.out; subst eo25))
    go_ret
    exact ⟨by first | rfl | (simp [errW_none, errW_some] <;> rfl) | (simp [*, errW_none, errW_some] <;> rfl), by repeat (first | (with_reducible first | exact HB.out | apply below_alloc | apply pw_below_drewN | apply below_drew1) | exact HB.out)⟩

/-! ### laws_zzFits24: function 20 -/
def laws_zzFits24.f (k : Nat) (a0_0 : Int) (l0_1 : List (S29)) : Option (Bool) := (laws_zzFits4.f k l0_1).bind fun t181 => (if t181 = true then (some true) else (some false))
theorem laws_zzFits24.mono : ∀ a0 a1 k, LeO (laws_zzFits24.f k a0 a1) (laws_zzFits24.f (k + 1) a0 a1) := by
  intro a0 a1 k
  unfold laws_zzFits24.f
  repeat' first
      | (with_reducible exact laws_zzFits4.mono _ _)
      | (with_reducible exact LeO.refl _)
      | (with_reducible exact LeO.none _)
      | (with_reducible refine LeO.ite ?_ ?_)
      | (with_reducible refine LeO.bind ?_ (fun _ => ?_))
      | exact laws_zzFits4.mono _ _
      | exact LeO.none _
      | refine LeO.ite ?_ ?_
      | refine LeO.bind ?_ (fun _ => ?_)
set_option maxHeartbeats 8000000 in
set_option maxRecDepth 100000 in
theorem laws_zzFits24.calls (k : Nat) (a0_0 : Int) (A0_1 : Option Addr) (c0_1 : Nat) (l0_1 : List (S29)) (r : Bool) (w : World) (hr0_1 : Kd.C k29 w A0_1 l0_1.length l0_1) (hc0_1 : l0_1.length ≤ c0_1) (h : laws_zzFits24.f k a0_0 l0_1 = some r) :
    Calls Tryd.prog 20 #[.agg #[.int .i64 a0_0, .slice A0_1 l0_1.length c0_1]] w fun e w' => e = .returned (.bool r) ∧ Below w.heap.size w w' := by
  have hu34 := Tryd.underlying34
  have HR0_1 := Aside0.mk hr0_1
  have HC0_1 := Aside0.mk hc0_1
  clear hr0_1 hc0_1
  have HB := Aside0.mk (Below.refl w.heap.size w)
  have H : ((laws_zzFits4.f k l0_1).bind fun t181 => (if t181 = true then (some true) else (some false))) = some r := h
  clear h
  replace H := Option.bind_eq_some_iff.mp H
  obtain ⟨t181, A20, H⟩ := H
  replace H : (if t181 = true then (some true) else (some false)) = some r := H
  have A2 := Aside0.mk A20
  clear A20
  by_cases c3 : t181 = true
  · subst c3
    have H1 : (some true) = some r := by rw [if_pos rfl] at H; exact H
    clear H
    have H := H1
    clear H1
    obtain rfl := Option.some.inj H
    go_enter Tryd.func20, Tryd.ntmps20
    go_wp2_with (first | ((with_reducible refine gate_dst (N := 1) rfl ?_); refine box_event ?hg (N := 1) ?hd (cs := #[.int .i64 a0_0, .slice A0_1 l0_1.length c0_1]) (t := 34) ?hr ?_; (case hd => rfl); (case hg => rfl); (case hr => first | (go_simp; done) | (go_simp; rfl)); intro gb180 hg w4 hbox hb; have n0_ := Aside0.mk (below_step (by repeat (first | (with_reducible first | exact HB.out | apply below_alloc | apply pw_below_drewN | apply below_drew1) | exact HB.out)) hb); have n1_ := Aside0.mk (hbox); have n2_ := Aside0.mk ((by rw [hg]; exact (below_size (by repeat (first | (with_reducible first | exact HB.out | apply below_alloc | apply pw_below_drewN | apply below_drew1) | exact HB.out))) : w.heap.size ≤ gb180)); have n3_ := Aside0.mk ((by rw [hg]; exact (below_size (by repeat (first | (with_reducible first | exact HB.out | apply below_alloc | apply pw_below_drewN | apply below_drew1) | exact HB.out))) : w.heap.size ≤ gb180)); clear HB; have HB := n0_; have BK180 := n1_; have GW180 := n2_; have GE180 := n3_; clear n0_ n1_ n2_ n3_; clear hb hbox hg; have hcz5_0 : w4.cell? ⟨gb180, 0, none⟩ = some (.int .i64 a0_0) := (blk_cell BK180.out 0).trans rfl; have hcz5_1 : w4.cell? ⟨gb180, 1, none⟩ = some (.slice A0_1 l0_1.length c0_1) := (blk_cell BK180.out 1).trans rfl; have hfz5_0 := blk_frozen BK180.out 0; have hfz5_1 := blk_frozen BK180.out 1) | ((with_reducible refine gate_callee (f := 6) rfl ?_); refine goesL_ (some 5) rfl rfl Tryd.func6 (by kernel_rfl) rfl #[.slice A0_1 l0_1.length c0_1] rfl (by (try simp only [List.map_toArray, List.map_cons, List.map_nil]); first | done | rfl | (simp only [List.length_drop, List.length_take]; rfl)) ?_; (with_reducible refine (laws_zzFits4.calls k _ _ l0_1 true _ ?side1 ?side2 A2.out).mono ?_); (case side1 => repeat (first | exact (Kd.C_below HR0_1.out HB.out) | (with_reducible refine Kd.C_alloc ?_ _) | (with_reducible refine Kd.C_drewN ?_ _) | (with_reducible refine Kd.C_drew ?_))); (case side2 => exact HC0_1.out); rintro e w6 ⟨rfl, hb⟩; refine ⟨_, rfl, ?_⟩; have n0_ := Aside0.mk (blk_below (g := gb180) (o := .cells #[.int .i64 a0_0, .slice A0_1 l0_1.length c0_1] 34 (0, 0)) (by (with_reducible repeat (first | refine blk_drewN ?_ _ | refine blk_drew ?_ | refine blk_alloc ?_ _)); exact BK180.out) hb); have n1_ := Aside0.mk (below_step (by repeat (first | (with_reducible first | exact HB.out | apply below_alloc | apply pw_below_drewN | apply below_drew1 | refine below_set ?_ GE180.out) | exact HB.out)) hb); clear BK180; clear HB; have BK180 := n0_; have HB := n1_; clear n0_ n1_; (try clear hb); (try clear hb2); (try clear hk); (try clear hi)))
    go_ret
    exact ⟨by first | rfl | (simp [errW_none, errW_some] <;> rfl) | (simp [*, errW_none, errW_some] <;> rfl), by repeat (first | (with_reducible first | exact HB.out | apply below_alloc | apply pw_below_drewN | apply below_drew1 | refine below_set ?_ GE180.out) | exact HB.out)⟩
  · replace c3 := Bool.eq_false_iff.mpr c3
    subst c3
    have H1 : (some false) = some r := by rw [if_neg (show ¬ (false = true) by decide)] at H; exact H
    clear H
    have H := H1
    clear H1
    obtain rfl := Option.some.inj H
    go_enter Tryd.func20, Tryd.ntmps20
    go_wp2_with (first | ((with_reducible refine gate_dst (N := 1) rfl ?_); refine box_event ?hg (N := 1) ?hd (cs := #[.int .i64 a0_0, .slice A0_1 l0_1.length c0_1]) (t := 34) ?hr ?_; (case hd => rfl); (case hg => rfl); (case hr => first | (go_simp; done) | (go_simp; rfl)); intro gb180 hg w7 hbox hb; have n0_ := Aside0.mk (below_step (by repeat (first | (with_reducible first | exact HB.out | apply below_alloc | apply pw_below_drewN | apply below_drew1) | exact HB.out)) hb); have n1_ := Aside0.mk (hbox); have n2_ := Aside0.mk ((by rw [hg]; exact (below_size (by repeat (first | (with_reducible first | exact HB.out | apply below_alloc | apply pw_below_drewN | apply below_drew1) | exact HB.out))) : w.heap.size ≤ gb180)); have n3_ := Aside0.mk ((by rw [hg]; exact (below_size (by repeat (first | (with_reducible first | exact HB.out | apply below_alloc | apply pw_below_drewN | apply below_drew1) | exact HB.out))) : w.heap.size ≤ gb180)); clear HB; have HB := n0_; have BK180 := n1_; have GW180 := n2_; have GE180 := n3_; clear n0_ n1_ n2_ n3_; clear hb hbox hg; have hcz8_0 : w7.cell? ⟨gb180, 0, none⟩ = some (.int .i64 a0_0) := (blk_cell BK180.out 0).trans rfl; have hcz8_1 : w7.cell? ⟨gb180, 1, none⟩ = some (.slice A0_1 l0_1.length c0_1) := (blk_cell BK180.out 1).trans rfl; have hfz8_0 := blk_frozen BK180.out 0; have hfz8_1 := blk_frozen BK180.out 1) | ((with_reducible refine gate_callee (f := 6) rfl ?_); refine goesL_ (some 5) rfl rfl Tryd.func6 (by kernel_rfl) rfl #[.slice A0_1 l0_1.length c0_1] rfl (by (try simp only [List.map_toArray, List.map_cons, List.map_nil]); first | done | rfl | (simp only [List.length_drop, List.length_take]; rfl)) ?_; (with_reducible refine (laws_zzFits4.calls k _ _ l0_1 false _ ?side1 ?side2 A2.out).mono ?_); (case side1 => repeat (first | exact (Kd.C_below HR0_1.out HB.out) | (with_reducible refine Kd.C_alloc ?_ _) | (with_reducible refine Kd.C_drewN ?_ _) | (with_reducible refine Kd.C_drew ?_))); (case side2 => exact HC0_1.out); rintro e w9 ⟨rfl, hb⟩; refine ⟨_, rfl, ?_⟩; have n0_ := Aside0.mk (blk_below (g := gb180) (o := .cells #[.int .i64 a0_0, .slice A0_1 l0_1.length c0_1] 34 (0, 0)) (by (with_reducible repeat (first | refine blk_drewN ?_ _ | refine blk_drew ?_ | refine blk_alloc ?_ _)); exact BK180.out) hb); have n1_ := Aside0.mk (below_step (by repeat (first | (with_reducible first | exact HB.out | apply below_alloc | apply pw_below_drewN | apply below_drew1 | refine below_set ?_ GE180.out) | exact HB.out)) hb); clear BK180; clear HB; have BK180 := n0_; have HB := n1_; clear n0_ n1_; (try clear hb); (try clear hb2); (try clear hk); (try clear hi)))
    go_ret
    exact ⟨by first | rfl | (simp [errW_none, errW_some] <;> rfl) | (simp [*, errW_none, errW_some] <;> rfl), by repeat (first | (with_reducible first | exact HB.out | apply below_alloc | apply pw_below_drewN | apply below_drew1 | refine below_set ?_ GE180.out) | exact HB.out)⟩

/-! ### laws_zzFits23: function 12 -/
def laws_zzFits23.l0 : Nat → List (S34) → Int → Int → Option (Bool)
  | 0, _, _, _ => none
  | k + 1, x8, x9, x10 => if x10 < x9 then (if 0 ≤ x10 then (if x10 < (x8.length : Int) then ((laws_zzFits24.f k ((rd_T34 x8 x10).f0) ((rd_T34 x8 x10).f1)).bind fun t184 => (if t184 = true then (laws_zzFits23.l0 k x8 x9 (wrap64 (x10 + 1))) else (some false))) else (none)) else (none)) else (some true)
def laws_zzFits23.f (k : Nat) (l0 : List (S34)) : Option (Bool) := if (l0.length : Int) > 2147483647 then (some false) else (laws_zzFits23.l0 k l0 (l0.length : Int) 0)
theorem laws_zzFits23.mono_l : ∀ k, (∀ y0 y1 y2, LeO (laws_zzFits23.l0 k y0 y1 y2) (laws_zzFits23.l0 (k + 1) y0 y1 y2))
  | 0 => fun _ _ _ r h => by simp [laws_zzFits23.l0] at h
  | k + 1 => by
    have ih0 := laws_zzFits23.mono_l k
    · intro y0 y1 y2
      unfold laws_zzFits23.l0
      repeat' first
      | (with_reducible exact ih0 _ _ _)
      | (with_reducible exact laws_zzFits24.mono _ _ _)
      | (with_reducible exact LeO.refl _)
      | (with_reducible exact LeO.none _)
      | (with_reducible refine LeO.ite ?_ ?_)
      | (with_reducible refine LeO.bind ?_ (fun _ => ?_))
      | exact ih0 _ _ _
      | exact laws_zzFits24.mono _ _ _
      | exact LeO.none _
      | refine LeO.ite ?_ ?_
      | refine LeO.bind ?_ (fun _ => ?_)
theorem laws_zzFits23.mono : ∀ a0 k, LeO (laws_zzFits23.f k a0) (laws_zzFits23.f (k + 1) a0) := by
  intro a0 k
  have ih0 := laws_zzFits23.mono_l k
  unfold laws_zzFits23.f
  repeat' first
      | (with_reducible exact ih0 _ _ _)
      | (with_reducible exact laws_zzFits24.mono _ _ _)
      | (with_reducible exact LeO.refl _)
      | (with_reducible exact LeO.none _)
      | (with_reducible refine LeO.ite ?_ ?_)
      | (with_reducible refine LeO.bind ?_ (fun _ => ?_))
      | exact ih0 _ _ _
      | exact laws_zzFits24.mono _ _ _
      | exact LeO.none _
      | refine LeO.ite ?_ ?_
      | refine LeO.bind ?_ (fun _ => ?_)
set_option maxHeartbeats 8000000 in
set_option maxRecDepth 100000 in
theorem laws_zzFits23.calls (k : Nat) (A0 : Option Addr) (c0 : Nat) (l0 : List (S34)) (r : Bool) (w : World) (hr0 : Kd.C k34 w A0 l0.length l0) (hc0 : l0.length ≤ c0) (h : laws_zzFits23.f k l0 = some r) :
    Calls Tryd.prog 12 #[.slice A0 l0.length c0] w fun e w' => e = .returned (.bool r) ∧ Below w.heap.size w w' := by
  have hu34 := Tryd.underlying34
  have HR0 := Aside0.mk hr0
  have HC0 := Aside0.mk hc0
  clear hr0 hc0
  have HB := Aside0.mk (Below.refl w.heap.size w)
  have H : (if (l0.length : Int) > 2147483647 then (some false) else (laws_zzFits23.l0 k l0 (l0.length : Int) 0)) = some r := h
  clear h
  by_cases c2 : (l0.length : Int) > 2147483647
  · rw [if_pos c2] at H
    have c2b0 : decide (2147483647 < (l0.length : Int)) = true := decide_eq_true c2
    have c2b1 : decide (2147483647 < l0.length) = true := decide_eq_true (by omega)
    clear c2
    obtain rfl := Option.some.inj H
    go_enter Tryd.func12, Tryd.ntmps12
    go_wp2
    go_ret
    exact ⟨by first | rfl | (simp [errW_none, errW_some] <;> rfl) | (simp [*, errW_none, errW_some] <;> rfl), by repeat (first | (with_reducible first | exact HB.out | apply below_alloc | apply pw_below_drewN | apply below_drew1) | exact HB.out)⟩
  · rw [if_neg c2] at H
    have c2b0 : decide (2147483647 < (l0.length : Int)) = false := decide_eq_false c2
    have c2b1 : decide (2147483647 < l0.length) = false := decide_eq_false (by omega)
    clear c2
    have H' := Aside0.mk H
    clear H
    go_enter Tryd.func12, Tryd.ntmps12
    go_wp2
    go_loopg [10] k (fun kq v10 w' => ∃ (x10_1 : Int), v10 = .int .i64 x10_1 ∧ Aside0 (laws_zzFits23.l0 kq l0 (l0.length : Int) x10_1 = some r) ∧ Aside0 (kq ≤ k) ∧ Aside0 (Below w.heap.size w w'))
    case atStart => exact ⟨(0), (by first | rfl | (simp; done) | (simp [*]; done)), H', ⟨Nat.le_refl _⟩, ⟨by repeat (first | (with_reducible first | exact HB.out | apply below_alloc | apply pw_below_drewN | apply below_drew1) | exact HB.out)⟩⟩
    case round =>
      clear H'
      try clear c1
      try clear c2
      try clear c2b0
      try clear c2b1
      try clear p2
      obtain ⟨x10_1, rfl, HA, HK1, HB⟩ := hrel
      cases gk with
      | zero => exact absurd HA.out (by simp [laws_zzFits23.l0])
      | succ k1 =>
        have H := HA.out
        clear HA
        simp only [laws_zzFits23.l0] at H
        by_cases c3 : x10_1 < (l0.length : Int)
        · rw [if_pos c3] at H
          have c3b0 : decide (x10_1 < (l0.length : Int)) = true := decide_eq_true c3
          clear c3
          by_cases c4 : 0 ≤ x10_1
          · rw [if_pos c4] at H
            have c4b0 : decide (0 ≤ x10_1) = true := decide_eq_true c4
            clear c4
            by_cases c5 : x10_1 < (l0.length : Int)
            · rw [if_pos c5] at H
              have c5b0 : decide (x10_1 < (l0.length : Int)) = true := decide_eq_true c5
              clear c5
              replace H := Option.bind_eq_some_iff.mp H
              obtain ⟨t184, A60, H⟩ := H
              replace H : (if t184 = true then (laws_zzFits23.l0 k1 l0 (l0.length : Int) (wrap64 (x10_1 + 1))) else (some false)) = some r := H
              have A6 := Aside0.mk A60
              clear A60
              by_cases c7 : t184 = true
              · subst c7
                have H1 : (laws_zzFits23.l0 k1 l0 (l0.length : Int) (wrap64 (x10_1 + 1))) = some r := by rw [if_pos rfl] at H; exact H
                clear H
                have H := H1
                clear H1
                have H' := Aside0.mk H
                clear H
                have p182 : 0 ≤ (x10_1 : Int) := of_decide_eq_true (by first | (with_reducible assumption) | assumption)
                have q182 : x10_1 < (l0.length : Int) := of_decide_eq_true (by first | (with_reducible assumption) | assumption)
                obtain ⟨ad182, A182_1, c182_1, e182, hx182_0, hx182_1, hl182_1, hi182_1⟩ := at_T34 HR0.out x10_1 p182 q182
                cases e182
                replace hx182_0 := (HB.out.cell (World.block_lt_of_cell? w _ hx182_0)).trans hx182_0
                replace hx182_1 := (HB.out.cell (World.block_lt_of_cell? w _ hx182_1)).trans hx182_1
                have HR182_1 := Aside0.mk hi182_1
                have HC182_1 := Aside0.mk hl182_1
                clear hi182_1 hl182_1
                replace p182 := eq_true p182
                replace q182 := eq_true q182
                go_wp2_with (first | ((with_reducible refine gate_dst (N := 4) rfl ?_); refine box_event ?hg (N := 4) ?hd (cs := #[.int .i64 0, .slice none 0 0]) (t := 34) ?hr ?_; (case hd => rfl); (case hg => rfl); (case hr => first | (go_simp; done) | (go_simp; rfl)); intro gb183 hg w8 hbox hb; have n0_ := Aside0.mk (below_step (by repeat (first | (with_reducible first | exact HB.out | apply below_alloc | apply pw_below_drewN | apply below_drew1) | exact HB.out)) hb); have n1_ := Aside0.mk (hbox); have n2_ := Aside0.mk ((by rw [hg]; exact (below_size (by repeat (first | (with_reducible first | exact HB.out | apply below_alloc | apply pw_below_drewN | apply below_drew1) | exact HB.out))) : w.heap.size ≤ gb183)); have n3_ := Aside0.mk ((by rw [hg]; exact (below_size (by repeat (first | (with_reducible first | exact HB.out | apply below_alloc | apply pw_below_drewN | apply below_drew1) | exact HB.out))) : w.heap.size ≤ gb183)); clear HB; have HB := n0_; have BK183 := n1_; have GW183 := n2_; have GE183 := n3_; clear n0_ n1_ n2_ n3_; clear hb hbox hg; have hcz9_0 : w8.cell? ⟨gb183, 0, none⟩ = some (.int .i64 0) := (blk_cell BK183.out 0).trans rfl; have hcz9_1 : w8.cell? ⟨gb183, 1, none⟩ = some (.slice none 0 0) := (blk_cell BK183.out 1).trans rfl; have hfz9_0 := blk_frozen BK183.out 0; have hfz9_1 := blk_frozen BK183.out 1) | ((with_reducible refine gate_callee (f := 20) rfl ?_); refine goesL_ (some 15) rfl rfl Tryd.func20 (by kernel_rfl) rfl #[.agg #[.int .i64 ((rd_T34 l0 x10_1).f0), .slice A182_1 ((rd_T34 l0 x10_1).f1).length c182_1]] rfl (by (try simp only [List.map_toArray, List.map_cons, List.map_nil]); first | done | rfl | (simp only [List.length_drop, List.length_take]; rfl)) ?_; (with_reducible refine (laws_zzFits24.calls k1 ((rd_T34 l0 x10_1).f0) _ _ ((rd_T34 l0 x10_1).f1) true _ ?side1 ?side2 A6.out).mono ?_); (case side1 => exact Kd.C_below HR182_1.out (by repeat (first | (with_reducible first | exact HB.out | apply below_alloc | apply pw_below_drewN | apply below_drew1 | refine below_set ?_ GE183.out) | exact HB.out))); (case side2 => exact HC182_1.out); rintro e w10 ⟨rfl, hb⟩; refine ⟨_, rfl, ?_⟩; have n0_ := Aside0.mk (blk_below (g := gb183) (o := .cells #[.int .i64 ((rd_T34 l0 x10_1).f0), .slice A182_1 ((rd_T34 l0 x10_1).f1).length c182_1] 34 (0, 0)) (by (with_reducible repeat (first | refine blk_drewN ?_ _ | refine blk_drew ?_ | refine blk_alloc ?_ _)); refine blk_put (cs := #[.int .i64 ((rd_T34 l0 x10_1).f0), .slice none 0 0]) ?_ 1 _ rfl; (with_reducible repeat (first | refine blk_drewN ?_ _ | refine blk_drew ?_ | refine blk_alloc ?_ _)); refine blk_put (cs := #[.int .i64 0, .slice none 0 0]) ?_ 0 _ rfl; (with_reducible repeat (first | refine blk_drewN ?_ _ | refine blk_drew ?_ | refine blk_alloc ?_ _)); exact BK183.out) hb); have n1_ := Aside0.mk (below_step (by repeat (first | (with_reducible first | exact HB.out | apply below_alloc | apply pw_below_drewN | apply below_drew1 | refine below_set ?_ GE183.out) | exact HB.out)) hb); clear BK183; clear HB; have BK183 := n0_; have HB := n1_; clear n0_ n1_; (try clear hb); (try clear hb2); (try clear hk); (try clear hi)))
                go_roundg k1
                case measure => have := HK1.out; omega
                case rel => exact ⟨(wrap64 (x10_1 + 1)), (by first | rfl | (simp; done) | (simp [*]; done)), H', ⟨by have := HK1.out; omega⟩, ⟨by repeat (first | (with_reducible first | exact HB.out | apply below_alloc | apply pw_below_drewN | apply below_drew1 | refine below_set ?_ GE183.out) | exact HB.out)⟩⟩
              · replace c7 := Bool.eq_false_iff.mpr c7
                subst c7
                have H1 : (some false) = some r := by rw [if_neg (show ¬ (false = true) by decide)] at H; exact H
                clear H
                have H := H1
                clear H1
                obtain rfl := Option.some.inj H
                have p182 : 0 ≤ (x10_1 : Int) := of_decide_eq_true (by first | (with_reducible assumption) | assumption)
                have q182 : x10_1 < (l0.length : Int) := of_decide_eq_true (by first | (with_reducible assumption) | assumption)
                obtain ⟨ad182, A182_1, c182_1, e182, hx182_0, hx182_1, hl182_1, hi182_1⟩ := at_T34 HR0.out x10_1 p182 q182
                cases e182
                replace hx182_0 := (HB.out.cell (World.block_lt_of_cell? w _ hx182_0)).trans hx182_0
                replace hx182_1 := (HB.out.cell (World.block_lt_of_cell? w _ hx182_1)).trans hx182_1
                have HR182_1 := Aside0.mk hi182_1
                have HC182_1 := Aside0.mk hl182_1
                clear hi182_1 hl182_1
                replace p182 := eq_true p182
                replace q182 := eq_true q182
                go_wp2_with (first | ((with_reducible refine gate_dst (N := 4) rfl ?_); refine box_event ?hg (N := 4) ?hd (cs := #[.int .i64 0, .slice none 0 0]) (t := 34) ?hr ?_; (case hd => rfl); (case hg => rfl); (case hr => first | (go_simp; done) | (go_simp; rfl)); intro gb183 hg w11 hbox hb; have n0_ := Aside0.mk (below_step (by repeat (first | (with_reducible first | exact HB.out | apply below_alloc | apply pw_below_drewN | apply below_drew1) | exact HB.out)) hb); have n1_ := Aside0.mk (hbox); have n2_ := Aside0.mk ((by rw [hg]; exact (below_size (by repeat (first | (with_reducible first | exact HB.out | apply below_alloc | apply pw_below_drewN | apply below_drew1) | exact HB.out))) : w.heap.size ≤ gb183)); have n3_ := Aside0.mk ((by rw [hg]; exact (below_size (by repeat (first | (with_reducible first | exact HB.out | apply below_alloc | apply pw_below_drewN | apply below_drew1) | exact HB.out))) : w.heap.size ≤ gb183)); clear HB; have HB := n0_; have BK183 := n1_; have GW183 := n2_; have GE183 := n3_; clear n0_ n1_ n2_ n3_; clear hb hbox hg; have hcz12_0 : w11.cell? ⟨gb183, 0, none⟩ = some (.int .i64 0) := (blk_cell BK183.out 0).trans rfl; have hcz12_1 : w11.cell? ⟨gb183, 1, none⟩ = some (.slice none 0 0) := (blk_cell BK183.out 1).trans rfl; have hfz12_0 := blk_frozen BK183.out 0; have hfz12_1 := blk_frozen BK183.out 1) | ((with_reducible refine gate_callee (f := 20) rfl ?_); refine goesL_ (some 15) rfl rfl Tryd.func20 (by kernel_rfl) rfl #[.agg #[.int .i64 ((rd_T34 l0 x10_1).f0), .slice A182_1 ((rd_T34 l0 x10_1).f1).length c182_1]] rfl (by (try simp only [List.map_toArray, List.map_cons, List.map_nil]); first | done | rfl | (simp only [List.length_drop, List.length_take]; rfl)) ?_; (with_reducible refine (laws_zzFits24.calls k1 ((rd_T34 l0 x10_1).f0) _ _ ((rd_T34 l0 x10_1).f1) false _ ?side1 ?side2 A6.out).mono ?_); (case side1 => exact Kd.C_below HR182_1.out (by repeat (first | (with_reducible first | exact HB.out | apply below_alloc | apply pw_below_drewN | apply below_drew1 | refine below_set ?_ GE183.out) | exact HB.out))); (case side2 => exact HC182_1.out); rintro e w13 ⟨rfl, hb⟩; refine ⟨_, rfl, ?_⟩; have n0_ := Aside0.mk (blk_below (g := gb183) (o := .cells #[.int .i64 ((rd_T34 l0 x10_1).f0), .slice A182_1 ((rd_T34 l0 x10_1).f1).length c182_1] 34 (0, 0)) (by (with_reducible repeat (first | refine blk_drewN ?_ _ | refine blk_drew ?_ | refine blk_alloc ?_ _)); refine blk_put (cs := #[.int .i64 ((rd_T34 l0 x10_1).f0), .slice none 0 0]) ?_ 1 _ rfl; (with_reducible repeat (first | refine blk_drewN ?_ _ | refine blk_drew ?_ | refine blk_alloc ?_ _)); refine blk_put (cs := #[.int .i64 0, .slice none 0 0]) ?_ 0 _ rfl; (with_reducible repeat (first | refine blk_drewN ?_ _ | refine blk_drew ?_ | refine blk_alloc ?_ _)); exact BK183.out) hb); have n1_ := Aside0.mk (below_step (by repeat (first | (with_reducible first | exact HB.out | apply below_alloc | apply pw_below_drewN | apply below_drew1 | refine below_set ?_ GE183.out) | exact HB.out)) hb); clear BK183; clear HB; have BK183 := n0_; have HB := n1_; clear n0_ n1_; (try clear hb); (try clear hb2); (try clear hk); (try clear hi)))
                go_ret
                exact ⟨by first | rfl | (simp [errW_none, errW_some] <;> rfl) | (simp [*, errW_none, errW_some] <;> rfl), by repeat (first | (with_reducible first | exact HB.out | apply below_alloc | apply pw_below_drewN | apply below_drew1 | refine below_set ?_ GE183.out) | exact HB.out)⟩
            · rw [if_neg c5] at H
              exact absurd H (by simp)
          · rw [if_neg c4] at H
            exact absurd H (by simp)
        · rw [if_neg c3] at H
          have c3b0 : decide (x10_1 < (l0.length : Int)) = false := decide_eq_false c3
          clear c3
          obtain rfl := Option.some.inj H
          go_wp2
          go_ret
          exact ⟨by first | rfl | (simp [errW_none, errW_some] <;> rfl) | (simp [*, errW_none, errW_some] <;> rfl), by repeat (first | (with_reducible first | exact HB.out | apply below_alloc | apply pw_below_drewN | apply below_drew1) | exact HB.out)⟩

end Go.Proofs.YtgpamoanclhbhaaDoor.R
