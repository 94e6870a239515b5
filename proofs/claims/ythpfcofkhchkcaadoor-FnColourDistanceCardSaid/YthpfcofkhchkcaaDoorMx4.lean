-- WRITTEN BY OUR myprint.py, a program of this session's over the kit's printer
import Derived.Test.YthpfcofkhchkcaaDoorMx0
import Derived.Test.YthpfcofkhchkcaaDoorMx3
namespace Go.Proofs.YthpfcofkhchkcaaDoor.M
open Go.RowKit Go.Proofs.YthpfcofkhchkcaaDoorW.PrintWords Go.Proofs.YthpfcofkhchkcaaDoorW.PrintLast Go.Proofs.YthpfcofkhchkcaaDoorW.PrintMore
attribute [local go_sem] max2_int min2_int max_two min_two max_three min_three max_four min_four   -- for this text's walks alone
set_option linter.unusedVariables false
set_option linter.unusedSimpArgs false

/-! ### laws_FnColourParts: function 7 -/
def laws_FnColourParts.f (a0 : Int) (a1 : Int) (a2 : Int) : Option (Bool) := (impl_ColourNew.f a0 a1 a2).bind fun t155 => ((impl_ColourRGB.f t155).bind fun bt156 => (if bt156.1 = a0 then (if bt156.2.1 = a1 then (if bt156.2.2 = a2 then ((impl_ColourIsSet.f t155).bind fun t159 => (if t159 = true then ((laws_coloured.f).bind fun t160 => (some t160)) else (some false))) else (some false)) else (some false)) else (some false)))
set_option maxHeartbeats 8000000 in
set_option maxRecDepth 100000 in
theorem laws_FnColourParts.calls (a0 : Int) (a1 : Int) (a2 : Int) (r : Bool) (w : World) (hV : Go.Proofs.YthpfcofkhchkcaaDoorFmt.VarsOK w) (h : laws_FnColourParts.f a0 a1 a2 = some r) :
    Calls Tryd.prog 7 #[.int .u8 a0, .int .u8 a1, .int .u8 a2] w fun e w' => e = .returned (.bool r) ∧ Below w.heap.size w w' := by
  have HB := Aside0.mk (Below.refl w.heap.size w)
  have HV := Aside0.mk hV
  clear hV
  have H : ((impl_ColourNew.f a0 a1 a2).bind fun t155 => ((impl_ColourRGB.f t155).bind fun bt156 => (if bt156.1 = a0 then (if bt156.2.1 = a1 then (if bt156.2.2 = a2 then ((impl_ColourIsSet.f t155).bind fun t159 => (if t159 = true then ((laws_coloured.f).bind fun t160 => (some t160)) else (some false))) else (some false)) else (some false)) else (some false)))) = some r := h
  clear h
  replace H := Option.bind_eq_some_iff.mp H
  obtain ⟨t155, A40, H⟩ := H
  replace H : ((impl_ColourRGB.f t155).bind fun bt156 => (if bt156.1 = a0 then (if bt156.2.1 = a1 then (if bt156.2.2 = a2 then ((impl_ColourIsSet.f t155).bind fun t159 => (if t159 = true then ((laws_coloured.f).bind fun t160 => (some t160)) else (some false))) else (some false)) else (some false)) else (some false))) = some r := H
  have A4 := Aside0.mk A40
  clear A40
  replace H := Option.bind_eq_some_iff.mp H
  obtain ⟨⟨t156, t157, t158⟩, A50, H⟩ := H
  replace H : (if t156 = a0 then (if t157 = a1 then (if t158 = a2 then ((impl_ColourIsSet.f t155).bind fun t159 => (if t159 = true then ((laws_coloured.f).bind fun t160 => (some t160)) else (some false))) else (some false)) else (some false)) else (some false)) = some r := H
  have A5 := Aside0.mk A50
  clear A50
  by_cases c6 : t156 = a0
  · rw [if_pos c6] at H
    have c6b0 : (t156 == a0) = true := beq_iff_eq.mpr c6
    have c6b1 : (t156 != a0) = false := bne_eq_false_iff_eq.mpr c6
    clear c6
    by_cases c7 : t157 = a1
    · rw [if_pos c7] at H
      have c7b0 : (t157 == a1) = true := beq_iff_eq.mpr c7
      have c7b1 : (t157 != a1) = false := bne_eq_false_iff_eq.mpr c7
      clear c7
      by_cases c8 : t158 = a2
      · rw [if_pos c8] at H
        have c8b0 : (t158 == a2) = true := beq_iff_eq.mpr c8
        have c8b1 : (t158 != a2) = false := bne_eq_false_iff_eq.mpr c8
        clear c8
        replace H := Option.bind_eq_some_iff.mp H
        obtain ⟨t159, A90, H⟩ := H
        replace H : (if t159 = true then ((laws_coloured.f).bind fun t160 => (some t160)) else (some false)) = some r := H
        have A9 := Aside0.mk A90
        clear A90
        by_cases c10 : t159 = true
        · subst c10
          have H1 : ((laws_coloured.f).bind fun t160 => (some t160)) = some r := by rw [if_pos rfl] at H; exact H
          clear H
          have H := H1
          clear H1
          replace H := Option.bind_eq_some_iff.mp H
          obtain ⟨t160, A110, H⟩ := H
          replace H : (some t160) = some r := H
          have A11 := Aside0.mk A110
          clear A110
          obtain rfl := Option.some.inj H
          go_enter Tryd.func7, Tryd.ntmps7
          go_wp2_with (first | ((with_reducible refine gate_callee (f := 19) rfl ?_); refine goesL_ (some 14) rfl rfl Tryd.func19 (by kernel_rfl) rfl #[.int .u8 a0, .int .u8 a1, .int .u8 a2] rfl (by (try simp only [List.map_toArray, List.map_cons, List.map_nil]); first | done | rfl | (simp only [List.length_drop, List.length_take]; rfl)) ?_; (with_reducible refine (impl_ColourNew.calls a0 a1 a2 t155 _ A4.out).mono ?_); rintro e w' ⟨rfl, ⟨nd, rfl⟩⟩; refine ⟨_, rfl, ?_⟩) | ((with_reducible refine gate_callee (f := 21) rfl ?_); refine goesL_ (some 17) rfl rfl Tryd.func21 (by kernel_rfl) rfl #[.int .i32 t155] rfl (by (try simp only [List.map_toArray, List.map_cons, List.map_nil]); first | done | rfl | (simp only [List.length_drop, List.length_take]; rfl)) ?_; (with_reducible refine (impl_ColourRGB.calls t155 t156 t157 t158 _ A5.out).mono ?_); rintro e w' ⟨rfl, ⟨nd, rfl⟩⟩; refine ⟨_, rfl, ?_⟩) | (go_at_call 22; (with_reducible refine (impl_ColourIsSet.calls t155 true _ A9.out).mono ?_); rintro e w' ⟨rfl, ⟨nd, rfl⟩⟩) | (go_at_call 16; (with_reducible refine (laws_coloured.calls  t160 _ ?side1 A11.out).mono ?_); (case side1 => exact Go.Proofs.YthpfcofkhchkcaaDoorFmt.VarsOK.below HV.out (by repeat (first | (with_reducible first | exact HB.out | apply below_alloc | apply pw_below_drewN | apply below_drew1) | exact HB.out))); rintro e w12 ⟨rfl, hb⟩; have n0_ := Aside0.mk (below_step (by repeat (first | (with_reducible first | exact HB.out | apply below_alloc | apply pw_below_drewN | apply below_drew1) | exact HB.out)) hb); clear HB; have HB := n0_; clear n0_; (try clear hb); (try clear hb2); (try clear hk); (try clear hi)))
          go_ret
          exact ⟨by first | rfl | (simp [errW_none, errW_some] <;> rfl) | (simp [*, errW_none, errW_some] <;> rfl), by repeat (first | (with_reducible first | exact HB.out | apply below_alloc | apply pw_below_drewN | apply below_drew1) | exact HB.out)⟩
        · replace c10 := Bool.eq_false_iff.mpr c10
          subst c10
          have H1 : (some false) = some r := by rw [if_neg (show ¬ (false = true) by decide)] at H; exact H
          clear H
          have H := H1
          clear H1
          obtain rfl := Option.some.inj H
          go_enter Tryd.func7, Tryd.ntmps7
          go_wp2_with (first | ((with_reducible refine gate_callee (f := 19) rfl ?_); refine goesL_ (some 14) rfl rfl Tryd.func19 (by kernel_rfl) rfl #[.int .u8 a0, .int .u8 a1, .int .u8 a2] rfl (by (try simp only [List.map_toArray, List.map_cons, List.map_nil]); first | done | rfl | (simp only [List.length_drop, List.length_take]; rfl)) ?_; (with_reducible refine (impl_ColourNew.calls a0 a1 a2 t155 _ A4.out).mono ?_); rintro e w' ⟨rfl, ⟨nd, rfl⟩⟩; refine ⟨_, rfl, ?_⟩) | ((with_reducible refine gate_callee (f := 21) rfl ?_); refine goesL_ (some 17) rfl rfl Tryd.func21 (by kernel_rfl) rfl #[.int .i32 t155] rfl (by (try simp only [List.map_toArray, List.map_cons, List.map_nil]); first | done | rfl | (simp only [List.length_drop, List.length_take]; rfl)) ?_; (with_reducible refine (impl_ColourRGB.calls t155 t156 t157 t158 _ A5.out).mono ?_); rintro e w' ⟨rfl, ⟨nd, rfl⟩⟩; refine ⟨_, rfl, ?_⟩) | (go_at_call 22; (with_reducible refine (impl_ColourIsSet.calls t155 false _ A9.out).mono ?_); rintro e w' ⟨rfl, ⟨nd, rfl⟩⟩))
          go_ret
          exact ⟨by first | rfl | (simp [errW_none, errW_some] <;> rfl) | (simp [*, errW_none, errW_some] <;> rfl), by repeat (first | (with_reducible first | exact HB.out | apply below_alloc | apply pw_below_drewN | apply below_drew1) | exact HB.out)⟩
      · rw [if_neg c8] at H
        have c8b0 : (t158 == a2) = false := beq_eq_false_iff_ne.mpr c8
        have c8b1 : (t158 != a2) = true := bne_iff_ne.mpr c8
        obtain rfl := Option.some.inj H
        go_enter Tryd.func7, Tryd.ntmps7
        go_wp2_with (first | ((with_reducible refine gate_callee (f := 19) rfl ?_); refine goesL_ (some 14) rfl rfl Tryd.func19 (by kernel_rfl) rfl #[.int .u8 a0, .int .u8 a1, .int .u8 a2] rfl (by (try simp only [List.map_toArray, List.map_cons, List.map_nil]); first | done | rfl | (simp only [List.length_drop, List.length_take]; rfl)) ?_; (with_reducible refine (impl_ColourNew.calls a0 a1 a2 t155 _ A4.out).mono ?_); rintro e w' ⟨rfl, ⟨nd, rfl⟩⟩; refine ⟨_, rfl, ?_⟩) | ((with_reducible refine gate_callee (f := 21) rfl ?_); refine goesL_ (some 17) rfl rfl Tryd.func21 (by kernel_rfl) rfl #[.int .i32 t155] rfl (by (try simp only [List.map_toArray, List.map_cons, List.map_nil]); first | done | rfl | (simp only [List.length_drop, List.length_take]; rfl)) ?_; (with_reducible refine (impl_ColourRGB.calls t155 t156 t157 t158 _ A5.out).mono ?_); rintro e w' ⟨rfl, ⟨nd, rfl⟩⟩; refine ⟨_, rfl, ?_⟩))
        go_ret
        exact ⟨by first | rfl | (simp [errW_none, errW_some] <;> rfl) | (simp [*, errW_none, errW_some] <;> rfl), by repeat (first | (with_reducible first | exact HB.out | apply below_alloc | apply pw_below_drewN | apply below_drew1) | exact HB.out)⟩
    · rw [if_neg c7] at H
      have c7b0 : (t157 == a1) = false := beq_eq_false_iff_ne.mpr c7
      have c7b1 : (t157 != a1) = true := bne_iff_ne.mpr c7
      obtain rfl := Option.some.inj H
      go_enter Tryd.func7, Tryd.ntmps7
      go_wp2_with (first | ((with_reducible refine gate_callee (f := 19) rfl ?_); refine goesL_ (some 14) rfl rfl Tryd.func19 (by kernel_rfl) rfl #[.int .u8 a0, .int .u8 a1, .int .u8 a2] rfl (by (try simp only [List.map_toArray, List.map_cons, List.map_nil]); first | done | rfl | (simp only [List.length_drop, List.length_take]; rfl)) ?_; (with_reducible refine (impl_ColourNew.calls a0 a1 a2 t155 _ A4.out).mono ?_); rintro e w' ⟨rfl, ⟨nd, rfl⟩⟩; refine ⟨_, rfl, ?_⟩) | ((with_reducible refine gate_callee (f := 21) rfl ?_); refine goesL_ (some 17) rfl rfl Tryd.func21 (by kernel_rfl) rfl #[.int .i32 t155] rfl (by (try simp only [List.map_toArray, List.map_cons, List.map_nil]); first | done | rfl | (simp only [List.length_drop, List.length_take]; rfl)) ?_; (with_reducible refine (impl_ColourRGB.calls t155 t156 t157 t158 _ A5.out).mono ?_); rintro e w' ⟨rfl, ⟨nd, rfl⟩⟩; refine ⟨_, rfl, ?_⟩))
      go_ret
      exact ⟨by first | rfl | (simp [errW_none, errW_some] <;> rfl) | (simp [*, errW_none, errW_some] <;> rfl), by repeat (first | (with_reducible first | exact HB.out | apply below_alloc | apply pw_below_drewN | apply below_drew1) | exact HB.out)⟩
  · rw [if_neg c6] at H
    have c6b0 : (t156 == a0) = false := beq_eq_false_iff_ne.mpr c6
    have c6b1 : (t156 != a0) = true := bne_iff_ne.mpr c6
    obtain rfl := Option.some.inj H
    go_enter Tryd.func7, Tryd.ntmps7
    go_wp2_with (first | ((with_reducible refine gate_callee (f := 19) rfl ?_); refine goesL_ (some 14) rfl rfl Tryd.func19 (by kernel_rfl) rfl #[.int .u8 a0, .int .u8 a1, .int .u8 a2] rfl (by (try simp only [List.map_toArray, List.map_cons, List.map_nil]); first | done | rfl | (simp only [List.length_drop, List.length_take]; rfl)) ?_; (with_reducible refine (impl_ColourNew.calls a0 a1 a2 t155 _ A4.out).mono ?_); rintro e w' ⟨rfl, ⟨nd, rfl⟩⟩; refine ⟨_, rfl, ?_⟩) | ((with_reducible refine gate_callee (f := 21) rfl ?_); refine goesL_ (some 17) rfl rfl Tryd.func21 (by kernel_rfl) rfl #[.int .i32 t155] rfl (by (try simp only [List.map_toArray, List.map_cons, List.map_nil]); first | done | rfl | (simp only [List.length_drop, List.length_take]; rfl)) ?_; (with_reducible refine (impl_ColourRGB.calls t155 t156 t157 t158 _ A5.out).mono ?_); rintro e w' ⟨rfl, ⟨nd, rfl⟩⟩; refine ⟨_, rfl, ?_⟩))
    go_ret
    exact ⟨by first | rfl | (simp [errW_none, errW_some] <;> rfl) | (simp [*, errW_none, errW_some] <;> rfl), by repeat (first | (with_reducible first | exact HB.out | apply below_alloc | apply pw_below_drewN | apply below_drew1) | exact HB.out)⟩
def laws_FnColourParts.Pure : Prop := ∀ (a0 : Int) (a1 : Int) (a2 : Int), (Lit.int .u8 a0).wf = true → (Lit.int .u8 a1).wf = true → (Lit.int .u8 a2).wf = true → laws_FnColourParts.f a0 a1 a2 = some true

end Go.Proofs.YthpfcofkhchkcaaDoor.M
