-- WRITTEN BY OUR myprint.py, a program of this session's over the kit's printer
import Derived.Test.YthpfcofkhchkcaaDoorMx0
import Derived.Test.YthpfcofkhchkcaaDoorMx2
namespace Go.Proofs.YthpfcofkhchkcaaDoor.M
open Go.RowKit Go.Proofs.YthpfcofkhchkcaaDoorW.PrintWords Go.Proofs.YthpfcofkhchkcaaDoorW.PrintLast Go.Proofs.YthpfcofkhchkcaaDoorW.PrintMore
attribute [local go_sem] max2_int min2_int max_two min_two max_three min_three max_four min_four   -- for this text's walks alone
set_option linter.unusedVariables false
set_option linter.unusedSimpArgs false

/-! ### chroma_ParseColour: function 36 -/
def chroma_ParseColour.f (a0 : ByteArray) : Option Int := if a0.size ≤ 140737488351232 then some (Go.Proofs.YthpfcofkhchkcaaDoorFmt.pcol a0) else none
theorem chroma_ParseColour.calls (a0 : ByteArray) (r : Int) (w : World) (hV : Go.Proofs.YthpfcofkhchkcaaDoorFmt.VarsOK w) (h : chroma_ParseColour.f a0 = some r) :
    Calls Tryd.prog 36 #[.string a0] w fun e w' => e = .returned (.int .i32 r) ∧ Below w.heap.size w w' := by
  unfold chroma_ParseColour.f at h
  by_cases h0 : a0.size ≤ 140737488351232
  · rw [if_pos h0] at h
    obtain rfl := Option.some.inj h
    exact Go.Proofs.YthpfcofkhchkcaaDoorFmt.parseColour a0 h0 w hV
  · rw [if_neg h0] at h; cases h

/-! ### impl_ColourParse: function 15 -/
def impl_ColourParse.f (a0 : ByteArray) : Option (Int) := (chroma_ParseColour.f a0).bind fun t113 => (some t113)
set_option maxHeartbeats 8000000 in
set_option maxRecDepth 100000 in
theorem impl_ColourParse.calls (a0 : ByteArray) (r : Int) (w : World) (hV : Go.Proofs.YthpfcofkhchkcaaDoorFmt.VarsOK w) (h : impl_ColourParse.f a0 = some r) :
    Calls Tryd.prog 15 #[.string a0] w fun e w' => e = .returned (.int .i32 r) ∧ Below w.heap.size w w' := by
  have HB := Aside0.mk (Below.refl w.heap.size w)
  have HV := Aside0.mk hV
  clear hV
  have H : ((chroma_ParseColour.f a0).bind fun t113 => (some t113)) = some r := h
  clear h
  replace H := Option.bind_eq_some_iff.mp H
  obtain ⟨t113, A20, H⟩ := H
  replace H : (some t113) = some r := H
  have A2 := Aside0.mk A20
  clear A20
  obtain rfl := Option.some.inj H
  go_enter Tryd.func15, Tryd.ntmps15
  go_wp2_with (first | ((with_reducible refine gate_callee (f := 36) rfl ?_); refine goesL_ (some 4) rfl rfl Tryd.func36 (by kernel_rfl) rfl #[.string a0] rfl (by (try simp only [List.map_toArray, List.map_cons, List.map_nil]); first | done | rfl | (simp only [List.length_drop, List.length_take]; rfl)) ?_; (with_reducible refine (chroma_ParseColour.calls a0 t113 _ ?side1 A2.out).mono ?_); (case side1 => exact Go.Proofs.YthpfcofkhchkcaaDoorFmt.VarsOK.below HV.out (by repeat (first | (with_reducible first | exact HB.out | apply below_alloc | apply pw_below_drewN | apply below_drew1) | exact HB.out))); rintro e w3 ⟨rfl, hb⟩; refine ⟨_, rfl, ?_⟩; have n0_ := Aside0.mk (below_step (by repeat (first | (with_reducible first | exact HB.out | apply below_alloc | apply pw_below_drewN | apply below_drew1) | exact HB.out)) hb); clear HB; have HB := n0_; clear n0_; (try clear hb); (try clear hb2); (try clear hk); (try clear hi)))
  go_ret
  exact ⟨by first | rfl | (simp [errW_none, errW_some] <;> rfl) | (simp [*, errW_none, errW_some] <;> rfl), by repeat (first | (with_reducible first | exact HB.out | apply below_alloc | apply pw_below_drewN | apply below_drew1) | exact HB.out)⟩

/-! ### chroma_zzHex6: function 54 -/
def chroma_zzHex6.f (a0 : Int) : Option ByteArray := if -9223372036854775808 < a0 then (if a0 < 9223372036854775808 then some (Go.Proofs.YthpfcofkhchkcaaDoorFmt.hex6 a0) else none) else none
theorem chroma_zzHex6.calls (a0 : Int) (r : ByteArray) (w : World) (hV : Go.Proofs.YthpfcofkhchkcaaDoorFmt.VarsOK w) (h : chroma_zzHex6.f a0 = some r) :
    Calls Tryd.prog 54 #[.int .i64 a0] w fun e w' => e = .returned (.string r) ∧ Below w.heap.size w w' := by
  unfold chroma_zzHex6.f at h
  by_cases h0 : -9223372036854775808 < a0
  · rw [if_pos h0] at h
    by_cases h1 : a0 < 9223372036854775808
    · rw [if_pos h1] at h
      obtain rfl := Option.some.inj h
      exact Go.Proofs.YthpfcofkhchkcaaDoorFmt.zzHex6 a0 h0 h1 w hV
    · rw [if_neg h1] at h; cases h
  · rw [if_neg h0] at h; cases h
/-! ### chroma_Colour_String: function 38 -/
def chroma_Colour_String.f (a0 : Int) : Option (ByteArray) := (chroma_zzHex6.f (wrap64 (wrap32 (a0 - 1)))).bind fun t114 => (if 1 + t114.size ≤ 9223372036854775807 then (some ((⟨#[35]⟩ : ByteArray) ++ t114)) else (none))
set_option maxHeartbeats 8000000 in
set_option maxRecDepth 100000 in
theorem chroma_Colour_String.calls (a0 : Int) (r : ByteArray) (w : World) (hV : Go.Proofs.YthpfcofkhchkcaaDoorFmt.VarsOK w) (h : chroma_Colour_String.f a0 = some r) :
    Calls Tryd.prog 38 #[.int .i32 a0] w fun e w' => e = .returned (.string r) ∧ Below w.heap.size w w' := by
  have HB := Aside0.mk (Below.refl w.heap.size w)
  have HV := Aside0.mk hV
  clear hV
  have H : ((chroma_zzHex6.f (wrap64 (wrap32 (a0 - 1)))).bind fun t114 => (if 1 + t114.size ≤ 9223372036854775807 then (some ((⟨#[35]⟩ : ByteArray) ++ t114)) else (none))) = some r := h
  clear h
  replace H := Option.bind_eq_some_iff.mp H
  obtain ⟨t114, A20, H⟩ := H
  replace H : (if 1 + t114.size ≤ 9223372036854775807 then (some ((⟨#[35]⟩ : ByteArray) ++ t114)) else (none)) = some r := H
  have A2 := Aside0.mk A20
  clear A20
  by_cases c3 : 1 + t114.size ≤ 9223372036854775807
  · rw [if_pos c3] at H
    have c3b0 := eq_true c3
    have c3b1 : decide (1 + t114.size ≤ 9223372036854775807) = true := decide_eq_true c3
    try have c3b2 : (9223372036854775807 < 1 + t114.size) = False := eq_false (Nat.not_lt.2 c3)
    obtain rfl := Option.some.inj H
    go_enter Tryd.func38, Tryd.ntmps38
    go_wp2_with (first | ((with_reducible refine gate_callee (f := 54) rfl ?_); refine goesL_ (some 6) rfl rfl Tryd.func54 (by kernel_rfl) rfl #[.int .i64 (wrap64 (wrap32 (a0 - 1)))] rfl (by (try simp only [List.map_toArray, List.map_cons, List.map_nil]); first | done | rfl | (simp only [List.length_drop, List.length_take]; rfl)) ?_; (with_reducible refine (chroma_zzHex6.calls (wrap64 (wrap32 (a0 - 1))) t114 _ ?side1 A2.out).mono ?_); (case side1 => exact Go.Proofs.YthpfcofkhchkcaaDoorFmt.VarsOK.below HV.out (by repeat (first | (with_reducible first | exact HB.out | apply below_alloc | apply pw_below_drewN | apply below_drew1) | exact HB.out))); rintro e w4 ⟨rfl, hb⟩; refine ⟨_, rfl, ?_⟩; have n0_ := Aside0.mk (below_step (by repeat (first | (with_reducible first | exact HB.out | apply below_alloc | apply pw_below_drewN | apply below_drew1) | exact HB.out)) hb); clear HB; have HB := n0_; clear n0_; (try clear hb); (try clear hb2); (try clear hk); (try clear hi)))
    go_ret
    exact ⟨by first | rfl | (simp [errW_none, errW_some] <;> rfl) | (simp [*, errW_none, errW_some] <;> rfl), by repeat (first | (with_reducible first | exact HB.out | apply below_alloc | apply pw_below_drewN | apply below_drew1) | exact HB.out)⟩
  · rw [if_neg c3] at H
    exact absurd H (by simp)

/-! ### impl_ColourString: function 18 -/
def impl_ColourString.f (a0 : Int) : Option (ByteArray) := (chroma_Colour_String.f a0).bind fun t115 => (some t115)
set_option maxHeartbeats 8000000 in
set_option maxRecDepth 100000 in
theorem impl_ColourString.calls (a0 : Int) (r : ByteArray) (w : World) (hV : Go.Proofs.YthpfcofkhchkcaaDoorFmt.VarsOK w) (h : impl_ColourString.f a0 = some r) :
    Calls Tryd.prog 18 #[.int .i32 a0] w fun e w' => e = .returned (.string r) ∧ Below w.heap.size w w' := by
  have HB := Aside0.mk (Below.refl w.heap.size w)
  have HV := Aside0.mk hV
  clear hV
  have H : ((chroma_Colour_String.f a0).bind fun t115 => (some t115)) = some r := h
  clear h
  replace H := Option.bind_eq_some_iff.mp H
  obtain ⟨t115, A20, H⟩ := H
  replace H : (some t115) = some r := H
  have A2 := Aside0.mk A20
  clear A20
  obtain rfl := Option.some.inj H
  go_enter Tryd.func18, Tryd.ntmps18
  go_wp2_with (first | ((with_reducible refine gate_callee (f := 38) rfl ?_); refine goesL_ (some 4) rfl rfl Tryd.func38 (by kernel_rfl) rfl #[.int .i32 a0] rfl (by (try simp only [List.map_toArray, List.map_cons, List.map_nil]); first | done | rfl | (simp only [List.length_drop, List.length_take]; rfl)) ?_; (with_reducible refine (chroma_Colour_String.calls a0 t115 _ ?side1 A2.out).mono ?_); (case side1 => exact Go.Proofs.YthpfcofkhchkcaaDoorFmt.VarsOK.below HV.out (by repeat (first | (with_reducible first | exact HB.out | apply below_alloc | apply pw_below_drewN | apply below_drew1) | exact HB.out))); rintro e w3 ⟨rfl, hb⟩; refine ⟨_, rfl, ?_⟩; have n0_ := Aside0.mk (below_step (by repeat (first | (with_reducible first | exact HB.out | apply below_alloc | apply pw_below_drewN | apply below_drew1) | exact HB.out)) hb); clear HB; have HB := n0_; clear n0_; (try clear hb); (try clear hb2); (try clear hk); (try clear hi)))
  go_ret
  exact ⟨by first | rfl | (simp [errW_none, errW_some] <;> rfl) | (simp [*, errW_none, errW_some] <;> rfl), by repeat (first | (with_reducible first | exact HB.out | apply below_alloc | apply pw_below_drewN | apply below_drew1) | exact HB.out)⟩

/-! ### chroma_Colour_IsSet: function 43 -/
def chroma_Colour_IsSet.f (a0 : Int) : Option (Bool) := some (a0 != 0)
set_option maxHeartbeats 8000000 in
set_option maxRecDepth 100000 in
theorem chroma_Colour_IsSet.calls (a0 : Int) (r : Bool) (w : World) (h : chroma_Colour_IsSet.f a0 = some r) :
    Calls Tryd.prog 43 #[.int .i32 a0] w fun e w' => e = .returned (.bool r) ∧ Drawn0 w w' := by
  have H : (some (a0 != 0)) = some r := h
  clear h
  obtain rfl := Option.some.inj H
  go_enter Tryd.func43, Tryd.ntmps43
  go_wp2
  go_ret
  exact ⟨by first | rfl | (simp; done) | (simp [*]; done), by repeat (first | exact Drawn0.refl _ | apply Drawn0.step)⟩

/-! ### impl_ColourIsSet: function 22 -/
def impl_ColourIsSet.f (a0 : Int) : Option (Bool) := (chroma_Colour_IsSet.f a0).bind fun t116 => (some t116)
set_option maxHeartbeats 8000000 in
set_option maxRecDepth 100000 in
theorem impl_ColourIsSet.calls (a0 : Int) (r : Bool) (w : World) (h : impl_ColourIsSet.f a0 = some r) :
    Calls Tryd.prog 22 #[.int .i32 a0] w fun e w' => e = .returned (.bool r) ∧ Drawn0 w w' := by
  have H : ((chroma_Colour_IsSet.f a0).bind fun t116 => (some t116)) = some r := h
  clear h
  replace H := Option.bind_eq_some_iff.mp H
  obtain ⟨t116, A20, H⟩ := H
  replace H : (some t116) = some r := H
  have A2 := Aside0.mk A20
  clear A20
  obtain rfl := Option.some.inj H
  go_enter Tryd.func22, Tryd.ntmps22
  go_wp2_with (first | ((with_reducible refine gate_callee (f := 43) rfl ?_); refine goesL_ (some 4) rfl rfl Tryd.func43 (by kernel_rfl) rfl #[.int .i32 a0] rfl (by (try simp only [List.map_toArray, List.map_cons, List.map_nil]); first | done | rfl | (simp only [List.length_drop, List.length_take]; rfl)) ?_; (with_reducible refine (chroma_Colour_IsSet.calls a0 t116 _ A2.out).mono ?_); rintro e w' ⟨rfl, ⟨nd, rfl⟩⟩; refine ⟨_, rfl, ?_⟩))
  go_ret
  exact ⟨by first | rfl | (simp; done) | (simp [*]; done), by repeat (first | exact Drawn0.refl _ | apply Drawn0.step)⟩

/-! ### laws_coloured: function 16 -/
def laws_coloured.f  : Option (Bool) := (impl_ColourParse.f (⟨#[35, 102, 102, 56, 48, 48, 48]⟩ : ByteArray)).bind fun t117 => ((impl_ColourString.f t117).bind fun t118 => (if t118.toList = ([35, 102, 102, 56, 48, 48, 48] : List UInt8) then ((impl_ColourParse.f (⟨#[114, 101, 100]⟩ : ByteArray)).bind fun t119 => ((impl_ColourIsSet.f t119).bind fun t120 => (some (!t120)))) else (some false)))
set_option maxHeartbeats 8000000 in
set_option maxRecDepth 100000 in
theorem laws_coloured.calls  (r : Bool) (w : World) (hV : Go.Proofs.YthpfcofkhchkcaaDoorFmt.VarsOK w) (h : laws_coloured.f  = some r) :
    Calls Tryd.prog 16 #[] w fun e w' => e = .returned (.bool r) ∧ Below w.heap.size w w' := by
  have HB := Aside0.mk (Below.refl w.heap.size w)
  have HV := Aside0.mk hV
  clear hV
  have H : ((impl_ColourParse.f (⟨#[35, 102, 102, 56, 48, 48, 48]⟩ : ByteArray)).bind fun t117 => ((impl_ColourString.f t117).bind fun t118 => (if t118.toList = ([35, 102, 102, 56, 48, 48, 48] : List UInt8) then ((impl_ColourParse.f (⟨#[114, 101, 100]⟩ : ByteArray)).bind fun t119 => ((impl_ColourIsSet.f t119).bind fun t120 => (some (!t120)))) else (some false)))) = some r := h
  clear h
  replace H := Option.bind_eq_some_iff.mp H
  obtain ⟨t117, A10, H⟩ := H
  replace H : ((impl_ColourString.f t117).bind fun t118 => (if t118.toList = ([35, 102, 102, 56, 48, 48, 48] : List UInt8) then ((impl_ColourParse.f (⟨#[114, 101, 100]⟩ : ByteArray)).bind fun t119 => ((impl_ColourIsSet.f t119).bind fun t120 => (some (!t120)))) else (some false))) = some r := H
  have A1 := Aside0.mk A10
  clear A10
  replace H := Option.bind_eq_some_iff.mp H
  obtain ⟨t118, A20, H⟩ := H
  replace H : (if t118.toList = ([35, 102, 102, 56, 48, 48, 48] : List UInt8) then ((impl_ColourParse.f (⟨#[114, 101, 100]⟩ : ByteArray)).bind fun t119 => ((impl_ColourIsSet.f t119).bind fun t120 => (some (!t120)))) else (some false)) = some r := H
  have A2 := Aside0.mk A20
  clear A20
  by_cases c3 : t118.toList = ([35, 102, 102, 56, 48, 48, 48] : List UInt8)
  · rw [if_pos c3] at H
    have c3b0 : (t118.toList == ([35, 102, 102, 56, 48, 48, 48] : List UInt8)) = true := beq_iff_eq.mpr c3
    have c3b1 : (t118.toList != ([35, 102, 102, 56, 48, 48, 48] : List UInt8)) = false := bne_eq_false_iff_eq.mpr c3
    clear c3
    replace H := Option.bind_eq_some_iff.mp H
    obtain ⟨t119, A40, H⟩ := H
    replace H : ((impl_ColourIsSet.f t119).bind fun t120 => (some (!t120))) = some r := H
    have A4 := Aside0.mk A40
    clear A40
    replace H := Option.bind_eq_some_iff.mp H
    obtain ⟨t120, A50, H⟩ := H
    replace H : (some (!t120)) = some r := H
    have A5 := Aside0.mk A50
    clear A50
    obtain rfl := Option.some.inj H
    go_enter Tryd.func16, Tryd.ntmps16
    go_wp2_with (first | ((with_reducible refine gate_callee (f := 15) rfl ?_); refine goesL_ (some 1) rfl rfl Tryd.func15 (by kernel_rfl) rfl #[.string (⟨#[35, 102, 102, 56, 48, 48, 48]⟩ : ByteArray)] rfl (by (try simp only [List.map_toArray, List.map_cons, List.map_nil]); first | done | rfl | (simp only [List.length_drop, List.length_take]; rfl)) ?_; (with_reducible refine (impl_ColourParse.calls (⟨#[35, 102, 102, 56, 48, 48, 48]⟩ : ByteArray) t117 _ ?side1 A1.out).mono ?_); (case side1 => exact Go.Proofs.YthpfcofkhchkcaaDoorFmt.VarsOK.below HV.out (by repeat (first | (with_reducible first | exact HB.out | apply below_alloc | apply pw_below_drewN | apply below_drew1) | exact HB.out))); rintro e w6 ⟨rfl, hb⟩; refine ⟨_, rfl, ?_⟩; have n0_ := Aside0.mk (below_step (by repeat (first | (with_reducible first | exact HB.out | apply below_alloc | apply pw_below_drewN | apply below_drew1) | exact HB.out)) hb); clear HB; have HB := n0_; clear n0_; (try clear hb); (try clear hb2); (try clear hk); (try clear hi)) | ((with_reducible refine gate_callee (f := 18) rfl ?_); refine goesL_ (some 2) rfl rfl Tryd.func18 (by kernel_rfl) rfl #[.int .i32 t117] rfl (by (try simp only [List.map_toArray, List.map_cons, List.map_nil]); first | done | rfl | (simp only [List.length_drop, List.length_take]; rfl)) ?_; (with_reducible refine (impl_ColourString.calls t117 t118 _ ?side1 A2.out).mono ?_); (case side1 => exact Go.Proofs.YthpfcofkhchkcaaDoorFmt.VarsOK.below HV.out (by repeat (first | (with_reducible first | exact HB.out | apply below_alloc | apply pw_below_drewN | apply below_drew1) | exact HB.out))); rintro e w7 ⟨rfl, hb⟩; refine ⟨_, rfl, ?_⟩; have n0_ := Aside0.mk (below_step (by repeat (first | (with_reducible first | exact HB.out | apply below_alloc | apply pw_below_drewN | apply below_drew1) | exact HB.out)) hb); clear HB; have HB := n0_; clear n0_; (try clear hb); (try clear hb2); (try clear hk); (try clear hi)) | (go_at_call 15; (with_reducible refine (impl_ColourParse.calls (⟨#[114, 101, 100]⟩ : ByteArray) t119 _ ?side1 A4.out).mono ?_); (case side1 => exact Go.Proofs.YthpfcofkhchkcaaDoorFmt.VarsOK.below HV.out (by repeat (first | (with_reducible first | exact HB.out | apply below_alloc | apply pw_below_drewN | apply below_drew1) | exact HB.out))); rintro e w8 ⟨rfl, hb⟩; have n0_ := Aside0.mk (below_step (by repeat (first | (with_reducible first | exact HB.out | apply below_alloc | apply pw_below_drewN | apply below_drew1) | exact HB.out)) hb); clear HB; have HB := n0_; clear n0_; (try clear hb); (try clear hb2); (try clear hk); (try clear hi)) | (go_at_call 22; (with_reducible refine (impl_ColourIsSet.calls t119 t120 _ A5.out).mono ?_); rintro e w' ⟨rfl, ⟨nd, rfl⟩⟩))
    go_ret
    exact ⟨by first | rfl | (simp [errW_none, errW_some] <;> rfl) | (simp [*, errW_none, errW_some] <;> rfl), by repeat (first | (with_reducible first | exact HB.out | apply below_alloc | apply pw_below_drewN | apply below_drew1) | exact HB.out)⟩
  · rw [if_neg c3] at H
    have c3b0 : (t118.toList == ([35, 102, 102, 56, 48, 48, 48] : List UInt8)) = false := beq_eq_false_iff_ne.mpr c3
    have c3b1 : (t118.toList != ([35, 102, 102, 56, 48, 48, 48] : List UInt8)) = true := bne_iff_ne.mpr c3
    obtain rfl := Option.some.inj H
    go_enter Tryd.func16, Tryd.ntmps16
    go_wp2_with (first | ((with_reducible refine gate_callee (f := 15) rfl ?_); refine goesL_ (some 1) rfl rfl Tryd.func15 (by kernel_rfl) rfl #[.string (⟨#[35, 102, 102, 56, 48, 48, 48]⟩ : ByteArray)] rfl (by (try simp only [List.map_toArray, List.map_cons, List.map_nil]); first | done | rfl | (simp only [List.length_drop, List.length_take]; rfl)) ?_; (with_reducible refine (impl_ColourParse.calls (⟨#[35, 102, 102, 56, 48, 48, 48]⟩ : ByteArray) t117 _ ?side1 A1.out).mono ?_); (case side1 => exact Go.Proofs.YthpfcofkhchkcaaDoorFmt.VarsOK.below HV.out (by repeat (first | (with_reducible first | exact HB.out | apply below_alloc | apply pw_below_drewN | apply below_drew1) | exact HB.out))); rintro e w9 ⟨rfl, hb⟩; refine ⟨_, rfl, ?_⟩; have n0_ := Aside0.mk (below_step (by repeat (first | (with_reducible first | exact HB.out | apply below_alloc | apply pw_below_drewN | apply below_drew1) | exact HB.out)) hb); clear HB; have HB := n0_; clear n0_; (try clear hb); (try clear hb2); (try clear hk); (try clear hi)) | ((with_reducible refine gate_callee (f := 18) rfl ?_); refine goesL_ (some 2) rfl rfl Tryd.func18 (by kernel_rfl) rfl #[.int .i32 t117] rfl (by (try simp only [List.map_toArray, List.map_cons, List.map_nil]); first | done | rfl | (simp only [List.length_drop, List.length_take]; rfl)) ?_; (with_reducible refine (impl_ColourString.calls t117 t118 _ ?side1 A2.out).mono ?_); (case side1 => exact Go.Proofs.YthpfcofkhchkcaaDoorFmt.VarsOK.below HV.out (by repeat (first | (with_reducible first | exact HB.out | apply below_alloc | apply pw_below_drewN | apply below_drew1) | exact HB.out))); rintro e w10 ⟨rfl, hb⟩; refine ⟨_, rfl, ?_⟩; have n0_ := Aside0.mk (below_step (by repeat (first | (with_reducible first | exact HB.out | apply below_alloc | apply pw_below_drewN | apply below_drew1) | exact HB.out)) hb); clear HB; have HB := n0_; clear n0_; (try clear hb); (try clear hb2); (try clear hk); (try clear hi)))
    go_ret
    exact ⟨by first | rfl | (simp [errW_none, errW_some] <;> rfl) | (simp [*, errW_none, errW_some] <;> rfl), by repeat (first | (with_reducible first | exact HB.out | apply below_alloc | apply pw_below_drewN | apply below_drew1) | exact HB.out)⟩

/-! ### laws_FnColourParse: function 3 -/
def laws_FnColourParse.f (k : Nat) (a0 : ByteArray) : Option (Bool) := if (a0.size : Int) > 2147483647 then (some true) else (if (a0.size : Int) > 40 then (some true) else ((spec_ColourParse.f k a0).bind fun bt121 => (if bt121.2 = 2 then (some true) else ((impl_ColourParse.f a0).bind fun t123 => (if t123 = bt121.1 then ((laws_coloured.f).bind fun t124 => (some t124)) else (some false))))))
theorem laws_FnColourParse.mono : ∀ a0 k, LeO (laws_FnColourParse.f k a0) (laws_FnColourParse.f (k + 1) a0) := by
  intro a0 k
  unfold laws_FnColourParse.f
  repeat' first
      | (with_reducible exact spec_ColourParse.mono _ _)
      | (with_reducible exact LeO.refl _)
      | (with_reducible exact LeO.none _)
      | (with_reducible refine LeO.ite ?_ ?_)
      | (with_reducible refine LeO.bind ?_ (fun _ => ?_))
      | exact spec_ColourParse.mono _ _
      | exact LeO.none _
      | refine LeO.ite ?_ ?_
      | refine LeO.bind ?_ (fun _ => ?_)
set_option maxHeartbeats 8000000 in
set_option maxRecDepth 100000 in
theorem laws_FnColourParse.calls (k : Nat) (a0 : ByteArray) (r : Bool) (w : World) (hV : Go.Proofs.YthpfcofkhchkcaaDoorFmt.VarsOK w) (h : laws_FnColourParse.f k a0 = some r) :
    Calls Tryd.prog 3 #[.string a0] w fun e w' => e = .returned (.bool r) ∧ Below w.heap.size w w' := by
  have HB := Aside0.mk (Below.refl w.heap.size w)
  have HV := Aside0.mk hV
  clear hV
  have H : (if (a0.size : Int) > 2147483647 then (some true) else (if (a0.size : Int) > 40 then (some true) else ((spec_ColourParse.f k a0).bind fun bt121 => (if bt121.2 = 2 then (some true) else ((impl_ColourParse.f a0).bind fun t123 => (if t123 = bt121.1 then ((laws_coloured.f).bind fun t124 => (some t124)) else (some false))))))) = some r := h
  clear h
  by_cases c2 : (a0.size : Int) > 2147483647
  · rw [if_pos c2] at H
    have c2b0 : decide (2147483647 < (a0.size : Int)) = true := decide_eq_true c2
    have c2b1 : decide (2147483647 < a0.size) = true := decide_eq_true (by omega)
    clear c2
    obtain rfl := Option.some.inj H
    go_enter Tryd.func3, Tryd.ntmps3
    go_wp2
    go_ret
    exact ⟨by first | rfl | (simp [errW_none, errW_some] <;> rfl) | (simp [*, errW_none, errW_some] <;> rfl), by repeat (first | (with_reducible first | exact HB.out | apply below_alloc | apply pw_below_drewN | apply below_drew1) | exact HB.out)⟩
  · rw [if_neg c2] at H
    have c2b0 : decide (2147483647 < (a0.size : Int)) = false := decide_eq_false c2
    have c2b1 : decide (2147483647 < a0.size) = false := decide_eq_false (by omega)
    clear c2
    by_cases c3 : (a0.size : Int) > 40
    · rw [if_pos c3] at H
      have c3b0 : decide (40 < (a0.size : Int)) = true := decide_eq_true c3
      have c3b1 : decide (40 < a0.size) = true := decide_eq_true (by omega)
      clear c3
      obtain rfl := Option.some.inj H
      go_enter Tryd.func3, Tryd.ntmps3
      go_wp2
      go_ret
      exact ⟨by first | rfl | (simp [errW_none, errW_some] <;> rfl) | (simp [*, errW_none, errW_some] <;> rfl), by repeat (first | (with_reducible first | exact HB.out | apply below_alloc | apply pw_below_drewN | apply below_drew1) | exact HB.out)⟩
    · rw [if_neg c3] at H
      have c3b0 : decide (40 < (a0.size : Int)) = false := decide_eq_false c3
      have c3b1 : decide (40 < a0.size) = false := decide_eq_false (by omega)
      clear c3
      replace H := Option.bind_eq_some_iff.mp H
      obtain ⟨⟨t121, t122⟩, A40, H⟩ := H
      replace H : (if t122 = 2 then (some true) else ((impl_ColourParse.f a0).bind fun t123 => (if t123 = t121 then ((laws_coloured.f).bind fun t124 => (some t124)) else (some false)))) = some r := H
      have A4 := Aside0.mk A40
      clear A40
      by_cases c5 : t122 = 2
      · rw [if_pos c5] at H
        have c5b0 : (t122 == 2) = true := beq_iff_eq.mpr c5
        have c5b1 : (t122 != 2) = false := bne_eq_false_iff_eq.mpr c5
        clear c5
        obtain rfl := Option.some.inj H
        go_enter Tryd.func3, Tryd.ntmps3
        go_wp2_with (first | ((with_reducible refine gate_callee (f := 14) rfl ?_); refine goesL_ (some 13) rfl rfl Tryd.func14 (by kernel_rfl) rfl #[.string a0] rfl (by (try simp only [List.map_toArray, List.map_cons, List.map_nil]); first | done | rfl | (simp only [List.length_drop, List.length_take]; rfl)) ?_; (with_reducible refine (spec_ColourParse.calls k a0 t121 t122 _ A4.out).mono ?_); rintro e w6 ⟨rfl, hb⟩; refine ⟨_, rfl, ?_⟩; have n0_ := Aside0.mk (below_step (by repeat (first | (with_reducible first | exact HB.out | apply below_alloc | apply pw_below_drewN | apply below_drew1) | exact HB.out)) hb); clear HB; have HB := n0_; clear n0_; (try clear hb); (try clear hb2); (try clear hk); (try clear hi)))
        go_ret
        exact ⟨by first | rfl | (simp [errW_none, errW_some] <;> rfl) | (simp [*, errW_none, errW_some] <;> rfl), by repeat (first | (with_reducible first | exact HB.out | apply below_alloc | apply pw_below_drewN | apply below_drew1) | exact HB.out)⟩
      · rw [if_neg c5] at H
        have c5b0 : (t122 == 2) = false := beq_eq_false_iff_ne.mpr c5
        have c5b1 : (t122 != 2) = true := bne_iff_ne.mpr c5
        replace H := Option.bind_eq_some_iff.mp H
        obtain ⟨t123, A70, H⟩ := H
        replace H : (if t123 = t121 then ((laws_coloured.f).bind fun t124 => (some t124)) else (some false)) = some r := H
        have A7 := Aside0.mk A70
        clear A70
        by_cases c8 : t123 = t121
        · rw [if_pos c8] at H
          have c8b0 : (t123 == t121) = true := beq_iff_eq.mpr c8
          have c8b1 : (t123 != t121) = false := bne_eq_false_iff_eq.mpr c8
          clear c8
          replace H := Option.bind_eq_some_iff.mp H
          obtain ⟨t124, A90, H⟩ := H
          replace H : (some t124) = some r := H
          have A9 := Aside0.mk A90
          clear A90
          obtain rfl := Option.some.inj H
          go_enter Tryd.func3, Tryd.ntmps3
          go_wp2_with (first | ((with_reducible refine gate_callee (f := 14) rfl ?_); refine goesL_ (some 13) rfl rfl Tryd.func14 (by kernel_rfl) rfl #[.string a0] rfl (by (try simp only [List.map_toArray, List.map_cons, List.map_nil]); first | done | rfl | (simp only [List.length_drop, List.length_take]; rfl)) ?_; (with_reducible refine (spec_ColourParse.calls k a0 t121 t122 _ A4.out).mono ?_); rintro e w10 ⟨rfl, hb⟩; refine ⟨_, rfl, ?_⟩; have n0_ := Aside0.mk (below_step (by repeat (first | (with_reducible first | exact HB.out | apply below_alloc | apply pw_below_drewN | apply below_drew1) | exact HB.out)) hb); clear HB; have HB := n0_; clear n0_; (try clear hb); (try clear hb2); (try clear hk); (try clear hi)) | (go_at_call 15; (with_reducible refine (impl_ColourParse.calls a0 t123 _ ?side1 A7.out).mono ?_); (case side1 => exact Go.Proofs.YthpfcofkhchkcaaDoorFmt.VarsOK.below HV.out (by repeat (first | (with_reducible first | exact HB.out | apply below_alloc | apply pw_below_drewN | apply below_drew1) | exact HB.out))); rintro e w11 ⟨rfl, hb⟩; have n0_ := Aside0.mk (below_step (by repeat (first | (with_reducible first | exact HB.out | apply below_alloc | apply pw_below_drewN | apply below_drew1) | exact HB.out)) hb); clear HB; have HB := n0_; clear n0_; (try clear hb); (try clear hb2); (try clear hk); (try clear hi)) | (go_at_call 16; (with_reducible refine (laws_coloured.calls  t124 _ ?side1 A9.out).mono ?_); (case side1 => exact Go.Proofs.YthpfcofkhchkcaaDoorFmt.VarsOK.below HV.out (by repeat (first | (with_reducible first | exact HB.out | apply below_alloc | apply pw_below_drewN | apply below_drew1) | exact HB.out))); rintro e w12 ⟨rfl, hb⟩; have n0_ := Aside0.mk (below_step (by repeat (first | (with_reducible first | exact HB.out | apply below_alloc | apply pw_below_drewN | apply below_drew1) | exact HB.out)) hb); clear HB; have HB := n0_; clear n0_; (try clear hb); (try clear hb2); (try clear hk); (try clear hi)))
          go_ret
          exact ⟨by first | rfl | (simp [errW_none, errW_some] <;> rfl) | (simp [*, errW_none, errW_some] <;> rfl), by repeat (first | (with_reducible first | exact HB.out | apply below_alloc | apply pw_below_drewN | apply below_drew1) | exact HB.out)⟩
        · rw [if_neg c8] at H
          have c8b0 : (t123 == t121) = false := beq_eq_false_iff_ne.mpr c8
          have c8b1 : (t123 != t121) = true := bne_iff_ne.mpr c8
          obtain rfl := Option.some.inj H
          go_enter Tryd.func3, Tryd.ntmps3
          go_wp2_with (first | ((with_reducible refine gate_callee (f := 14) rfl ?_); refine goesL_ (some 13) rfl rfl Tryd.func14 (by kernel_rfl) rfl #[.string a0] rfl (by (try simp only [List.map_toArray, List.map_cons, List.map_nil]); first | done | rfl | (simp only [List.length_drop, List.length_take]; rfl)) ?_; (with_reducible refine (spec_ColourParse.calls k a0 t121 t122 _ A4.out).mono ?_); rintro e w13 ⟨rfl, hb⟩; refine ⟨_, rfl, ?_⟩; have n0_ := Aside0.mk (below_step (by repeat (first | (with_reducible first | exact HB.out | apply below_alloc | apply pw_below_drewN | apply below_drew1) | exact HB.out)) hb); clear HB; have HB := n0_; clear n0_; (try clear hb); (try clear hb2); (try clear hk); (try clear hi)) | (go_at_call 15; (with_reducible refine (impl_ColourParse.calls a0 t123 _ ?side1 A7.out).mono ?_); (case side1 => exact Go.Proofs.YthpfcofkhchkcaaDoorFmt.VarsOK.below HV.out (by repeat (first | (with_reducible first | exact HB.out | apply below_alloc | apply pw_below_drewN | apply below_drew1) | exact HB.out))); rintro e w14 ⟨rfl, hb⟩; have n0_ := Aside0.mk (below_step (by repeat (first | (with_reducible first | exact HB.out | apply below_alloc | apply pw_below_drewN | apply below_drew1) | exact HB.out)) hb); clear HB; have HB := n0_; clear n0_; (try clear hb); (try clear hb2); (try clear hk); (try clear hi)))
          go_ret
          exact ⟨by first | rfl | (simp [errW_none, errW_some] <;> rfl) | (simp [*, errW_none, errW_some] <;> rfl), by repeat (first | (with_reducible first | exact HB.out | apply below_alloc | apply pw_below_drewN | apply below_drew1) | exact HB.out)⟩
def laws_FnColourParse.Pure : Prop := ∀ (a0 : ByteArray), a0.size ≤ 140737488351232 → ∃ k, laws_FnColourParse.f k a0 = some true

/-! ### spec_plain: function 37 -/
def spec_plain.f (a0 : Int) : Option (Bool) := if a0 ≥ 1 then (some (decide (a0 ≤ 16777216))) else (some false)
set_option maxHeartbeats 8000000 in
set_option maxRecDepth 100000 in
theorem spec_plain.calls (a0 : Int) (r : Bool) (w : World) (h : spec_plain.f a0 = some r) :
    Calls Tryd.prog 37 #[.int .i32 a0] w fun e w' => e = .returned (.bool r) ∧ Drawn0 w w' := by
  have H : (if a0 ≥ 1 then (some (decide (a0 ≤ 16777216))) else (some false)) = some r := h
  clear h
  by_cases c2 : a0 ≥ 1
  · rw [if_pos c2] at H
    have c2b0 : decide (1 ≤ a0) = true := decide_eq_true c2
    clear c2
    obtain rfl := Option.some.inj H
    go_enter Tryd.func37, Tryd.ntmps37
    go_wp2
    go_ret
    exact ⟨by first | rfl | (simp; done) | (simp [*]; done), by repeat (first | exact Drawn0.refl _ | apply Drawn0.step)⟩
  · rw [if_neg c2] at H
    have c2b0 : decide (1 ≤ a0) = false := decide_eq_false c2
    clear c2
    obtain rfl := Option.some.inj H
    go_enter Tryd.func37, Tryd.ntmps37
    go_wp2
    go_ret
    exact ⟨by first | rfl | (simp; done) | (simp [*]; done), by repeat (first | exact Drawn0.refl _ | apply Drawn0.step)⟩

/-! ### spec_ColourString: function 17 -/
def spec_ColourString.l0 : Nat → Int → List Int → Int → Option (ByteArray × Int)
  | 0, _, _, _ => none
  | k + 1, x4, x5, x6 => if x6 > 0 then (if 0 ≤ (Int.tmod x4 16) then (if (Int.tmod x4 16) < 16 then (if 0 ≤ x6 then (if x6 < (x5.length : Int) then (spec_ColourString.l0 k (wrap64 (Int.tdiv x4 16)) (x5.set (x6 : Int).toNat (bt (⟨#[48, 49, 50, 51, 52, 53, 54, 55, 56, 57, 97, 98, 99, 100, 101, 102]⟩ : ByteArray) (Int.tmod x4 16))) (wrap64 (x6 - 1))) else (none)) else (none)) else (none)) else (none)) else (some (strOfNums x5, 1))
def spec_ColourString.f (k : Nat) (a0 : Int) : Option (ByteArray × Int) := (spec_plain.f a0).bind fun t125 => (if t125 = true then (spec_ColourString.l0 k (wrap64 ((wrap64 (a0)) - 1)) (([35, 0, 0, 0, 0, 0, 0] : List Int)) 6) else (some ((⟨#[]⟩ : ByteArray), 2)))
theorem spec_ColourString.mono_l : ∀ k, (∀ y0 y1 y2, LeO (spec_ColourString.l0 k y0 y1 y2) (spec_ColourString.l0 (k + 1) y0 y1 y2))
  | 0 => fun _ _ _ r h => by simp [spec_ColourString.l0] at h
  | k + 1 => by
    have ih0 := spec_ColourString.mono_l k
    · intro y0 y1 y2
      unfold spec_ColourString.l0
      repeat' first
      | (with_reducible exact ih0 _ _ _)
      | (with_reducible exact LeO.refl _)
      | (with_reducible exact LeO.none _)
      | (with_reducible refine LeO.ite ?_ ?_)
      | (with_reducible refine LeO.bind ?_ (fun _ => ?_))
      | exact ih0 _ _ _
      | exact LeO.none _
      | refine LeO.ite ?_ ?_
      | refine LeO.bind ?_ (fun _ => ?_)
theorem spec_ColourString.mono : ∀ a0 k, LeO (spec_ColourString.f k a0) (spec_ColourString.f (k + 1) a0) := by
  intro a0 k
  have ih0 := spec_ColourString.mono_l k
  unfold spec_ColourString.f
  repeat' first
      | (with_reducible exact ih0 _ _ _)
      | (with_reducible exact LeO.refl _)
      | (with_reducible exact LeO.none _)
      | (with_reducible refine LeO.ite ?_ ?_)
      | (with_reducible refine LeO.bind ?_ (fun _ => ?_))
      | exact ih0 _ _ _
      | exact LeO.none _
      | refine LeO.ite ?_ ?_
      | refine LeO.bind ?_ (fun _ => ?_)
set_option maxHeartbeats 8000000 in
set_option maxRecDepth 100000 in
theorem spec_ColourString.calls (k : Nat) (a0 : Int) (r1 : ByteArray) (r2 : Int) (w : World) (h : spec_ColourString.f k a0 = some (r1, r2)) :
    Calls Tryd.prog 17 #[.int .i32 a0] w fun e w' => e = .returned (.tuple #[.string r1, .int .i64 r2]) ∧ Below w.heap.size w w' := by
  have HB := Aside0.mk (Below.refl w.heap.size w)
  have H : ((spec_plain.f a0).bind fun t125 => (if t125 = true then (spec_ColourString.l0 k (wrap64 ((wrap64 (a0)) - 1)) (([35, 0, 0, 0, 0, 0, 0] : List Int)) 6) else (some ((⟨#[]⟩ : ByteArray), 2)))) = some (r1, r2) := h
  clear h
  replace H := Option.bind_eq_some_iff.mp H
  obtain ⟨t125, A20, H⟩ := H
  replace H : (if t125 = true then (spec_ColourString.l0 k (wrap64 ((wrap64 (a0)) - 1)) (([35, 0, 0, 0, 0, 0, 0] : List Int)) 6) else (some ((⟨#[]⟩ : ByteArray), 2))) = some (r1, r2) := H
  have A2 := Aside0.mk A20
  clear A20
  by_cases c3 : t125 = true
  · subst c3
    have H1 : (spec_ColourString.l0 k (wrap64 ((wrap64 (a0)) - 1)) (([35, 0, 0, 0, 0, 0, 0] : List Int)) 6) = some (r1, r2) := by rw [if_pos rfl] at H; exact H
    clear H
    have H := H1
    clear H1
    obtain ⟨y126, hy126⟩ : ∃ y_ : List Int, y_ = (([35, 0, 0, 0, 0, 0, 0] : List Int)) := ⟨_, rfl⟩
    replace H : (spec_ColourString.l0 k (wrap64 ((wrap64 (a0)) - 1)) y126 6) = some (r1, r2) := by first | (rw [hy126]; with_reducible exact H) | (have H2_ := (Option.bind_some _ _).symm.trans H; rw [hy126]; with_reducible exact H2_) | (have H2_ := (Option.bind_some _ _).symm.trans H; with_reducible exact H2_) | with_reducible exact H | (rw [hy126]; exact H) | exact H
    have Ny126 := Aside0.mk hy126
    clear hy126
    have H' := Aside0.mk H
    clear H
    go_enter Tryd.func17, Tryd.ntmps17
    go_wp2_with (first | ((with_reducible refine gate_callee (f := 37) rfl ?_); refine goesL_ (some 8) rfl rfl Tryd.func37 (by kernel_rfl) rfl #[.int .i32 a0] rfl (by (try simp only [List.map_toArray, List.map_cons, List.map_nil]); first | done | rfl | (simp only [List.length_drop, List.length_take]; rfl)) ?_; (with_reducible refine (spec_plain.calls a0 true _ A2.out).mono ?_); rintro e w' ⟨rfl, ⟨nd, rfl⟩⟩; refine ⟨_, rfl, ?_⟩) | ((with_reducible refine gate_dst (N := 13) rfl ?_); refine Kd.R_lit (Kd.int .u8) _ 5 ?hg (N := 13) ?hd (xs := ([35, 0, 0, 0, 0, 0, 0] : List Int)) (inner := [.int .u8 35, .int .u8 0, .int .u8 0, .int .u8 0, .int .u8 0, .int .u8 0, .int .u8 0]) (ok := fun _ => True) (okp := fun _ => True) ?hr ?hp (fun _ hk => hk) trivial (Below.refl _ _) (Nat.le_refl _) (by simp) ?_; (case hd => rfl); (case hg => rfl); (case hr => first | (go_simp; done) | (go_simp; rfl)); (case hp => exact (Reps.one (show Kd.M (Kd.int .u8) _ _ _ 35 [.int .u8 35] from rfl) (Reps.one (show Kd.M (Kd.int .u8) _ _ _ 0 [.int .u8 0] from rfl) (Reps.one (show Kd.M (Kd.int .u8) _ _ _ 0 [.int .u8 0] from rfl) (Reps.one (show Kd.M (Kd.int .u8) _ _ _ 0 [.int .u8 0] from rfl) (Reps.one (show Kd.M (Kd.int .u8) _ _ _ 0 [.int .u8 0] from rfl) (Reps.one (show Kd.M (Kd.int .u8) _ _ _ 0 [.int .u8 0] from rfl) (Reps.one (show Kd.M (Kd.int .u8) _ _ _ 0 [.int .u8 0] from rfl) (Reps.none _ _))))))))); intro v127 w4 ho5 hb hg_ hnew_; clear hg_ hnew_; (first | rw [← Ny126.out] at ho5 | (simp only [Int.reduceToNat] at ho5; rw [← Ny126.out] at ho5)); have n0_ := Aside0.mk (Kd.R_lower ho5 (below_size (by repeat (first | (with_reducible first | exact HB.out | apply below_alloc | apply pw_below_drewN | apply below_drew1) | exact HB.out)))); have n1_ := Aside0.mk (below_step (by repeat (first | (with_reducible first | exact HB.out | apply below_alloc | apply pw_below_drewN | apply below_drew1) | exact HB.out)) hb); clear HB; have HO128 := n0_; have HB := n1_; clear n0_ n1_; clear hb ho5))
    go_loopg [4, 6] k (fun kq v4 v6 w' => ∃ (x4_1 : Int) (x5_1 : List Int) (x6_1 : Int), v4 = .int .i64 x4_1 ∧ v6 = .int .i64 x6_1 ∧ Aside0 (spec_ColourString.l0 kq x4_1 x5_1 x6_1 = some (r1, r2)) ∧ Aside0 (kq ≤ k) ∧ Aside0 (Kd.R (Kd.int .u8) 5 w' w.heap.size (fun _ => True) v127 x5_1) ∧ Aside0 (Below w.heap.size w w'))
    case atStart => exact ⟨(wrap64 ((wrap64 (a0)) - 1)), (y126), (6), (by first | rfl | (simp; done) | (simp [*]; done)), (by first | rfl | (simp; done) | (simp [*]; done)), H', ⟨Nat.le_refl _⟩, ⟨by (with_reducible repeat (first | apply Kd.R_alloc | apply Kd.R_drewN | apply Kd.R_drew)); exact HO128.out⟩, ⟨by repeat (first | (with_reducible first | exact HB.out | apply below_alloc | apply pw_below_drewN | apply below_drew1) | exact HB.out)⟩⟩
    case round =>
      clear H'
      try clear c1
      try clear p2
      try clear c3
      obtain ⟨x4_1, x5_1, x6_1, rfl, rfl, HA, HK1, HO_5, HB⟩ := hrel
      cases gk with
      | zero => exact absurd HA.out (by simp [spec_ColourString.l0])
      | succ k1 =>
        have H := HA.out
        clear HA
        simp only [spec_ColourString.l0] at H
        by_cases c6 : x6_1 > 0
        · rw [if_pos c6] at H
          have c6b0 : decide (0 < x6_1) = true := decide_eq_true c6
          clear c6
          obtain ⟨ji7, hji7⟩ : ∃ j_ : Int, (Int.tmod x4_1 16) = j_ := ⟨_, rfl⟩
          replace H : (if 0 ≤ (ji7) then (if (ji7) < 16 then (if 0 ≤ x6_1 then (if x6_1 < (x5_1.length : Int) then (spec_ColourString.l0 k1 (wrap64 (Int.tdiv x4_1 16)) (x5_1.set (x6_1 : Int).toNat (bt (⟨#[48, 49, 50, 51, 52, 53, 54, 55, 56, 57, 97, 98, 99, 100, 101, 102]⟩ : ByteArray) (ji7))) (wrap64 (x6_1 - 1))) else (none)) else (none)) else (none)) else (none)) = some (r1, r2) := by first | (rw [hji7] at H; exact H) | (simp only [hji7] at H ⊢; exact H)
          by_cases c8 : 0 ≤ (ji7)
          · rw [if_pos c8] at H
            have c8b0 : decide (0 ≤ (ji7)) = true := decide_eq_true c8
            clear c8
            by_cases c9 : (ji7) < 16
            · rw [if_pos c9] at H
              have c9b0 : decide ((ji7) < 16) = true := decide_eq_true c9
              clear c9
              by_cases c11 : 0 ≤ x6_1
              · rw [if_pos c11] at H
                have c11b0 : decide (0 ≤ x6_1) = true := decide_eq_true c11
                clear c11
                by_cases c12 : x6_1 < (x5_1.length : Int)
                · rw [if_pos c12] at H
                  have c12b0 : decide (x6_1 < (x5_1.length : Int)) = true := decide_eq_true c12
                  clear c12
                  obtain ⟨y129, hy129⟩ : ∃ y_ : List Int, y_ = (x5_1.set (x6_1 : Int).toNat (bt (⟨#[48, 49, 50, 51, 52, 53, 54, 55, 56, 57, 97, 98, 99, 100, 101, 102]⟩ : ByteArray) (ji7))) := ⟨_, rfl⟩
                  replace H : (spec_ColourString.l0 k1 (wrap64 (Int.tdiv x4_1 16)) y129 (wrap64 (x6_1 - 1))) = some (r1, r2) := by first | (rw [hy129]; with_reducible exact H) | (have H2_ := (Option.bind_some _ _).symm.trans H; rw [hy129]; with_reducible exact H2_) | (have H2_ := (Option.bind_some _ _).symm.trans H; with_reducible exact H2_) | with_reducible exact H | (rw [hy129]; exact H) | exact H
                  have Ny129 := Aside0.mk hy129
                  clear hy129
                  have H' := Aside0.mk H
                  clear H
                  have p10 : 0 ≤ ((ji7) : Int) := of_decide_eq_true (by first | (with_reducible assumption) | assumption)
                  have q10 : (ji7) < (16 : Int) := of_decide_eq_true (by first | (with_reducible assumption) | assumption)
                  have hx10 := bt_at (⟨#[48, 49, 50, 51, 52, 53, 54, 55, 56, 57, 97, 98, 99, 100, 101, 102]⟩ : ByteArray) (ji7)
                  replace p10 := eq_true p10
                  replace q10 := eq_true q10
                  have p13 : 0 ≤ (x6_1 : Int) := of_decide_eq_true (by first | (with_reducible assumption) | assumption)
                  have q13 : (x6_1 : Int) < ((x5_1.length : Int) : Int) := of_decide_eq_true (by first | (with_reducible assumption) | assumption)
                  obtain ⟨go13, co13, eo13, gb13, gl13, cl13, HG13⟩ := Kd.R_form HO_5.out (by omega)
                  (first | cases eo13 | (injection eo13 with ea_ en_ ec_; (first | subst ea_ | (injection ea_ with ea_; subst ea_)); subst ec_; clear en_))
                  have GB13 := Aside0.mk gb13
                  have GG13 := Aside0.mk HG13
                  clear gb13 gl13 HG13
                  obtain ⟨hx13_0, hf13_0⟩ := Kd.R_celln 0 HO_5.out (x6_1 : Int) p13 q13
                  replace p13 := eq_true p13
                  replace q13 := eq_true q13
                  have HP14 := Kd.R_putg HO_5.out (x6_1 : Int) (bt (⟨#[48, 49, 50, 51, 52, 53, 54, 55, 56, 57, 97, 98, 99, 100, 101, 102]⟩ : ByteArray) (ji7))
                  go_wp2_with (first | ((with_reducible refine gate_store (t := 5) (p := 23) rfl ?_); refine store_event (t := 5) (p := 23) (v := ?vo_w15) (w1 := (wr.setCell ⟨go13, (x6_1 : Int).toNat, none⟩ (.int .u8 (bt (⟨#[48, 49, 50, 51, 52, 53, 54, 55, 56, 57, 97, 98, 99, 100, 101, 102]⟩ : ByteArray) (ji7))))) ?hg ?ho ?hn ?hr ?_; (case ho => rfl); (case hg => rfl); (case hn => rfl); (case hr => first | (go_simp; done) | (go_simp; rfl)); intro w15 hw; have hg : wr.grownBy w15 (some go13) := (by rw [hw]; exact HP14.2); have hp_ : Kd.R (Kd.int .u8) 5 w15 w.heap.size (fun _ => True) (.slice (some ⟨go13, 0, none⟩) x5_1.length co13) y129 := (by rw [hw, Ny129.out]; exact HP14.1); clear HP14; have n0_ := Aside0.mk (hp_); have n1_ := Aside0.mk ((by rw [hw]; exact below_set (HB.out) GB13.out : Below w.heap.size w w15)); clear HO_5; clear HB; have HO_5 := n0_; have HB := n1_; clear n0_ n1_; clear hg hw hp_))
                  go_roundg k1
                  case measure => have := HK1.out; omega
                  case rel => exact ⟨(wrap64 (Int.tdiv x4_1 16)), (y129), (wrap64 (x6_1 - 1)), (by first | rfl | (simp; done) | (simp [*]; done)), (by first | rfl | (simp; done) | (simp [*]; done)), H', ⟨by have := HK1.out; omega⟩, ⟨by (with_reducible repeat (first | apply Kd.R_alloc | apply Kd.R_drewN | apply Kd.R_drew)); exact HO_5.out⟩, ⟨by repeat (first | (with_reducible first | exact HB.out | apply below_alloc | apply pw_below_drewN | apply below_drew1) | exact HB.out)⟩⟩
                · rw [if_neg c12] at H
                  exact absurd H (by simp)
              · rw [if_neg c11] at H
                exact absurd H (by simp)
            · rw [if_neg c9] at H
              exact absurd H (by simp)
          · rw [if_neg c8] at H
            exact absurd H (by simp)
        · rw [if_neg c6] at H
          have c6b0 : decide (0 < x6_1) = false := decide_eq_false c6
          clear c6
          simp only [Option.some.injEq, Prod.mk.injEq] at H
          obtain ⟨rfl, rfl⟩ := H
          have hcv16 := own_string (P := Tryd.prog) Tryd.underlying34 Tryd.underlying5 Tryd.underlying9 (Kd.own_of_R HO_5.out)
          go_wp2
          go_ret2
          exact ⟨by first | rfl | (simp [errW_none, errW_some] <;> rfl) | (simp [*, errW_none, errW_some] <;> rfl), by repeat (first | (with_reducible first | exact HB.out | apply below_alloc | apply pw_below_drewN | apply below_drew1) | exact HB.out)⟩
  · replace c3 := Bool.eq_false_iff.mpr c3
    subst c3
    have H1 : (some ((⟨#[]⟩ : ByteArray), 2)) = some (r1, r2) := by rw [if_neg (show ¬ (false = true) by decide)] at H; exact H
    clear H
    have H := H1
    clear H1
    simp only [Option.some.injEq, Prod.mk.injEq] at H
    obtain ⟨rfl, rfl⟩ := H
    go_enter Tryd.func17, Tryd.ntmps17
    go_wp2_with (first | ((with_reducible refine gate_callee (f := 37) rfl ?_); refine goesL_ (some 8) rfl rfl Tryd.func37 (by kernel_rfl) rfl #[.int .i32 a0] rfl (by (try simp only [List.map_toArray, List.map_cons, List.map_nil]); first | done | rfl | (simp only [List.length_drop, List.length_take]; rfl)) ?_; (with_reducible refine (spec_plain.calls a0 false _ A2.out).mono ?_); rintro e w' ⟨rfl, ⟨nd, rfl⟩⟩; refine ⟨_, rfl, ?_⟩))
    go_ret2
    exact ⟨by first | rfl | (simp [errW_none, errW_some] <;> rfl) | (simp [*, errW_none, errW_some] <;> rfl), by repeat (first | (with_reducible first | exact HB.out | apply below_alloc | apply pw_below_drewN | apply below_drew1) | exact HB.out)⟩

/-! ### laws_FnColourText: function 4 -/
def laws_FnColourText.f (k : Nat) (a0 : Int) : Option (Bool) := (spec_ColourString.f k a0).bind fun bt130 => (if bt130.2 = 2 then (some true) else ((impl_ColourString.f a0).bind fun t132 => (if t132.toList = bt130.1.toList then ((laws_coloured.f).bind fun t133 => (some t133)) else (some false))))
theorem laws_FnColourText.mono : ∀ a0 k, LeO (laws_FnColourText.f k a0) (laws_FnColourText.f (k + 1) a0) := by
  intro a0 k
  unfold laws_FnColourText.f
  repeat' first
      | (with_reducible exact spec_ColourString.mono _ _)
      | (with_reducible exact LeO.refl _)
      | (with_reducible exact LeO.none _)
      | (with_reducible refine LeO.ite ?_ ?_)
      | (with_reducible refine LeO.bind ?_ (fun _ => ?_))
      | exact spec_ColourString.mono _ _
      | exact LeO.none _
      | refine LeO.ite ?_ ?_
      | refine LeO.bind ?_ (fun _ => ?_)
set_option maxHeartbeats 8000000 in
set_option maxRecDepth 100000 in
theorem laws_FnColourText.calls (k : Nat) (a0 : Int) (r : Bool) (w : World) (hV : Go.Proofs.YthpfcofkhchkcaaDoorFmt.VarsOK w) (h : laws_FnColourText.f k a0 = some r) :
    Calls Tryd.prog 4 #[.int .i32 a0] w fun e w' => e = .returned (.bool r) ∧ Below w.heap.size w w' := by
  have HB := Aside0.mk (Below.refl w.heap.size w)
  have HV := Aside0.mk hV
  clear hV
  have H : ((spec_ColourString.f k a0).bind fun bt130 => (if bt130.2 = 2 then (some true) else ((impl_ColourString.f a0).bind fun t132 => (if t132.toList = bt130.1.toList then ((laws_coloured.f).bind fun t133 => (some t133)) else (some false))))) = some r := h
  clear h
  replace H := Option.bind_eq_some_iff.mp H
  obtain ⟨⟨t130, t131⟩, A20, H⟩ := H
  replace H : (if t131 = 2 then (some true) else ((impl_ColourString.f a0).bind fun t132 => (if t132.toList = t130.toList then ((laws_coloured.f).bind fun t133 => (some t133)) else (some false)))) = some r := H
  have A2 := Aside0.mk A20
  clear A20
  by_cases c3 : t131 = 2
  · rw [if_pos c3] at H
    have c3b0 : (t131 == 2) = true := beq_iff_eq.mpr c3
    have c3b1 : (t131 != 2) = false := bne_eq_false_iff_eq.mpr c3
    clear c3
    obtain rfl := Option.some.inj H
    go_enter Tryd.func4, Tryd.ntmps4
    go_wp2_with (first | ((with_reducible refine gate_callee (f := 17) rfl ?_); refine goesL_ (some 7) rfl rfl Tryd.func17 (by kernel_rfl) rfl #[.int .i32 a0] rfl (by (try simp only [List.map_toArray, List.map_cons, List.map_nil]); first | done | rfl | (simp only [List.length_drop, List.length_take]; rfl)) ?_; (with_reducible refine (spec_ColourString.calls k a0 t130 t131 _ A2.out).mono ?_); rintro e w4 ⟨rfl, hb⟩; refine ⟨_, rfl, ?_⟩; have n0_ := Aside0.mk (below_step (by repeat (first | (with_reducible first | exact HB.out | apply below_alloc | apply pw_below_drewN | apply below_drew1) | exact HB.out)) hb); clear HB; have HB := n0_; clear n0_; (try clear hb); (try clear hb2); (try clear hk); (try clear hi)))
    go_ret
    exact ⟨by first | rfl | (simp [errW_none, errW_some] <;> rfl) | (simp [*, errW_none, errW_some] <;> rfl), by repeat (first | (with_reducible first | exact HB.out | apply below_alloc | apply pw_below_drewN | apply below_drew1) | exact HB.out)⟩
  · rw [if_neg c3] at H
    have c3b0 : (t131 == 2) = false := beq_eq_false_iff_ne.mpr c3
    have c3b1 : (t131 != 2) = true := bne_iff_ne.mpr c3
    replace H := Option.bind_eq_some_iff.mp H
    obtain ⟨t132, A50, H⟩ := H
    replace H : (if t132.toList = t130.toList then ((laws_coloured.f).bind fun t133 => (some t133)) else (some false)) = some r := H
    have A5 := Aside0.mk A50
    clear A50
    by_cases c6 : t132.toList = t130.toList
    · rw [if_pos c6] at H
      have c6b0 : (t132.toList == t130.toList) = true := beq_iff_eq.mpr c6
      have c6b1 : (t132.toList != t130.toList) = false := bne_eq_false_iff_eq.mpr c6
      clear c6
      replace H := Option.bind_eq_some_iff.mp H
      obtain ⟨t133, A70, H⟩ := H
      replace H : (some t133) = some r := H
      have A7 := Aside0.mk A70
      clear A70
      obtain rfl := Option.some.inj H
      go_enter Tryd.func4, Tryd.ntmps4
      go_wp2_with (first | ((with_reducible refine gate_callee (f := 17) rfl ?_); refine goesL_ (some 7) rfl rfl Tryd.func17 (by kernel_rfl) rfl #[.int .i32 a0] rfl (by (try simp only [List.map_toArray, List.map_cons, List.map_nil]); first | done | rfl | (simp only [List.length_drop, List.length_take]; rfl)) ?_; (with_reducible refine (spec_ColourString.calls k a0 t130 t131 _ A2.out).mono ?_); rintro e w8 ⟨rfl, hb⟩; refine ⟨_, rfl, ?_⟩; have n0_ := Aside0.mk (below_step (by repeat (first | (with_reducible first | exact HB.out | apply below_alloc | apply pw_below_drewN | apply below_drew1) | exact HB.out)) hb); clear HB; have HB := n0_; clear n0_; (try clear hb); (try clear hb2); (try clear hk); (try clear hi)) | (go_at_call 18; (with_reducible refine (impl_ColourString.calls a0 t132 _ ?side1 A5.out).mono ?_); (case side1 => exact Go.Proofs.YthpfcofkhchkcaaDoorFmt.VarsOK.below HV.out (by repeat (first | (with_reducible first | exact HB.out | apply below_alloc | apply pw_below_drewN | apply below_drew1) | exact HB.out))); rintro e w9 ⟨rfl, hb⟩; have n0_ := Aside0.mk (below_step (by repeat (first | (with_reducible first | exact HB.out | apply below_alloc | apply pw_below_drewN | apply below_drew1) | exact HB.out)) hb); clear HB; have HB := n0_; clear n0_; (try clear hb); (try clear hb2); (try clear hk); (try clear hi)) | (go_at_call 16; (with_reducible refine (laws_coloured.calls  t133 _ ?side1 A7.out).mono ?_); (case side1 => exact Go.Proofs.YthpfcofkhchkcaaDoorFmt.VarsOK.below HV.out (by repeat (first | (with_reducible first | exact HB.out | apply below_alloc | apply pw_below_drewN | apply below_drew1) | exact HB.out))); rintro e w10 ⟨rfl, hb⟩; have n0_ := Aside0.mk (below_step (by repeat (first | (with_reducible first | exact HB.out | apply below_alloc | apply pw_below_drewN | apply below_drew1) | exact HB.out)) hb); clear HB; have HB := n0_; clear n0_; (try clear hb); (try clear hb2); (try clear hk); (try clear hi)))
      go_ret
      exact ⟨by first | rfl | (simp [errW_none, errW_some] <;> rfl) | (simp [*, errW_none, errW_some] <;> rfl), by repeat (first | (with_reducible first | exact HB.out | apply below_alloc | apply pw_below_drewN | apply below_drew1) | exact HB.out)⟩
    · rw [if_neg c6] at H
      have c6b0 : (t132.toList == t130.toList) = false := beq_eq_false_iff_ne.mpr c6
      have c6b1 : (t132.toList != t130.toList) = true := bne_iff_ne.mpr c6
      obtain rfl := Option.some.inj H
      go_enter Tryd.func4, Tryd.ntmps4
      go_wp2_with (first | ((with_reducible refine gate_callee (f := 17) rfl ?_); refine goesL_ (some 7) rfl rfl Tryd.func17 (by kernel_rfl) rfl #[.int .i32 a0] rfl (by (try simp only [List.map_toArray, List.map_cons, List.map_nil]); first | done | rfl | (simp only [List.length_drop, List.length_take]; rfl)) ?_; (with_reducible refine (spec_ColourString.calls k a0 t130 t131 _ A2.out).mono ?_); rintro e w11 ⟨rfl, hb⟩; refine ⟨_, rfl, ?_⟩; have n0_ := Aside0.mk (below_step (by repeat (first | (with_reducible first | exact HB.out | apply below_alloc | apply pw_below_drewN | apply below_drew1) | exact HB.out)) hb); clear HB; have HB := n0_; clear n0_; (try clear hb); (try clear hb2); (try clear hk); (try clear hi)) | (go_at_call 18; (with_reducible refine (impl_ColourString.calls a0 t132 _ ?side1 A5.out).mono ?_); (case side1 => exact Go.Proofs.YthpfcofkhchkcaaDoorFmt.VarsOK.below HV.out (by repeat (first | (with_reducible first | exact HB.out | apply below_alloc | apply pw_below_drewN | apply below_drew1) | exact HB.out))); rintro e w12 ⟨rfl, hb⟩; have n0_ := Aside0.mk (below_step (by repeat (first | (with_reducible first | exact HB.out | apply below_alloc | apply pw_below_drewN | apply below_drew1) | exact HB.out)) hb); clear HB; have HB := n0_; clear n0_; (try clear hb); (try clear hb2); (try clear hk); (try clear hi)))
      go_ret
      exact ⟨by first | rfl | (simp [errW_none, errW_some] <;> rfl) | (simp [*, errW_none, errW_some] <;> rfl), by repeat (first | (with_reducible first | exact HB.out | apply below_alloc | apply pw_below_drewN | apply below_drew1) | exact HB.out)⟩
def laws_FnColourText.Pure : Prop := ∀ (a0 : Int), (Lit.int .i32 a0).wf = true → ∃ k, laws_FnColourText.f k a0 = some true

/-! ### chroma_NewColour: function 39 -/
def chroma_NewColour.f (a0 : Int) (a1 : Int) (a2 : Int) : Option (Int) := some (wrap32 ((Go.bits .or .i32 (Go.bits .or .i32 (wrap32 ((wrap32 (a0)) * 65536)) (wrap32 ((wrap32 (a1)) * 256))) (wrap32 (a2))) + 1))
set_option maxHeartbeats 8000000 in
set_option maxRecDepth 100000 in
theorem chroma_NewColour.calls (a0 : Int) (a1 : Int) (a2 : Int) (r : Int) (w : World) (h : chroma_NewColour.f a0 a1 a2 = some r) :
    Calls Tryd.prog 39 #[.int .u8 a0, .int .u8 a1, .int .u8 a2] w fun e w' => e = .returned (.int .i32 r) ∧ Drawn0 w w' := by
  have H : (some (wrap32 ((Go.bits .or .i32 (Go.bits .or .i32 (wrap32 ((wrap32 (a0)) * 65536)) (wrap32 ((wrap32 (a1)) * 256))) (wrap32 (a2))) + 1))) = some r := h
  clear h
  obtain rfl := Option.some.inj H
  go_enter Tryd.func39, Tryd.ntmps39
  go_wp2
  go_ret
  exact ⟨by first | rfl | (simp; done) | (simp [*]; done), by repeat (first | exact Drawn0.refl _ | apply Drawn0.step)⟩

/-! ### impl_ColourNew: function 19 -/
def impl_ColourNew.f (a0 : Int) (a1 : Int) (a2 : Int) : Option (Int) := (chroma_NewColour.f a0 a1 a2).bind fun t134 => (some t134)
set_option maxHeartbeats 8000000 in
set_option maxRecDepth 100000 in
theorem impl_ColourNew.calls (a0 : Int) (a1 : Int) (a2 : Int) (r : Int) (w : World) (h : impl_ColourNew.f a0 a1 a2 = some r) :
    Calls Tryd.prog 19 #[.int .u8 a0, .int .u8 a1, .int .u8 a2] w fun e w' => e = .returned (.int .i32 r) ∧ Drawn0 w w' := by
  have H : ((chroma_NewColour.f a0 a1 a2).bind fun t134 => (some t134)) = some r := h
  clear h
  replace H := Option.bind_eq_some_iff.mp H
  obtain ⟨t134, A40, H⟩ := H
  replace H : (some t134) = some r := H
  have A4 := Aside0.mk A40
  clear A40
  obtain rfl := Option.some.inj H
  go_enter Tryd.func19, Tryd.ntmps19
  go_wp2_with (first | ((with_reducible refine gate_callee (f := 39) rfl ?_); refine goesL_ (some 10) rfl rfl Tryd.func39 (by kernel_rfl) rfl #[.int .u8 a0, .int .u8 a1, .int .u8 a2] rfl (by (try simp only [List.map_toArray, List.map_cons, List.map_nil]); first | done | rfl | (simp only [List.length_drop, List.length_take]; rfl)) ?_; (with_reducible refine (chroma_NewColour.calls a0 a1 a2 t134 _ A4.out).mono ?_); rintro e w' ⟨rfl, ⟨nd, rfl⟩⟩; refine ⟨_, rfl, ?_⟩))
  go_ret
  exact ⟨by first | rfl | (simp; done) | (simp [*]; done), by repeat (first | exact Drawn0.refl _ | apply Drawn0.step)⟩

/-! ### laws_FnColourBack: function 5 -/
def laws_FnColourBack.f (a0 : Int) (a1 : Int) (a2 : Int) : Option (Bool) := (impl_ColourNew.f a0 a1 a2).bind fun t135 => ((impl_ColourString.f t135).bind fun t136 => (if (t136.size : Int) = 7 then (if 0 < (t136.size : Int) then (if (bt t136 0) = 35 then ((impl_ColourParse.f t136).bind fun t137 => (if t137 = t135 then ((laws_coloured.f).bind fun t138 => (some t138)) else (some false))) else (some false)) else (none)) else (some false)))
set_option maxHeartbeats 8000000 in
set_option maxRecDepth 100000 in
theorem laws_FnColourBack.calls (a0 : Int) (a1 : Int) (a2 : Int) (r : Bool) (w : World) (hV : Go.Proofs.YthpfcofkhchkcaaDoorFmt.VarsOK w) (h : laws_FnColourBack.f a0 a1 a2 = some r) :
    Calls Tryd.prog 5 #[.int .u8 a0, .int .u8 a1, .int .u8 a2] w fun e w' => e = .returned (.bool r) ∧ Below w.heap.size w w' := by
  have HB := Aside0.mk (Below.refl w.heap.size w)
  have HV := Aside0.mk hV
  clear hV
  have H : ((impl_ColourNew.f a0 a1 a2).bind fun t135 => ((impl_ColourString.f t135).bind fun t136 => (if (t136.size : Int) = 7 then (if 0 < (t136.size : Int) then (if (bt t136 0) = 35 then ((impl_ColourParse.f t136).bind fun t137 => (if t137 = t135 then ((laws_coloured.f).bind fun t138 => (some t138)) else (some false))) else (some false)) else (none)) else (some false)))) = some r := h
  clear h
  replace H := Option.bind_eq_some_iff.mp H
  obtain ⟨t135, A40, H⟩ := H
  replace H : ((impl_ColourString.f t135).bind fun t136 => (if (t136.size : Int) = 7 then (if 0 < (t136.size : Int) then (if (bt t136 0) = 35 then ((impl_ColourParse.f t136).bind fun t137 => (if t137 = t135 then ((laws_coloured.f).bind fun t138 => (some t138)) else (some false))) else (some false)) else (none)) else (some false))) = some r := H
  have A4 := Aside0.mk A40
  clear A40
  replace H := Option.bind_eq_some_iff.mp H
  obtain ⟨t136, A50, H⟩ := H
  replace H : (if (t136.size : Int) = 7 then (if 0 < (t136.size : Int) then (if (bt t136 0) = 35 then ((impl_ColourParse.f t136).bind fun t137 => (if t137 = t135 then ((laws_coloured.f).bind fun t138 => (some t138)) else (some false))) else (some false)) else (none)) else (some false)) = some r := H
  have A5 := Aside0.mk A50
  clear A50
  by_cases c6 : (t136.size : Int) = 7
  · rw [if_pos c6] at H
    have c6b0 : ((t136.size : Int) == 7) = true := beq_iff_eq.mpr c6
    have c6b1 : ((t136.size : Int) != 7) = false := bne_eq_false_iff_eq.mpr c6
    clear c6
    by_cases c7 : 0 < (t136.size : Int)
    · rw [if_pos c7] at H
      have c7b0 : decide (0 < (t136.size : Int)) = true := decide_eq_true c7
      have c7b1 : decide (0 < t136.size) = true := decide_eq_true (by omega)
      clear c7
      by_cases c9 : (bt t136 0) = 35
      · rw [if_pos c9] at H
        have c9b0 : ((bt t136 0) == 35) = true := beq_iff_eq.mpr c9
        have c9b1 : ((bt t136 0) != 35) = false := bne_eq_false_iff_eq.mpr c9
        clear c9
        replace H := Option.bind_eq_some_iff.mp H
        obtain ⟨t137, A100, H⟩ := H
        replace H : (if t137 = t135 then ((laws_coloured.f).bind fun t138 => (some t138)) else (some false)) = some r := H
        have A10 := Aside0.mk A100
        clear A100
        by_cases c11 : t137 = t135
        · rw [if_pos c11] at H
          have c11b0 : (t137 == t135) = true := beq_iff_eq.mpr c11
          have c11b1 : (t137 != t135) = false := bne_eq_false_iff_eq.mpr c11
          clear c11
          replace H := Option.bind_eq_some_iff.mp H
          obtain ⟨t138, A120, H⟩ := H
          replace H : (some t138) = some r := H
          have A12 := Aside0.mk A120
          clear A120
          obtain rfl := Option.some.inj H
          go_enter Tryd.func5, Tryd.ntmps5
          go_wp2_with (first | ((with_reducible refine gate_callee (f := 19) rfl ?_); refine goesL_ (some 12) rfl rfl Tryd.func19 (by kernel_rfl) rfl #[.int .u8 a0, .int .u8 a1, .int .u8 a2] rfl (by (try simp only [List.map_toArray, List.map_cons, List.map_nil]); first | done | rfl | (simp only [List.length_drop, List.length_take]; rfl)) ?_; (with_reducible refine (impl_ColourNew.calls a0 a1 a2 t135 _ A4.out).mono ?_); rintro e w' ⟨rfl, ⟨nd, rfl⟩⟩; refine ⟨_, rfl, ?_⟩) | ((with_reducible refine gate_callee (f := 18) rfl ?_); refine goesL_ (some 14) rfl rfl Tryd.func18 (by kernel_rfl) rfl #[.int .i32 t135] rfl (by (try simp only [List.map_toArray, List.map_cons, List.map_nil]); first | done | rfl | (simp only [List.length_drop, List.length_take]; rfl)) ?_; (with_reducible refine (impl_ColourString.calls t135 t136 _ ?side1 A5.out).mono ?_); (case side1 => exact Go.Proofs.YthpfcofkhchkcaaDoorFmt.VarsOK.below HV.out (by repeat (first | (with_reducible first | exact HB.out | apply below_alloc | apply pw_below_drewN | apply below_drew1) | exact HB.out))); rintro e w13 ⟨rfl, hb⟩; refine ⟨_, rfl, ?_⟩; have n0_ := Aside0.mk (below_step (by repeat (first | (with_reducible first | exact HB.out | apply below_alloc | apply pw_below_drewN | apply below_drew1) | exact HB.out)) hb); clear HB; have HB := n0_; clear n0_; (try clear hb); (try clear hb2); (try clear hk); (try clear hi); have p8 : 0 ≤ (0 : Int) := (by omega); have q8 : 0 < t136.size := (by have : (0 : Int) < (t136.size : Int) := of_decide_eq_true (by first | (with_reducible assumption) | assumption); omega); have hx8 : ∀ h : 0 < t136.size, ((t136[0]'h).toNat : Int) = bt t136 0 := bt_at t136 0; clear p8; have qi8 : (0 < (t136.size : Int)) = True := eq_true (of_decide_eq_true (by first | (with_reducible assumption) | assumption)); replace q8 := eq_true q8) | (go_at_call 15; (with_reducible refine (impl_ColourParse.calls t136 t137 _ ?side1 A10.out).mono ?_); (case side1 => exact Go.Proofs.YthpfcofkhchkcaaDoorFmt.VarsOK.below HV.out (by repeat (first | (with_reducible first | exact HB.out | apply below_alloc | apply pw_below_drewN | apply below_drew1) | exact HB.out))); rintro e w14 ⟨rfl, hb⟩; have n0_ := Aside0.mk (below_step (by repeat (first | (with_reducible first | exact HB.out | apply below_alloc | apply pw_below_drewN | apply below_drew1) | exact HB.out)) hb); clear HB; have HB := n0_; clear n0_; (try clear hb); (try clear hb2); (try clear hk); (try clear hi)) | (go_at_call 16; (with_reducible refine (laws_coloured.calls  t138 _ ?side1 A12.out).mono ?_); (case side1 => exact Go.Proofs.YthpfcofkhchkcaaDoorFmt.VarsOK.below HV.out (by repeat (first | (with_reducible first | exact HB.out | apply below_alloc | apply pw_below_drewN | apply below_drew1) | exact HB.out))); rintro e w15 ⟨rfl, hb⟩; have n0_ := Aside0.mk (below_step (by repeat (first | (with_reducible first | exact HB.out | apply below_alloc | apply pw_below_drewN | apply below_drew1) | exact HB.out)) hb); clear HB; have HB := n0_; clear n0_; (try clear hb); (try clear hb2); (try clear hk); (try clear hi)))
          go_ret
          exact ⟨by first | rfl | (simp [errW_none, errW_some] <;> rfl) | (simp [*, errW_none, errW_some] <;> rfl), by repeat (first | (with_reducible first | exact HB.out | apply below_alloc | apply pw_below_drewN | apply below_drew1) | exact HB.out)⟩
        · rw [if_neg c11] at H
          have c11b0 : (t137 == t135) = false := beq_eq_false_iff_ne.mpr c11
          have c11b1 : (t137 != t135) = true := bne_iff_ne.mpr c11
          obtain rfl := Option.some.inj H
          go_enter Tryd.func5, Tryd.ntmps5
          go_wp2_with (first | ((with_reducible refine gate_callee (f := 19) rfl ?_); refine goesL_ (some 12) rfl rfl Tryd.func19 (by kernel_rfl) rfl #[.int .u8 a0, .int .u8 a1, .int .u8 a2] rfl (by (try simp only [List.map_toArray, List.map_cons, List.map_nil]); first | done | rfl | (simp only [List.length_drop, List.length_take]; rfl)) ?_; (with_reducible refine (impl_ColourNew.calls a0 a1 a2 t135 _ A4.out).mono ?_); rintro e w' ⟨rfl, ⟨nd, rfl⟩⟩; refine ⟨_, rfl, ?_⟩) | ((with_reducible refine gate_callee (f := 18) rfl ?_); refine goesL_ (some 14) rfl rfl Tryd.func18 (by kernel_rfl) rfl #[.int .i32 t135] rfl (by (try simp only [List.map_toArray, List.map_cons, List.map_nil]); first | done | rfl | (simp only [List.length_drop, List.length_take]; rfl)) ?_; (with_reducible refine (impl_ColourString.calls t135 t136 _ ?side1 A5.out).mono ?_); (case side1 => exact Go.Proofs.YthpfcofkhchkcaaDoorFmt.VarsOK.below HV.out (by repeat (first | (with_reducible first | exact HB.out | apply below_alloc | apply pw_below_drewN | apply below_drew1) | exact HB.out))); rintro e w16 ⟨rfl, hb⟩; refine ⟨_, rfl, ?_⟩; have n0_ := Aside0.mk (below_step (by repeat (first | (with_reducible first | exact HB.out | apply below_alloc | apply pw_below_drewN | apply below_drew1) | exact HB.out)) hb); clear HB; have HB := n0_; clear n0_; (try clear hb); (try clear hb2); (try clear hk); (try clear hi); have p8 : 0 ≤ (0 : Int) := (by omega); have q8 : 0 < t136.size := (by have : (0 : Int) < (t136.size : Int) := of_decide_eq_true (by first | (with_reducible assumption) | assumption); omega); have hx8 : ∀ h : 0 < t136.size, ((t136[0]'h).toNat : Int) = bt t136 0 := bt_at t136 0; clear p8; have qi8 : (0 < (t136.size : Int)) = True := eq_true (of_decide_eq_true (by first | (with_reducible assumption) | assumption)); replace q8 := eq_true q8) | (go_at_call 15; (with_reducible refine (impl_ColourParse.calls t136 t137 _ ?side1 A10.out).mono ?_); (case side1 => exact Go.Proofs.YthpfcofkhchkcaaDoorFmt.VarsOK.below HV.out (by repeat (first | (with_reducible first | exact HB.out | apply below_alloc | apply pw_below_drewN | apply below_drew1) | exact HB.out))); rintro e w17 ⟨rfl, hb⟩; have n0_ := Aside0.mk (below_step (by repeat (first | (with_reducible first | exact HB.out | apply below_alloc | apply pw_below_drewN | apply below_drew1) | exact HB.out)) hb); clear HB; have HB := n0_; clear n0_; (try clear hb); (try clear hb2); (try clear hk); (try clear hi)))
          go_ret
          exact ⟨by first | rfl | (simp [errW_none, errW_some] <;> rfl) | (simp [*, errW_none, errW_some] <;> rfl), by repeat (first | (with_reducible first | exact HB.out | apply below_alloc | apply pw_below_drewN | apply below_drew1) | exact HB.out)⟩
      · rw [if_neg c9] at H
        have c9b0 : ((bt t136 0) == 35) = false := beq_eq_false_iff_ne.mpr c9
        have c9b1 : ((bt t136 0) != 35) = true := bne_iff_ne.mpr c9
        obtain rfl := Option.some.inj H
        go_enter Tryd.func5, Tryd.ntmps5
        go_wp2_with (first | ((with_reducible refine gate_callee (f := 19) rfl ?_); refine goesL_ (some 12) rfl rfl Tryd.func19 (by kernel_rfl) rfl #[.int .u8 a0, .int .u8 a1, .int .u8 a2] rfl (by (try simp only [List.map_toArray, List.map_cons, List.map_nil]); first | done | rfl | (simp only [List.length_drop, List.length_take]; rfl)) ?_; (with_reducible refine (impl_ColourNew.calls a0 a1 a2 t135 _ A4.out).mono ?_); rintro e w' ⟨rfl, ⟨nd, rfl⟩⟩; refine ⟨_, rfl, ?_⟩) | ((with_reducible refine gate_callee (f := 18) rfl ?_); refine goesL_ (some 14) rfl rfl Tryd.func18 (by kernel_rfl) rfl #[.int .i32 t135] rfl (by (try simp only [List.map_toArray, List.map_cons, List.map_nil]); first | done | rfl | (simp only [List.length_drop, List.length_take]; rfl)) ?_; (with_reducible refine (impl_ColourString.calls t135 t136 _ ?side1 A5.out).mono ?_); (case side1 => exact Go.Proofs.YthpfcofkhchkcaaDoorFmt.VarsOK.below HV.out (by repeat (first | (with_reducible first | exact HB.out | apply below_alloc | apply pw_below_drewN | apply below_drew1) | exact HB.out))); rintro e w18 ⟨rfl, hb⟩; refine ⟨_, rfl, ?_⟩; have n0_ := Aside0.mk (below_step (by repeat (first | (with_reducible first | exact HB.out | apply below_alloc | apply pw_below_drewN | apply below_drew1) | exact HB.out)) hb); clear HB; have HB := n0_; clear n0_; (try clear hb); (try clear hb2); (try clear hk); (try clear hi); have p8 : 0 ≤ (0 : Int) := (by omega); have q8 : 0 < t136.size := (by have : (0 : Int) < (t136.size : Int) := of_decide_eq_true (by first | (with_reducible assumption) | assumption); omega); have hx8 : ∀ h : 0 < t136.size, ((t136[0]'h).toNat : Int) = bt t136 0 := bt_at t136 0; clear p8; have qi8 : (0 < (t136.size : Int)) = True := eq_true (of_decide_eq_true (by first | (with_reducible assumption) | assumption)); replace q8 := eq_true q8))
        go_ret
        exact ⟨by first | rfl | (simp [errW_none, errW_some] <;> rfl) | (simp [*, errW_none, errW_some] <;> rfl), by repeat (first | (with_reducible first | exact HB.out | apply below_alloc | apply pw_below_drewN | apply below_drew1) | exact HB.out)⟩
    · rw [if_neg c7] at H
      exact absurd H (by simp)
  · rw [if_neg c6] at H
    have c6b0 : ((t136.size : Int) == 7) = false := beq_eq_false_iff_ne.mpr c6
    have c6b1 : ((t136.size : Int) != 7) = true := bne_iff_ne.mpr c6
    obtain rfl := Option.some.inj H
    go_enter Tryd.func5, Tryd.ntmps5
    go_wp2_with (first | ((with_reducible refine gate_callee (f := 19) rfl ?_); refine goesL_ (some 12) rfl rfl Tryd.func19 (by kernel_rfl) rfl #[.int .u8 a0, .int .u8 a1, .int .u8 a2] rfl (by (try simp only [List.map_toArray, List.map_cons, List.map_nil]); first | done | rfl | (simp only [List.length_drop, List.length_take]; rfl)) ?_; (with_reducible refine (impl_ColourNew.calls a0 a1 a2 t135 _ A4.out).mono ?_); rintro e w' ⟨rfl, ⟨nd, rfl⟩⟩; refine ⟨_, rfl, ?_⟩) | ((with_reducible refine gate_callee (f := 18) rfl ?_); refine goesL_ (some 14) rfl rfl Tryd.func18 (by kernel_rfl) rfl #[.int .i32 t135] rfl (by (try simp only [List.map_toArray, List.map_cons, List.map_nil]); first | done | rfl | (simp only [List.length_drop, List.length_take]; rfl)) ?_; (with_reducible refine (impl_ColourString.calls t135 t136 _ ?side1 A5.out).mono ?_); (case side1 => exact Go.Proofs.YthpfcofkhchkcaaDoorFmt.VarsOK.below HV.out (by repeat (first | (with_reducible first | exact HB.out | apply below_alloc | apply pw_below_drewN | apply below_drew1) | exact HB.out))); rintro e w19 ⟨rfl, hb⟩; refine ⟨_, rfl, ?_⟩; have n0_ := Aside0.mk (below_step (by repeat (first | (with_reducible first | exact HB.out | apply below_alloc | apply pw_below_drewN | apply below_drew1) | exact HB.out)) hb); clear HB; have HB := n0_; clear n0_; (try clear hb); (try clear hb2); (try clear hk); (try clear hi)))
    go_ret
    exact ⟨by first | rfl | (simp [errW_none, errW_some] <;> rfl) | (simp [*, errW_none, errW_some] <;> rfl), by repeat (first | (with_reducible first | exact HB.out | apply below_alloc | apply pw_below_drewN | apply below_drew1) | exact HB.out)⟩
def laws_FnColourBack.Pure : Prop := ∀ (a0 : Int) (a1 : Int) (a2 : Int), (Lit.int .u8 a0).wf = true → (Lit.int .u8 a1).wf = true → (Lit.int .u8 a2).wf = true → laws_FnColourBack.f a0 a1 a2 = some true

/-! ### laws_digit: function 20 -/
def laws_digit.f (a0 : Int) (a1 : Bool) : Option (Int) := if (Go.bits .and .u8 a0 15) < 10 then (some ((48 + (Go.bits .and .u8 a0 15)) % 256)) else (if a1 = true then (some ((((65 + (Go.bits .and .u8 a0 15)) % 256) - 10) % 256)) else (some ((((97 + (Go.bits .and .u8 a0 15)) % 256) - 10) % 256)))
set_option maxHeartbeats 8000000 in
set_option maxRecDepth 100000 in
theorem laws_digit.calls (a0 : Int) (a1 : Bool) (r : Int) (w : World) (h : laws_digit.f a0 a1 = some r) :
    Calls Tryd.prog 20 #[.int .u8 a0, .bool a1] w fun e w' => e = .returned (.int .u8 r) ∧ Drawn0 w w' := by
  have H : (if (Go.bits .and .u8 a0 15) < 10 then (some ((48 + (Go.bits .and .u8 a0 15)) % 256)) else (if a1 = true then (some ((((65 + (Go.bits .and .u8 a0 15)) % 256) - 10) % 256)) else (some ((((97 + (Go.bits .and .u8 a0 15)) % 256) - 10) % 256)))) = some r := h
  clear h
  by_cases c3 : (Go.bits .and .u8 a0 15) < 10
  · rw [if_pos c3] at H
    have c3b0 : decide ((Go.bits .and .u8 a0 15) < 10) = true := decide_eq_true c3
    clear c3
    obtain rfl := Option.some.inj H
    go_enter Tryd.func20, Tryd.ntmps20
    go_wp2
    go_ret
    exact ⟨by first | rfl | (simp; done) | (simp [*]; done), by repeat (first | exact Drawn0.refl _ | apply Drawn0.step)⟩
  · rw [if_neg c3] at H
    have c3b0 : decide ((Go.bits .and .u8 a0 15) < 10) = false := decide_eq_false c3
    clear c3
    by_cases c4 : a1 = true
    · subst c4
      have H1 : (some ((((65 + (Go.bits .and .u8 a0 15)) % 256) - 10) % 256)) = some r := by rw [if_pos rfl] at H; exact H
      clear H
      have H := H1
      clear H1
      obtain rfl := Option.some.inj H
      go_enter Tryd.func20, Tryd.ntmps20
      go_wp2
      go_ret
      exact ⟨by first | rfl | (simp; done) | (simp [*]; done), by repeat (first | exact Drawn0.refl _ | apply Drawn0.step)⟩
    · replace c4 := Bool.eq_false_iff.mpr c4
      subst c4
      have H1 : (some ((((97 + (Go.bits .and .u8 a0 15)) % 256) - 10) % 256)) = some r := by rw [if_neg (show ¬ (false = true) by decide)] at H; exact H
      clear H
      have H := H1
      clear H1
      obtain rfl := Option.some.inj H
      go_enter Tryd.func20, Tryd.ntmps20
      go_wp2
      go_ret
      exact ⟨by first | rfl | (simp; done) | (simp [*]; done), by repeat (first | exact Drawn0.refl _ | apply Drawn0.step)⟩

/-! ### laws_FnColourShort: function 6 -/
def laws_FnColourShort.f (a0 : Int) (a1 : Int) (a2 : Int) (a3 : Bool) : Option (Bool) := (laws_digit.f a0 a3).bind fun t139 => ((laws_digit.f a1 a3).bind fun t140 => ((laws_digit.f a2 a3).bind fun t141 => ((impl_ColourParse.f (strOfNums (([35, t139, t140, t141] : List Int)))).bind fun t145 => ((impl_ColourParse.f (strOfNums (([35, t139, t139, t140, t140, t141, t141] : List Int)))).bind fun t149 => (if t145 = t149 then ((impl_ColourNew.f (((Go.bits .and .u8 a0 15) * 17) % 256) (((Go.bits .and .u8 a1 15) * 17) % 256) (((Go.bits .and .u8 a2 15) * 17) % 256)).bind fun t150 => (if t145 = t150 then ((laws_coloured.f).bind fun t151 => (some t151)) else (some false))) else (some false))))))
set_option maxHeartbeats 8000000 in
set_option maxRecDepth 100000 in
theorem laws_FnColourShort.calls (a0 : Int) (a1 : Int) (a2 : Int) (a3 : Bool) (r : Bool) (w : World) (hV : Go.Proofs.YthpfcofkhchkcaaDoorFmt.VarsOK w) (h : laws_FnColourShort.f a0 a1 a2 a3 = some r) :
    Calls Tryd.prog 6 #[.int .u8 a0, .int .u8 a1, .int .u8 a2, .bool a3] w fun e w' => e = .returned (.bool r) ∧ Below w.heap.size w w' := by
  have HB := Aside0.mk (Below.refl w.heap.size w)
  have HV := Aside0.mk hV
  clear hV
  have H : ((laws_digit.f a0 a3).bind fun t139 => ((laws_digit.f a1 a3).bind fun t140 => ((laws_digit.f a2 a3).bind fun t141 => ((impl_ColourParse.f (strOfNums (([35, t139, t140, t141] : List Int)))).bind fun t145 => ((impl_ColourParse.f (strOfNums (([35, t139, t139, t140, t140, t141, t141] : List Int)))).bind fun t149 => (if t145 = t149 then ((impl_ColourNew.f (((Go.bits .and .u8 a0 15) * 17) % 256) (((Go.bits .and .u8 a1 15) * 17) % 256) (((Go.bits .and .u8 a2 15) * 17) % 256)).bind fun t150 => (if t145 = t150 then ((laws_coloured.f).bind fun t151 => (some t151)) else (some false))) else (some false))))))) = some r := h
  clear h
  replace H := Option.bind_eq_some_iff.mp H
  obtain ⟨t139, A50, H⟩ := H
  replace H : ((laws_digit.f a1 a3).bind fun t140 => ((laws_digit.f a2 a3).bind fun t141 => ((impl_ColourParse.f (strOfNums (([35, t139, t140, t141] : List Int)))).bind fun t145 => ((impl_ColourParse.f (strOfNums (([35, t139, t139, t140, t140, t141, t141] : List Int)))).bind fun t149 => (if t145 = t149 then ((impl_ColourNew.f (((Go.bits .and .u8 a0 15) * 17) % 256) (((Go.bits .and .u8 a1 15) * 17) % 256) (((Go.bits .and .u8 a2 15) * 17) % 256)).bind fun t150 => (if t145 = t150 then ((laws_coloured.f).bind fun t151 => (some t151)) else (some false))) else (some false)))))) = some r := H
  have A5 := Aside0.mk A50
  clear A50
  replace H := Option.bind_eq_some_iff.mp H
  obtain ⟨t140, A60, H⟩ := H
  replace H : ((laws_digit.f a2 a3).bind fun t141 => ((impl_ColourParse.f (strOfNums (([35, t139, t140, t141] : List Int)))).bind fun t145 => ((impl_ColourParse.f (strOfNums (([35, t139, t139, t140, t140, t141, t141] : List Int)))).bind fun t149 => (if t145 = t149 then ((impl_ColourNew.f (((Go.bits .and .u8 a0 15) * 17) % 256) (((Go.bits .and .u8 a1 15) * 17) % 256) (((Go.bits .and .u8 a2 15) * 17) % 256)).bind fun t150 => (if t145 = t150 then ((laws_coloured.f).bind fun t151 => (some t151)) else (some false))) else (some false))))) = some r := H
  have A6 := Aside0.mk A60
  clear A60
  replace H := Option.bind_eq_some_iff.mp H
  obtain ⟨t141, A70, H⟩ := H
  replace H : ((impl_ColourParse.f (strOfNums (([35, t139, t140, t141] : List Int)))).bind fun t145 => ((impl_ColourParse.f (strOfNums (([35, t139, t139, t140, t140, t141, t141] : List Int)))).bind fun t149 => (if t145 = t149 then ((impl_ColourNew.f (((Go.bits .and .u8 a0 15) * 17) % 256) (((Go.bits .and .u8 a1 15) * 17) % 256) (((Go.bits .and .u8 a2 15) * 17) % 256)).bind fun t150 => (if t145 = t150 then ((laws_coloured.f).bind fun t151 => (some t151)) else (some false))) else (some false)))) = some r := H
  have A7 := Aside0.mk A70
  clear A70
  obtain ⟨y142, hy142⟩ : ∃ y_ : List Int, y_ = (([35, t139, t140, t141] : List Int)) := ⟨_, rfl⟩
  replace H : ((impl_ColourParse.f (strOfNums y142)).bind fun t145 => ((impl_ColourParse.f (strOfNums (([35, t139, t139, t140, t140, t141, t141] : List Int)))).bind fun t149 => (if t145 = t149 then ((impl_ColourNew.f (((Go.bits .and .u8 a0 15) * 17) % 256) (((Go.bits .and .u8 a1 15) * 17) % 256) (((Go.bits .and .u8 a2 15) * 17) % 256)).bind fun t150 => (if t145 = t150 then ((laws_coloured.f).bind fun t151 => (some t151)) else (some false))) else (some false)))) = some r := by first | (rw [hy142]; with_reducible exact H) | (have H2_ := (Option.bind_some _ _).symm.trans H; rw [hy142]; with_reducible exact H2_) | (have H2_ := (Option.bind_some _ _).symm.trans H; with_reducible exact H2_) | with_reducible exact H | (rw [hy142]; exact H) | exact H
  have Ny142 := Aside0.mk hy142
  clear hy142
  replace H := Option.bind_eq_some_iff.mp H
  obtain ⟨t145, A80, H⟩ := H
  replace H : ((impl_ColourParse.f (strOfNums (([35, t139, t139, t140, t140, t141, t141] : List Int)))).bind fun t149 => (if t145 = t149 then ((impl_ColourNew.f (((Go.bits .and .u8 a0 15) * 17) % 256) (((Go.bits .and .u8 a1 15) * 17) % 256) (((Go.bits .and .u8 a2 15) * 17) % 256)).bind fun t150 => (if t145 = t150 then ((laws_coloured.f).bind fun t151 => (some t151)) else (some false))) else (some false))) = some r := H
  have A8 := Aside0.mk A80
  clear A80
  obtain ⟨y146, hy146⟩ : ∃ y_ : List Int, y_ = (([35, t139, t139, t140, t140, t141, t141] : List Int)) := ⟨_, rfl⟩
  replace H : ((impl_ColourParse.f (strOfNums y146)).bind fun t149 => (if t145 = t149 then ((impl_ColourNew.f (((Go.bits .and .u8 a0 15) * 17) % 256) (((Go.bits .and .u8 a1 15) * 17) % 256) (((Go.bits .and .u8 a2 15) * 17) % 256)).bind fun t150 => (if t145 = t150 then ((laws_coloured.f).bind fun t151 => (some t151)) else (some false))) else (some false))) = some r := by first | (rw [hy146]; with_reducible exact H) | (have H2_ := (Option.bind_some _ _).symm.trans H; rw [hy146]; with_reducible exact H2_) | (have H2_ := (Option.bind_some _ _).symm.trans H; with_reducible exact H2_) | with_reducible exact H | (rw [hy146]; exact H) | exact H
  have Ny146 := Aside0.mk hy146
  clear hy146
  replace H := Option.bind_eq_some_iff.mp H
  obtain ⟨t149, A90, H⟩ := H
  replace H : (if t145 = t149 then ((impl_ColourNew.f (((Go.bits .and .u8 a0 15) * 17) % 256) (((Go.bits .and .u8 a1 15) * 17) % 256) (((Go.bits .and .u8 a2 15) * 17) % 256)).bind fun t150 => (if t145 = t150 then ((laws_coloured.f).bind fun t151 => (some t151)) else (some false))) else (some false)) = some r := H
  have A9 := Aside0.mk A90
  clear A90
  by_cases c10 : t145 = t149
  · rw [if_pos c10] at H
    have c10b0 : (t145 == t149) = true := beq_iff_eq.mpr c10
    have c10b1 : (t145 != t149) = false := bne_eq_false_iff_eq.mpr c10
    clear c10
    replace H := Option.bind_eq_some_iff.mp H
    obtain ⟨t150, A110, H⟩ := H
    replace H : (if t145 = t150 then ((laws_coloured.f).bind fun t151 => (some t151)) else (some false)) = some r := H
    have A11 := Aside0.mk A110
    clear A110
    by_cases c12 : t145 = t150
    · rw [if_pos c12] at H
      have c12b0 : (t145 == t150) = true := beq_iff_eq.mpr c12
      have c12b1 : (t145 != t150) = false := bne_eq_false_iff_eq.mpr c12
      clear c12
      replace H := Option.bind_eq_some_iff.mp H
      obtain ⟨t151, A130, H⟩ := H
      replace H : (some t151) = some r := H
      have A13 := Aside0.mk A130
      clear A130
      obtain rfl := Option.some.inj H
      go_enter Tryd.func6, Tryd.ntmps6
      go_wp2_with (first | ((with_reducible refine gate_callee (f := 20) rfl ?_); refine goesL_ (some 15) rfl rfl Tryd.func20 (by kernel_rfl) rfl #[.int .u8 a0, .bool a3] rfl (by (try simp only [List.map_toArray, List.map_cons, List.map_nil]); first | done | rfl | (simp only [List.length_drop, List.length_take]; rfl)) ?_; (with_reducible refine (laws_digit.calls a0 a3 t139 _ A5.out).mono ?_); rintro e w' ⟨rfl, ⟨nd, rfl⟩⟩; refine ⟨_, rfl, ?_⟩) | ((with_reducible refine gate_callee (f := 20) rfl ?_); refine goesL_ (some 18) rfl rfl Tryd.func20 (by kernel_rfl) rfl #[.int .u8 a1, .bool a3] rfl (by (try simp only [List.map_toArray, List.map_cons, List.map_nil]); first | done | rfl | (simp only [List.length_drop, List.length_take]; rfl)) ?_; (with_reducible refine (laws_digit.calls a1 a3 t140 _ A6.out).mono ?_); rintro e w' ⟨rfl, ⟨nd, rfl⟩⟩; refine ⟨_, rfl, ?_⟩) | ((with_reducible refine gate_callee (f := 20) rfl ?_); refine goesL_ (some 21) rfl rfl Tryd.func20 (by kernel_rfl) rfl #[.int .u8 a2, .bool a3] rfl (by (try simp only [List.map_toArray, List.map_cons, List.map_nil]); first | done | rfl | (simp only [List.length_drop, List.length_take]; rfl)) ?_; (with_reducible refine (laws_digit.calls a2 a3 t141 _ A7.out).mono ?_); rintro e w' ⟨rfl, ⟨nd, rfl⟩⟩; refine ⟨_, rfl, ?_⟩) | ((with_reducible refine gate_dst (N := 25) rfl ?_); refine Kd.R_lit (Kd.int .u8) _ 5 ?hg (N := 25) ?hd (xs := ([35, t139, t140, t141] : List Int)) (inner := [.int .u8 35, .int .u8 t139, .int .u8 t140, .int .u8 t141]) (ok := fun _ => True) (okp := fun _ => True) ?hr ?hp (fun _ hk => hk) trivial (Below.refl _ _) (Nat.le_refl _) (by simp) ?_; (case hd => rfl); (case hg => rfl); (case hr => first | (go_simp; done) | (go_simp; rfl)); (case hp => exact (Reps.one (show Kd.M (Kd.int .u8) _ _ _ 35 [.int .u8 35] from rfl) (Reps.one (show Kd.M (Kd.int .u8) _ _ _ t139 [.int .u8 t139] from rfl) (Reps.one (show Kd.M (Kd.int .u8) _ _ _ t140 [.int .u8 t140] from rfl) (Reps.one (show Kd.M (Kd.int .u8) _ _ _ t141 [.int .u8 t141] from rfl) (Reps.none _ _)))))); intro v143 w14 ho15 hb hg_ hnew_; clear hg_ hnew_; (first | rw [← Ny142.out] at ho15 | (simp only [Int.reduceToNat] at ho15; rw [← Ny142.out] at ho15)); have n0_ := Aside0.mk (Kd.R_lower ho15 (below_size (by repeat (first | (with_reducible first | exact HB.out | apply below_alloc | apply pw_below_drewN | apply below_drew1) | exact HB.out)))); have n1_ := Aside0.mk (below_step (by repeat (first | (with_reducible first | exact HB.out | apply below_alloc | apply pw_below_drewN | apply below_drew1) | exact HB.out)) hb); clear HB; have HO144 := n0_; have HB := n1_; clear n0_ n1_; clear hb ho15; have hcv16 := own_string (P := Tryd.prog) Tryd.underlying34 Tryd.underlying5 Tryd.underlying9 (Kd.own_of_R HO144.out)) | ((with_reducible refine gate_callee (f := 15) rfl ?_); refine goesL_ (some 27) rfl rfl Tryd.func15 (by kernel_rfl) rfl #[.string (strOfNums y142)] rfl (by (try simp only [List.map_toArray, List.map_cons, List.map_nil]); first | done | rfl | (simp only [List.length_drop, List.length_take]; rfl)) ?_; (with_reducible refine (impl_ColourParse.calls (strOfNums y142) t145 _ ?side1 A8.out).mono ?_); (case side1 => exact Go.Proofs.YthpfcofkhchkcaaDoorFmt.VarsOK.below HV.out (by repeat (first | (with_reducible first | exact HB.out | apply below_alloc | apply pw_below_drewN | apply below_drew1) | exact HB.out))); rintro e w17 ⟨rfl, hb⟩; refine ⟨_, rfl, ?_⟩; have n0_ := Aside0.mk (Kd.R_below (by (with_reducible repeat (first | apply Kd.R_alloc | apply Kd.R_drewN | apply Kd.R_drew)); exact HO144.out) hb); have n1_ := Aside0.mk (below_step (by repeat (first | (with_reducible first | exact HB.out | apply below_alloc | apply pw_below_drewN | apply below_drew1) | exact HB.out)) hb); clear HO144; clear HB; have HO144 := n0_; have HB := n1_; clear n0_ n1_; (try clear hb); (try clear hb2); (try clear hk); (try clear hi)) | ((with_reducible refine gate_dst (N := 35) rfl ?_); refine Kd.R_lit (Kd.int .u8) _ 5 ?hg (N := 35) ?hd (xs := ([35, t139, t139, t140, t140, t141, t141] : List Int)) (inner := [.int .u8 35, .int .u8 t139, .int .u8 t139, .int .u8 t140, .int .u8 t140, .int .u8 t141, .int .u8 t141]) (ok := fun _ => True) (okp := fun _ => True) ?hr ?hp (fun _ hk => hk) trivial (Below.refl _ _) (Nat.le_refl _) (by simp) ?_; (case hd => rfl); (case hg => rfl); (case hr => first | (go_simp; done) | (go_simp; rfl)); (case hp => exact (Reps.one (show Kd.M (Kd.int .u8) _ _ _ 35 [.int .u8 35] from rfl) (Reps.one (show Kd.M (Kd.int .u8) _ _ _ t139 [.int .u8 t139] from rfl) (Reps.one (show Kd.M (Kd.int .u8) _ _ _ t139 [.int .u8 t139] from rfl) (Reps.one (show Kd.M (Kd.int .u8) _ _ _ t140 [.int .u8 t140] from rfl) (Reps.one (show Kd.M (Kd.int .u8) _ _ _ t140 [.int .u8 t140] from rfl) (Reps.one (show Kd.M (Kd.int .u8) _ _ _ t141 [.int .u8 t141] from rfl) (Reps.one (show Kd.M (Kd.int .u8) _ _ _ t141 [.int .u8 t141] from rfl) (Reps.none _ _))))))))); intro v147 w18 ho19 hb hg_ hnew_; clear hg_ hnew_; (first | rw [← Ny146.out] at ho19 | (simp only [Int.reduceToNat] at ho19; rw [← Ny146.out] at ho19)); have n0_ := Aside0.mk (Kd.R_elder' (by (with_reducible repeat (first | apply Kd.R_alloc | apply Kd.R_drewN | apply Kd.R_drew)); exact HO144.out) (Kd.R_base ho19) hb); have n1_ := Aside0.mk (Kd.R_lower (Kd.R_new' ho19 (Kd.R_lt (by (with_reducible repeat (first | apply Kd.R_alloc | apply Kd.R_drewN | apply Kd.R_drew)); exact HO144.out))) (below_size (by repeat (first | (with_reducible first | exact HB.out | apply below_alloc | apply pw_below_drewN | apply below_drew1) | exact HB.out)))); have n2_ := Aside0.mk (below_step (by repeat (first | (with_reducible first | exact HB.out | apply below_alloc | apply pw_below_drewN | apply below_drew1) | exact HB.out)) hb); clear HO144; clear HB; have HO144 := n0_; have HO148 := n1_; have HB := n2_; clear n0_ n1_ n2_; clear hb ho19; have hcv20 := own_string (P := Tryd.prog) Tryd.underlying34 Tryd.underlying5 Tryd.underlying9 (Kd.own_of_R HO148.out)) | ((with_reducible refine gate_callee (f := 15) rfl ?_); refine goesL_ (some 37) rfl rfl Tryd.func15 (by kernel_rfl) rfl #[.string (strOfNums y146)] rfl (by (try simp only [List.map_toArray, List.map_cons, List.map_nil]); first | done | rfl | (simp only [List.length_drop, List.length_take]; rfl)) ?_; (with_reducible refine (impl_ColourParse.calls (strOfNums y146) t149 _ ?side1 A9.out).mono ?_); (case side1 => exact Go.Proofs.YthpfcofkhchkcaaDoorFmt.VarsOK.below HV.out (by repeat (first | (with_reducible first | exact HB.out | apply below_alloc | apply pw_below_drewN | apply below_drew1) | exact HB.out))); rintro e w21 ⟨rfl, hb⟩; refine ⟨_, rfl, ?_⟩; have n0_ := Aside0.mk (Kd.R_below (by (with_reducible repeat (first | apply Kd.R_alloc | apply Kd.R_drewN | apply Kd.R_drew)); exact HO144.out) hb); have n1_ := Aside0.mk (Kd.R_below (by (with_reducible repeat (first | apply Kd.R_alloc | apply Kd.R_drewN | apply Kd.R_drew)); exact HO148.out) hb); have n2_ := Aside0.mk (below_step (by repeat (first | (with_reducible first | exact HB.out | apply below_alloc | apply pw_below_drewN | apply below_drew1) | exact HB.out)) hb); clear HO144; clear HO148; clear HB; have HO144 := n0_; have HO148 := n1_; have HB := n2_; clear n0_ n1_ n2_; (try clear hb); (try clear hb2); (try clear hk); (try clear hi)) | (go_at_call 19; (with_reducible refine (impl_ColourNew.calls (((Go.bits .and .u8 a0 15) * 17) % 256) (((Go.bits .and .u8 a1 15) * 17) % 256) (((Go.bits .and .u8 a2 15) * 17) % 256) t150 _ A11.out).mono ?_); rintro e w' ⟨rfl, ⟨nd, rfl⟩⟩) | (go_at_call 16; (with_reducible refine (laws_coloured.calls  t151 _ ?side1 A13.out).mono ?_); (case side1 => exact Go.Proofs.YthpfcofkhchkcaaDoorFmt.VarsOK.below HV.out (by repeat (first | (with_reducible first | exact HB.out | apply below_alloc | apply pw_below_drewN | apply below_drew1) | exact HB.out))); rintro e w22 ⟨rfl, hb⟩; have n0_ := Aside0.mk (Kd.R_below (by (with_reducible repeat (first | apply Kd.R_alloc | apply Kd.R_drewN | apply Kd.R_drew)); exact HO144.out) hb); have n1_ := Aside0.mk (Kd.R_below (by (with_reducible repeat (first | apply Kd.R_alloc | apply Kd.R_drewN | apply Kd.R_drew)); exact HO148.out) hb); have n2_ := Aside0.mk (below_step (by repeat (first | (with_reducible first | exact HB.out | apply below_alloc | apply pw_below_drewN | apply below_drew1) | exact HB.out)) hb); clear HO144; clear HO148; clear HB; have HO144 := n0_; have HO148 := n1_; have HB := n2_; clear n0_ n1_ n2_; (try clear hb); (try clear hb2); (try clear hk); (try clear hi)))
      go_ret
      exact ⟨by first | rfl | (simp [errW_none, errW_some] <;> rfl) | (simp [*, errW_none, errW_some] <;> rfl), by repeat (first | (with_reducible first | exact HB.out | apply below_alloc | apply pw_below_drewN | apply below_drew1) | exact HB.out)⟩
    · rw [if_neg c12] at H
      have c12b0 : (t145 == t150) = false := beq_eq_false_iff_ne.mpr c12
      have c12b1 : (t145 != t150) = true := bne_iff_ne.mpr c12
      obtain rfl := Option.some.inj H
      go_enter Tryd.func6, Tryd.ntmps6
      go_wp2_with (first | ((with_reducible refine gate_callee (f := 20) rfl ?_); refine goesL_ (some 15) rfl rfl Tryd.func20 (by kernel_rfl) rfl #[.int .u8 a0, .bool a3] rfl (by (try simp only [List.map_toArray, List.map_cons, List.map_nil]); first | done | rfl | (simp only [List.length_drop, List.length_take]; rfl)) ?_; (with_reducible refine (laws_digit.calls a0 a3 t139 _ A5.out).mono ?_); rintro e w' ⟨rfl, ⟨nd, rfl⟩⟩; refine ⟨_, rfl, ?_⟩) | ((with_reducible refine gate_callee (f := 20) rfl ?_); refine goesL_ (some 18) rfl rfl Tryd.func20 (by kernel_rfl) rfl #[.int .u8 a1, .bool a3] rfl (by (try simp only [List.map_toArray, List.map_cons, List.map_nil]); first | done | rfl | (simp only [List.length_drop, List.length_take]; rfl)) ?_; (with_reducible refine (laws_digit.calls a1 a3 t140 _ A6.out).mono ?_); rintro e w' ⟨rfl, ⟨nd, rfl⟩⟩; refine ⟨_, rfl, ?_⟩) | ((with_reducible refine gate_callee (f := 20) rfl ?_); refine goesL_ (some 21) rfl rfl Tryd.func20 (by kernel_rfl) rfl #[.int .u8 a2, .bool a3] rfl (by (try simp only [List.map_toArray, List.map_cons, List.map_nil]); first | done | rfl | (simp only [List.length_drop, List.length_take]; rfl)) ?_; (with_reducible refine (laws_digit.calls a2 a3 t141 _ A7.out).mono ?_); rintro e w' ⟨rfl, ⟨nd, rfl⟩⟩; refine ⟨_, rfl, ?_⟩) | ((with_reducible refine gate_dst (N := 25) rfl ?_); refine Kd.R_lit (Kd.int .u8) _ 5 ?hg (N := 25) ?hd (xs := ([35, t139, t140, t141] : List Int)) (inner := [.int .u8 35, .int .u8 t139, .int .u8 t140, .int .u8 t141]) (ok := fun _ => True) (okp := fun _ => True) ?hr ?hp (fun _ hk => hk) trivial (Below.refl _ _) (Nat.le_refl _) (by simp) ?_; (case hd => rfl); (case hg => rfl); (case hr => first | (go_simp; done) | (go_simp; rfl)); (case hp => exact (Reps.one (show Kd.M (Kd.int .u8) _ _ _ 35 [.int .u8 35] from rfl) (Reps.one (show Kd.M (Kd.int .u8) _ _ _ t139 [.int .u8 t139] from rfl) (Reps.one (show Kd.M (Kd.int .u8) _ _ _ t140 [.int .u8 t140] from rfl) (Reps.one (show Kd.M (Kd.int .u8) _ _ _ t141 [.int .u8 t141] from rfl) (Reps.none _ _)))))); intro v143 w23 ho24 hb hg_ hnew_; clear hg_ hnew_; (first | rw [← Ny142.out] at ho24 | (simp only [Int.reduceToNat] at ho24; rw [← Ny142.out] at ho24)); have n0_ := Aside0.mk (Kd.R_lower ho24 (below_size (by repeat (first | (with_reducible first | exact HB.out | apply below_alloc | apply pw_below_drewN | apply below_drew1) | exact HB.out)))); have n1_ := Aside0.mk (below_step (by repeat (first | (with_reducible first | exact HB.out | apply below_alloc | apply pw_below_drewN | apply below_drew1) | exact HB.out)) hb); clear HB; have HO144 := n0_; have HB := n1_; clear n0_ n1_; clear hb ho24; have hcv25 := own_string (P := Tryd.prog) Tryd.underlying34 Tryd.underlying5 Tryd.underlying9 (Kd.own_of_R HO144.out)) | ((with_reducible refine gate_callee (f := 15) rfl ?_); refine goesL_ (some 27) rfl rfl Tryd.func15 (by kernel_rfl) rfl #[.string (strOfNums y142)] rfl (by (try simp only [List.map_toArray, List.map_cons, List.map_nil]); first | done | rfl | (simp only [List.length_drop, List.length_take]; rfl)) ?_; (with_reducible refine (impl_ColourParse.calls (strOfNums y142) t145 _ ?side1 A8.out).mono ?_); (case side1 => exact Go.Proofs.YthpfcofkhchkcaaDoorFmt.VarsOK.below HV.out (by repeat (first | (with_reducible first | exact HB.out | apply below_alloc | apply pw_below_drewN | apply below_drew1) | exact HB.out))); rintro e w26 ⟨rfl, hb⟩; refine ⟨_, rfl, ?_⟩; have n0_ := Aside0.mk (Kd.R_below (by (with_reducible repeat (first | apply Kd.R_alloc | apply Kd.R_drewN | apply Kd.R_drew)); exact HO144.out) hb); have n1_ := Aside0.mk (below_step (by repeat (first | (with_reducible first | exact HB.out | apply below_alloc | apply pw_below_drewN | apply below_drew1) | exact HB.out)) hb); clear HO144; clear HB; have HO144 := n0_; have HB := n1_; clear n0_ n1_; (try clear hb); (try clear hb2); (try clear hk); (try clear hi)) | ((with_reducible refine gate_dst (N := 35) rfl ?_); refine Kd.R_lit (Kd.int .u8) _ 5 ?hg (N := 35) ?hd (xs := ([35, t139, t139, t140, t140, t141, t141] : List Int)) (inner := [.int .u8 35, .int .u8 t139, .int .u8 t139, .int .u8 t140, .int .u8 t140, .int .u8 t141, .int .u8 t141]) (ok := fun _ => True) (okp := fun _ => True) ?hr ?hp (fun _ hk => hk) trivial (Below.refl _ _) (Nat.le_refl _) (by simp) ?_; (case hd => rfl); (case hg => rfl); (case hr => first | (go_simp; done) | (go_simp; rfl)); (case hp => exact (Reps.one (show Kd.M (Kd.int .u8) _ _ _ 35 [.int .u8 35] from rfl) (Reps.one (show Kd.M (Kd.int .u8) _ _ _ t139 [.int .u8 t139] from rfl) (Reps.one (show Kd.M (Kd.int .u8) _ _ _ t139 [.int .u8 t139] from rfl) (Reps.one (show Kd.M (Kd.int .u8) _ _ _ t140 [.int .u8 t140] from rfl) (Reps.one (show Kd.M (Kd.int .u8) _ _ _ t140 [.int .u8 t140] from rfl) (Reps.one (show Kd.M (Kd.int .u8) _ _ _ t141 [.int .u8 t141] from rfl) (Reps.one (show Kd.M (Kd.int .u8) _ _ _ t141 [.int .u8 t141] from rfl) (Reps.none _ _))))))))); intro v147 w27 ho28 hb hg_ hnew_; clear hg_ hnew_; (first | rw [← Ny146.out] at ho28 | (simp only [Int.reduceToNat] at ho28; rw [← Ny146.out] at ho28)); have n0_ := Aside0.mk (Kd.R_elder' (by (with_reducible repeat (first | apply Kd.R_alloc | apply Kd.R_drewN | apply Kd.R_drew)); exact HO144.out) (Kd.R_base ho28) hb); have n1_ := Aside0.mk (Kd.R_lower (Kd.R_new' ho28 (Kd.R_lt (by (with_reducible repeat (first | apply Kd.R_alloc | apply Kd.R_drewN | apply Kd.R_drew)); exact HO144.out))) (below_size (by repeat (first | (with_reducible first | exact HB.out | apply below_alloc | apply pw_below_drewN | apply below_drew1) | exact HB.out)))); have n2_ := Aside0.mk (below_step (by repeat (first | (with_reducible first | exact HB.out | apply below_alloc | apply pw_below_drewN | apply below_drew1) | exact HB.out)) hb); clear HO144; clear HB; have HO144 := n0_; have HO148 := n1_; have HB := n2_; clear n0_ n1_ n2_; clear hb ho28; have hcv29 := own_string (P := Tryd.prog) Tryd.underlying34 Tryd.underlying5 Tryd.underlying9 (Kd.own_of_R HO148.out)) | ((with_reducible refine gate_callee (f := 15) rfl ?_); refine goesL_ (some 37) rfl rfl Tryd.func15 (by kernel_rfl) rfl #[.string (strOfNums y146)] rfl (by (try simp only [List.map_toArray, List.map_cons, List.map_nil]); first | done | rfl | (simp only [List.length_drop, List.length_take]; rfl)) ?_; (with_reducible refine (impl_ColourParse.calls (strOfNums y146) t149 _ ?side1 A9.out).mono ?_); (case side1 => exact Go.Proofs.YthpfcofkhchkcaaDoorFmt.VarsOK.below HV.out (by repeat (first | (with_reducible first | exact HB.out | apply below_alloc | apply pw_below_drewN | apply below_drew1) | exact HB.out))); rintro e w30 ⟨rfl, hb⟩; refine ⟨_, rfl, ?_⟩; have n0_ := Aside0.mk (Kd.R_below (by (with_reducible repeat (first | apply Kd.R_alloc | apply Kd.R_drewN | apply Kd.R_drew)); exact HO144.out) hb); have n1_ := Aside0.mk (Kd.R_below (by (with_reducible repeat (first | apply Kd.R_alloc | apply Kd.R_drewN | apply Kd.R_drew)); exact HO148.out) hb); have n2_ := Aside0.mk (below_step (by repeat (first | (with_reducible first | exact HB.out | apply below_alloc | apply pw_below_drewN | apply below_drew1) | exact HB.out)) hb); clear HO144; clear HO148; clear HB; have HO144 := n0_; have HO148 := n1_; have HB := n2_; clear n0_ n1_ n2_; (try clear hb); (try clear hb2); (try clear hk); (try clear hi)) | (go_at_call 19; (with_reducible refine (impl_ColourNew.calls (((Go.bits .and .u8 a0 15) * 17) % 256) (((Go.bits .and .u8 a1 15) * 17) % 256) (((Go.bits .and .u8 a2 15) * 17) % 256) t150 _ A11.out).mono ?_); rintro e w' ⟨rfl, ⟨nd, rfl⟩⟩))
      go_ret
      exact ⟨by first | rfl | (simp [errW_none, errW_some] <;> rfl) | (simp [*, errW_none, errW_some] <;> rfl), by repeat (first | (with_reducible first | exact HB.out | apply below_alloc | apply pw_below_drewN | apply below_drew1) | exact HB.out)⟩
  · rw [if_neg c10] at H
    have c10b0 : (t145 == t149) = false := beq_eq_false_iff_ne.mpr c10
    have c10b1 : (t145 != t149) = true := bne_iff_ne.mpr c10
    obtain rfl := Option.some.inj H
    go_enter Tryd.func6, Tryd.ntmps6
    go_wp2_with (first | ((with_reducible refine gate_callee (f := 20) rfl ?_); refine goesL_ (some 15) rfl rfl Tryd.func20 (by kernel_rfl) rfl #[.int .u8 a0, .bool a3] rfl (by (try simp only [List.map_toArray, List.map_cons, List.map_nil]); first | done | rfl | (simp only [List.length_drop, List.length_take]; rfl)) ?_; (with_reducible refine (laws_digit.calls a0 a3 t139 _ A5.out).mono ?_); rintro e w' ⟨rfl, ⟨nd, rfl⟩⟩; refine ⟨_, rfl, ?_⟩) | ((with_reducible refine gate_callee (f := 20) rfl ?_); refine goesL_ (some 18) rfl rfl Tryd.func20 (by kernel_rfl) rfl #[.int .u8 a1, .bool a3] rfl (by (try simp only [List.map_toArray, List.map_cons, List.map_nil]); first | done | rfl | (simp only [List.length_drop, List.length_take]; rfl)) ?_; (with_reducible refine (laws_digit.calls a1 a3 t140 _ A6.out).mono ?_); rintro e w' ⟨rfl, ⟨nd, rfl⟩⟩; refine ⟨_, rfl, ?_⟩) | ((with_reducible refine gate_callee (f := 20) rfl ?_); refine goesL_ (some 21) rfl rfl Tryd.func20 (by kernel_rfl) rfl #[.int .u8 a2, .bool a3] rfl (by (try simp only [List.map_toArray, List.map_cons, List.map_nil]); first | done | rfl | (simp only [List.length_drop, List.length_take]; rfl)) ?_; (with_reducible refine (laws_digit.calls a2 a3 t141 _ A7.out).mono ?_); rintro e w' ⟨rfl, ⟨nd, rfl⟩⟩; refine ⟨_, rfl, ?_⟩) | ((with_reducible refine gate_dst (N := 25) rfl ?_); refine Kd.R_lit (Kd.int .u8) _ 5 ?hg (N := 25) ?hd (xs := ([35, t139, t140, t141] : List Int)) (inner := [.int .u8 35, .int .u8 t139, .int .u8 t140, .int .u8 t141]) (ok := fun _ => True) (okp := fun _ => True) ?hr ?hp (fun _ hk => hk) trivial (Below.refl _ _) (Nat.le_refl _) (by simp) ?_; (case hd => rfl); (case hg => rfl); (case hr => first | (go_simp; done) | (go_simp; rfl)); (case hp => exact (Reps.one (show Kd.M (Kd.int .u8) _ _ _ 35 [.int .u8 35] from rfl) (Reps.one (show Kd.M (Kd.int .u8) _ _ _ t139 [.int .u8 t139] from rfl) (Reps.one (show Kd.M (Kd.int .u8) _ _ _ t140 [.int .u8 t140] from rfl) (Reps.one (show Kd.M (Kd.int .u8) _ _ _ t141 [.int .u8 t141] from rfl) (Reps.none _ _)))))); intro v143 w31 ho32 hb hg_ hnew_; clear hg_ hnew_; (first | rw [← Ny142.out] at ho32 | (simp only [Int.reduceToNat] at ho32; rw [← Ny142.out] at ho32)); have n0_ := Aside0.mk (Kd.R_lower ho32 (below_size (by repeat (first | (with_reducible first | exact HB.out | apply below_alloc | apply pw_below_drewN | apply below_drew1) | exact HB.out)))); have n1_ := Aside0.mk (below_step (by repeat (first | (with_reducible first | exact HB.out | apply below_alloc | apply pw_below_drewN | apply below_drew1) | exact HB.out)) hb); clear HB; have HO144 := n0_; have HB := n1_; clear n0_ n1_; clear hb ho32; have hcv33 := own_string (P := Tryd.prog) Tryd.underlying34 Tryd.underlying5 Tryd.underlying9 (Kd.own_of_R HO144.out)) | ((with_reducible refine gate_callee (f := 15) rfl ?_); refine goesL_ (some 27) rfl rfl Tryd.func15 (by kernel_rfl) rfl #[.string (strOfNums y142)] rfl (by (try simp only [List.map_toArray, List.map_cons, List.map_nil]); first | done | rfl | (simp only [List.length_drop, List.length_take]; rfl)) ?_; (with_reducible refine (impl_ColourParse.calls (strOfNums y142) t145 _ ?side1 A8.out).mono ?_); (case side1 => exact Go.Proofs.YthpfcofkhchkcaaDoorFmt.VarsOK.below HV.out (by repeat (first | (with_reducible first | exact HB.out | apply below_alloc | apply pw_below_drewN | apply below_drew1) | exact HB.out))); rintro e w34 ⟨rfl, hb⟩; refine ⟨_, rfl, ?_⟩; have n0_ := Aside0.mk (Kd.R_below (by (with_reducible repeat (first | apply Kd.R_alloc | apply Kd.R_drewN | apply Kd.R_drew)); exact HO144.out) hb); have n1_ := Aside0.mk (below_step (by repeat (first | (with_reducible first | exact HB.out | apply below_alloc | apply pw_below_drewN | apply below_drew1) | exact HB.out)) hb); clear HO144; clear HB; have HO144 := n0_; have HB := n1_; clear n0_ n1_; (try clear hb); (try clear hb2); (try clear hk); (try clear hi)) | ((with_reducible refine gate_dst (N := 35) rfl ?_); refine Kd.R_lit (Kd.int .u8) _ 5 ?hg (N := 35) ?hd (xs := ([35, t139, t139, t140, t140, t141, t141] : List Int)) (inner := [.int .u8 35, .int .u8 t139, .int .u8 t139, .int .u8 t140, .int .u8 t140, .int .u8 t141, .int .u8 t141]) (ok := fun _ => True) (okp := fun _ => True) ?hr ?hp (fun _ hk => hk) trivial (Below.refl _ _) (Nat.le_refl _) (by simp) ?_; (case hd => rfl); (case hg => rfl); (case hr => first | (go_simp; done) | (go_simp; rfl)); (case hp => exact (Reps.one (show Kd.M (Kd.int .u8) _ _ _ 35 [.int .u8 35] from rfl) (Reps.one (show Kd.M (Kd.int .u8) _ _ _ t139 [.int .u8 t139] from rfl) (Reps.one (show Kd.M (Kd.int .u8) _ _ _ t139 [.int .u8 t139] from rfl) (Reps.one (show Kd.M (Kd.int .u8) _ _ _ t140 [.int .u8 t140] from rfl) (Reps.one (show Kd.M (Kd.int .u8) _ _ _ t140 [.int .u8 t140] from rfl) (Reps.one (show Kd.M (Kd.int .u8) _ _ _ t141 [.int .u8 t141] from rfl) (Reps.one (show Kd.M (Kd.int .u8) _ _ _ t141 [.int .u8 t141] from rfl) (Reps.none _ _))))))))); intro v147 w35 ho36 hb hg_ hnew_; clear hg_ hnew_; (first | rw [← Ny146.out] at ho36 | (simp only [Int.reduceToNat] at ho36; rw [← Ny146.out] at ho36)); have n0_ := Aside0.mk (Kd.R_elder' (by (with_reducible repeat (first | apply Kd.R_alloc | apply Kd.R_drewN | apply Kd.R_drew)); exact HO144.out) (Kd.R_base ho36) hb); have n1_ := Aside0.mk (Kd.R_lower (Kd.R_new' ho36 (Kd.R_lt (by (with_reducible repeat (first | apply Kd.R_alloc | apply Kd.R_drewN | apply Kd.R_drew)); exact HO144.out))) (below_size (by repeat (first | (with_reducible first | exact HB.out | apply below_alloc | apply pw_below_drewN | apply below_drew1) | exact HB.out)))); have n2_ := Aside0.mk (below_step (by repeat (first | (with_reducible first | exact HB.out | apply below_alloc | apply pw_below_drewN | apply below_drew1) | exact HB.out)) hb); clear HO144; clear HB; have HO144 := n0_; have HO148 := n1_; have HB := n2_; clear n0_ n1_ n2_; clear hb ho36; have hcv37 := own_string (P := Tryd.prog) Tryd.underlying34 Tryd.underlying5 Tryd.underlying9 (Kd.own_of_R HO148.out)) | ((with_reducible refine gate_callee (f := 15) rfl ?_); refine goesL_ (some 37) rfl rfl Tryd.func15 (by kernel_rfl) rfl #[.string (strOfNums y146)] rfl (by (try simp only [List.map_toArray, List.map_cons, List.map_nil]); first | done | rfl | (simp only [List.length_drop, List.length_take]; rfl)) ?_; (with_reducible refine (impl_ColourParse.calls (strOfNums y146) t149 _ ?side1 A9.out).mono ?_); (case side1 => exact Go.Proofs.YthpfcofkhchkcaaDoorFmt.VarsOK.below HV.out (by repeat (first | (with_reducible first | exact HB.out | apply below_alloc | apply pw_below_drewN | apply below_drew1) | exact HB.out))); rintro e w38 ⟨rfl, hb⟩; refine ⟨_, rfl, ?_⟩; have n0_ := Aside0.mk (Kd.R_below (by (with_reducible repeat (first | apply Kd.R_alloc | apply Kd.R_drewN | apply Kd.R_drew)); exact HO144.out) hb); have n1_ := Aside0.mk (Kd.R_below (by (with_reducible repeat (first | apply Kd.R_alloc | apply Kd.R_drewN | apply Kd.R_drew)); exact HO148.out) hb); have n2_ := Aside0.mk (below_step (by repeat (first | (with_reducible first | exact HB.out | apply below_alloc | apply pw_below_drewN | apply below_drew1) | exact HB.out)) hb); clear HO144; clear HO148; clear HB; have HO144 := n0_; have HO148 := n1_; have HB := n2_; clear n0_ n1_ n2_; (try clear hb); (try clear hb2); (try clear hk); (try clear hi)))
    go_ret
    exact ⟨by first | rfl | (simp [errW_none, errW_some] <;> rfl) | (simp [*, errW_none, errW_some] <;> rfl), by repeat (first | (with_reducible first | exact HB.out | apply below_alloc | apply pw_below_drewN | apply below_drew1) | exact HB.out)⟩
def laws_FnColourShort.Pure : Prop := ∀ (a0 : Int) (a1 : Int) (a2 : Int) (a3 : Bool), (Lit.int .u8 a0).wf = true → (Lit.int .u8 a1).wf = true → (Lit.int .u8 a2).wf = true → laws_FnColourShort.f a0 a1 a2 a3 = some true

/-! ### chroma_Colour_Red: function 40 -/
def chroma_Colour_Red.f (a0 : Int) : Option (Int) := some ((Go.bits .and .i32 ((wrap32 (a0 - 1)) / 65536) 255) % 256)
set_option maxHeartbeats 8000000 in
set_option maxRecDepth 100000 in
theorem chroma_Colour_Red.calls (a0 : Int) (r : Int) (w : World) (h : chroma_Colour_Red.f a0 = some r) :
    Calls Tryd.prog 40 #[.int .i32 a0] w fun e w' => e = .returned (.int .u8 r) ∧ Drawn0 w w' := by
  have H : (some ((Go.bits .and .i32 ((wrap32 (a0 - 1)) / 65536) 255) % 256)) = some r := h
  clear h
  obtain rfl := Option.some.inj H
  go_enter Tryd.func40, Tryd.ntmps40
  go_wp2
  go_ret
  exact ⟨by first | rfl | (simp; done) | (simp [*]; done), by repeat (first | exact Drawn0.refl _ | apply Drawn0.step)⟩

/-! ### chroma_Colour_Green: function 41 -/
def chroma_Colour_Green.f (a0 : Int) : Option (Int) := some ((Go.bits .and .i32 ((wrap32 (a0 - 1)) / 256) 255) % 256)
set_option maxHeartbeats 8000000 in
set_option maxRecDepth 100000 in
theorem chroma_Colour_Green.calls (a0 : Int) (r : Int) (w : World) (h : chroma_Colour_Green.f a0 = some r) :
    Calls Tryd.prog 41 #[.int .i32 a0] w fun e w' => e = .returned (.int .u8 r) ∧ Drawn0 w w' := by
  have H : (some ((Go.bits .and .i32 ((wrap32 (a0 - 1)) / 256) 255) % 256)) = some r := h
  clear h
  obtain rfl := Option.some.inj H
  go_enter Tryd.func41, Tryd.ntmps41
  go_wp2
  go_ret
  exact ⟨by first | rfl | (simp; done) | (simp [*]; done), by repeat (first | exact Drawn0.refl _ | apply Drawn0.step)⟩

/-! ### chroma_Colour_Blue: function 42 -/
def chroma_Colour_Blue.f (a0 : Int) : Option (Int) := some ((Go.bits .and .i32 (wrap32 (a0 - 1)) 255) % 256)
set_option maxHeartbeats 8000000 in
set_option maxRecDepth 100000 in
theorem chroma_Colour_Blue.calls (a0 : Int) (r : Int) (w : World) (h : chroma_Colour_Blue.f a0 = some r) :
    Calls Tryd.prog 42 #[.int .i32 a0] w fun e w' => e = .returned (.int .u8 r) ∧ Drawn0 w w' := by
  have H : (some ((Go.bits .and .i32 (wrap32 (a0 - 1)) 255) % 256)) = some r := h
  clear h
  obtain rfl := Option.some.inj H
  go_enter Tryd.func42, Tryd.ntmps42
  go_wp2
  go_ret
  exact ⟨by first | rfl | (simp; done) | (simp [*]; done), by repeat (first | exact Drawn0.refl _ | apply Drawn0.step)⟩

/-! ### impl_ColourRGB: function 21 -/
def impl_ColourRGB.f (a0 : Int) : Option (Int × Int × Int) := (chroma_Colour_Red.f a0).bind fun t152 => ((chroma_Colour_Green.f a0).bind fun t153 => ((chroma_Colour_Blue.f a0).bind fun t154 => (some (t152, t153, t154))))
set_option maxHeartbeats 8000000 in
set_option maxRecDepth 100000 in
theorem impl_ColourRGB.calls (a0 : Int) (r1 : Int) (r2 : Int) (r3 : Int) (w : World) (h : impl_ColourRGB.f a0 = some (r1, r2, r3)) :
    Calls Tryd.prog 21 #[.int .i32 a0] w fun e w' => e = .returned (.tuple #[.int .u8 r1, .int .u8 r2, .int .u8 r3]) ∧ Drawn0 w w' := by
  have H : ((chroma_Colour_Red.f a0).bind fun t152 => ((chroma_Colour_Green.f a0).bind fun t153 => ((chroma_Colour_Blue.f a0).bind fun t154 => (some (t152, t153, t154))))) = some (r1, r2, r3) := h
  clear h
  replace H := Option.bind_eq_some_iff.mp H
  obtain ⟨t152, A20, H⟩ := H
  replace H : ((chroma_Colour_Green.f a0).bind fun t153 => ((chroma_Colour_Blue.f a0).bind fun t154 => (some (t152, t153, t154)))) = some (r1, r2, r3) := H
  have A2 := Aside0.mk A20
  clear A20
  replace H := Option.bind_eq_some_iff.mp H
  obtain ⟨t153, A30, H⟩ := H
  replace H : ((chroma_Colour_Blue.f a0).bind fun t154 => (some (t152, t153, t154))) = some (r1, r2, r3) := H
  have A3 := Aside0.mk A30
  clear A30
  replace H := Option.bind_eq_some_iff.mp H
  obtain ⟨t154, A40, H⟩ := H
  replace H : (some (t152, t153, t154)) = some (r1, r2, r3) := H
  have A4 := Aside0.mk A40
  clear A40
  simp only [Option.some.injEq, Prod.mk.injEq] at H
  obtain ⟨rfl, rfl, rfl⟩ := H
  go_enter Tryd.func21, Tryd.ntmps21
  go_wp2_with (first | ((with_reducible refine gate_callee (f := 40) rfl ?_); refine goesL_ (some 8) rfl rfl Tryd.func40 (by kernel_rfl) rfl #[.int .i32 a0] rfl (by (try simp only [List.map_toArray, List.map_cons, List.map_nil]); first | done | rfl | (simp only [List.length_drop, List.length_take]; rfl)) ?_; (with_reducible refine (chroma_Colour_Red.calls a0 t152 _ A2.out).mono ?_); rintro e w' ⟨rfl, ⟨nd, rfl⟩⟩; refine ⟨_, rfl, ?_⟩) | ((with_reducible refine gate_callee (f := 41) rfl ?_); refine goesL_ (some 10) rfl rfl Tryd.func41 (by kernel_rfl) rfl #[.int .i32 a0] rfl (by (try simp only [List.map_toArray, List.map_cons, List.map_nil]); first | done | rfl | (simp only [List.length_drop, List.length_take]; rfl)) ?_; (with_reducible refine (chroma_Colour_Green.calls a0 t153 _ A3.out).mono ?_); rintro e w' ⟨rfl, ⟨nd, rfl⟩⟩; refine ⟨_, rfl, ?_⟩) | ((with_reducible refine gate_callee (f := 42) rfl ?_); refine goesL_ (some 12) rfl rfl Tryd.func42 (by kernel_rfl) rfl #[.int .i32 a0] rfl (by (try simp only [List.map_toArray, List.map_cons, List.map_nil]); first | done | rfl | (simp only [List.length_drop, List.length_take]; rfl)) ?_; (with_reducible refine (chroma_Colour_Blue.calls a0 t154 _ A4.out).mono ?_); rintro e w' ⟨rfl, ⟨nd, rfl⟩⟩; refine ⟨_, rfl, ?_⟩))
  go_ret3
  exact ⟨by first | rfl | (simp; done) | (simp [*]; done), by repeat (first | exact Drawn0.refl _ | apply Drawn0.step)⟩

end Go.Proofs.YthpfcofkhchkcaaDoor.M
