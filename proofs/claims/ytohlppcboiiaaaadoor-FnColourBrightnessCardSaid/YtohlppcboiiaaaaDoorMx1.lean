-- WRITTEN BY OUR myprint.py, a program of this session's over the kit's printer
import Derived.Test.YtohlppcboiiaaaaDoorMx0
namespace Go.Proofs.YtohlppcboiiaaaaDoor.M
open Go.RowKit Go.Proofs.YtohlppcboiiaaaaDoorW.PrintWords Go.Proofs.YtohlppcboiiaaaaDoorW.PrintLast Go.Proofs.YtohlppcboiiaaaaDoorW.PrintMore
attribute [local go_sem] max2_int min2_int max_two min_two max_three min_three max_four min_four   -- for this text's walks alone
set_option linter.unusedVariables false
set_option linter.unusedSimpArgs false

-- NOT PRINTED: function 13 (math_Float64bits)

/-! ### chroma_Colour_Red: function 20 -/
def chroma_Colour_Red.f (a0 : Int) : Option (Int) := some ((Go.bits .and .i32 ((wrap32 (a0 - 1)) / 65536) 255) % 256)
set_option maxHeartbeats 8000000 in
set_option maxRecDepth 100000 in
theorem chroma_Colour_Red.calls (a0 : Int) (r : Int) (w : World) (h : chroma_Colour_Red.f a0 = some r) :
    Calls Tryd.prog 20 #[.int .i32 a0] w fun e w' => e = .returned (.int .u8 r) ∧ Drawn0 w w' := by
  have H : (some ((Go.bits .and .i32 ((wrap32 (a0 - 1)) / 65536) 255) % 256)) = some r := h
  clear h
  obtain rfl := Option.some.inj H
  go_enter Tryd.func20, Tryd.ntmps20
  go_wp2
  go_ret
  exact ⟨by first | rfl | (simp; done) | (simp [*]; done), by repeat (first | exact Drawn0.refl _ | apply Drawn0.step)⟩

/-! ### chroma_Colour_Green: function 21 -/
def chroma_Colour_Green.f (a0 : Int) : Option (Int) := some ((Go.bits .and .i32 ((wrap32 (a0 - 1)) / 256) 255) % 256)
set_option maxHeartbeats 8000000 in
set_option maxRecDepth 100000 in
theorem chroma_Colour_Green.calls (a0 : Int) (r : Int) (w : World) (h : chroma_Colour_Green.f a0 = some r) :
    Calls Tryd.prog 21 #[.int .i32 a0] w fun e w' => e = .returned (.int .u8 r) ∧ Drawn0 w w' := by
  have H : (some ((Go.bits .and .i32 ((wrap32 (a0 - 1)) / 256) 255) % 256)) = some r := h
  clear h
  obtain rfl := Option.some.inj H
  go_enter Tryd.func21, Tryd.ntmps21
  go_wp2
  go_ret
  exact ⟨by first | rfl | (simp; done) | (simp [*]; done), by repeat (first | exact Drawn0.refl _ | apply Drawn0.step)⟩

/-! ### chroma_Colour_Blue: function 22 -/
def chroma_Colour_Blue.f (a0 : Int) : Option (Int) := some ((Go.bits .and .i32 (wrap32 (a0 - 1)) 255) % 256)
set_option maxHeartbeats 8000000 in
set_option maxRecDepth 100000 in
theorem chroma_Colour_Blue.calls (a0 : Int) (r : Int) (w : World) (h : chroma_Colour_Blue.f a0 = some r) :
    Calls Tryd.prog 22 #[.int .i32 a0] w fun e w' => e = .returned (.int .u8 r) ∧ Drawn0 w w' := by
  have H : (some ((Go.bits .and .i32 (wrap32 (a0 - 1)) 255) % 256)) = some r := h
  clear h
  obtain rfl := Option.some.inj H
  go_enter Tryd.func22, Tryd.ntmps22
  go_wp2
  go_ret
  exact ⟨by first | rfl | (simp; done) | (simp [*]; done), by repeat (first | exact Drawn0.refl _ | apply Drawn0.step)⟩

-- NOT PRINTED: function 14 (chroma_Colour_Brightness)

-- NOT PRINTED: function 5 (impl_ColourBrightness)

/-! ### chroma_NewColour: function 15 -/
def chroma_NewColour.f (a0 : Int) (a1 : Int) (a2 : Int) : Option (Int) := some (wrap32 ((Go.bits .or .i32 (Go.bits .or .i32 (wrap32 ((wrap32 (a0)) * 65536)) (wrap32 ((wrap32 (a1)) * 256))) (wrap32 (a2))) + 1))
set_option maxHeartbeats 8000000 in
set_option maxRecDepth 100000 in
theorem chroma_NewColour.calls (a0 : Int) (a1 : Int) (a2 : Int) (r : Int) (w : World) (h : chroma_NewColour.f a0 a1 a2 = some r) :
    Calls Tryd.prog 15 #[.int .u8 a0, .int .u8 a1, .int .u8 a2] w fun e w' => e = .returned (.int .i32 r) ∧ Drawn0 w w' := by
  have H : (some (wrap32 ((Go.bits .or .i32 (Go.bits .or .i32 (wrap32 ((wrap32 (a0)) * 65536)) (wrap32 ((wrap32 (a1)) * 256))) (wrap32 (a2))) + 1))) = some r := h
  clear h
  obtain rfl := Option.some.inj H
  go_enter Tryd.func15, Tryd.ntmps15
  go_wp2
  go_ret
  exact ⟨by first | rfl | (simp; done) | (simp [*]; done), by repeat (first | exact Drawn0.refl _ | apply Drawn0.step)⟩

/-! ### impl_ColourNew: function 6 -/
def impl_ColourNew.f (a0 : Int) (a1 : Int) (a2 : Int) : Option (Int) := (chroma_NewColour.f a0 a1 a2).bind fun t101 => (some t101)
set_option maxHeartbeats 8000000 in
set_option maxRecDepth 100000 in
theorem impl_ColourNew.calls (a0 : Int) (a1 : Int) (a2 : Int) (r : Int) (w : World) (h : impl_ColourNew.f a0 a1 a2 = some r) :
    Calls Tryd.prog 6 #[.int .u8 a0, .int .u8 a1, .int .u8 a2] w fun e w' => e = .returned (.int .i32 r) ∧ Drawn0 w w' := by
  have H : ((chroma_NewColour.f a0 a1 a2).bind fun t101 => (some t101)) = some r := h
  clear h
  replace H := Option.bind_eq_some_iff.mp H
  obtain ⟨t101, A40, H⟩ := H
  replace H : (some t101) = some r := H
  have A4 := Aside0.mk A40
  clear A40
  obtain rfl := Option.some.inj H
  go_enter Tryd.func6, Tryd.ntmps6
  go_wp2_with (first | ((with_reducible refine gate_callee (f := 15) rfl ?_); refine goesL_ (some 10) rfl rfl Tryd.func15 (by kernel_rfl) rfl #[.int .u8 a0, .int .u8 a1, .int .u8 a2] rfl (by (try simp only [List.map_toArray, List.map_cons, List.map_nil]); first | done | rfl | (simp only [List.length_drop, List.length_take]; rfl)) ?_; (with_reducible refine (chroma_NewColour.calls a0 a1 a2 t101 _ A4.out).mono ?_); rintro e w' ⟨rfl, ⟨nd, rfl⟩⟩; refine ⟨_, rfl, ?_⟩))
  go_ret
  exact ⟨by first | rfl | (simp; done) | (simp [*]; done), by repeat (first | exact Drawn0.refl _ | apply Drawn0.step)⟩

-- NOT PRINTED: function 7 (math_Float64frombits)

-- NOT PRINTED: function 8 (laws_unit)

/-! ### chroma_Colour_IsSet: function 19 -/
def chroma_Colour_IsSet.f (a0 : Int) : Option (Bool) := some (a0 != 0)
set_option maxHeartbeats 8000000 in
set_option maxRecDepth 100000 in
theorem chroma_Colour_IsSet.calls (a0 : Int) (r : Bool) (w : World) (h : chroma_Colour_IsSet.f a0 = some r) :
    Calls Tryd.prog 19 #[.int .i32 a0] w fun e w' => e = .returned (.bool r) ∧ Drawn0 w w' := by
  have H : (some (a0 != 0)) = some r := h
  clear h
  obtain rfl := Option.some.inj H
  go_enter Tryd.func19, Tryd.ntmps19
  go_wp2
  go_ret
  exact ⟨by first | rfl | (simp; done) | (simp [*]; done), by repeat (first | exact Drawn0.refl _ | apply Drawn0.step)⟩

/-! ### impl_ColourIsSet: function 12 -/
def impl_ColourIsSet.f (a0 : Int) : Option (Bool) := (chroma_Colour_IsSet.f a0).bind fun t102 => (some t102)
set_option maxHeartbeats 8000000 in
set_option maxRecDepth 100000 in
theorem impl_ColourIsSet.calls (a0 : Int) (r : Bool) (w : World) (h : impl_ColourIsSet.f a0 = some r) :
    Calls Tryd.prog 12 #[.int .i32 a0] w fun e w' => e = .returned (.bool r) ∧ Drawn0 w w' := by
  have H : ((chroma_Colour_IsSet.f a0).bind fun t102 => (some t102)) = some r := h
  clear h
  replace H := Option.bind_eq_some_iff.mp H
  obtain ⟨t102, A20, H⟩ := H
  replace H : (some t102) = some r := H
  have A2 := Aside0.mk A20
  clear A20
  obtain rfl := Option.some.inj H
  go_enter Tryd.func12, Tryd.ntmps12
  go_wp2_with (first | ((with_reducible refine gate_callee (f := 19) rfl ?_); refine goesL_ (some 4) rfl rfl Tryd.func19 (by kernel_rfl) rfl #[.int .i32 a0] rfl (by (try simp only [List.map_toArray, List.map_cons, List.map_nil]); first | done | rfl | (simp only [List.length_drop, List.length_take]; rfl)) ?_; (with_reducible refine (chroma_Colour_IsSet.calls a0 t102 _ A2.out).mono ?_); rintro e w' ⟨rfl, ⟨nd, rfl⟩⟩; refine ⟨_, rfl, ?_⟩))
  go_ret
  exact ⟨by first | rfl | (simp; done) | (simp [*]; done), by repeat (first | exact Drawn0.refl _ | apply Drawn0.step)⟩

/-! ### chroma_zzHex6: function 28 -/
def chroma_zzHex6.f (a0 : Int) : Option ByteArray := if -9223372036854775808 < a0 then (if a0 < 9223372036854775808 then some (Go.Proofs.YtohlppcboiiaaaaDoorFmt.hex6 a0) else none) else none
theorem chroma_zzHex6.calls (a0 : Int) (r : ByteArray) (w : World) (hV : Go.Proofs.YtohlppcboiiaaaaDoorFmt.VarsOK w) (h : chroma_zzHex6.f a0 = some r) :
    Calls Tryd.prog 28 #[.int .i64 a0] w fun e w' => e = .returned (.string r) ∧ Below w.heap.size w w' := by
  unfold chroma_zzHex6.f at h
  by_cases h0 : -9223372036854775808 < a0
  · rw [if_pos h0] at h
    by_cases h1 : a0 < 9223372036854775808
    · rw [if_pos h1] at h
      obtain rfl := Option.some.inj h
      exact Go.Proofs.YtohlppcboiiaaaaDoorFmt.zzHex6 a0 h0 h1 w hV
    · rw [if_neg h1] at h; cases h
  · rw [if_neg h0] at h; cases h
/-! ### chroma_Colour_String: function 23 -/
def chroma_Colour_String.f (a0 : Int) : Option (ByteArray) := (chroma_zzHex6.f (wrap64 (wrap32 (a0 - 1)))).bind fun t103 => (if 1 + t103.size ≤ 9223372036854775807 then (some ((⟨#[35]⟩ : ByteArray) ++ t103)) else (none))
set_option maxHeartbeats 8000000 in
set_option maxRecDepth 100000 in
theorem chroma_Colour_String.calls (a0 : Int) (r : ByteArray) (w : World) (hV : Go.Proofs.YtohlppcboiiaaaaDoorFmt.VarsOK w) (h : chroma_Colour_String.f a0 = some r) :
    Calls Tryd.prog 23 #[.int .i32 a0] w fun e w' => e = .returned (.string r) ∧ Below w.heap.size w w' := by
  have HB := Aside0.mk (Below.refl w.heap.size w)
  have HV := Aside0.mk hV
  clear hV
  have H : ((chroma_zzHex6.f (wrap64 (wrap32 (a0 - 1)))).bind fun t103 => (if 1 + t103.size ≤ 9223372036854775807 then (some ((⟨#[35]⟩ : ByteArray) ++ t103)) else (none))) = some r := h
  clear h
  replace H := Option.bind_eq_some_iff.mp H
  obtain ⟨t103, A20, H⟩ := H
  replace H : (if 1 + t103.size ≤ 9223372036854775807 then (some ((⟨#[35]⟩ : ByteArray) ++ t103)) else (none)) = some r := H
  have A2 := Aside0.mk A20
  clear A20
  by_cases c3 : 1 + t103.size ≤ 9223372036854775807
  · rw [if_pos c3] at H
    have c3b0 := eq_true c3
    have c3b1 : decide (1 + t103.size ≤ 9223372036854775807) = true := decide_eq_true c3
    try have c3b2 : (9223372036854775807 < 1 + t103.size) = False := eq_false (Nat.not_lt.2 c3)
    obtain rfl := Option.some.inj H
    go_enter Tryd.func23, Tryd.ntmps23
    go_wp2_with (first | ((with_reducible refine gate_callee (f := 28) rfl ?_); refine goesL_ (some 6) rfl rfl Tryd.func28 (by kernel_rfl) rfl #[.int .i64 (wrap64 (wrap32 (a0 - 1)))] rfl (by (try simp only [List.map_toArray, List.map_cons, List.map_nil]); first | done | rfl | (simp only [List.length_drop, List.length_take]; rfl)) ?_; (with_reducible refine (chroma_zzHex6.calls (wrap64 (wrap32 (a0 - 1))) t103 _ ?side1 A2.out).mono ?_); (case side1 => exact Go.Proofs.YtohlppcboiiaaaaDoorFmt.VarsOK.below HV.out (by repeat (first | (with_reducible first | exact HB.out | apply below_alloc | apply pw_below_drewN | apply below_drew1) | exact HB.out))); rintro e w4 ⟨rfl, hb⟩; refine ⟨_, rfl, ?_⟩; have n0_ := Aside0.mk (below_step (by repeat (first | (with_reducible first | exact HB.out | apply below_alloc | apply pw_below_drewN | apply below_drew1) | exact HB.out)) hb); clear HB; have HB := n0_; clear n0_; (try clear hb); (try clear hb2); (try clear hk); (try clear hi)))
    go_ret
    exact ⟨by first | rfl | (simp [errW_none, errW_some] <;> rfl) | (simp [*, errW_none, errW_some] <;> rfl), by repeat (first | (with_reducible first | exact HB.out | apply below_alloc | apply pw_below_drewN | apply below_drew1) | exact HB.out)⟩
  · rw [if_neg c3] at H
    exact absurd H (by simp)

/-! ### impl_ColourString: function 16 -/
def impl_ColourString.f (a0 : Int) : Option (ByteArray) := (chroma_Colour_String.f a0).bind fun t104 => (some t104)
set_option maxHeartbeats 8000000 in
set_option maxRecDepth 100000 in
theorem impl_ColourString.calls (a0 : Int) (r : ByteArray) (w : World) (hV : Go.Proofs.YtohlppcboiiaaaaDoorFmt.VarsOK w) (h : impl_ColourString.f a0 = some r) :
    Calls Tryd.prog 16 #[.int .i32 a0] w fun e w' => e = .returned (.string r) ∧ Below w.heap.size w w' := by
  have HB := Aside0.mk (Below.refl w.heap.size w)
  have HV := Aside0.mk hV
  clear hV
  have H : ((chroma_Colour_String.f a0).bind fun t104 => (some t104)) = some r := h
  clear h
  replace H := Option.bind_eq_some_iff.mp H
  obtain ⟨t104, A20, H⟩ := H
  replace H : (some t104) = some r := H
  have A2 := Aside0.mk A20
  clear A20
  obtain rfl := Option.some.inj H
  go_enter Tryd.func16, Tryd.ntmps16
  go_wp2_with (first | ((with_reducible refine gate_callee (f := 23) rfl ?_); refine goesL_ (some 4) rfl rfl Tryd.func23 (by kernel_rfl) rfl #[.int .i32 a0] rfl (by (try simp only [List.map_toArray, List.map_cons, List.map_nil]); first | done | rfl | (simp only [List.length_drop, List.length_take]; rfl)) ?_; (with_reducible refine (chroma_Colour_String.calls a0 t104 _ ?side1 A2.out).mono ?_); (case side1 => exact Go.Proofs.YtohlppcboiiaaaaDoorFmt.VarsOK.below HV.out (by repeat (first | (with_reducible first | exact HB.out | apply below_alloc | apply pw_below_drewN | apply below_drew1) | exact HB.out))); rintro e w3 ⟨rfl, hb⟩; refine ⟨_, rfl, ?_⟩; have n0_ := Aside0.mk (below_step (by repeat (first | (with_reducible first | exact HB.out | apply below_alloc | apply pw_below_drewN | apply below_drew1) | exact HB.out)) hb); clear HB; have HB := n0_; clear n0_; (try clear hb); (try clear hb2); (try clear hk); (try clear hi)))
  go_ret
  exact ⟨by first | rfl | (simp [errW_none, errW_some] <;> rfl) | (simp [*, errW_none, errW_some] <;> rfl), by repeat (first | (with_reducible first | exact HB.out | apply below_alloc | apply pw_below_drewN | apply below_drew1) | exact HB.out)⟩

/-! ### chroma_ParseColour: function 24 -/
def chroma_ParseColour.f (a0 : ByteArray) : Option Int := if a0.size ≤ 140737488351232 then some (Go.Proofs.YtohlppcboiiaaaaDoorFmt.pcol a0) else none
theorem chroma_ParseColour.calls (a0 : ByteArray) (r : Int) (w : World) (hV : Go.Proofs.YtohlppcboiiaaaaDoorFmt.VarsOK w) (h : chroma_ParseColour.f a0 = some r) :
    Calls Tryd.prog 24 #[.string a0] w fun e w' => e = .returned (.int .i32 r) ∧ Below w.heap.size w w' := by
  unfold chroma_ParseColour.f at h
  by_cases h0 : a0.size ≤ 140737488351232
  · rw [if_pos h0] at h
    obtain rfl := Option.some.inj h
    exact Go.Proofs.YtohlppcboiiaaaaDoorFmt.parseColour a0 h0 w hV
  · rw [if_neg h0] at h; cases h

/-! ### impl_ColourParse: function 17 -/
def impl_ColourParse.f (a0 : ByteArray) : Option (Int) := (chroma_ParseColour.f a0).bind fun t105 => (some t105)
set_option maxHeartbeats 8000000 in
set_option maxRecDepth 100000 in
theorem impl_ColourParse.calls (a0 : ByteArray) (r : Int) (w : World) (hV : Go.Proofs.YtohlppcboiiaaaaDoorFmt.VarsOK w) (h : impl_ColourParse.f a0 = some r) :
    Calls Tryd.prog 17 #[.string a0] w fun e w' => e = .returned (.int .i32 r) ∧ Below w.heap.size w w' := by
  have HB := Aside0.mk (Below.refl w.heap.size w)
  have HV := Aside0.mk hV
  clear hV
  have H : ((chroma_ParseColour.f a0).bind fun t105 => (some t105)) = some r := h
  clear h
  replace H := Option.bind_eq_some_iff.mp H
  obtain ⟨t105, A20, H⟩ := H
  replace H : (some t105) = some r := H
  have A2 := Aside0.mk A20
  clear A20
  obtain rfl := Option.some.inj H
  go_enter Tryd.func17, Tryd.ntmps17
  go_wp2_with (first | ((with_reducible refine gate_callee (f := 24) rfl ?_); refine goesL_ (some 4) rfl rfl Tryd.func24 (by kernel_rfl) rfl #[.string a0] rfl (by (try simp only [List.map_toArray, List.map_cons, List.map_nil]); first | done | rfl | (simp only [List.length_drop, List.length_take]; rfl)) ?_; (with_reducible refine (chroma_ParseColour.calls a0 t105 _ ?side1 A2.out).mono ?_); (case side1 => exact Go.Proofs.YtohlppcboiiaaaaDoorFmt.VarsOK.below HV.out (by repeat (first | (with_reducible first | exact HB.out | apply below_alloc | apply pw_below_drewN | apply below_drew1) | exact HB.out))); rintro e w3 ⟨rfl, hb⟩; refine ⟨_, rfl, ?_⟩; have n0_ := Aside0.mk (below_step (by repeat (first | (with_reducible first | exact HB.out | apply below_alloc | apply pw_below_drewN | apply below_drew1) | exact HB.out)) hb); clear HB; have HB := n0_; clear n0_; (try clear hb); (try clear hb2); (try clear hk); (try clear hi)))
  go_ret
  exact ⟨by first | rfl | (simp [errW_none, errW_some] <;> rfl) | (simp [*, errW_none, errW_some] <;> rfl), by repeat (first | (with_reducible first | exact HB.out | apply below_alloc | apply pw_below_drewN | apply below_drew1) | exact HB.out)⟩

/-! ### laws_coloured: function 9 -/
def laws_coloured.f  : Option (Bool) := (impl_ColourParse.f (⟨#[35, 102, 102, 56, 48, 48, 48]⟩ : ByteArray)).bind fun t106 => ((impl_ColourString.f t106).bind fun t107 => (if t107.toList = ([35, 102, 102, 56, 48, 48, 48] : List UInt8) then ((impl_ColourParse.f (⟨#[114, 101, 100]⟩ : ByteArray)).bind fun t108 => ((impl_ColourIsSet.f t108).bind fun t109 => (some (!t109)))) else (some false)))
set_option maxHeartbeats 8000000 in
set_option maxRecDepth 100000 in
theorem laws_coloured.calls  (r : Bool) (w : World) (hV : Go.Proofs.YtohlppcboiiaaaaDoorFmt.VarsOK w) (h : laws_coloured.f  = some r) :
    Calls Tryd.prog 9 #[] w fun e w' => e = .returned (.bool r) ∧ Below w.heap.size w w' := by
  have HB := Aside0.mk (Below.refl w.heap.size w)
  have HV := Aside0.mk hV
  clear hV
  have H : ((impl_ColourParse.f (⟨#[35, 102, 102, 56, 48, 48, 48]⟩ : ByteArray)).bind fun t106 => ((impl_ColourString.f t106).bind fun t107 => (if t107.toList = ([35, 102, 102, 56, 48, 48, 48] : List UInt8) then ((impl_ColourParse.f (⟨#[114, 101, 100]⟩ : ByteArray)).bind fun t108 => ((impl_ColourIsSet.f t108).bind fun t109 => (some (!t109)))) else (some false)))) = some r := h
  clear h
  replace H := Option.bind_eq_some_iff.mp H
  obtain ⟨t106, A10, H⟩ := H
  replace H : ((impl_ColourString.f t106).bind fun t107 => (if t107.toList = ([35, 102, 102, 56, 48, 48, 48] : List UInt8) then ((impl_ColourParse.f (⟨#[114, 101, 100]⟩ : ByteArray)).bind fun t108 => ((impl_ColourIsSet.f t108).bind fun t109 => (some (!t109)))) else (some false))) = some r := H
  have A1 := Aside0.mk A10
  clear A10
  replace H := Option.bind_eq_some_iff.mp H
  obtain ⟨t107, A20, H⟩ := H
  replace H : (if t107.toList = ([35, 102, 102, 56, 48, 48, 48] : List UInt8) then ((impl_ColourParse.f (⟨#[114, 101, 100]⟩ : ByteArray)).bind fun t108 => ((impl_ColourIsSet.f t108).bind fun t109 => (some (!t109)))) else (some false)) = some r := H
  have A2 := Aside0.mk A20
  clear A20
  by_cases c3 : t107.toList = ([35, 102, 102, 56, 48, 48, 48] : List UInt8)
  · rw [if_pos c3] at H
    have c3b0 : (t107.toList == ([35, 102, 102, 56, 48, 48, 48] : List UInt8)) = true := beq_iff_eq.mpr c3
    have c3b1 : (t107.toList != ([35, 102, 102, 56, 48, 48, 48] : List UInt8)) = false := bne_eq_false_iff_eq.mpr c3
    clear c3
    replace H := Option.bind_eq_some_iff.mp H
    obtain ⟨t108, A40, H⟩ := H
    replace H : ((impl_ColourIsSet.f t108).bind fun t109 => (some (!t109))) = some r := H
    have A4 := Aside0.mk A40
    clear A40
    replace H := Option.bind_eq_some_iff.mp H
    obtain ⟨t109, A50, H⟩ := H
    replace H : (some (!t109)) = some r := H
    have A5 := Aside0.mk A50
    clear A50
    obtain rfl := Option.some.inj H
    go_enter Tryd.func9, Tryd.ntmps9
    go_wp2_with (first | ((with_reducible refine gate_callee (f := 17) rfl ?_); refine goesL_ (some 1) rfl rfl Tryd.func17 (by kernel_rfl) rfl #[.string (⟨#[35, 102, 102, 56, 48, 48, 48]⟩ : ByteArray)] rfl (by (try simp only [List.map_toArray, List.map_cons, List.map_nil]); first | done | rfl | (simp only [List.length_drop, List.length_take]; rfl)) ?_; (with_reducible refine (impl_ColourParse.calls (⟨#[35, 102, 102, 56, 48, 48, 48]⟩ : ByteArray) t106 _ ?side1 A1.out).mono ?_); (case side1 => exact Go.Proofs.YtohlppcboiiaaaaDoorFmt.VarsOK.below HV.out (by repeat (first | (with_reducible first | exact HB.out | apply below_alloc | apply pw_below_drewN | apply below_drew1) | exact HB.out))); rintro e w6 ⟨rfl, hb⟩; refine ⟨_, rfl, ?_⟩; have n0_ := Aside0.mk (below_step (by repeat (first | (with_reducible first | exact HB.out | apply below_alloc | apply pw_below_drewN | apply below_drew1) | exact HB.out)) hb); clear HB; have HB := n0_; clear n0_; (try clear hb); (try clear hb2); (try clear hk); (try clear hi)) | ((with_reducible refine gate_callee (f := 16) rfl ?_); refine goesL_ (some 2) rfl rfl Tryd.func16 (by kernel_rfl) rfl #[.int .i32 t106] rfl (by (try simp only [List.map_toArray, List.map_cons, List.map_nil]); first | done | rfl | (simp only [List.length_drop, List.length_take]; rfl)) ?_; (with_reducible refine (impl_ColourString.calls t106 t107 _ ?side1 A2.out).mono ?_); (case side1 => exact Go.Proofs.YtohlppcboiiaaaaDoorFmt.VarsOK.below HV.out (by repeat (first | (with_reducible first | exact HB.out | apply below_alloc | apply pw_below_drewN | apply below_drew1) | exact HB.out))); rintro e w7 ⟨rfl, hb⟩; refine ⟨_, rfl, ?_⟩; have n0_ := Aside0.mk (below_step (by repeat (first | (with_reducible first | exact HB.out | apply below_alloc | apply pw_below_drewN | apply below_drew1) | exact HB.out)) hb); clear HB; have HB := n0_; clear n0_; (try clear hb); (try clear hb2); (try clear hk); (try clear hi)) | (go_at_call 17; (with_reducible refine (impl_ColourParse.calls (⟨#[114, 101, 100]⟩ : ByteArray) t108 _ ?side1 A4.out).mono ?_); (case side1 => exact Go.Proofs.YtohlppcboiiaaaaDoorFmt.VarsOK.below HV.out (by repeat (first | (with_reducible first | exact HB.out | apply below_alloc | apply pw_below_drewN | apply below_drew1) | exact HB.out))); rintro e w8 ⟨rfl, hb⟩; have n0_ := Aside0.mk (below_step (by repeat (first | (with_reducible first | exact HB.out | apply below_alloc | apply pw_below_drewN | apply below_drew1) | exact HB.out)) hb); clear HB; have HB := n0_; clear n0_; (try clear hb); (try clear hb2); (try clear hk); (try clear hi)) | (go_at_call 12; (with_reducible refine (impl_ColourIsSet.calls t108 t109 _ A5.out).mono ?_); rintro e w' ⟨rfl, ⟨nd, rfl⟩⟩))
    go_ret
    exact ⟨by first | rfl | (simp [errW_none, errW_some] <;> rfl) | (simp [*, errW_none, errW_some] <;> rfl), by repeat (first | (with_reducible first | exact HB.out | apply below_alloc | apply pw_below_drewN | apply below_drew1) | exact HB.out)⟩
  · rw [if_neg c3] at H
    have c3b0 : (t107.toList == ([35, 102, 102, 56, 48, 48, 48] : List UInt8)) = false := beq_eq_false_iff_ne.mpr c3
    have c3b1 : (t107.toList != ([35, 102, 102, 56, 48, 48, 48] : List UInt8)) = true := bne_iff_ne.mpr c3
    obtain rfl := Option.some.inj H
    go_enter Tryd.func9, Tryd.ntmps9
    go_wp2_with (first | ((with_reducible refine gate_callee (f := 17) rfl ?_); refine goesL_ (some 1) rfl rfl Tryd.func17 (by kernel_rfl) rfl #[.string (⟨#[35, 102, 102, 56, 48, 48, 48]⟩ : ByteArray)] rfl (by (try simp only [List.map_toArray, List.map_cons, List.map_nil]); first | done | rfl | (simp only [List.length_drop, List.length_take]; rfl)) ?_; (with_reducible refine (impl_ColourParse.calls (⟨#[35, 102, 102, 56, 48, 48, 48]⟩ : ByteArray) t106 _ ?side1 A1.out).mono ?_); (case side1 => exact Go.Proofs.YtohlppcboiiaaaaDoorFmt.VarsOK.below HV.out (by repeat (first | (with_reducible first | exact HB.out | apply below_alloc | apply pw_below_drewN | apply below_drew1) | exact HB.out))); rintro e w9 ⟨rfl, hb⟩; refine ⟨_, rfl, ?_⟩; have n0_ := Aside0.mk (below_step (by repeat (first | (with_reducible first | exact HB.out | apply below_alloc | apply pw_below_drewN | apply below_drew1) | exact HB.out)) hb); clear HB; have HB := n0_; clear n0_; (try clear hb); (try clear hb2); (try clear hk); (try clear hi)) | ((with_reducible refine gate_callee (f := 16) rfl ?_); refine goesL_ (some 2) rfl rfl Tryd.func16 (by kernel_rfl) rfl #[.int .i32 t106] rfl (by (try simp only [List.map_toArray, List.map_cons, List.map_nil]); first | done | rfl | (simp only [List.length_drop, List.length_take]; rfl)) ?_; (with_reducible refine (impl_ColourString.calls t106 t107 _ ?side1 A2.out).mono ?_); (case side1 => exact Go.Proofs.YtohlppcboiiaaaaDoorFmt.VarsOK.below HV.out (by repeat (first | (with_reducible first | exact HB.out | apply below_alloc | apply pw_below_drewN | apply below_drew1) | exact HB.out))); rintro e w10 ⟨rfl, hb⟩; refine ⟨_, rfl, ?_⟩; have n0_ := Aside0.mk (below_step (by repeat (first | (with_reducible first | exact HB.out | apply below_alloc | apply pw_below_drewN | apply below_drew1) | exact HB.out)) hb); clear HB; have HB := n0_; clear n0_; (try clear hb); (try clear hb2); (try clear hk); (try clear hi)))
    go_ret
    exact ⟨by first | rfl | (simp [errW_none, errW_some] <;> rfl) | (simp [*, errW_none, errW_some] <;> rfl), by repeat (first | (with_reducible first | exact HB.out | apply below_alloc | apply pw_below_drewN | apply below_drew1) | exact HB.out)⟩

-- NOT PRINTED: function 3 (laws_FnColourBrightness)

/-! ### laws_plain: function 10 -/
def laws_plain.f (a0 : Int) : Option (Bool) := if a0 ≥ 1 then (some (decide (a0 ≤ 16777216))) else (some false)
set_option maxHeartbeats 8000000 in
set_option maxRecDepth 100000 in
theorem laws_plain.calls (a0 : Int) (r : Bool) (w : World) (h : laws_plain.f a0 = some r) :
    Calls Tryd.prog 10 #[.int .i32 a0] w fun e w' => e = .returned (.bool r) ∧ Drawn0 w w' := by
  have H : (if a0 ≥ 1 then (some (decide (a0 ≤ 16777216))) else (some false)) = some r := h
  clear h
  by_cases c2 : a0 ≥ 1
  · rw [if_pos c2] at H
    have c2b0 : decide (1 ≤ a0) = true := decide_eq_true c2
    clear c2
    obtain rfl := Option.some.inj H
    go_enter Tryd.func10, Tryd.ntmps10
    go_wp2
    go_ret
    exact ⟨by first | rfl | (simp; done) | (simp [*]; done), by repeat (first | exact Drawn0.refl _ | apply Drawn0.step)⟩
  · rw [if_neg c2] at H
    have c2b0 : decide (1 ≤ a0) = false := decide_eq_false c2
    clear c2
    obtain rfl := Option.some.inj H
    go_enter Tryd.func10, Tryd.ntmps10
    go_wp2
    go_ret
    exact ⟨by first | rfl | (simp; done) | (simp [*]; done), by repeat (first | exact Drawn0.refl _ | apply Drawn0.step)⟩

-- NOT PRINTED: function 31 (math_archMax)

-- NOT PRINTED: function 53 (math_Abs)

-- NOT PRINTED: function 40 (math_IsInf)

-- NOT PRINTED: function 41 (math_Inf)

-- NOT PRINTED: function 42 (math_IsNaN)

-- NOT PRINTED: function 43 (math_NaN)

-- NOT PRINTED: function 44 (math_Signbit)

-- NOT PRINTED: function 32 (math_max)

-- NOT PRINTED: function 25 (math_Max)

-- NOT PRINTED: function 33 (math_archMin)

-- NOT PRINTED: function 34 (math_min)

-- NOT PRINTED: function 26 (math_Min)

-- NOT PRINTED: function 27 (chroma_Colour_Brighten)

-- NOT PRINTED: function 18 (chroma_Colour_ClampBrightness)

-- NOT PRINTED: function 11 (impl_ColourClamp)

-- NOT PRINTED: function 4 (laws_FnColourClamp)

end Go.Proofs.YtohlppcboiiaaaaDoor.M
