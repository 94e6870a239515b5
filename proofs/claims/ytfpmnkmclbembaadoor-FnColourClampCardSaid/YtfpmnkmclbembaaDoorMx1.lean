-- WRITTEN BY OUR myprint.py, a program of this session's over the kit's printer
import Derived.Test.YtfpmnkmclbembaaDoorMx0
namespace Go.Proofs.YtfpmnkmclbembaaDoor.M
open Go.RowKit Go.Proofs.YtfpmnkmclbembaaDoorW.PrintWords Go.Proofs.YtfpmnkmclbembaaDoorW.PrintLast Go.Proofs.YtfpmnkmclbembaaDoorW.PrintMore
attribute [local go_sem] max2_int min2_int max_two min_two max_three min_three max_four min_four   -- for this text's walks alone
set_option linter.unusedVariables false
set_option linter.unusedSimpArgs false

/-! ### chroma_Colour_IsSet: function 14 -/
def chroma_Colour_IsSet.f (a0 : Int) : Option (Bool) := some (a0 != 0)
set_option maxHeartbeats 8000000 in
set_option maxRecDepth 100000 in
theorem chroma_Colour_IsSet.calls (a0 : Int) (r : Bool) (w : World) (h : chroma_Colour_IsSet.f a0 = some r) :
    Calls Tryd.prog 14 #[.int .i32 a0] w fun e w' => e = .returned (.bool r) ∧ Drawn0 w w' := by
  have H : (some (a0 != 0)) = some r := h
  clear h
  obtain rfl := Option.some.inj H
  go_enter Tryd.func14, Tryd.ntmps14
  go_wp2
  go_ret
  exact ⟨by first | rfl | (simp; done) | (simp [*]; done), by repeat (first | exact Drawn0.refl _ | apply Drawn0.step)⟩

/-! ### impl_ColourIsSet: function 9 -/
def impl_ColourIsSet.f (a0 : Int) : Option (Bool) := (chroma_Colour_IsSet.f a0).bind fun t101 => (some t101)
set_option maxHeartbeats 8000000 in
set_option maxRecDepth 100000 in
theorem impl_ColourIsSet.calls (a0 : Int) (r : Bool) (w : World) (h : impl_ColourIsSet.f a0 = some r) :
    Calls Tryd.prog 9 #[.int .i32 a0] w fun e w' => e = .returned (.bool r) ∧ Drawn0 w w' := by
  have H : ((chroma_Colour_IsSet.f a0).bind fun t101 => (some t101)) = some r := h
  clear h
  replace H := Option.bind_eq_some_iff.mp H
  obtain ⟨t101, A20, H⟩ := H
  replace H : (some t101) = some r := H
  have A2 := Aside0.mk A20
  clear A20
  obtain rfl := Option.some.inj H
  go_enter Tryd.func9, Tryd.ntmps9
  go_wp2_with (first | ((with_reducible refine gate_callee (f := 14) rfl ?_); refine goesL_ (some 4) rfl rfl Tryd.func14 (by kernel_rfl) rfl #[.int .i32 a0] rfl (by (try simp only [List.map_toArray, List.map_cons, List.map_nil]); first | done | rfl | (simp only [List.length_drop, List.length_take]; rfl)) ?_; (with_reducible refine (chroma_Colour_IsSet.calls a0 t101 _ A2.out).mono ?_); rintro e w' ⟨rfl, ⟨nd, rfl⟩⟩; refine ⟨_, rfl, ?_⟩))
  go_ret
  exact ⟨by first | rfl | (simp; done) | (simp [*]; done), by repeat (first | exact Drawn0.refl _ | apply Drawn0.step)⟩

/-! ### chroma_zzHex6: function 30 -/
def chroma_zzHex6.f (a0 : Int) : Option ByteArray := if -9223372036854775808 < a0 then (if a0 < 9223372036854775808 then some (Go.Proofs.YtfpmnkmclbembaaDoorFmt.hex6 a0) else none) else none
theorem chroma_zzHex6.calls (a0 : Int) (r : ByteArray) (w : World) (hV : Go.Proofs.YtfpmnkmclbembaaDoorFmt.VarsOK w) (h : chroma_zzHex6.f a0 = some r) :
    Calls Tryd.prog 30 #[.int .i64 a0] w fun e w' => e = .returned (.string r) ∧ Below w.heap.size w w' := by
  unfold chroma_zzHex6.f at h
  by_cases h0 : -9223372036854775808 < a0
  · rw [if_pos h0] at h
    by_cases h1 : a0 < 9223372036854775808
    · rw [if_pos h1] at h
      obtain rfl := Option.some.inj h
      exact Go.Proofs.YtfpmnkmclbembaaDoorFmt.zzHex6 a0 h0 h1 w hV
    · rw [if_neg h1] at h; cases h
  · rw [if_neg h0] at h; cases h
/-! ### chroma_Colour_String: function 23 -/
def chroma_Colour_String.f (a0 : Int) : Option (ByteArray) := (chroma_zzHex6.f (wrap64 (wrap32 (a0 - 1)))).bind fun t102 => (if 1 + t102.size ≤ 9223372036854775807 then (some ((⟨#[35]⟩ : ByteArray) ++ t102)) else (none))
set_option maxHeartbeats 8000000 in
set_option maxRecDepth 100000 in
theorem chroma_Colour_String.calls (a0 : Int) (r : ByteArray) (w : World) (hV : Go.Proofs.YtfpmnkmclbembaaDoorFmt.VarsOK w) (h : chroma_Colour_String.f a0 = some r) :
    Calls Tryd.prog 23 #[.int .i32 a0] w fun e w' => e = .returned (.string r) ∧ Below w.heap.size w w' := by
  have HB := Aside0.mk (Below.refl w.heap.size w)
  have HV := Aside0.mk hV
  clear hV
  have H : ((chroma_zzHex6.f (wrap64 (wrap32 (a0 - 1)))).bind fun t102 => (if 1 + t102.size ≤ 9223372036854775807 then (some ((⟨#[35]⟩ : ByteArray) ++ t102)) else (none))) = some r := h
  clear h
  replace H := Option.bind_eq_some_iff.mp H
  obtain ⟨t102, A20, H⟩ := H
  replace H : (if 1 + t102.size ≤ 9223372036854775807 then (some ((⟨#[35]⟩ : ByteArray) ++ t102)) else (none)) = some r := H
  have A2 := Aside0.mk A20
  clear A20
  by_cases c3 : 1 + t102.size ≤ 9223372036854775807
  · rw [if_pos c3] at H
    have c3b0 := eq_true c3
    have c3b1 : decide (1 + t102.size ≤ 9223372036854775807) = true := decide_eq_true c3
    try have c3b2 : (9223372036854775807 < 1 + t102.size) = False := eq_false (Nat.not_lt.2 c3)
    obtain rfl := Option.some.inj H
    go_enter Tryd.func23, Tryd.ntmps23
    go_wp2_with (first | ((with_reducible refine gate_callee (f := 30) rfl ?_); refine goesL_ (some 6) rfl rfl Tryd.func30 (by kernel_rfl) rfl #[.int .i64 (wrap64 (wrap32 (a0 - 1)))] rfl (by (try simp only [List.map_toArray, List.map_cons, List.map_nil]); first | done | rfl | (simp only [List.length_drop, List.length_take]; rfl)) ?_; (with_reducible refine (chroma_zzHex6.calls (wrap64 (wrap32 (a0 - 1))) t102 _ ?side1 A2.out).mono ?_); (case side1 => exact Go.Proofs.YtfpmnkmclbembaaDoorFmt.VarsOK.below HV.out (by repeat (first | (with_reducible first | exact HB.out | apply below_alloc | apply pw_below_drewN | apply below_drew1) | exact HB.out))); rintro e w4 ⟨rfl, hb⟩; refine ⟨_, rfl, ?_⟩; have n0_ := Aside0.mk (below_step (by repeat (first | (with_reducible first | exact HB.out | apply below_alloc | apply pw_below_drewN | apply below_drew1) | exact HB.out)) hb); clear HB; have HB := n0_; clear n0_; (try clear hb); (try clear hb2); (try clear hk); (try clear hi)))
    go_ret
    exact ⟨by first | rfl | (simp [errW_none, errW_some] <;> rfl) | (simp [*, errW_none, errW_some] <;> rfl), by repeat (first | (with_reducible first | exact HB.out | apply below_alloc | apply pw_below_drewN | apply below_drew1) | exact HB.out)⟩
  · rw [if_neg c3] at H
    exact absurd H (by simp)

/-! ### impl_ColourString: function 15 -/
def impl_ColourString.f (a0 : Int) : Option (ByteArray) := (chroma_Colour_String.f a0).bind fun t103 => (some t103)
set_option maxHeartbeats 8000000 in
set_option maxRecDepth 100000 in
theorem impl_ColourString.calls (a0 : Int) (r : ByteArray) (w : World) (hV : Go.Proofs.YtfpmnkmclbembaaDoorFmt.VarsOK w) (h : impl_ColourString.f a0 = some r) :
    Calls Tryd.prog 15 #[.int .i32 a0] w fun e w' => e = .returned (.string r) ∧ Below w.heap.size w w' := by
  have HB := Aside0.mk (Below.refl w.heap.size w)
  have HV := Aside0.mk hV
  clear hV
  have H : ((chroma_Colour_String.f a0).bind fun t103 => (some t103)) = some r := h
  clear h
  replace H := Option.bind_eq_some_iff.mp H
  obtain ⟨t103, A20, H⟩ := H
  replace H : (some t103) = some r := H
  have A2 := Aside0.mk A20
  clear A20
  obtain rfl := Option.some.inj H
  go_enter Tryd.func15, Tryd.ntmps15
  go_wp2_with (first | ((with_reducible refine gate_callee (f := 23) rfl ?_); refine goesL_ (some 4) rfl rfl Tryd.func23 (by kernel_rfl) rfl #[.int .i32 a0] rfl (by (try simp only [List.map_toArray, List.map_cons, List.map_nil]); first | done | rfl | (simp only [List.length_drop, List.length_take]; rfl)) ?_; (with_reducible refine (chroma_Colour_String.calls a0 t103 _ ?side1 A2.out).mono ?_); (case side1 => exact Go.Proofs.YtfpmnkmclbembaaDoorFmt.VarsOK.below HV.out (by repeat (first | (with_reducible first | exact HB.out | apply below_alloc | apply pw_below_drewN | apply below_drew1) | exact HB.out))); rintro e w3 ⟨rfl, hb⟩; refine ⟨_, rfl, ?_⟩; have n0_ := Aside0.mk (below_step (by repeat (first | (with_reducible first | exact HB.out | apply below_alloc | apply pw_below_drewN | apply below_drew1) | exact HB.out)) hb); clear HB; have HB := n0_; clear n0_; (try clear hb); (try clear hb2); (try clear hk); (try clear hi)))
  go_ret
  exact ⟨by first | rfl | (simp [errW_none, errW_some] <;> rfl) | (simp [*, errW_none, errW_some] <;> rfl), by repeat (first | (with_reducible first | exact HB.out | apply below_alloc | apply pw_below_drewN | apply below_drew1) | exact HB.out)⟩

/-! ### chroma_ParseColour: function 24 -/
def chroma_ParseColour.f (a0 : ByteArray) : Option Int := if a0.size ≤ 140737488351232 then some (Go.Proofs.YtfpmnkmclbembaaDoorFmt.pcol a0) else none
theorem chroma_ParseColour.calls (a0 : ByteArray) (r : Int) (w : World) (hV : Go.Proofs.YtfpmnkmclbembaaDoorFmt.VarsOK w) (h : chroma_ParseColour.f a0 = some r) :
    Calls Tryd.prog 24 #[.string a0] w fun e w' => e = .returned (.int .i32 r) ∧ Below w.heap.size w w' := by
  unfold chroma_ParseColour.f at h
  by_cases h0 : a0.size ≤ 140737488351232
  · rw [if_pos h0] at h
    obtain rfl := Option.some.inj h
    exact Go.Proofs.YtfpmnkmclbembaaDoorFmt.parseColour a0 h0 w hV
  · rw [if_neg h0] at h; cases h

/-! ### impl_ColourParse: function 16 -/
def impl_ColourParse.f (a0 : ByteArray) : Option (Int) := (chroma_ParseColour.f a0).bind fun t104 => (some t104)
set_option maxHeartbeats 8000000 in
set_option maxRecDepth 100000 in
theorem impl_ColourParse.calls (a0 : ByteArray) (r : Int) (w : World) (hV : Go.Proofs.YtfpmnkmclbembaaDoorFmt.VarsOK w) (h : impl_ColourParse.f a0 = some r) :
    Calls Tryd.prog 16 #[.string a0] w fun e w' => e = .returned (.int .i32 r) ∧ Below w.heap.size w w' := by
  have HB := Aside0.mk (Below.refl w.heap.size w)
  have HV := Aside0.mk hV
  clear hV
  have H : ((chroma_ParseColour.f a0).bind fun t104 => (some t104)) = some r := h
  clear h
  replace H := Option.bind_eq_some_iff.mp H
  obtain ⟨t104, A20, H⟩ := H
  replace H : (some t104) = some r := H
  have A2 := Aside0.mk A20
  clear A20
  obtain rfl := Option.some.inj H
  go_enter Tryd.func16, Tryd.ntmps16
  go_wp2_with (first | ((with_reducible refine gate_callee (f := 24) rfl ?_); refine goesL_ (some 4) rfl rfl Tryd.func24 (by kernel_rfl) rfl #[.string a0] rfl (by (try simp only [List.map_toArray, List.map_cons, List.map_nil]); first | done | rfl | (simp only [List.length_drop, List.length_take]; rfl)) ?_; (with_reducible refine (chroma_ParseColour.calls a0 t104 _ ?side1 A2.out).mono ?_); (case side1 => exact Go.Proofs.YtfpmnkmclbembaaDoorFmt.VarsOK.below HV.out (by repeat (first | (with_reducible first | exact HB.out | apply below_alloc | apply pw_below_drewN | apply below_drew1) | exact HB.out))); rintro e w3 ⟨rfl, hb⟩; refine ⟨_, rfl, ?_⟩; have n0_ := Aside0.mk (below_step (by repeat (first | (with_reducible first | exact HB.out | apply below_alloc | apply pw_below_drewN | apply below_drew1) | exact HB.out)) hb); clear HB; have HB := n0_; clear n0_; (try clear hb); (try clear hb2); (try clear hk); (try clear hi)))
  go_ret
  exact ⟨by first | rfl | (simp [errW_none, errW_some] <;> rfl) | (simp [*, errW_none, errW_some] <;> rfl), by repeat (first | (with_reducible first | exact HB.out | apply below_alloc | apply pw_below_drewN | apply below_drew1) | exact HB.out)⟩

/-! ### laws_coloured: function 10 -/
def laws_coloured.f  : Option (Bool) := (impl_ColourParse.f (⟨#[35, 102, 102, 56, 48, 48, 48]⟩ : ByteArray)).bind fun t105 => ((impl_ColourString.f t105).bind fun t106 => (if t106.toList = ([35, 102, 102, 56, 48, 48, 48] : List UInt8) then ((impl_ColourParse.f (⟨#[114, 101, 100]⟩ : ByteArray)).bind fun t107 => ((impl_ColourIsSet.f t107).bind fun t108 => (some (!t108)))) else (some false)))
set_option maxHeartbeats 8000000 in
set_option maxRecDepth 100000 in
theorem laws_coloured.calls  (r : Bool) (w : World) (hV : Go.Proofs.YtfpmnkmclbembaaDoorFmt.VarsOK w) (h : laws_coloured.f  = some r) :
    Calls Tryd.prog 10 #[] w fun e w' => e = .returned (.bool r) ∧ Below w.heap.size w w' := by
  have HB := Aside0.mk (Below.refl w.heap.size w)
  have HV := Aside0.mk hV
  clear hV
  have H : ((impl_ColourParse.f (⟨#[35, 102, 102, 56, 48, 48, 48]⟩ : ByteArray)).bind fun t105 => ((impl_ColourString.f t105).bind fun t106 => (if t106.toList = ([35, 102, 102, 56, 48, 48, 48] : List UInt8) then ((impl_ColourParse.f (⟨#[114, 101, 100]⟩ : ByteArray)).bind fun t107 => ((impl_ColourIsSet.f t107).bind fun t108 => (some (!t108)))) else (some false)))) = some r := h
  clear h
  replace H := Option.bind_eq_some_iff.mp H
  obtain ⟨t105, A10, H⟩ := H
  replace H : ((impl_ColourString.f t105).bind fun t106 => (if t106.toList = ([35, 102, 102, 56, 48, 48, 48] : List UInt8) then ((impl_ColourParse.f (⟨#[114, 101, 100]⟩ : ByteArray)).bind fun t107 => ((impl_ColourIsSet.f t107).bind fun t108 => (some (!t108)))) else (some false))) = some r := H
  have A1 := Aside0.mk A10
  clear A10
  replace H := Option.bind_eq_some_iff.mp H
  obtain ⟨t106, A20, H⟩ := H
  replace H : (if t106.toList = ([35, 102, 102, 56, 48, 48, 48] : List UInt8) then ((impl_ColourParse.f (⟨#[114, 101, 100]⟩ : ByteArray)).bind fun t107 => ((impl_ColourIsSet.f t107).bind fun t108 => (some (!t108)))) else (some false)) = some r := H
  have A2 := Aside0.mk A20
  clear A20
  by_cases c3 : t106.toList = ([35, 102, 102, 56, 48, 48, 48] : List UInt8)
  · rw [if_pos c3] at H
    have c3b0 : (t106.toList == ([35, 102, 102, 56, 48, 48, 48] : List UInt8)) = true := beq_iff_eq.mpr c3
    have c3b1 : (t106.toList != ([35, 102, 102, 56, 48, 48, 48] : List UInt8)) = false := bne_eq_false_iff_eq.mpr c3
    clear c3
    replace H := Option.bind_eq_some_iff.mp H
    obtain ⟨t107, A40, H⟩ := H
    replace H : ((impl_ColourIsSet.f t107).bind fun t108 => (some (!t108))) = some r := H
    have A4 := Aside0.mk A40
    clear A40
    replace H := Option.bind_eq_some_iff.mp H
    obtain ⟨t108, A50, H⟩ := H
    replace H : (some (!t108)) = some r := H
    have A5 := Aside0.mk A50
    clear A50
    obtain rfl := Option.some.inj H
    go_enter Tryd.func10, Tryd.ntmps10
    go_wp2_with (first | ((with_reducible refine gate_callee (f := 16) rfl ?_); refine goesL_ (some 1) rfl rfl Tryd.func16 (by kernel_rfl) rfl #[.string (⟨#[35, 102, 102, 56, 48, 48, 48]⟩ : ByteArray)] rfl (by (try simp only [List.map_toArray, List.map_cons, List.map_nil]); first | done | rfl | (simp only [List.length_drop, List.length_take]; rfl)) ?_; (with_reducible refine (impl_ColourParse.calls (⟨#[35, 102, 102, 56, 48, 48, 48]⟩ : ByteArray) t105 _ ?side1 A1.out).mono ?_); (case side1 => exact Go.Proofs.YtfpmnkmclbembaaDoorFmt.VarsOK.below HV.out (by repeat (first | (with_reducible first | exact HB.out | apply below_alloc | apply pw_below_drewN | apply below_drew1) | exact HB.out))); rintro e w6 ⟨rfl, hb⟩; refine ⟨_, rfl, ?_⟩; have n0_ := Aside0.mk (below_step (by repeat (first | (with_reducible first | exact HB.out | apply below_alloc | apply pw_below_drewN | apply below_drew1) | exact HB.out)) hb); clear HB; have HB := n0_; clear n0_; (try clear hb); (try clear hb2); (try clear hk); (try clear hi)) | ((with_reducible refine gate_callee (f := 15) rfl ?_); refine goesL_ (some 2) rfl rfl Tryd.func15 (by kernel_rfl) rfl #[.int .i32 t105] rfl (by (try simp only [List.map_toArray, List.map_cons, List.map_nil]); first | done | rfl | (simp only [List.length_drop, List.length_take]; rfl)) ?_; (with_reducible refine (impl_ColourString.calls t105 t106 _ ?side1 A2.out).mono ?_); (case side1 => exact Go.Proofs.YtfpmnkmclbembaaDoorFmt.VarsOK.below HV.out (by repeat (first | (with_reducible first | exact HB.out | apply below_alloc | apply pw_below_drewN | apply below_drew1) | exact HB.out))); rintro e w7 ⟨rfl, hb⟩; refine ⟨_, rfl, ?_⟩; have n0_ := Aside0.mk (below_step (by repeat (first | (with_reducible first | exact HB.out | apply below_alloc | apply pw_below_drewN | apply below_drew1) | exact HB.out)) hb); clear HB; have HB := n0_; clear n0_; (try clear hb); (try clear hb2); (try clear hk); (try clear hi)) | (go_at_call 16; (with_reducible refine (impl_ColourParse.calls (⟨#[114, 101, 100]⟩ : ByteArray) t107 _ ?side1 A4.out).mono ?_); (case side1 => exact Go.Proofs.YtfpmnkmclbembaaDoorFmt.VarsOK.below HV.out (by repeat (first | (with_reducible first | exact HB.out | apply below_alloc | apply pw_below_drewN | apply below_drew1) | exact HB.out))); rintro e w8 ⟨rfl, hb⟩; have n0_ := Aside0.mk (below_step (by repeat (first | (with_reducible first | exact HB.out | apply below_alloc | apply pw_below_drewN | apply below_drew1) | exact HB.out)) hb); clear HB; have HB := n0_; clear n0_; (try clear hb); (try clear hb2); (try clear hk); (try clear hi)) | (go_at_call 9; (with_reducible refine (impl_ColourIsSet.calls t107 t108 _ A5.out).mono ?_); rintro e w' ⟨rfl, ⟨nd, rfl⟩⟩))
    go_ret
    exact ⟨by first | rfl | (simp [errW_none, errW_some] <;> rfl) | (simp [*, errW_none, errW_some] <;> rfl), by repeat (first | (with_reducible first | exact HB.out | apply below_alloc | apply pw_below_drewN | apply below_drew1) | exact HB.out)⟩
  · rw [if_neg c3] at H
    have c3b0 : (t106.toList == ([35, 102, 102, 56, 48, 48, 48] : List UInt8)) = false := beq_eq_false_iff_ne.mpr c3
    have c3b1 : (t106.toList != ([35, 102, 102, 56, 48, 48, 48] : List UInt8)) = true := bne_iff_ne.mpr c3
    obtain rfl := Option.some.inj H
    go_enter Tryd.func10, Tryd.ntmps10
    go_wp2_with (first | ((with_reducible refine gate_callee (f := 16) rfl ?_); refine goesL_ (some 1) rfl rfl Tryd.func16 (by kernel_rfl) rfl #[.string (⟨#[35, 102, 102, 56, 48, 48, 48]⟩ : ByteArray)] rfl (by (try simp only [List.map_toArray, List.map_cons, List.map_nil]); first | done | rfl | (simp only [List.length_drop, List.length_take]; rfl)) ?_; (with_reducible refine (impl_ColourParse.calls (⟨#[35, 102, 102, 56, 48, 48, 48]⟩ : ByteArray) t105 _ ?side1 A1.out).mono ?_); (case side1 => exact Go.Proofs.YtfpmnkmclbembaaDoorFmt.VarsOK.below HV.out (by repeat (first | (with_reducible first | exact HB.out | apply below_alloc | apply pw_below_drewN | apply below_drew1) | exact HB.out))); rintro e w9 ⟨rfl, hb⟩; refine ⟨_, rfl, ?_⟩; have n0_ := Aside0.mk (below_step (by repeat (first | (with_reducible first | exact HB.out | apply below_alloc | apply pw_below_drewN | apply below_drew1) | exact HB.out)) hb); clear HB; have HB := n0_; clear n0_; (try clear hb); (try clear hb2); (try clear hk); (try clear hi)) | ((with_reducible refine gate_callee (f := 15) rfl ?_); refine goesL_ (some 2) rfl rfl Tryd.func15 (by kernel_rfl) rfl #[.int .i32 t105] rfl (by (try simp only [List.map_toArray, List.map_cons, List.map_nil]); first | done | rfl | (simp only [List.length_drop, List.length_take]; rfl)) ?_; (with_reducible refine (impl_ColourString.calls t105 t106 _ ?side1 A2.out).mono ?_); (case side1 => exact Go.Proofs.YtfpmnkmclbembaaDoorFmt.VarsOK.below HV.out (by repeat (first | (with_reducible first | exact HB.out | apply below_alloc | apply pw_below_drewN | apply below_drew1) | exact HB.out))); rintro e w10 ⟨rfl, hb⟩; refine ⟨_, rfl, ?_⟩; have n0_ := Aside0.mk (below_step (by repeat (first | (with_reducible first | exact HB.out | apply below_alloc | apply pw_below_drewN | apply below_drew1) | exact HB.out)) hb); clear HB; have HB := n0_; clear n0_; (try clear hb); (try clear hb2); (try clear hk); (try clear hi)))
    go_ret
    exact ⟨by first | rfl | (simp [errW_none, errW_some] <;> rfl) | (simp [*, errW_none, errW_some] <;> rfl), by repeat (first | (with_reducible first | exact HB.out | apply below_alloc | apply pw_below_drewN | apply below_drew1) | exact HB.out)⟩
def laws_coloured.Pure : Prop := laws_coloured.f  = some true

/-! ### laws_plain: function 4 -/
def laws_plain.f (a0 : Int) : Option (Bool) := if a0 ≥ 1 then (some (decide (a0 ≤ 16777216))) else (some false)
set_option maxHeartbeats 8000000 in
set_option maxRecDepth 100000 in
theorem laws_plain.calls (a0 : Int) (r : Bool) (w : World) (h : laws_plain.f a0 = some r) :
    Calls Tryd.prog 4 #[.int .i32 a0] w fun e w' => e = .returned (.bool r) ∧ Drawn0 w w' := by
  have H : (if a0 ≥ 1 then (some (decide (a0 ≤ 16777216))) else (some false)) = some r := h
  clear h
  by_cases c2 : a0 ≥ 1
  · rw [if_pos c2] at H
    have c2b0 : decide (1 ≤ a0) = true := decide_eq_true c2
    clear c2
    obtain rfl := Option.some.inj H
    go_enter Tryd.func4, Tryd.ntmps4
    go_wp2
    go_ret
    exact ⟨by first | rfl | (simp; done) | (simp [*]; done), by repeat (first | exact Drawn0.refl _ | apply Drawn0.step)⟩
  · rw [if_neg c2] at H
    have c2b0 : decide (1 ≤ a0) = false := decide_eq_false c2
    clear c2
    obtain rfl := Option.some.inj H
    go_enter Tryd.func4, Tryd.ntmps4
    go_wp2
    go_ret
    exact ⟨by first | rfl | (simp; done) | (simp [*]; done), by repeat (first | exact Drawn0.refl _ | apply Drawn0.step)⟩
def laws_plain.Pure : Prop := ∀ (a0 : Int), (Lit.int .i32 a0).wf = true → laws_plain.f a0 = some true

/-! ### chroma_Colour_Red: function 17 -/
def chroma_Colour_Red.f (a0 : Int) : Option (Int) := some ((Go.bits .and .i32 ((wrap32 (a0 - 1)) / 65536) 255) % 256)
set_option maxHeartbeats 8000000 in
set_option maxRecDepth 100000 in
theorem chroma_Colour_Red.calls (a0 : Int) (r : Int) (w : World) (h : chroma_Colour_Red.f a0 = some r) :
    Calls Tryd.prog 17 #[.int .i32 a0] w fun e w' => e = .returned (.int .u8 r) ∧ Drawn0 w w' := by
  have H : (some ((Go.bits .and .i32 ((wrap32 (a0 - 1)) / 65536) 255) % 256)) = some r := h
  clear h
  obtain rfl := Option.some.inj H
  go_enter Tryd.func17, Tryd.ntmps17
  go_wp2
  go_ret
  exact ⟨by first | rfl | (simp; done) | (simp [*]; done), by repeat (first | exact Drawn0.refl _ | apply Drawn0.step)⟩

/-! ### chroma_Colour_Green: function 18 -/
def chroma_Colour_Green.f (a0 : Int) : Option (Int) := some ((Go.bits .and .i32 ((wrap32 (a0 - 1)) / 256) 255) % 256)
set_option maxHeartbeats 8000000 in
set_option maxRecDepth 100000 in
theorem chroma_Colour_Green.calls (a0 : Int) (r : Int) (w : World) (h : chroma_Colour_Green.f a0 = some r) :
    Calls Tryd.prog 18 #[.int .i32 a0] w fun e w' => e = .returned (.int .u8 r) ∧ Drawn0 w w' := by
  have H : (some ((Go.bits .and .i32 ((wrap32 (a0 - 1)) / 256) 255) % 256)) = some r := h
  clear h
  obtain rfl := Option.some.inj H
  go_enter Tryd.func18, Tryd.ntmps18
  go_wp2
  go_ret
  exact ⟨by first | rfl | (simp; done) | (simp [*]; done), by repeat (first | exact Drawn0.refl _ | apply Drawn0.step)⟩

/-! ### chroma_Colour_Blue: function 19 -/
def chroma_Colour_Blue.f (a0 : Int) : Option (Int) := some ((Go.bits .and .i32 (wrap32 (a0 - 1)) 255) % 256)
set_option maxHeartbeats 8000000 in
set_option maxRecDepth 100000 in
theorem chroma_Colour_Blue.calls (a0 : Int) (r : Int) (w : World) (h : chroma_Colour_Blue.f a0 = some r) :
    Calls Tryd.prog 19 #[.int .i32 a0] w fun e w' => e = .returned (.int .u8 r) ∧ Drawn0 w w' := by
  have H : (some ((Go.bits .and .i32 (wrap32 (a0 - 1)) 255) % 256)) = some r := h
  clear h
  obtain rfl := Option.some.inj H
  go_enter Tryd.func19, Tryd.ntmps19
  go_wp2
  go_ret
  exact ⟨by first | rfl | (simp; done) | (simp [*]; done), by repeat (first | exact Drawn0.refl _ | apply Drawn0.step)⟩

/-! ### chroma_NewColour: function 29 -/
def chroma_NewColour.f (a0 : Int) (a1 : Int) (a2 : Int) : Option (Int) := some (wrap32 ((Go.bits .or .i32 (Go.bits .or .i32 (wrap32 ((wrap32 (a0)) * 65536)) (wrap32 ((wrap32 (a1)) * 256))) (wrap32 (a2))) + 1))
set_option maxHeartbeats 8000000 in
set_option maxRecDepth 100000 in
theorem chroma_NewColour.calls (a0 : Int) (a1 : Int) (a2 : Int) (r : Int) (w : World) (h : chroma_NewColour.f a0 a1 a2 = some r) :
    Calls Tryd.prog 29 #[.int .u8 a0, .int .u8 a1, .int .u8 a2] w fun e w' => e = .returned (.int .i32 r) ∧ Drawn0 w w' := by
  have H : (some (wrap32 ((Go.bits .or .i32 (Go.bits .or .i32 (wrap32 ((wrap32 (a0)) * 65536)) (wrap32 ((wrap32 (a1)) * 256))) (wrap32 (a2))) + 1))) = some r := h
  clear h
  obtain rfl := Option.some.inj H
  go_enter Tryd.func29, Tryd.ntmps29
  go_wp2
  go_ret
  exact ⟨by first | rfl | (simp; done) | (simp [*]; done), by repeat (first | exact Drawn0.refl _ | apply Drawn0.step)⟩

end Go.Proofs.YtfpmnkmclbembaaDoor.M
