/- Colours and floats: Brighten, BrightenOrDarken, Brightness (merged). -/
import Derived.Test.YtjemdgmihbmgeaaGreatDoorIeeeA
import Derived.Test.YtjemdgmihbmgeaaGreatDoorAx1
import Derived.Test.YtjemdgmihbmgeaaGreatDoorColMath
import Derived.Laws.Externs
import Derived.Laws.FloatArith
set_option linter.unusedVariables false
set_option linter.unusedSimpArgs false
namespace Go.Proofs.YtjemdgmihbmgeaaGreatDoorFlt
open Go.RowKit Go.Proofs.YtjemdgmihbmgeaaGreatDoorW.PrintWords Go.Proofs.YtjemdgmihbmgeaaGreatDoorIeee Go.Proofs.YtjemdgmihbmgeaaGreatDoor

theorem fadd {x y r : Nat} (h : Ieee.double.add x y = some r) : ∀ w, (binOp .add 153 (.float .f64 x) (.float .f64 y)).run Tryz.prog w = .ok (.float .f64 r) w := fun w => run_float_arith w .add _ .f64 x y r h
theorem fsub {x y r : Nat} (h : Ieee.double.sub x y = some r) : ∀ w, (binOp .sub 153 (.float .f64 x) (.float .f64 y)).run Tryz.prog w = .ok (.float .f64 r) w := fun w => run_float_arith w .sub _ .f64 x y r h
theorem fmul {x y r : Nat} (h : Ieee.double.mul x y = some r) : ∀ w, (binOp .mul 153 (.float .f64 x) (.float .f64 y)).run Tryz.prog w = .ok (.float .f64 r) w := fun w => run_float_arith w .mul _ .f64 x y r h
theorem fcv {z : Nat} {q : Int} (h : floatToIntVal .f64 z .u8 = some q) : ∀ w, (convert 153 5 (.float .f64 z)).run Tryz.prog w = .ok (.int .u8 q) w := fun w => run_convert_float_int w _ _ .f64 .u8 z q (by rw [Tryz.underlying153]; rfl) Tryz.underlying5 h
/-- The steps of a part. -/
theorem stepsN {p f q : Nat} (h0 : neg0 f = true) (h : lightV p f = some (q : Int)) : ∃ g z, Ieee.double.add f 4607182418800017408 = some g ∧ Ieee.double.mul (fl p) g = some z ∧ floatToIntVal .f64 z .u8 = some (q : Int) := by
  unfold lightV at h
  rw [if_pos h0] at h
  obtain ⟨g, hg, h⟩ := Option.bind_eq_some_iff.1 h
  obtain ⟨z, hz, h⟩ := Option.bind_eq_some_iff.1 h
  exact ⟨g, z, hg, hz, h⟩
theorem stepsP {p f q : Nat} (h0 : neg0 f = false) (h : lightV p f = some (q : Int)) : ∃ u v z, Ieee.double.sub 4643176031446892544 (fl p) = some u ∧ Ieee.double.mul u f = some v ∧ Ieee.double.add v (fl p) = some z ∧ floatToIntVal .f64 z .u8 = some (q : Int) := by
  unfold lightV at h
  rw [if_neg (by rw [h0]; decide)] at h
  obtain ⟨u, hu, h⟩ := Option.bind_eq_some_iff.1 h
  obtain ⟨v, hv, h⟩ := Option.bind_eq_some_iff.1 h
  obtain ⟨z, hz, h⟩ := Option.bind_eq_some_iff.1 h
  exact ⟨u, v, z, hu, hv, hz, h⟩
/-- What becomes of three parts. -/
structure Lit3 (f : Nat) (p1 p2 p3 : Nat) (q1 q2 q3 : Nat) : Prop where
  r : lightV p1 f = some (q1 : Int)
  g : lightV p2 f = some (q2 : Int)
  b : lightV p3 f = some (q3 : Int)
  p1 : p1 ≤ 255
  p2 : p2 ≤ 255
  p3 : p3 ≤ 255
  q1 : q1 ≤ 255
  q2 : q2 ≤ 255
  q3 : q3 ≤ 255
/-- The colour c has these parts. -/
structure Parts (c : Int) (p1 p2 p3 : Nat) : Prop where
  r : ∀ w, Calls Tryz.prog 110 #[.int .i32 c] w fun e w' => e = .returned (.int .u8 (p1 : Int)) ∧ Drawn0 w w'
  g : ∀ w, Calls Tryz.prog 111 #[.int .i32 c] w fun e w' => e = .returned (.int .u8 (p2 : Int)) ∧ Drawn0 w w'
  b : ∀ w, Calls Tryz.prog 112 #[.int .i32 c] w fun e w' => e = .returned (.int .u8 (p3 : Int)) ∧ Drawn0 w w'
theorem red_f (n : Nat) (hn : n < 16777216) (w : World) : Calls Tryz.prog 110 #[.int .i32 ((n : Int) + 1)] w fun e w' => e = .returned (.int .u8 ((n / 65536 : Nat) : Int)) ∧ Drawn0 w w' := by
  refine A.chroma_Colour_Red.calls _ _ w ?_
  unfold A.chroma_Colour_Red.f
  have h1 := Go.Proofs.YtjemdgmihbmgeaaGreatDoorFmt.redOf (n + 1) (by omega) (by omega)
  rw [show (((n + 1 : Nat) : Int)) = (n : Int) + 1 by omega] at h1
  rw [h1, Nat.add_sub_cancel, Nat.mod_eq_of_lt (show n / 65536 < 256 by omega)]
theorem green_f (n : Nat) (hn : n < 16777216) (w : World) : Calls Tryz.prog 111 #[.int .i32 ((n : Int) + 1)] w fun e w' => e = .returned (.int .u8 ((n / 256 % 256 : Nat) : Int)) ∧ Drawn0 w w' := by
  refine A.chroma_Colour_Green.calls _ _ w ?_
  unfold A.chroma_Colour_Green.f
  have h1 := Go.Proofs.YtjemdgmihbmgeaaGreatDoorFmt.greenOf (n + 1) (by omega) (by omega)
  rw [show (((n + 1 : Nat) : Int)) = (n : Int) + 1 by omega] at h1
  rw [h1, Nat.add_sub_cancel]
theorem blue_f (n : Nat) (hn : n < 16777216) (w : World) : Calls Tryz.prog 112 #[.int .i32 ((n : Int) + 1)] w fun e w' => e = .returned (.int .u8 ((n % 256 : Nat) : Int)) ∧ Drawn0 w w' := by
  refine A.chroma_Colour_Blue.calls _ _ w ?_
  unfold A.chroma_Colour_Blue.f
  have h1 := Go.Proofs.YtjemdgmihbmgeaaGreatDoorFmt.blueOf (n + 1) (by omega) (by omega)
  rw [show (((n + 1 : Nat) : Int)) = (n : Int) + 1 by omega] at h1
  rw [h1, Nat.add_sub_cancel]
theorem parts_of (n : Nat) (hn : n < 16777216) : Parts ((n : Int) + 1) (n / 65536) (n / 256 % 256) (n % 256) := ⟨red_f n hn, green_f n hn, blue_f n hn⟩
def nc (r g b : Nat) : Int := ((r * 65536 + g * 256 + b + 1 : Nat) : Int)
theorem new_f (r g b : Nat) (hr : r ≤ 255) (hg : g ≤ 255) (hb : b ≤ 255) (w : World) : Calls Tryz.prog 141 #[.int .u8 r, .int .u8 g, .int .u8 b] w fun e w' => e = .returned (.int .i32 (nc r g b)) ∧ Drawn0 w w' := by
  refine A.chroma_NewColour.calls _ _ _ _ w ?_
  unfold A.chroma_NewColour.f
  rw [Go.Proofs.YtjemdgmihbmgeaaGreatDoorFmt.newCol r g b (by omega) (by omega) (by omega)]
  rfl
set_option maxHeartbeats 4000000 in
theorem brighten (f : Nat) (c : Int) (p1 p2 p3 q1 q2 q3 : Nat) (hc : Parts c p1 p2 p3) (h : Lit3 f p1 p2 p3 q1 q2 q3) (w : World) :
    Calls Tryz.prog 131 #[.int .i32 c, .float .f64 f] w fun e w' => e = .returned (.int .i32 (nc q1 q2 q3)) ∧ Below w.heap.size w w' := by
  have c1 : floatOfInt .f64 (p1 : Int) = fl p1 := fl_int _ h.p1
  have c2 : floatOfInt .f64 (p2 : Int) = fl p2 := fl_int _ h.p2
  have c3 : floatOfInt .f64 (p3 : Int) = fl p3 := fl_int _ h.p3
  have k1 := Aside0.mk hc.r
  have k2 := Aside0.mk hc.g
  have k3 := Aside0.mk hc.b
  have k4 := Aside0.mk (new_f q1 q2 q3 h.q1 h.q2 h.q3)
  cases h0 : neg0 f
  · obtain ⟨u1, v1, z1, a1, a2, a3, a4⟩ := stepsP h0 h.r
    obtain ⟨u2, v2, z2, b1, b2, b3, b4⟩ := stepsP h0 h.g
    obtain ⟨u3, v3, z3, d1, d2, d3, d4⟩ := stepsP h0 h.b
    have hlt : (FloatKind.f64.format.order f 0 == some Ordering.lt) = false := h0
    have e1 := fsub a1
    have e2 := fmul a2
    have e3 := fadd a3
    have e4 := fcv a4
    have e5 := fsub b1
    have e6 := fmul b2
    have e7 := fadd b3
    have e8 := fcv b4
    have e9 := fsub d1
    have e10 := fmul d2
    have e11 := fadd d3
    have e12 := fcv d4
    clear a1 a2 a3 a4 b1 b2 b3 b4 d1 d2 d3 d4 h
    go_enter Tryz.func131, Tryz.ntmps131
    go_wp2_with (first | (go_at_call 110; refine (k1.out _).mono ?_; rintro e w' ⟨rfl, ⟨nd, rfl⟩⟩) | (go_at_call 111; refine (k2.out _).mono ?_; rintro e w' ⟨rfl, ⟨nd, rfl⟩⟩) | (go_at_call 112; refine (k3.out _).mono ?_; rintro e w' ⟨rfl, ⟨nd, rfl⟩⟩) | (go_at_call 141; refine (k4.out _).mono ?_; rintro e w' ⟨rfl, ⟨nd, rfl⟩⟩))
    go_ret
    exact ⟨rfl, by repeat (first | exact Below.refl _ _ | apply pw_below_drewN)⟩
  · obtain ⟨g1, z1, a1, a2, a3⟩ := stepsN h0 h.r
    obtain ⟨g2, z2, b1, b2, b3⟩ := stepsN h0 h.g
    obtain ⟨g3, z3, d1, d2, d3⟩ := stepsN h0 h.b
    obtain rfl : g1 = g2 := Option.some.inj (a1.symm.trans b1)
    obtain rfl : g1 = g3 := Option.some.inj (a1.symm.trans d1)
    have hlt : (FloatKind.f64.format.order f 0 == some Ordering.lt) = true := h0
    have e1 := fadd a1
    have e2 := fmul a2
    have e3 := fcv a3
    have e4 := fmul b2
    have e5 := fcv b3
    have e6 := fmul d2
    have e7 := fcv d3
    clear a1 a2 a3 b1 b2 b3 d1 d2 d3 h
    go_enter Tryz.func131, Tryz.ntmps131
    go_wp2_with (first | (go_at_call 110; refine (k1.out _).mono ?_; rintro e w' ⟨rfl, ⟨nd, rfl⟩⟩) | (go_at_call 111; refine (k2.out _).mono ?_; rintro e w' ⟨rfl, ⟨nd, rfl⟩⟩) | (go_at_call 112; refine (k3.out _).mono ?_; rintro e w' ⟨rfl, ⟨nd, rfl⟩⟩) | (go_at_call 141; refine (k4.out _).mono ?_; rintro e w' ⟨rfl, ⟨nd, rfl⟩⟩))
    go_ret
    exact ⟨rfl, by repeat (first | exact Below.refl _ _ | apply pw_below_drewN)⟩
end Go.Proofs.YtjemdgmihbmgeaaGreatDoorFlt
set_option linter.unusedVariables false
set_option linter.unusedSimpArgs false
set_option exponentiation.threshold 3000
namespace Go.Proofs.YtjemdgmihbmgeaaGreatDoorFlt
open Go.RowKit Go.Proofs.YtjemdgmihbmgeaaGreatDoorW.PrintWords Go.Proofs.YtjemdgmihbmgeaaGreatDoorIeee Go.Proofs.YtjemdgmihbmgeaaGreatDoor
theorem run_neg (b : Nat) : ∀ w, (Op.unary .neg (.float .f64 b)).run Tryz.prog w = .ok (.float .f64 (b ^^^ 2 ^ 63)) w := fun w => rfl
theorem fdiv {x y r : Nat} (h : Ieee.double.div x y = some r) : ∀ w, (binOp .quo 153 (.float .f64 x) (.float .f64 y)).run Tryz.prog w = .ok (.float .f64 r) w := fun w => run_float_arith w .quo _ .f64 x y r h
set_option maxHeartbeats 4000000 in
theorem brightness (c : Int) (p1 p2 p3 : Nat) (hc : Parts c p1 p2 p3) (h1 : p1 ≤ 255) (h2 : p2 ≤ 255) (h3 : p3 ≤ 255) (w : World) :
    Calls Tryz.prog 82 #[.int .i32 c] w fun e w' => e = .returned (.float .f64 (Br (p1 + p2 + p3))) ∧ Below w.heap.size w w' := by
  have c1 : floatOfInt .f64 (p1 : Int) = fl p1 := fl_int _ h1
  have c2 : floatOfInt .f64 (p2 : Int) = fl p2 := fl_int _ h2
  have c3 : floatOfInt .f64 (p3 : Int) = fl p3 := fl_int _ h3
  have k1 := Aside0.mk hc.r
  have k2 := Aside0.mk hc.g
  have k3 := Aside0.mk hc.b
  have e1 := fadd (add_fl (a := p1) (b := p2) (by omega))
  have e2 := fadd (add_fl (a := p1 + p2) (b := p3) (by omega))
  obtain ⟨q, o, d1, d2, d3⟩ := br (p1 + p2 + p3) (by omega)
  have e3 := fdiv d1
  have e4 := fdiv d2
  clear d1 d2 d3 h1 h2 h3
  go_enter Tryz.func82, Tryz.ntmps82
  go_wp2_with (first | (go_at_call 110; refine (k1.out _).mono ?_; rintro e w' ⟨rfl, ⟨nd, rfl⟩⟩) | (go_at_call 111; refine (k2.out _).mono ?_; rintro e w' ⟨rfl, ⟨nd, rfl⟩⟩) | (go_at_call 112; refine (k3.out _).mono ?_; rintro e w' ⟨rfl, ⟨nd, rfl⟩⟩))
  go_ret
  exact ⟨rfl, by repeat (first | exact Below.refl _ _ | apply pw_below_drewN)⟩
/-- The three parts of any colour. -/
def cp1 (c : Int) : Nat := ((Go.bits .and .i32 ((wrap32 (c - 1)) / 65536) 255) % 256).toNat
def cp2 (c : Int) : Nat := ((Go.bits .and .i32 ((wrap32 (c - 1)) / 256) 255) % 256).toNat
def cp3 (c : Int) : Nat := ((Go.bits .and .i32 (wrap32 (c - 1)) 255) % 256).toNat
theorem cp1_le (c : Int) : cp1 c ≤ 255 := by unfold cp1; omega
theorem cp2_le (c : Int) : cp2 c ≤ 255 := by unfold cp2; omega
theorem cp3_le (c : Int) : cp3 c ≤ 255 := by unfold cp3; omega
theorem parts_any (c : Int) : Parts c (cp1 c) (cp2 c) (cp3 c) := by
  refine ⟨fun w => A.chroma_Colour_Red.calls _ _ w ?_, fun w => A.chroma_Colour_Green.calls _ _ w ?_, fun w => A.chroma_Colour_Blue.calls _ _ w ?_⟩
  · unfold A.chroma_Colour_Red.f cp1
    rw [Int.toNat_of_nonneg (Int.emod_nonneg _ (by decide))]
  · unfold A.chroma_Colour_Green.f cp2
    rw [Int.toNat_of_nonneg (Int.emod_nonneg _ (by decide))]
  · unfold A.chroma_Colour_Blue.f cp3
    rw [Int.toNat_of_nonneg (Int.emod_nonneg _ (by decide))]
def lit (f p : Nat) : Nat := ((lightV p f).getD 0).toNat
theorem lit_ok {f : Nat} (hf : Go.Proofs.YtjemdgmihbmgeaaGreatDoorIeee.Good f) {p : Nat} (hp : p ≤ 255) : lightV p f = some (lit f p : Int) ∧ lit f p ≤ 255 := by
  obtain ⟨q, h1, h2, _⟩ := light_ok hf hp
  unfold lit
  rw [h1]
  exact ⟨rfl, h2⟩
def litC (f : Nat) (c : Int) : Int := nc (lit f (cp1 c)) (lit f (cp2 c)) (lit f (cp3 c))
theorem brighten_any (f : Nat) (hf : Go.Proofs.YtjemdgmihbmgeaaGreatDoorIeee.Good f) (c : Int) (w : World) : Calls Tryz.prog 131 #[.int .i32 c, .float .f64 f] w fun e w' => e = .returned (.int .i32 (litC f c)) ∧ Below w.heap.size w w' := by
  have h1 := lit_ok hf (cp1_le c)
  have h2 := lit_ok hf (cp2_le c)
  have h3 := lit_ok hf (cp3_le c)
  exact brighten f c _ _ _ _ _ _ (parts_any c) ⟨h1.1, h2.1, h3.1, cp1_le c, cp2_le c, cp3_le c, h1.2, h2.2, h3.2⟩ w
def isDark (c : Int) : Bool := FloatKind.f64.format.order (Br (cp1 c + cp2 c + cp3 c)) 4602678819172646912 == some Ordering.lt
/-- What BrightenOrDarken makes of a colour. -/
def bod (f : Nat) (c : Int) : Int := if isDark c = true then litC f c else litC (f ^^^ 2 ^ 63) c
set_option maxHeartbeats 4000000 in
theorem bod_c (f : Nat) (hf : Go.Proofs.YtjemdgmihbmgeaaGreatDoorIeee.Good f) (hf2 : f < 2 ^ 64) (c : Int) (w : World) : Calls Tryz.prog 114 #[.int .i32 c, .float .f64 f] w fun e w' => e = .returned (.int .i32 (bod f c)) ∧ Below w.heap.size w w' := by
  have k := Aside0.mk (brightness c _ _ _ (parts_any c) (cp1_le c) (cp2_le c) (cp3_le c))
  have k1 := Aside0.mk (brighten_any f hf c)
  have k2 := Aside0.mk (brighten_any (f ^^^ 2 ^ 63) (good_neg hf2 hf) c)
  have hng := run_neg f
  have hb : bod f c = if isDark c = true then litC f c else litC (f ^^^ 2 ^ 63) c := rfl
  have hd : (FloatKind.f64.format.order (Br (cp1 c + cp2 c + cp3 c)) 4602678819172646912 == some Ordering.lt) = isDark c := rfl
  have hb' := Aside0.mk hb
  generalize Br (cp1 c + cp2 c + cp3 c) = B at *
  generalize f ^^^ 2 ^ 63 = nf at *
  clear hb hf hf2
  cases hdk : isDark c
  · rw [hdk] at hd
    have hdk' := Aside0.mk hdk
    clear hdk
    go_enter Tryz.func114, Tryz.ntmps114
    go_wp2_with (first | (go_at_call 82; refine (k.out _).mono ?_; rintro e w1 ⟨rfl, hB1⟩) | (go_at_call 131; refine (k2.out _).mono ?_; rintro e w2 ⟨rfl, hB2⟩))
    go_ret
    exact ⟨by rw [hb'.out, hdk'.out]; rfl, hB1.trans (hB2.mono hB1.size)⟩
  · rw [hdk] at hd
    have hdk' := Aside0.mk hdk
    clear hdk
    go_enter Tryz.func114, Tryz.ntmps114
    go_wp2_with (first | (go_at_call 82; refine (k.out _).mono ?_; rintro e w1 ⟨rfl, hB1⟩) | (go_at_call 131; refine (k1.out _).mono ?_; rintro e w2 ⟨rfl, hB2⟩))
    go_ret
    exact ⟨by rw [hb'.out, hdk'.out]; rfl, hB1.trans (hB2.mono hB1.size)⟩
theorem good_half : Go.Proofs.YtjemdgmihbmgeaaGreatDoorIeee.Good 4602678819172646912 := good_of (by decide +kernel) (by decide +kernel)
theorem good_tenth : Go.Proofs.YtjemdgmihbmgeaaGreatDoorIeee.Good 4591870180066957722 := good_of (by decide +kernel) (by decide +kernel)
end Go.Proofs.YtjemdgmihbmgeaaGreatDoorFlt
