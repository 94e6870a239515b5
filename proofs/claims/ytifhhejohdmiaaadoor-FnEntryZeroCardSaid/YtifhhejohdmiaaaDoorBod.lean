/- Colour.BrightenOrDarken at any colour: what the call computes. -/
import Derived.Test.YtifhhejohdmiaaaDoorFlt
import Derived.Test.YtifhhejohdmiaaaDoorTurn
set_option linter.unusedVariables false
set_option linter.unusedSimpArgs false
set_option exponentiation.threshold 3000
namespace Go.Proofs.YtifhhejohdmiaaaDoorFlt
open Go.RowKit Go.Proofs.YtifhhejohdmiaaaDoorW.PrintWords Go.Proofs.YtifhhejohdmiaaaDoorIeee Go.Proofs.YtifhhejohdmiaaaDoor
theorem run_neg (b : Nat) : ∀ w, (Op.unary .neg (.float .f64 b)).run Tryd.prog w = .ok (.float .f64 (b ^^^ 2 ^ 63)) w := fun w => rfl
theorem fdiv {x y r : Nat} (h : Ieee.double.div x y = some r) : ∀ w, (binOp .quo 163 (.float .f64 x) (.float .f64 y)).run Tryd.prog w = .ok (.float .f64 r) w := fun w => run_float_arith w .quo _ .f64 x y r h
set_option maxHeartbeats 4000000 in
theorem brightness (c : Int) (p1 p2 p3 : Nat) (hc : Parts c p1 p2 p3) (h1 : p1 ≤ 255) (h2 : p2 ≤ 255) (h3 : p3 ≤ 255) (w : World) :
    Calls Tryd.prog 101 #[.int .i32 c] w fun e w' => e = .returned (.float .f64 (Br (p1 + p2 + p3))) ∧ Below w.heap.size w w' := by
  have c1 : floatOfInt .f64 (p1 : Int) = fl p1 := fl_int _ h1
  have c2 : floatOfInt .f64 (p2 : Int) = fl p2 := fl_int _ h2
  have c3 : floatOfInt .f64 (p3 : Int) = fl p3 := fl_int _ h3
  have k1 := Aside0.mk hc.r
  have k2 := Aside0.mk hc.g
  have k3 := Aside0.mk hc.b
  have e1 := fadd (add_fl (a := p1) (b := p2) (by omega))
  have e2 := fadd (add_fl (a := p1 + p2) (b := p3) (by omega))
  obtain ⟨q, o, d1, d2, d3⟩ := br (p1 + p2 + p3) (by omega)
  have e3 := fdiv d1
  have e4 := fdiv d2
  clear d1 d2 d3 h1 h2 h3
  go_enter Tryd.func101, Tryd.ntmps101
  go_wp2_with (first | (go_at_call 109; refine (k1.out _).mono ?_; rintro e w' ⟨rfl, ⟨nd, rfl⟩⟩) | (go_at_call 110; refine (k2.out _).mono ?_; rintro e w' ⟨rfl, ⟨nd, rfl⟩⟩) | (go_at_call 111; refine (k3.out _).mono ?_; rintro e w' ⟨rfl, ⟨nd, rfl⟩⟩))
  go_ret
  exact ⟨rfl, by repeat (first | exact Below.refl _ _ | apply pw_below_drewN)⟩
/-- The three parts of any colour. -/
def cp1 (c : Int) : Nat := ((Go.bits .and .i32 ((wrap32 (c - 1)) / 65536) 255) % 256).toNat
def cp2 (c : Int) : Nat := ((Go.bits .and .i32 ((wrap32 (c - 1)) / 256) 255) % 256).toNat
def cp3 (c : Int) : Nat := ((Go.bits .and .i32 (wrap32 (c - 1)) 255) % 256).toNat
theorem cp1_le (c : Int) : cp1 c ≤ 255 := by unfold cp1; omega
theorem cp2_le (c : Int) : cp2 c ≤ 255 := by unfold cp2; omega
theorem cp3_le (c : Int) : cp3 c ≤ 255 := by unfold cp3; omega
theorem parts_any (c : Int) : Parts c (cp1 c) (cp2 c) (cp3 c) := by
  refine ⟨fun w => A.chroma_Colour_Red.calls _ _ w ?_, fun w => A.chroma_Colour_Green.calls _ _ w ?_, fun w => A.chroma_Colour_Blue.calls _ _ w ?_⟩
  · unfold A.chroma_Colour_Red.f cp1
    rw [Int.toNat_of_nonneg (Int.emod_nonneg _ (by decide))]
  · unfold A.chroma_Colour_Green.f cp2
    rw [Int.toNat_of_nonneg (Int.emod_nonneg _ (by decide))]
  · unfold A.chroma_Colour_Blue.f cp3
    rw [Int.toNat_of_nonneg (Int.emod_nonneg _ (by decide))]
def lit (f p : Nat) : Nat := ((lightV p f).getD 0).toNat
theorem lit_ok {f : Nat} (hf : Go.Proofs.YtifhhejohdmiaaaDoorIeee.Good f) {p : Nat} (hp : p ≤ 255) : lightV p f = some (lit f p : Int) ∧ lit f p ≤ 255 := by
  obtain ⟨q, h1, h2, _⟩ := light_ok hf hp
  unfold lit
  rw [h1]
  exact ⟨rfl, h2⟩
def litC (f : Nat) (c : Int) : Int := nc (lit f (cp1 c)) (lit f (cp2 c)) (lit f (cp3 c))
theorem brighten_any (f : Nat) (hf : Go.Proofs.YtifhhejohdmiaaaDoorIeee.Good f) (c : Int) (w : World) : Calls Tryd.prog 102 #[.int .i32 c, .float .f64 f] w fun e w' => e = .returned (.int .i32 (litC f c)) ∧ Below w.heap.size w w' := by
  have h1 := lit_ok hf (cp1_le c)
  have h2 := lit_ok hf (cp2_le c)
  have h3 := lit_ok hf (cp3_le c)
  exact brighten f c _ _ _ _ _ _ (parts_any c) ⟨h1.1, h2.1, h3.1, cp1_le c, cp2_le c, cp3_le c, h1.2, h2.2, h3.2⟩ w
def isDark (c : Int) : Bool := FloatKind.f64.format.order (Br (cp1 c + cp2 c + cp3 c)) 4602678819172646912 == some Ordering.lt
/-- What BrightenOrDarken makes of a colour. -/
def bod (f : Nat) (c : Int) : Int := if isDark c = true then litC f c else litC (f ^^^ 2 ^ 63) c
set_option maxHeartbeats 4000000 in
theorem bod_c (f : Nat) (hf : Go.Proofs.YtifhhejohdmiaaaDoorIeee.Good f) (hf2 : f < 2 ^ 64) (c : Int) (w : World) : Calls Tryd.prog 94 #[.int .i32 c, .float .f64 f] w fun e w' => e = .returned (.int .i32 (bod f c)) ∧ Below w.heap.size w w' := by
  have k := Aside0.mk (brightness c _ _ _ (parts_any c) (cp1_le c) (cp2_le c) (cp3_le c))
  have k1 := Aside0.mk (brighten_any f hf c)
  have k2 := Aside0.mk (brighten_any (f ^^^ 2 ^ 63) (good_neg hf2 hf) c)
  have hng := run_neg f
  have hb : bod f c = if isDark c = true then litC f c else litC (f ^^^ 2 ^ 63) c := rfl
  have hd : (FloatKind.f64.format.order (Br (cp1 c + cp2 c + cp3 c)) 4602678819172646912 == some Ordering.lt) = isDark c := rfl
  have hb' := Aside0.mk hb
  generalize Br (cp1 c + cp2 c + cp3 c) = B at *
  generalize f ^^^ 2 ^ 63 = nf at *
  clear hb hf hf2
  cases hdk : isDark c
  · rw [hdk] at hd
    have hdk' := Aside0.mk hdk
    clear hdk
    go_enter Tryd.func94, Tryd.ntmps94
    go_wp2_with (first | (go_at_call 101; refine (k.out _).mono ?_; rintro e w1 ⟨rfl, hB1⟩) | (go_at_call 102; refine (k2.out _).mono ?_; rintro e w2 ⟨rfl, hB2⟩))
    go_ret
    exact ⟨by rw [hb'.out, hdk'.out]; rfl, hB1.trans (hB2.mono hB1.size)⟩
  · rw [hdk] at hd
    have hdk' := Aside0.mk hdk
    clear hdk
    go_enter Tryd.func94, Tryd.ntmps94
    go_wp2_with (first | (go_at_call 101; refine (k.out _).mono ?_; rintro e w1 ⟨rfl, hB1⟩) | (go_at_call 102; refine (k1.out _).mono ?_; rintro e w2 ⟨rfl, hB2⟩))
    go_ret
    exact ⟨by rw [hb'.out, hdk'.out]; rfl, hB1.trans (hB2.mono hB1.size)⟩
theorem good_half : Go.Proofs.YtifhhejohdmiaaaDoorIeee.Good 4602678819172646912 := good_of (by decide +kernel) (by decide +kernel)
theorem good_tenth : Go.Proofs.YtifhhejohdmiaaaDoorIeee.Good 4591870180066957722 := good_of (by decide +kernel) (by decide +kernel)
end Go.Proofs.YtifhhejohdmiaaaDoorFlt
