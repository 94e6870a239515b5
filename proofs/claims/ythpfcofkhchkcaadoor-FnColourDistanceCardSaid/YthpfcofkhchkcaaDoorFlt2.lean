/- Colours and floats: Brighten as the thin package and the reference have it; the law FnColourBrighten. By walks. -/
import Derived.Test.YthpfcofkhchkcaaDoorFlt
import Derived.Test.YthpfcofkhchkcaaDoorZx1
import Derived.Test.YthpfcofkhchkcaaDoorColPure
set_option linter.unusedVariables false
set_option linter.unusedSimpArgs false
namespace Go.Proofs.YthpfcofkhchkcaaDoorFlt
open Go.RowKit Go.Proofs.YthpfcofkhchkcaaDoorW.PrintWords Go.Proofs.YthpfcofkhchkcaaDoorIeee Go.Proofs.YthpfcofkhchkcaaDoor

def unitB (f lo hi : Nat) : Bool := (Ieee.double.order f lo == some Ordering.gt || Ieee.double.order f lo == some Ordering.eq) && (Ieee.double.order f hi == some Ordering.lt || Ieee.double.order f hi == some Ordering.eq)
open Ieee in
theorem unit_good {f : Nat} (h : unitB f mone one = true) : Go.Proofs.YthpfcofkhchkcaaDoorIeee.Good f := by
  unfold unitB at h
  rw [Bool.and_eq_true] at h
  exact good_of h.1 h.2
set_option maxHeartbeats 4000000 in
theorem unit_c (fb : Int) (lo hi : Nat) (w : World) : Calls Tryd.prog 25 #[.int .u64 fb, .float .f64 lo, .float .f64 hi] w fun e w' => e = .returned (.bool (unitB fb.toNat lo hi)) ∧ w' = w := by
  have hb := run_frombits fb
  have hu : unitB fb.toNat lo hi = ((FloatKind.f64.format.order fb.toNat lo == some Ordering.gt || FloatKind.f64.format.order fb.toNat lo == some Ordering.eq) && (FloatKind.f64.format.order fb.toNat hi == some Ordering.lt || FloatKind.f64.format.order fb.toNat hi == some Ordering.eq)) := rfl
  have hu' := Aside0.mk hu
  clear hu
  go_enter Tryd.func25, Tryd.ntmps25
  go_wp2_with fail
  all_goals go_ret
  all_goals exact ⟨by rw [hu'.out]; simp_all, rfl⟩
theorem plain_c (c : Int) (w : World) : Calls Tryd.prog 26 #[.int .i32 c] w fun e w' => e = .returned (.bool (decide (1 ≤ c) && decide (c ≤ 16777216))) ∧ Drawn0 w w' := by
  refine Z.laws_plain.calls c _ w ?_
  unfold Z.laws_plain.f
  by_cases h : c ≥ 1
  · rw [if_pos h, decide_eq_true (show 1 ≤ c from h), Bool.true_and]
  · rw [if_neg h, decide_eq_false (show ¬ 1 ≤ c from h), Bool.false_and]
theorem specRGB (n : Nat) (hn : n < 16777216) (w : World) : Calls Tryd.prog 49 #[.int .i32 ((n : Int) + 1)] w fun e w' => e = .returned (.tuple #[.int .u8 ((n / 65536 : Nat) : Int), .int .u8 ((n / 256 % 256 : Nat) : Int), .int .u8 ((n % 256 : Nat) : Int)]) ∧ Drawn0 w w' := by
  refine Z.spec_ColourRGB.calls _ _ _ _ w ?_
  unfold Z.spec_ColourRGB.f
  have e : wrap64 (wrap64 ((n : Int) + 1) - 1) = (n : Int) := by unfold wrap64; omega
  have e1 : (n : Int) / 65536 % 256 = ((n / 65536 : Nat) : Int) := by omega
  have e2 : (n : Int) / 256 % 256 = ((n / 256 % 256 : Nat) : Int) := by omega
  have e3 : (n : Int) % 256 = ((n % 256 : Nat) : Int) := by omega
  rw [if_neg (by omega), e, e1, e2, e3]
theorem nc_wrap (m : Nat) (h : m < 2147483647) : wrap32 ((m : Int) + 1) = ((m + 1 : Nat) : Int) := by unfold wrap32; omega
theorem specNew (r g b : Nat) (hr : r ≤ 255) (hg : g ≤ 255) (hb : b ≤ 255) (w : World) : Calls Tryd.prog 55 #[.int .u8 r, .int .u8 g, .int .u8 b] w fun e w' => e = .returned (.int .i32 (nc r g b)) ∧ Drawn0 w w' := by
  refine Z.spec_ColourNew.calls _ _ _ _ w ?_
  unfold Z.spec_ColourNew.f
  have e : wrap32 (wrap32 (wrap64 (wrap64 (wrap64 (wrap64 (r : Int) * 65536) + wrap64 (wrap64 (g : Int) * 256)) + wrap64 (b : Int))) + 1) = nc r g b := by
    have w1 : wrap64 (r : Int) = r := by unfold wrap64; omega
    have w2 : wrap64 (g : Int) = g := by unfold wrap64; omega
    have w3 : wrap64 (b : Int) = b := by unfold wrap64; omega
    rw [w1, w2, w3]
    have w4 : wrap64 ((r : Int) * 65536) = r * 65536 := by unfold wrap64; omega
    have w5 : wrap64 ((g : Int) * 256) = g * 256 := by unfold wrap64; omega
    rw [w4, w5]
    have w6 : wrap64 ((r : Int) * 65536 + g * 256) = r * 65536 + g * 256 := by unfold wrap64; omega
    rw [w6]
    have w7 : wrap64 ((r : Int) * 65536 + g * 256 + b) = r * 65536 + g * 256 + b := by unfold wrap64; omega
    rw [w7]
    have w8 : wrap32 ((r : Int) * 65536 + g * 256 + b) = r * 65536 + g * 256 + b := by unfold wrap32; omega
    rw [w8]
    have w9 : (r : Int) * 65536 + g * 256 + b = ((r * 65536 + g * 256 + b : Nat) : Int) := by clear w1 w2 w3 w4 w5 w6 w7 w8; omega
    rw [w9]
    exact nc_wrap _ (by clear w1 w2 w3 w4 w5 w6 w7 w8 w9; omega)
  exact congrArg some e
structure SParts (c : Int) (p1 p2 p3 : Nat) : Prop where
  a : ∀ w, Calls Tryd.prog 49 #[.int .i32 c] w fun e w' => e = .returned (.tuple #[.int .u8 (p1 : Int), .int .u8 (p2 : Int), .int .u8 (p3 : Int)]) ∧ Drawn0 w w'
set_option maxHeartbeats 4000000 in
theorem specBrighten (f : Nat) (c : Int) (p1 p2 p3 q1 q2 q3 : Nat) (hu : unitB f 13830554455654793216 4607182418800017408 = true) (hc : SParts c p1 p2 p3) (h : Lit3 f p1 p2 p3 q1 q2 q3) (w : World) :
    Calls Tryd.prog 45 #[.int .i32 c, .float .f64 f] w fun e w' => e = .returned (.tuple #[.int .i32 (nc q1 q2 q3), .int .i64 1]) ∧ Below w.heap.size w w' := by
  have hu1 := hu
  unfold unitB at hu1
  rw [Bool.and_eq_true] at hu1
  obtain ⟨g1', g2'⟩ := hu1
  have g1 : (FloatKind.f64.format.order f 13830554455654793216 == some Ordering.gt || FloatKind.f64.format.order f 13830554455654793216 == some Ordering.eq) = true := g1'
  have g2 : (FloatKind.f64.format.order f 4607182418800017408 == some Ordering.lt || FloatKind.f64.format.order f 4607182418800017408 == some Ordering.eq) = true := g2'
  clear g1' g2'
  have k := Aside0.mk hc.a
  have k1 := Aside0.mk (lighter p1 f q1 h.p1 h.r)
  have k2 := Aside0.mk (lighter p2 f q2 h.p2 h.g)
  have k3 := Aside0.mk (lighter p3 f q3 h.p3 h.b)
  have k4 := Aside0.mk (specNew q1 q2 q3 h.q1 h.q2 h.q3)
  clear hc h hu
  go_enter Tryd.func45, Tryd.ntmps45
  go_wp2_with (first | (go_at_call 49; refine (k.out _).mono ?_; rintro e w' ⟨rfl, ⟨nd, rfl⟩⟩) | (go_at_call 56; (with_reducible first | refine (k1.out _).mono ?_ | refine (k2.out _).mono ?_ | refine (k3.out _).mono ?_); rintro e w' ⟨rfl, rfl⟩) | (go_at_call 55; refine (k4.out _).mono ?_; rintro e w' ⟨rfl, ⟨nd, rfl⟩⟩))
  go_ret2
  exact ⟨rfl, by repeat (first | exact Below.refl _ _ | apply pw_below_drewN)⟩
set_option maxHeartbeats 4000000 in
theorem implCB (fb : Int) (c : Int) (p1 p2 p3 q1 q2 q3 : Nat) (hc : Parts c p1 p2 p3) (h : Lit3 fb.toNat p1 p2 p3 q1 q2 q3) (w : World) :
    Calls Tryd.prog 28 #[.int .i32 c, .int .u64 fb] w fun e w' => e = .returned (.int .i32 (nc q1 q2 q3)) ∧ Below w.heap.size w w' := by
  have hb := run_frombits fb
  have k := Aside0.mk (brighten fb.toNat c p1 p2 p3 q1 q2 q3 hc h)
  clear hc h
  go_enter Tryd.func28, Tryd.ntmps28
  go_wp2_with (go_at_call 46; refine (k.out _).mono ?_; rintro e w' ⟨rfl, hB⟩)
  go_ret
  exact ⟨rfl, hB⟩
set_option maxHeartbeats 4000000 in
theorem specCB (fb : Int) (c : Int) (p1 p2 p3 q1 q2 q3 : Nat) (hu : unitB fb.toNat 13830554455654793216 4607182418800017408 = true) (hc : SParts c p1 p2 p3) (h : Lit3 fb.toNat p1 p2 p3 q1 q2 q3) (w : World) :
    Calls Tryd.prog 27 #[.int .i32 c, .int .u64 fb] w fun e w' => e = .returned (.tuple #[.int .i32 (nc q1 q2 q3), .int .i64 1]) ∧ Below w.heap.size w w' := by
  have hb := run_frombits fb
  have k := Aside0.mk (specBrighten fb.toNat c p1 p2 p3 q1 q2 q3 hu hc h)
  clear hc h hu
  go_enter Tryd.func27, Tryd.ntmps27
  go_wp2_with (go_at_call 45; refine (k.out _).mono ?_; rintro e w' ⟨rfl, hB⟩)
  go_ret2
  exact ⟨rfl, hB⟩
theorem coloured_c (w : World) (hV : Go.Proofs.YthpfcofkhchkcaaDoorFmt.VarsOK w) : Calls Tryd.prog 16 #[] w fun e w' => e = .returned (.bool true) ∧ Below w.heap.size w w' := M.laws_coloured.calls true w hV ColPure.coloured_f
theorem lit3 (f : Nat) (hf : Go.Proofs.YthpfcofkhchkcaaDoorIeee.Good f) (n : Nat) (hn : n < 16777216) : ∃ q1 q2 q3, Lit3 f (n / 65536) (n / 256 % 256) (n % 256) q1 q2 q3 ∧ (neg0 f = true → q1 ≤ n / 65536 ∧ q2 ≤ n / 256 % 256 ∧ q3 ≤ n % 256) ∧ (neg0 f = false → n / 65536 ≤ q1 ∧ n / 256 % 256 ≤ q2 ∧ n % 256 ≤ q3) := by
  have b1 : n / 65536 ≤ 255 := by omega
  have b2 : n / 256 % 256 ≤ 255 := by omega
  have b3 : n % 256 ≤ 255 := by omega
  obtain ⟨q1, a1, a2, a3, a4⟩ := light_ok hf b1
  obtain ⟨q2, c1, c2, c3, c4⟩ := light_ok hf b2
  obtain ⟨q3, d1, d2, d3, d4⟩ := light_ok hf b3
  exact ⟨q1, q2, q3, ⟨a1, c1, d1, b1, b2, b3, a2, c2, d2⟩, fun h => ⟨a3 h, c3 h, d3 h⟩, fun h => ⟨a4 h, c4 h, d4 h⟩⟩
set_option maxHeartbeats 4000000 in
theorem lawBrighten (c fb : Int) (w : World) (hV : Go.Proofs.YthpfcofkhchkcaaDoorFmt.VarsOK w) :
    Calls Tryd.prog 9 #[.int .i32 c, .int .u64 fb] w fun e w' => e = .returned (.bool true) ∧ Below w.heap.size w w' := by
  have kp := Aside0.mk (plain_c c)
  have ku := Aside0.mk (unit_c fb 13830554455654793216 4607182418800017408)
  have hV' := Aside0.mk hV
  clear hV
  by_cases hp : (decide (1 ≤ c) && decide (c ≤ 16777216)) = true
  · by_cases hu : unitB fb.toNat 13830554455654793216 4607182418800017408 = true
    · obtain ⟨n, rfl⟩ : ∃ n : Nat, c = (n : Int) + 1 := by
        simp only [Bool.and_eq_true, decide_eq_true_eq] at hp
        exact ⟨(c - 1).toNat, by omega⟩
      have hn : n < 16777216 := by simp only [Bool.and_eq_true, decide_eq_true_eq] at hp; omega
      obtain ⟨q1, q2, q3, hL, _⟩ := lit3 fb.toNat (unit_good hu) n hn
      have ks := Aside0.mk (specCB fb _ _ _ _ q1 q2 q3 hu ⟨specRGB n hn⟩ hL)
      have ki := Aside0.mk (implCB fb _ _ _ _ q1 q2 q3 (parts_of n hn) hL)
      clear hL
      have hn' := Aside0.mk hn
      clear hn
      generalize ((n : Int) + 1) = c at *
      go_enter Tryd.func9, Tryd.ntmps9
      go_wp2_with (first | (go_at_call 26; refine (kp.out _).mono ?_; rintro e w1 ⟨rfl, ⟨nd, rfl⟩⟩) | (go_at_call 25; refine (ku.out _).mono ?_; rintro e w2 ⟨rfl, rfl⟩) | (go_at_call 27; refine (ks.out _).mono ?_; rintro e w3 ⟨rfl, hB1⟩) | (go_at_call 28; refine (ki.out _).mono ?_; rintro e w4 ⟨rfl, hB2⟩) | (go_at_call 16; have hB3 := (pw_below_drewN (Below.refl _ w) _ |>.trans (hB1.mono (by simp))).trans (hB2.mono hB1.size); refine (coloured_c _ (hV'.out.below hB3)).mono ?_; rintro e w5 ⟨rfl, hB4⟩))
      go_ret
      exact ⟨rfl, hB3.trans (hB4.mono hB3.size)⟩
    · have hu0 : unitB fb.toNat 13830554455654793216 4607182418800017408 = false := by simpa using hu
      clear hu
      generalize hpc : (decide (1 ≤ c) && decide (c ≤ 16777216)) = pc at *
      go_enter Tryd.func9, Tryd.ntmps9
      go_wp2_with (first | (go_at_call 26; refine (kp.out _).mono ?_; rintro e w1 ⟨rfl, ⟨nd, rfl⟩⟩) | (go_at_call 25; refine (ku.out _).mono ?_; rintro e w2 ⟨rfl, rfl⟩))
      go_ret
      exact ⟨rfl, by repeat (first | exact Below.refl _ _ | apply pw_below_drewN)⟩
  · have hp0 : (decide (1 ≤ c) && decide (c ≤ 16777216)) = false := by simpa using hp
    clear hp
    generalize hpc : (decide (1 ≤ c) && decide (c ≤ 16777216)) = pc at *
    go_enter Tryd.func9, Tryd.ntmps9
    go_wp2_with (first | (go_at_call 26; refine (kp.out _).mono ?_; rintro e w1 ⟨rfl, ⟨nd, rfl⟩⟩) | (go_at_call 25; refine (ku.out _).mono ?_; rintro e w2 ⟨rfl, rfl⟩))
    all_goals go_ret
    all_goals exact ⟨rfl, by repeat (first | exact Below.refl _ _ | apply pw_below_drewN)⟩
end Go.Proofs.YthpfcofkhchkcaaDoorFlt
