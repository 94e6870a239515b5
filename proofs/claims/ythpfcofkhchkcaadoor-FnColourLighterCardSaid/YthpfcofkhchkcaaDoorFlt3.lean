/- The law FnColourLighter, by a walk. -/
import Derived.Test.YthpfcofkhchkcaaDoorFlt2
set_option linter.unusedVariables false
set_option linter.unusedSimpArgs false
set_option exponentiation.threshold 3000
namespace Go.Proofs.YthpfcofkhchkcaaDoorIeee
open Ieee
theorem ord_some {f F : Nat} {s : Bool} (h : Sm f s F) : ∃ o, double.order f 0 = some o := by
  obtain ⟨m, i, hr, _, _⟩ := h
  unfold Format.order
  rw [hr, read_zero]
  exact ⟨_, rfl⟩
theorem good_ord {f : Nat} (h : Good f) : ∃ o, double.order f 0 = some o := by
  cases h with
  | neg F h0 hF h => exact ord_some h
  | pos F h0 hF h => exact ord_some h
  | zero h0 h => exact ord_some h
theorem light_zero {f : Nat} (hf : Good f) (he : double.order f 0 = some Ordering.eq) {p : Nat} (hp : p ≤ 255) : lightV p f = some (p : Int) := by
  cases hf with
  | neg F h0 hF h => unfold neg0 at h0; rw [he] at h0; cases h0
  | pos F h0 hF h =>
    have hF0 : F = 0 := by
      obtain ⟨m, i, hr, _, rfl⟩ := h
      unfold Format.order at he
      rw [hr, read_zero] at he
      have h1 := Int.compare_eq_eq.1 (Option.some.inj he)
      simp only [signed, Nat.shiftLeft_eq] at h1
      rw [if_neg (by decide), if_neg (by decide), Nat.zero_mul] at h1
      have h2 : m * 2 ^ (i - min i (-1074)).toNat = 0 := by omega
      rcases Nat.mul_eq_zero.1 h2 with h3 | h3
      · rw [h3, Nat.zero_mul]
      · exact absurd h3 (Nat.pos_iff_ne_zero.1 (Nat.two_pow_pos _))
    subst hF0
    obtain ⟨v, hv, hvu⟩ := mul_sm (fl_sm (n := 255 - p) (by omega)) h
    have hv0 : v ≤ fl 0 := hvu (1074 + 1074) 0 rfl (by rw [Nat.mul_zero, Nat.zero_mul]; exact Nat.le_refl _)
    obtain ⟨vs, vv⟩ := small_le (by omega) hv0
    rw [Nat.zero_mul] at vv
    obtain ⟨z, hz, hzu, hzl⟩ := add_sm vs (fl_sm (n := p) (by omega)) (fun h => by cases h)
    have hz1 : z ≤ fl p := hzu p (by rw [if_neg (by decide), Nat.le_zero.1 vv, Nat.zero_add]; exact Nat.le_refl _)
    have hz2 : fl p ≤ z := hzl p (by omega) (by rw [if_neg (by decide)]; exact Nat.le_add_left _ _)
    obtain ⟨q, hq, hqp, hql⟩ := byte_of hp hz1
    obtain rfl : q = p := Nat.le_antisymm hqp (hql p hp hz2)
    unfold lightV
    rw [if_neg (by rw [h0]; decide), sub255 q hp, Option.bind_some, hv, Option.bind_some, hz, Option.bind_some, hq]
  | zero h0 h =>
    have hv := mul_zero (fl_sm (n := 255 - p) (by omega)) h
    obtain ⟨z, hz, hzu, hzl⟩ := add_sm negZero (fl_sm (n := p) (by omega)) (fun _ => Nat.zero_le _)
    have hz1 : z ≤ fl p := hzu p (by rw [if_pos rfl]; exact Nat.sub_le _ _)
    have hz2 : fl p ≤ z := hzl p (by omega) (by rw [if_pos rfl, Nat.sub_zero]; exact Nat.le_refl _)
    obtain ⟨q, hq, hqp, hql⟩ := byte_of hp hz1
    obtain rfl : q = p := Nat.le_antisymm hqp (hql p hp hz2)
    unfold lightV
    rw [if_neg (by rw [h0]; decide), sub255 q hp, Option.bind_some, hv, Option.bind_some, hz, Option.bind_some, hq]
theorem light_one : ∀ p : Nat, p ≤ 255 → lightV p 4607182418800017408 = some 255 := by decide +kernel
theorem light_mone : ∀ p : Nat, p ≤ 255 → lightV p 13830554455654793216 = some 0 := by decide +kernel
end Go.Proofs.YthpfcofkhchkcaaDoorIeee
namespace Go.Proofs.YthpfcofkhchkcaaDoorFlt
open Go.RowKit Go.Proofs.YthpfcofkhchkcaaDoorW.PrintWords Go.Proofs.YthpfcofkhchkcaaDoorIeee Go.Proofs.YthpfcofkhchkcaaDoor
theorem rgb_c (n : Nat) (hn : n < 16777216) (w : World) : Calls Tryd.prog 21 #[.int .i32 ((n : Int) + 1)] w fun e w' => e = .returned (.tuple #[.int .u8 ((n / 65536 : Nat) : Int), .int .u8 ((n / 256 % 256 : Nat) : Int), .int .u8 ((n % 256 : Nat) : Int)]) ∧ Drawn0 w w' :=
  M.impl_ColourRGB.calls _ _ _ _ w (ColPure.rgb_f n hn)
theorem rgb_nc (q1 q2 q3 : Nat) (h1 : q1 ≤ 255) (h2 : q2 ≤ 255) (h3 : q3 ≤ 255) (w : World) : Calls Tryd.prog 21 #[.int .i32 (nc q1 q2 q3)] w fun e w' => e = .returned (.tuple #[.int .u8 (q1 : Int), .int .u8 (q2 : Int), .int .u8 (q3 : Int)]) ∧ Drawn0 w w' := by
  have := rgb_c (q1 * 65536 + q2 * 256 + q3) (by omega) w
  have e1 : (q1 * 65536 + q2 * 256 + q3) / 65536 = q1 := by omega
  have e2 : (q1 * 65536 + q2 * 256 + q3) / 256 % 256 = q2 := by omega
  have e3 : (q1 * 65536 + q2 * 256 + q3) % 256 = q3 := by omega
  rw [e1, e2, e3] at this
  exact this
theorem cnew_c (r g b : Nat) (hr : r ≤ 255) (hg : g ≤ 255) (hb : b ≤ 255) (w : World) : Calls Tryd.prog 19 #[.int .u8 r, .int .u8 g, .int .u8 b] w fun e w' => e = .returned (.int .i32 (nc r g b)) ∧ Drawn0 w w' :=
  M.impl_ColourNew.calls _ _ _ _ w (ColPure.new_f r g b (by omega) (by omega) (by omega))
theorem nc_parts (n : Nat) : nc (n / 65536) (n / 256 % 256) (n % 256) = (n : Int) + 1 := by unfold nc; omega
set_option maxHeartbeats 8000000 in
set_option maxRecDepth 100000 in
theorem lawLighter (c fb : Int) (w : World) (hV : Go.Proofs.YthpfcofkhchkcaaDoorFmt.VarsOK w) :
    Calls Tryd.prog 10 #[.int .i32 c, .int .u64 fb] w fun e w' => e = .returned (.bool true) ∧ Below w.heap.size w w' := by
  have kp := Aside0.mk (plain_c c)
  have ku := Aside0.mk (unit_c fb 13830554455654793216 4607182418800017408)
  have hV' := Aside0.mk hV
  clear hV
  by_cases hp : (decide (1 ≤ c) && decide (c ≤ 16777216)) = true
  · by_cases hu : unitB fb.toNat 13830554455654793216 4607182418800017408 = true
    · obtain ⟨n, rfl⟩ : ∃ n : Nat, c = (n : Int) + 1 := by
        simp only [Bool.and_eq_true, decide_eq_true_eq] at hp
        exact ⟨(c - 1).toNat, by omega⟩
      have hn : n < 16777216 := by simp only [Bool.and_eq_true, decide_eq_true_eq] at hp; omega
      have hf := unit_good hu
      have b1 : n / 65536 ≤ 255 := by omega
      have b2 : n / 256 % 256 ≤ 255 := by omega
      have b3 : n % 256 ≤ 255 := by omega
      have bits1 : ∀ w, (callFunc 29 #[.float .f64 4607182418800017408]).run Tryd.prog w = .ok (.value (.int .u64 4607182418800017408)) w := run_bits 4607182418800017408
      have bits2 : ∀ w, (callFunc 29 #[.float .f64 13830554455654793216]).run Tryd.prog w = .ok (.value (.int .u64 13830554455654793216)) w := run_bits 13830554455654793216
      have frb := run_frombits fb
      have k1 := Aside0.mk (rgb_c n hn)
      have i1 := Aside0.mk (implCB 4607182418800017408 _ _ _ _ 255 255 255 (parts_of n hn) ⟨light_one _ b1, light_one _ b2, light_one _ b3, b1, b2, b3, by decide, by decide, by decide⟩)
      have i2 := Aside0.mk (implCB 13830554455654793216 _ _ _ _ 0 0 0 (parts_of n hn) ⟨light_mone _ b1, light_mone _ b2, light_mone _ b3, b1, b2, b3, by decide, by decide, by decide⟩)
      have n1 : Aside0 (∀ w, Calls Tryd.prog 19 #[.int .u8 255, .int .u8 255, .int .u8 255] w fun e w' => e = .returned (.int .i32 (nc 255 255 255)) ∧ Drawn0 w w') := ⟨cnew_c 255 255 255 (by decide) (by decide) (by decide)⟩
      have n2 : Aside0 (∀ w, Calls Tryd.prog 19 #[.int .u8 0, .int .u8 0, .int .u8 0] w fun e w' => e = .returned (.int .i32 (nc 0 0 0)) ∧ Drawn0 w w') := ⟨cnew_c 0 0 0 (by decide) (by decide) (by decide)⟩
      obtain ⟨o, ho⟩ := good_ord hf
      obtain ⟨q1, q2, q3, hL, hneg, hpos⟩ := lit3 fb.toNat hf n hn
      have hq : (o = Ordering.gt → n / 65536 ≤ q1 ∧ n / 256 % 256 ≤ q2 ∧ n % 256 ≤ q3) ∧ (o = Ordering.lt → q1 ≤ n / 65536 ∧ q2 ≤ n / 256 % 256 ∧ q3 ≤ n % 256) ∧ (o = Ordering.eq → nc q1 q2 q3 = (n : Int) + 1) := by
        refine ⟨fun h => hpos ?_, fun h => hneg ?_, fun h => ?_⟩
        · unfold neg0; rw [ho, h]; rfl
        · unfold neg0; rw [ho, h]; rfl
        · rw [h] at ho
          have z1 := light_zero hf ho b1
          have z2 := light_zero hf ho b2
          have z3 := light_zero hf ho b3
          have y1 := Int.ofNat.inj (Option.some.inj (z1.symm.trans hL.r))
          have y2 := Int.ofNat.inj (Option.some.inj (z2.symm.trans hL.g))
          have y3 := Int.ofNat.inj (Option.some.inj (z3.symm.trans hL.b))
          rw [← y1, ← y2, ← y3]
          exact nc_parts n
      have k2 := Aside0.mk (rgb_nc q1 q2 q3 hL.q1 hL.q2 hL.q3)
      have i0 := Aside0.mk (implCB fb _ _ _ _ q1 q2 q3 (parts_of n hn) hL)
      have ho' : FloatKind.f64.format.order fb.toNat 0 = some o := ho
      clear hL hneg hpos hf b1 b2 b3 ho
      have hn' := Aside0.mk hn
      clear hn
      generalize n / 65536 = p1 at *
      generalize n / 256 % 256 = p2 at *
      generalize n % 256 = p3 at *
      generalize hcn : ((n : Int) + 1) = c at *
      clear hcn
      have hq' := Aside0.mk hq
      clear hq
      have hG : (FloatKind.f64.format.order fb.toNat 0 == some Ordering.gt) = (o == Ordering.gt) := by rw [ho']; cases o <;> rfl
      have hLt : (FloatKind.f64.format.order fb.toNat 0 == some Ordering.lt) = (o == Ordering.lt) := by rw [ho']; cases o <;> rfl
      have hE : (FloatKind.f64.format.order fb.toNat 0 == some Ordering.eq) = (o == Ordering.eq) := by rw [ho']; cases o <;> rfl
      clear ho'
      cases o with
      | gt =>
        obtain ⟨x1, x2, x3⟩ := hq'.out.1 rfl
        have y1 : (p1 : Int) ≤ q1 := by omega
        have y2 : (p2 : Int) ≤ q2 := by omega
        have y3 : (p3 : Int) ≤ q3 := by omega
        clear x1 x2 x3
        have hG' : (FloatKind.f64.format.order fb.toNat 0 == some Ordering.gt) = true := hG
        have hL' : (FloatKind.f64.format.order fb.toNat 0 == some Ordering.lt) = false := hLt
        have hE' : (FloatKind.f64.format.order fb.toNat 0 == some Ordering.eq) = false := hE
        clear hG hLt hE
        go_enter Tryd.func10, Tryd.ntmps10
        go_wp2_with (first | (go_at_call 26; refine (kp.out _).mono ?_; rintro e w1 ⟨rfl, ⟨nd, rfl⟩⟩) | (go_at_call 25; refine (ku.out _).mono ?_; rintro e w2 ⟨rfl, rfl⟩) | (go_at_call 28; (with_reducible first | refine (i0.out _).mono ?_ | refine (i1.out _).mono ?_ | refine (i2.out _).mono ?_); rintro e w3 ⟨rfl, hB⟩) | (go_at_call 21; (with_reducible first | refine (k1.out _).mono ?_ | refine (k2.out _).mono ?_); rintro e w4 ⟨rfl, ⟨nd, rfl⟩⟩) | (go_at_call 19; (with_reducible first | refine (n1.out _).mono ?_ | refine (n2.out _).mono ?_); rintro e w4 ⟨rfl, ⟨nd, rfl⟩⟩) | (go_at_call 16; refine (coloured_c _ (hV'.out.below (by repeat (first | exact Below.refl _ _ | apply pw_below_drewN | refine below_step ?_ (by assumption))))).mono ?_; rintro e w5 ⟨rfl, hB⟩))
        go_ret
        exact ⟨rfl, (by repeat (first | exact Below.refl _ _ | apply pw_below_drewN | refine below_step ?_ (by assumption)))⟩
      | lt =>
        obtain ⟨x1, x2, x3⟩ := hq'.out.2.1 rfl
        have y1 : (q1 : Int) ≤ p1 := by omega
        have y2 : (q2 : Int) ≤ p2 := by omega
        have y3 : (q3 : Int) ≤ p3 := by omega
        clear x1 x2 x3
        have hG' : (FloatKind.f64.format.order fb.toNat 0 == some Ordering.gt) = false := hG
        have hL' : (FloatKind.f64.format.order fb.toNat 0 == some Ordering.lt) = true := hLt
        have hE' : (FloatKind.f64.format.order fb.toNat 0 == some Ordering.eq) = false := hE
        clear hG hLt hE
        go_enter Tryd.func10, Tryd.ntmps10
        go_wp2_with (first | (go_at_call 26; refine (kp.out _).mono ?_; rintro e w1 ⟨rfl, ⟨nd, rfl⟩⟩) | (go_at_call 25; refine (ku.out _).mono ?_; rintro e w2 ⟨rfl, rfl⟩) | (go_at_call 28; (with_reducible first | refine (i0.out _).mono ?_ | refine (i1.out _).mono ?_ | refine (i2.out _).mono ?_); rintro e w3 ⟨rfl, hB⟩) | (go_at_call 21; (with_reducible first | refine (k1.out _).mono ?_ | refine (k2.out _).mono ?_); rintro e w4 ⟨rfl, ⟨nd, rfl⟩⟩) | (go_at_call 19; (with_reducible first | refine (n1.out _).mono ?_ | refine (n2.out _).mono ?_); rintro e w4 ⟨rfl, ⟨nd, rfl⟩⟩) | (go_at_call 16; refine (coloured_c _ (hV'.out.below (by repeat (first | exact Below.refl _ _ | apply pw_below_drewN | refine below_step ?_ (by assumption))))).mono ?_; rintro e w5 ⟨rfl, hB⟩))
        go_ret
        exact ⟨rfl, (by repeat (first | exact Below.refl _ _ | apply pw_below_drewN | refine below_step ?_ (by assumption)))⟩
      | eq =>
        have y1 := hq'.out.2.2 rfl
        have hG' : (FloatKind.f64.format.order fb.toNat 0 == some Ordering.gt) = false := hG
        have hL' : (FloatKind.f64.format.order fb.toNat 0 == some Ordering.lt) = false := hLt
        have hE' : (FloatKind.f64.format.order fb.toNat 0 == some Ordering.eq) = true := hE
        clear hG hLt hE
        go_enter Tryd.func10, Tryd.ntmps10
        go_wp2_with (first | (go_at_call 26; refine (kp.out _).mono ?_; rintro e w1 ⟨rfl, ⟨nd, rfl⟩⟩) | (go_at_call 25; refine (ku.out _).mono ?_; rintro e w2 ⟨rfl, rfl⟩) | (go_at_call 28; (with_reducible first | refine (i0.out _).mono ?_ | refine (i1.out _).mono ?_ | refine (i2.out _).mono ?_); rintro e w3 ⟨rfl, hB⟩) | (go_at_call 21; (with_reducible first | refine (k1.out _).mono ?_ | refine (k2.out _).mono ?_); rintro e w4 ⟨rfl, ⟨nd, rfl⟩⟩) | (go_at_call 19; (with_reducible first | refine (n1.out _).mono ?_ | refine (n2.out _).mono ?_); rintro e w4 ⟨rfl, ⟨nd, rfl⟩⟩) | (go_at_call 16; refine (coloured_c _ (hV'.out.below (by repeat (first | exact Below.refl _ _ | apply pw_below_drewN | refine below_step ?_ (by assumption))))).mono ?_; rintro e w5 ⟨rfl, hB⟩))
        go_ret
        exact ⟨rfl, (by repeat (first | exact Below.refl _ _ | apply pw_below_drewN | refine below_step ?_ (by assumption)))⟩
    · have hu0 : unitB fb.toNat 13830554455654793216 4607182418800017408 = false := by simpa using hu
      clear hu
      generalize hpc : (decide (1 ≤ c) && decide (c ≤ 16777216)) = pc at *
      go_enter Tryd.func10, Tryd.ntmps10
      go_wp2_with (first | (go_at_call 26; refine (kp.out _).mono ?_; rintro e w1 ⟨rfl, ⟨nd, rfl⟩⟩) | (go_at_call 25; refine (ku.out _).mono ?_; rintro e w2 ⟨rfl, rfl⟩))
      go_ret
      exact ⟨rfl, by repeat (first | exact Below.refl _ _ | apply pw_below_drewN)⟩
  · have hp0 : (decide (1 ≤ c) && decide (c ≤ 16777216)) = false := by simpa using hp
    clear hp
    generalize hpc : (decide (1 ≤ c) && decide (c ≤ 16777216)) = pc at *
    go_enter Tryd.func10, Tryd.ntmps10
    go_wp2_with (first | (go_at_call 26; refine (kp.out _).mono ?_; rintro e w1 ⟨rfl, ⟨nd, rfl⟩⟩) | (go_at_call 25; refine (ku.out _).mono ?_; rintro e w2 ⟨rfl, rfl⟩))
    all_goals go_ret
    all_goals exact ⟨rfl, by repeat (first | exact Below.refl _ _ | apply pw_below_drewN)⟩
end Go.Proofs.YthpfcofkhchkcaaDoorFlt
