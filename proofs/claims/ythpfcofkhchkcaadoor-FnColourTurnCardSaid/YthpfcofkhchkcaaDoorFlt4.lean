/- The law FnColourTurn, by a walk. -/
import Derived.Test.YthpfcofkhchkcaaDoorFlt2
import Derived.Test.YthpfcofkhchkcaaDoorTurn
set_option linter.unusedVariables false
set_option linter.unusedSimpArgs false
set_option exponentiation.threshold 3000
namespace Go.Proofs.YthpfcofkhchkcaaDoorFlt
open Go.RowKit Go.Proofs.YthpfcofkhchkcaaDoorW.PrintWords Go.Proofs.YthpfcofkhchkcaaDoorIeee Go.Proofs.YthpfcofkhchkcaaDoor
theorem run_neg (b : Nat) : ∀ w, (Op.unary .neg (.float .f64 b)).run Tryd.prog w = .ok (.float .f64 (b ^^^ 2 ^ 63)) w := fun w => rfl
theorem fdiv {x y r : Nat} (h : Ieee.double.div x y = some r) : ∀ w, (binOp .quo 41 (.float .f64 x) (.float .f64 y)).run Tryd.prog w = .ok (.float .f64 r) w := fun w => run_float_arith w .quo _ .f64 x y r h
set_option maxHeartbeats 4000000 in
theorem brightness (c : Int) (p1 p2 p3 : Nat) (hc : Parts c p1 p2 p3) (h1 : p1 ≤ 255) (h2 : p2 ≤ 255) (h3 : p3 ≤ 255) (w : World) :
    Calls Tryd.prog 44 #[.int .i32 c] w fun e w' => e = .returned (.float .f64 (Br (p1 + p2 + p3))) ∧ Below w.heap.size w w' := by
  have c1 : floatOfInt .f64 (p1 : Int) = fl p1 := fl_int _ h1
  have c2 : floatOfInt .f64 (p2 : Int) = fl p2 := fl_int _ h2
  have c3 : floatOfInt .f64 (p3 : Int) = fl p3 := fl_int _ h3
  have k1 := Aside0.mk hc.r
  have k2 := Aside0.mk hc.g
  have k3 := Aside0.mk hc.b
  have e1 := fadd (add_fl (a := p1) (b := p2) (by omega))
  have e2 := fadd (add_fl (a := p1 + p2) (b := p3) (by omega))
  obtain ⟨q, o, d1, d2, d3⟩ := br (p1 + p2 + p3) (by omega)
  have e3 := fdiv d1
  have e4 := fdiv d2
  clear d1 d2 d3 h1 h2 h3
  go_enter Tryd.func44, Tryd.ntmps44
  go_wp2_with (first | (go_at_call 40; refine (k1.out _).mono ?_; rintro e w' ⟨rfl, ⟨nd, rfl⟩⟩) | (go_at_call 41; refine (k2.out _).mono ?_; rintro e w' ⟨rfl, ⟨nd, rfl⟩⟩) | (go_at_call 42; refine (k3.out _).mono ?_; rintro e w' ⟨rfl, ⟨nd, rfl⟩⟩))
  go_ret
  exact ⟨rfl, by repeat (first | exact Below.refl _ _ | apply pw_below_drewN)⟩
set_option maxHeartbeats 4000000 in
theorem implBr (c : Int) (p1 p2 p3 : Nat) (hc : Parts c p1 p2 p3) (h1 : p1 ≤ 255) (h2 : p2 ≤ 255) (h3 : p3 ≤ 255) (w : World) :
    Calls Tryd.prog 23 #[.int .i32 c] w fun e w' => e = .returned (.int .u64 (Br (p1 + p2 + p3))) ∧ Below w.heap.size w w' := by
  have k := Aside0.mk (brightness c p1 p2 p3 hc h1 h2 h3)
  have hb := run_bits (Br (p1 + p2 + p3))
  clear hc h1 h2 h3
  generalize Br (p1 + p2 + p3) = B at *
  go_enter Tryd.func23, Tryd.ntmps23
  go_wp2_with (go_at_call 44; refine (k.out _).mono ?_; rintro e w' ⟨rfl, hB⟩)
  go_ret
  exact ⟨rfl, hB⟩
set_option maxHeartbeats 4000000 in
theorem implTurn (fb c : Int) (B : Nat) (x y : Int) (lt : Bool) (hlt : (FloatKind.f64.format.order B 4602678819172646912 == some Ordering.lt) = lt)
    (hb : ∀ w, Calls Tryd.prog 44 #[.int .i32 c] w fun e w' => e = .returned (.float .f64 B) ∧ Below w.heap.size w w')
    (h1 : ∀ w, Calls Tryd.prog 46 #[.int .i32 c, .float .f64 fb.toNat] w fun e w' => e = .returned (.int .i32 x) ∧ Below w.heap.size w w')
    (h2 : ∀ w, Calls Tryd.prog 46 #[.int .i32 c, .float .f64 (fb.toNat ^^^ 2 ^ 63)] w fun e w' => e = .returned (.int .i32 y) ∧ Below w.heap.size w w') (w : World) :
    Calls Tryd.prog 30 #[.int .i32 c, .int .u64 fb] w fun e w' => e = .returned (.int .i32 (if lt = true then x else y)) ∧ Below w.heap.size w w' := by
  have frb := run_frombits fb
  have k := Aside0.mk hb
  have k1 := Aside0.mk h1
  have k2 := Aside0.mk h2
  have hng := run_neg fb.toNat
  generalize fb.toNat ^^^ 2 ^ 63 = nf at *
  clear hb h1 h2
  have kt : Aside0 (∀ w, Calls Tryd.prog 47 #[.int .i32 c, .float .f64 fb.toNat] w fun e w' => e = .returned (.int .i32 (if lt = true then x else y)) ∧ Below w.heap.size w w') := by
    refine ⟨fun w => ?_⟩
    cases lt
    · go_enter Tryd.func47, Tryd.ntmps47
      go_wp2_with (first | (go_at_call 44; refine (k.out _).mono ?_; rintro e w1 ⟨rfl, hB1⟩) | (go_at_call 46; refine (k2.out _).mono ?_; rintro e w2 ⟨rfl, hB2⟩))
      go_ret
      exact ⟨rfl, below_step hB1 hB2⟩
    · go_enter Tryd.func47, Tryd.ntmps47
      go_wp2_with (first | (go_at_call 44; refine (k.out _).mono ?_; rintro e w1 ⟨rfl, hB1⟩) | (go_at_call 46; refine (k1.out _).mono ?_; rintro e w2 ⟨rfl, hB2⟩))
      go_ret
      exact ⟨rfl, below_step hB1 hB2⟩
  clear k k1 k2
  generalize (if lt = true then x else y) = z at *
  go_enter Tryd.func30, Tryd.ntmps30
  go_wp2_with (go_at_call 47; refine (kt.out _).mono ?_; rintro e w1 ⟨rfl, hB1⟩)
  go_ret
  exact ⟨rfl, hB1⟩
set_option maxHeartbeats 8000000 in
set_option maxRecDepth 100000 in
theorem lawTurn (c fb : Int) (hfb : fb.toNat < 2 ^ 64) (w : World) (hV : Go.Proofs.YthpfcofkhchkcaaDoorFmt.VarsOK w) :
    Calls Tryd.prog 11 #[.int .i32 c, .int .u64 fb] w fun e w' => e = .returned (.bool true) ∧ Below w.heap.size w w' := by
  have kp := Aside0.mk (plain_c c)
  have ku := Aside0.mk (unit_c fb 13830554455654793216 4607182418800017408)
  have hV' := Aside0.mk hV
  clear hV
  by_cases hp : (decide (1 ≤ c) && decide (c ≤ 16777216)) = true
  · by_cases hu : unitB fb.toNat 13830554455654793216 4607182418800017408 = true
    · obtain ⟨n, rfl⟩ : ∃ n : Nat, c = (n : Int) + 1 := by
        simp only [Bool.and_eq_true, decide_eq_true_eq] at hp
        exact ⟨(c - 1).toNat, by omega⟩
      have hn : n < 16777216 := by simp only [Bool.and_eq_true, decide_eq_true_eq] at hp; omega
      have hf := unit_good hu
      have b1 : n / 65536 ≤ 255 := by omega
      have b2 : n / 256 % 256 ≤ 255 := by omega
      have b3 : n % 256 ≤ 255 := by omega
      obtain ⟨q1, q2, q3, hL, _, _⟩ := lit3 fb.toNat hf n hn
      obtain ⟨r1, r2, r3, hM, _, _⟩ := lit3 (fb.toNat ^^^ 2 ^ 63) (good_neg hfb hf) n hn
      have frb := run_frombits fb
      have hng := run_neg fb.toNat
      have bits := run_bits (fb.toNat ^^^ 2 ^ 63)
      have hPn := parts_of n hn
      have kb := Aside0.mk (implBr _ _ _ _ hPn b1 b2 b3)
      have kb0 := Aside0.mk (brightness _ _ _ _ hPn b1 b2 b3)
      have frB := run_frombits (Br (n / 65536 + n / 256 % 256 + n % 256) : Nat)
      have ki := Aside0.mk (implCB fb _ _ _ _ q1 q2 q3 hPn hL)
      have kn : Aside0 (∀ w, Calls Tryd.prog 28 #[.int .i32 ((n : Int) + 1), .int .u64 ((fb.toNat ^^^ 2 ^ 63 : Nat) : Int)] w fun e w' => e = .returned (.int .i32 (nc r1 r2 r3)) ∧ Below w.heap.size w w') := ⟨implCB ((fb.toNat ^^^ 2 ^ 63 : Nat) : Int) _ _ _ _ r1 r2 r3 hPn (by rw [Int.toNat_natCast]; exact hM)⟩
      obtain ⟨_, o, _, _, ho⟩ := br (n / 65536 + n / 256 % 256 + n % 256) (by omega)
      have kt := Aside0.mk (implTurn fb _ _ (nc q1 q2 q3) (nc r1 r2 r3) (o == Ordering.lt) (by
        show (Ieee.double.order _ _ == _) = _
        rw [ho]; cases o <;> rfl) kb0.out (brighten fb.toNat _ _ _ _ q1 q2 q3 hPn hL) (brighten (fb.toNat ^^^ 2 ^ 63) _ _ _ _ r1 r2 r3 hPn hM))
      have hG : (FloatKind.f64.format.order (Br (n / 65536 + n / 256 % 256 + n % 256)) 4602678819172646912 == some Ordering.gt || FloatKind.f64.format.order (Br (n / 65536 + n / 256 % 256 + n % 256)) 4602678819172646912 == some Ordering.eq) = !(o == Ordering.lt) := by
        show (Ieee.double.order _ _ == _ || Ieee.double.order _ _ == _) = _
        rw [ho]; cases o <;> rfl
      rw [Int.toNat_natCast] at frB
      clear kb0 hL hM hPn hf b1 b2 b3 ho hfb
      have hn' := Aside0.mk hn
      clear hn
      generalize Br (n / 65536 + n / 256 % 256 + n % 256) = B at *
      generalize ((n : Int) + 1) = c at *
      generalize hlt : (o == Ordering.lt) = lt at *
      generalize hneg : fb.toNat ^^^ 2 ^ 63 = nf at *
      clear hlt
      cases lt
      · have hG' : (FloatKind.f64.format.order B 4602678819172646912 == some Ordering.gt || FloatKind.f64.format.order B 4602678819172646912 == some Ordering.eq) = true := hG
        have kt' : Aside0 (∀ w, Calls Tryd.prog 30 #[.int .i32 c, .int .u64 fb] w fun e w' => e = .returned (.int .i32 (nc r1 r2 r3)) ∧ Below w.heap.size w w') := kt
        clear hG kt
        go_enter Tryd.func11, Tryd.ntmps11
        go_wp2_with (first | (go_at_call 26; refine (kp.out _).mono ?_; rintro e w1 ⟨rfl, ⟨nd, rfl⟩⟩) | (go_at_call 25; refine (ku.out _).mono ?_; rintro e w2 ⟨rfl, rfl⟩) | (go_at_call 23; refine (kb.out _).mono ?_; rintro e w3 ⟨rfl, hB⟩) | (go_at_call 30; refine (kt'.out _).mono ?_; rintro e w3 ⟨rfl, hB⟩) | (go_at_call 28; (with_reducible first | refine (ki.out _).mono ?_ | refine (kn.out _).mono ?_); rintro e w3 ⟨rfl, hB⟩) | (go_at_call 16; refine (coloured_c _ (hV'.out.below (by repeat (first | exact Below.refl _ _ | apply pw_below_drewN | refine below_step ?_ (by assumption))))).mono ?_; rintro e w5 ⟨rfl, hB⟩))
        go_ret
        exact ⟨rfl, (by repeat (first | exact Below.refl _ _ | apply pw_below_drewN | refine below_step ?_ (by assumption)))⟩
      · have hG' : (FloatKind.f64.format.order B 4602678819172646912 == some Ordering.gt || FloatKind.f64.format.order B 4602678819172646912 == some Ordering.eq) = false := hG
        have kt' : Aside0 (∀ w, Calls Tryd.prog 30 #[.int .i32 c, .int .u64 fb] w fun e w' => e = .returned (.int .i32 (nc q1 q2 q3)) ∧ Below w.heap.size w w') := kt
        clear hG kt
        go_enter Tryd.func11, Tryd.ntmps11
        go_wp2_with (first | (go_at_call 26; refine (kp.out _).mono ?_; rintro e w1 ⟨rfl, ⟨nd, rfl⟩⟩) | (go_at_call 25; refine (ku.out _).mono ?_; rintro e w2 ⟨rfl, rfl⟩) | (go_at_call 23; refine (kb.out _).mono ?_; rintro e w3 ⟨rfl, hB⟩) | (go_at_call 30; refine (kt'.out _).mono ?_; rintro e w3 ⟨rfl, hB⟩) | (go_at_call 28; (with_reducible first | refine (ki.out _).mono ?_ | refine (kn.out _).mono ?_); rintro e w3 ⟨rfl, hB⟩) | (go_at_call 16; refine (coloured_c _ (hV'.out.below (by repeat (first | exact Below.refl _ _ | apply pw_below_drewN | refine below_step ?_ (by assumption))))).mono ?_; rintro e w5 ⟨rfl, hB⟩))
        go_ret
        exact ⟨rfl, (by repeat (first | exact Below.refl _ _ | apply pw_below_drewN | refine below_step ?_ (by assumption)))⟩
    · have hu0 : unitB fb.toNat 13830554455654793216 4607182418800017408 = false := by simpa using hu
      clear hu
      generalize hpc : (decide (1 ≤ c) && decide (c ≤ 16777216)) = pc at *
      go_enter Tryd.func11, Tryd.ntmps11
      go_wp2_with (first | (go_at_call 26; refine (kp.out _).mono ?_; rintro e w1 ⟨rfl, ⟨nd, rfl⟩⟩) | (go_at_call 25; refine (ku.out _).mono ?_; rintro e w2 ⟨rfl, rfl⟩))
      go_ret
      exact ⟨rfl, by repeat (first | exact Below.refl _ _ | apply pw_below_drewN)⟩
  · have hp0 : (decide (1 ≤ c) && decide (c ≤ 16777216)) = false := by simpa using hp
    clear hp
    generalize hpc : (decide (1 ≤ c) && decide (c ≤ 16777216)) = pc at *
    go_enter Tryd.func11, Tryd.ntmps11
    go_wp2_with (first | (go_at_call 26; refine (kp.out _).mono ?_; rintro e w1 ⟨rfl, ⟨nd, rfl⟩⟩) | (go_at_call 25; refine (ku.out _).mono ?_; rintro e w2 ⟨rfl, rfl⟩))
    all_goals go_ret
    all_goals exact ⟨rfl, by repeat (first | exact Below.refl _ _ | apply pw_below_drewN)⟩
end Go.Proofs.YthpfcofkhchkcaaDoorFlt
