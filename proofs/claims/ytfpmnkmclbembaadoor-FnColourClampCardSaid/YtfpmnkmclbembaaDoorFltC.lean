/- The law FnColourClamp, by a walk. -/
import Derived.Test.YtfpmnkmclbembaaDoorFlt4
import Derived.Test.YtfpmnkmclbembaaDoorClampM
set_option linter.unusedVariables false
set_option linter.unusedSimpArgs false
set_option exponentiation.threshold 3000
namespace Go.Proofs.YtfpmnkmclbembaaDoorFlt
open Go.RowKit Go.Proofs.YtfpmnkmclbembaaDoorW.PrintWords Go.Proofs.YtfpmnkmclbembaaDoorIeee Go.Proofs.YtfpmnkmclbembaaDoor
theorem run_max {x y r : Nat} (h : Extern.MathDim.pick "math.archMax" false .gt #[.float .f64 x, .float .f64 y] = pure (.float .f64 r)) (w : World) : (callFunc 25 #[.float .f64 x, .float .f64 y]).run Tryd.prog w = .ok (.value (.float .f64 r)) w := by
  rw [run_callFunc_extern (P := Tryd.prog) (e := Extern.MathDim.pick "math.archMax" false .gt) Tryd.func25 (by decide +kernel) rfl (by rfl) (by rfl), h]
  rfl
theorem run_min {x y r : Nat} (h : Extern.MathDim.pick "math.archMin" true .lt #[.float .f64 x, .float .f64 y] = pure (.float .f64 r)) (w : World) : (callFunc 27 #[.float .f64 x, .float .f64 y]).run Tryd.prog w = .ok (.value (.float .f64 r)) w := by
  rw [run_callFunc_extern (P := Tryd.prog) (e := Extern.MathDim.pick "math.archMin" true .lt) Tryd.func27 (by decide +kernel) rfl (by rfl) (by rfl), h]
  rfl
set_option maxHeartbeats 4000000 in
theorem max_c {x y r : Nat} (h : Extern.MathDim.pick "math.archMax" false .gt #[.float .f64 x, .float .f64 y] = pure (.float .f64 r)) (w : World) :
    Calls Tryd.prog 20 #[.float .f64 x, .float .f64 y] w fun e w' => e = .returned (.float .f64 r) ∧ w' = w := by
  have hm := run_max h
  clear h
  go_enter Tryd.func20, Tryd.ntmps20
  go_wp2_with fail
  go_ret
  exact ⟨rfl, rfl⟩
set_option maxHeartbeats 4000000 in
theorem min_c {x y r : Nat} (h : Extern.MathDim.pick "math.archMin" true .lt #[.float .f64 x, .float .f64 y] = pure (.float .f64 r)) (w : World) :
    Calls Tryd.prog 21 #[.float .f64 x, .float .f64 y] w fun e w' => e = .returned (.float .f64 r) ∧ w' = w := by
  have hm := run_min h
  clear h
  go_enter Tryd.func21, Tryd.ntmps21
  go_wp2_with fail
  go_ret
  exact ⟨rfl, rfl⟩
theorem isSet_c (c : Int) (w : World) : Calls Tryd.prog 14 #[.int .i32 c] w fun e w' => e = .returned (.bool (c != 0)) ∧ w' = w := by
  go_enter Tryd.func14, Tryd.ntmps14
  go_wp2
  go_ret
  exact ⟨rfl, rfl⟩
/-- The steps of a clamp whose words are known. -/
structure Steps (lo hi B r1 r2 r3 tg : Nat) : Prop where
  a : ∀ w, Calls Tryd.prog 20 #[.float .f64 lo, .float .f64 0] w fun e w' => e = .returned (.float .f64 r1) ∧ w' = w
  b : ∀ w, Calls Tryd.prog 21 #[.float .f64 hi, .float .f64 4607182418800017408] w fun e w' => e = .returned (.float .f64 r2) ∧ w' = w
  c : ∀ w, Calls Tryd.prog 20 #[.float .f64 B, .float .f64 r1] w fun e w' => e = .returned (.float .f64 r3) ∧ w' = w
  d : ∀ w, Calls Tryd.prog 21 #[.float .f64 r3, .float .f64 r2] w fun e w' => e = .returned (.float .f64 tg) ∧ w' = w
theorem steps_of {lo hi B : Nat} {l h b : Int} (vl : Va lo l) (vh : Va hi h) (vb : Va B b) (l0 : 0 ≤ l) (lh : l ≤ h) (hU : h ≤ U) : ∃ r1 r2 r3 tg, Steps lo hi B r1 r2 r3 tg ∧ Va tg (min (max b l) h) := by
  obtain ⟨r1, p1, v1⟩ := max_va vl zero_va
  obtain ⟨r2, p2, v2⟩ := min_va vh one_va
  rw [Int.max_eq_left l0] at v1
  rw [Int.min_eq_left hU] at v2
  obtain ⟨r3, p3, v3⟩ := max_va vb v1
  obtain ⟨tg, p4, v4⟩ := min_va v3 v2
  exact ⟨r1, r2, r3, tg, ⟨max_c p1, min_c p2, max_c p3, min_c p4⟩, v4⟩
set_option maxRecDepth 100000 in
set_option maxHeartbeats 8000000 in
theorem clamp_same (c : Int) (hc : c ≠ 0) (lo hi B r1 r2 r3 tg : Nat) (hs : Steps lo hi B r1 r2 r3 tg) (ho : FloatKind.f64.format.order B tg == some Ordering.eq)
    (hb : ∀ w, Calls Tryd.prog 12 #[.int .i32 c] w fun e w' => e = .returned (.float .f64 B) ∧ Below w.heap.size w w') (w : World) :
    Calls Tryd.prog 13 #[.int .i32 c, .float .f64 lo, .float .f64 hi] w fun e w' => e = .returned (.int .i32 c) ∧ Below w.heap.size w w' := by
  have kS := Aside0.mk (isSet_c c)
  have hc0 : (c != 0) = true := bne_iff_ne.2 hc
  rw [hc0] at kS
  have k1 := Aside0.mk hs.a
  have k2 := Aside0.mk hs.b
  have k3 := Aside0.mk hs.c
  have k4 := Aside0.mk hs.d
  have kB := Aside0.mk hb
  clear hs hb hc hc0
  go_enter Tryd.func13, Tryd.ntmps13
  go_wp2_with (first | (go_at_call 14; refine (kS.out _).mono ?_; rintro e w' ⟨rfl, rfl⟩) | (go_at_call 20; (with_reducible first | refine (k1.out _).mono ?_ | refine (k3.out _).mono ?_); rintro e w' ⟨rfl, rfl⟩) | (go_at_call 21; (with_reducible first | refine (k2.out _).mono ?_ | refine (k4.out _).mono ?_); rintro e w' ⟨rfl, rfl⟩) | (go_at_call 12; refine (kB.out _).mono ?_; rintro e w' ⟨rfl, hB⟩))
  go_ret
  exact ⟨rfl, hB⟩
set_option maxRecDepth 100000 in
set_option maxHeartbeats 8000000 in
theorem clamp_up (c : Int) (hc : c ≠ 0) (lo hi B r1 r2 r3 tg t1 t2 t3 f p1 p2 p3 : Nat) (x : Int) (hs : Steps lo hi B r1 r2 r3 tg) (ho : (FloatKind.f64.format.order B tg == some Ordering.eq) = false) (hg : (FloatKind.f64.format.order tg B == some Ordering.gt) = true)
    (h1 : p1 ≤ 255) (h2 : p2 ≤ 255) (h3 : p3 ≤ 255) (hP : Parts c p1 p2 p3)
    (e1 : Ieee.double.mul tg 4643176031446892544 = some t1) (e2 : Ieee.double.mul t1 4613937818241073152 = some t2) (e3 : Ieee.double.sub t2 (fl (p1 + p2 + p3)) = some t3) (e4 : Ieee.double.div t3 (fl (765 - (p1 + p2 + p3))) = some f)
    (hb : ∀ w, Calls Tryd.prog 12 #[.int .i32 c] w fun e w' => e = .returned (.float .f64 B) ∧ Below w.heap.size w w')
    (hl : ∀ w, Calls Tryd.prog 22 #[.int .i32 c, .float .f64 f] w fun e w' => e = .returned (.int .i32 x) ∧ Below w.heap.size w w') (w : World) :
    Calls Tryd.prog 13 #[.int .i32 c, .float .f64 lo, .float .f64 hi] w fun e w' => e = .returned (.int .i32 x) ∧ Below w.heap.size w w' := by
  have kS := Aside0.mk (isSet_c c)
  have hc0 : (c != 0) = true := bne_iff_ne.2 hc
  rw [hc0] at kS
  have k1 := Aside0.mk hs.a
  have k2 := Aside0.mk hs.b
  have k3 := Aside0.mk hs.c
  have k4 := Aside0.mk hs.d
  have kB := Aside0.mk hb
  have kL := Aside0.mk hl
  have kr := Aside0.mk hP.r
  have kg := Aside0.mk hP.g
  have kb := Aside0.mk hP.b
  have c1 : floatOfInt .f64 (p1 : Int) = fl p1 := fl_int _ h1
  have c2 : floatOfInt .f64 (p2 : Int) = fl p2 := fl_int _ h2
  have c3 : floatOfInt .f64 (p3 : Int) = fl p3 := fl_int _ h3
  have a1 := fadd (add_fl (a := p1) (b := p2) (by omega))
  have a2 := fadd (add_fl (a := p1 + p2) (b := p3) (by omega))
  have a3 := fmul e1
  have a4 := fmul e2
  have a5 := fsub e3
  have a6 := fsub (sub765 (p1 + p2 + p3) (by omega))
  have a7 := fdiv e4
  clear hs hb hc hc0 hl hP e1 e2 e3 e4 h1 h2 h3
  generalize fl (765 - (p1 + p2 + p3)) = d at *
  generalize fl (p1 + p2 + p3) = S at *
  go_enter Tryd.func13, Tryd.ntmps13
  go_wp2_with (first | (go_at_call 14; refine (kS.out _).mono ?_; rintro e w' ⟨rfl, rfl⟩) | (go_at_call 20; (with_reducible first | refine (k1.out _).mono ?_ | refine (k3.out _).mono ?_); rintro e w' ⟨rfl, rfl⟩) | (go_at_call 21; (with_reducible first | refine (k2.out _).mono ?_ | refine (k4.out _).mono ?_); rintro e w' ⟨rfl, rfl⟩) | (go_at_call 12; refine (kB.out _).mono ?_; rintro e w' ⟨rfl, hB⟩) | (go_at_call 17; refine (kr.out _).mono ?_; rintro e w' ⟨rfl, ⟨nd, rfl⟩⟩) | (go_at_call 18; refine (kg.out _).mono ?_; rintro e w' ⟨rfl, ⟨nd, rfl⟩⟩) | (go_at_call 19; refine (kb.out _).mono ?_; rintro e w' ⟨rfl, ⟨nd, rfl⟩⟩) | (go_at_call 22; refine (kL.out _).mono ?_; rintro e w' ⟨rfl, hB2⟩))
  go_ret
  exact ⟨rfl, by repeat (first | exact Below.refl _ _ | apply pw_below_drewN | refine below_step ?_ (by assumption))⟩
set_option maxRecDepth 100000 in
set_option maxHeartbeats 8000000 in
theorem clamp_down (c : Int) (hc : c ≠ 0) (lo hi B r1 r2 r3 tg t1 t2 t3 f p1 p2 p3 : Nat) (x : Int) (hs : Steps lo hi B r1 r2 r3 tg) (ho : (FloatKind.f64.format.order B tg == some Ordering.eq) = false) (hg : (FloatKind.f64.format.order tg B == some Ordering.gt) = false)
    (h1 : p1 ≤ 255) (h2 : p2 ≤ 255) (h3 : p3 ≤ 255) (hP : Parts c p1 p2 p3)
    (e1 : Ieee.double.mul tg 4643176031446892544 = some t1) (e2 : Ieee.double.mul t1 4613937818241073152 = some t2) (e3 : Ieee.double.div t2 (fl (p1 + p2 + p3)) = some t3) (e4 : Ieee.double.sub t3 4607182418800017408 = some f)
    (hb : ∀ w, Calls Tryd.prog 12 #[.int .i32 c] w fun e w' => e = .returned (.float .f64 B) ∧ Below w.heap.size w w')
    (hl : ∀ w, Calls Tryd.prog 22 #[.int .i32 c, .float .f64 f] w fun e w' => e = .returned (.int .i32 x) ∧ Below w.heap.size w w') (w : World) :
    Calls Tryd.prog 13 #[.int .i32 c, .float .f64 lo, .float .f64 hi] w fun e w' => e = .returned (.int .i32 x) ∧ Below w.heap.size w w' := by
  have kS := Aside0.mk (isSet_c c)
  have hc0 : (c != 0) = true := bne_iff_ne.2 hc
  rw [hc0] at kS
  have k1 := Aside0.mk hs.a
  have k2 := Aside0.mk hs.b
  have k3 := Aside0.mk hs.c
  have k4 := Aside0.mk hs.d
  have kB := Aside0.mk hb
  have kL := Aside0.mk hl
  have kr := Aside0.mk hP.r
  have kg := Aside0.mk hP.g
  have kb := Aside0.mk hP.b
  have c1 : floatOfInt .f64 (p1 : Int) = fl p1 := fl_int _ h1
  have c2 : floatOfInt .f64 (p2 : Int) = fl p2 := fl_int _ h2
  have c3 : floatOfInt .f64 (p3 : Int) = fl p3 := fl_int _ h3
  have a1 := fadd (add_fl (a := p1) (b := p2) (by omega))
  have a2 := fadd (add_fl (a := p1 + p2) (b := p3) (by omega))
  have a3 := fmul e1
  have a4 := fmul e2
  have a5 := fdiv e3
  have a6 := fsub e4
  clear hs hb hc hc0 hl hP e1 e2 e3 e4 h1 h2 h3
  generalize fl (p1 + p2 + p3) = S at *
  go_enter Tryd.func13, Tryd.ntmps13
  go_wp2_with (first | (go_at_call 14; refine (kS.out _).mono ?_; rintro e w' ⟨rfl, rfl⟩) | (go_at_call 20; (with_reducible first | refine (k1.out _).mono ?_ | refine (k3.out _).mono ?_); rintro e w' ⟨rfl, rfl⟩) | (go_at_call 21; (with_reducible first | refine (k2.out _).mono ?_ | refine (k4.out _).mono ?_); rintro e w' ⟨rfl, rfl⟩) | (go_at_call 12; refine (kB.out _).mono ?_; rintro e w' ⟨rfl, hB⟩) | (go_at_call 17; refine (kr.out _).mono ?_; rintro e w' ⟨rfl, ⟨nd, rfl⟩⟩) | (go_at_call 18; refine (kg.out _).mono ?_; rintro e w' ⟨rfl, ⟨nd, rfl⟩⟩) | (go_at_call 19; refine (kb.out _).mono ?_; rintro e w' ⟨rfl, ⟨nd, rfl⟩⟩) | (go_at_call 22; refine (kL.out _).mono ?_; rintro e w' ⟨rfl, hB2⟩))
  go_ret
  exact ⟨rfl, by repeat (first | exact Below.refl _ _ | apply pw_below_drewN | refine below_step ?_ (by assumption))⟩
/-- A colour's parts together. -/
def sumP (n : Nat) : Nat := n / 65536 + n / 256 % 256 + n % 256
/-- What a clamp gives. -/
theorem clamp_c (n : Nat) (hn : n < 16777216) (lo hi : Nat) (l h b : Int) (vl : Va lo l) (vh : Va hi h) (vb : Va (Br (sumP n)) b) (l0 : 0 ≤ l) (lh : l ≤ h) (hU : h ≤ U) :
    ∃ (m : Nat) (t : Int), m < 16777216 ∧ l ≤ t ∧ t ≤ h ∧ Held t (sumP m) ∧ (l ≤ b → b ≤ h → m = n) ∧ ∀ w, Calls Tryd.prog 13 #[.int .i32 ((n : Int) + 1), .float .f64 lo, .float .f64 hi] w fun e w' => e = .returned (.int .i32 ((m : Int) + 1)) ∧ Below w.heap.size w w' := by
  have b1 : n / 65536 ≤ 255 := by omega
  have b2 : n / 256 % 256 ≤ 255 := by omega
  have b3 : n % 256 ≤ 255 := by omega
  have hP := parts_of n hn
  have hB := brightness _ _ _ _ hP b1 b2 b3
  obtain ⟨r1, r2, r3, tg, hs, vt⟩ := steps_of vl vh vb l0 lh hU
  have hc : ((n : Int) + 1) ≠ 0 := by omega
  have ho := order_va vb vt
  have hg := order_va vt vb
  have ht1 : l ≤ min (max b l) h := by omega
  have ht2 : min (max b l) h ≤ h := by omega
  have htn : l ≤ b → b ≤ h → min (max b l) h = b := by omega
  generalize min (max b l) h = t at *
  have fin : ∀ q1 q2 q3 : Nat, q1 ≤ 255 → q2 ≤ 255 → q3 ≤ 255 → nc q1 q2 q3 = ((q1 * 65536 + q2 * 256 + q3 : Nat) : Int) + 1 ∧ q1 * 65536 + q2 * 256 + q3 < 16777216 ∧ sumP (q1 * 65536 + q2 * 256 + q3) = q1 + q2 + q3 := by
    intro q1 q2 q3 h1 h2 h3
    refine ⟨by unfold nc; omega, by omega, ?_⟩
    unfold sumP
    have e1 : (q1 * 65536 + q2 * 256 + q3) / 65536 = q1 := by omega
    have e2 : (q1 * 65536 + q2 * 256 + q3) / 256 % 256 = q2 := by omega
    have e3 : (q1 * 65536 + q2 * 256 + q3) % 256 = q3 := by omega
    rw [e1, e2, e3]
  rcases Int.lt_trichotomy b t with hlt | heq | hgt
  · rw [Int.compare_eq_lt.2 hlt] at ho
    rw [Int.compare_eq_gt.2 hlt] at hg
    obtain ⟨t1, t2, t3, f, q1, q2, q3, e1, e2, e3, e4, hS, a1, a2, a3, g1, g2, g3, hH⟩ := upTo vt (by omega) (by omega) b1 b2 b3 vb hlt
    obtain ⟨f1, f2, f3⟩ := fin q1 q2 q3 g1 g2 g3
    have hbr := brighten f _ _ _ _ q1 q2 q3 hP ⟨a1, a2, a3, b1, b2, b3, g1, g2, g3⟩
    rw [f1] at hbr
    refine ⟨_, t, f2, ht1, ht2, by rw [f3]; exact hH, fun h1 h2 => by have := htn h1 h2; omega, ?_⟩
    exact clamp_up _ hc lo hi _ r1 r2 r3 tg t1 t2 t3 f _ _ _ _ hs (by show (Ieee.double.order _ _ == _) = _; rw [ho]; rfl) (by show (Ieee.double.order _ _ == _) = _; rw [hg]; rfl) b1 b2 b3 hP e1 e2 e3 e4 hB hbr
  · subst heq
    rw [Int.compare_eq_eq.2 rfl] at ho
    refine ⟨n, _, hn, ht1, ht2, held_self (by unfold sumP; omega) vb, fun _ _ => rfl, ?_⟩
    exact clamp_same _ hc lo hi _ r1 r2 r3 tg hs (by show (Ieee.double.order _ _ == _) = _; rw [ho]; rfl) hB
  · rw [Int.compare_eq_gt.2 hgt] at ho
    rw [Int.compare_eq_lt.2 hgt] at hg
    obtain ⟨t1, t2, t3, f, q1, q2, q3, e1, e2, e3, e4, hS, a1, a2, a3, g1, g2, g3, hH⟩ := downTo vt (by omega) (by omega) b1 b2 b3 vb hgt
    obtain ⟨f1, f2, f3⟩ := fin q1 q2 q3 g1 g2 g3
    have hbr := brighten f _ _ _ _ q1 q2 q3 hP ⟨a1, a2, a3, b1, b2, b3, g1, g2, g3⟩
    rw [f1] at hbr
    refine ⟨_, t, f2, ht1, ht2, by rw [f3]; exact hH, fun h1 h2 => by have := htn h1 h2; omega, ?_⟩
    exact clamp_down _ hc lo hi _ r1 r2 r3 tg t1 t2 t3 f _ _ _ _ hs (by show (Ieee.double.order _ _ == _) = _; rw [ho]; rfl) (by show (Ieee.double.order _ _ == _) = _; rw [hg]; rfl) b1 b2 b3 hP e1 e2 e3 e4 hB hbr
set_option maxHeartbeats 4000000 in
theorem implClamp (c lo hi x : Int) (h : ∀ w, Calls Tryd.prog 13 #[.int .i32 c, .float .f64 lo.toNat, .float .f64 hi.toNat] w fun e w' => e = .returned (.int .i32 x) ∧ Below w.heap.size w w') (w : World) :
    Calls Tryd.prog 8 #[.int .i32 c, .int .u64 lo, .int .u64 hi] w fun e w' => e = .returned (.int .i32 x) ∧ Below w.heap.size w w' := by
  have f1 := run_frombits lo
  have f2 := run_frombits hi
  have k := Aside0.mk h
  clear h
  go_enter Tryd.func8, Tryd.ntmps8
  go_wp2_with (go_at_call 13; refine (k.out _).mono ?_; rintro e w1 ⟨rfl, hB1⟩)
  go_ret
  exact ⟨rfl, hB1⟩
set_option maxHeartbeats 4000000 in
theorem implIsSet (c : Int) (w : World) : Calls Tryd.prog 9 #[.int .i32 c] w fun e w' => e = .returned (.bool (c != 0)) ∧ w' = w := by
  have k := Aside0.mk (isSet_c c)
  generalize (c != 0) = z at *
  go_enter Tryd.func9, Tryd.ntmps9
  go_wp2_with (go_at_call 14; refine (k.out _).mono ?_; rintro e w1 ⟨rfl, rfl⟩)
  go_ret
  exact ⟨rfl, rfl⟩
set_option maxRecDepth 100000 in
set_option maxHeartbeats 8000000 in
theorem law_main (c x lo hi : Int) (B B' lo' hi' : Nat) (z1 z2 : Bool)
    (hp : ∀ w, Calls Tryd.prog 4 #[.int .i32 c] w fun e w' => e = .returned (.bool true) ∧ Drawn0 w w')
    (hu1 : ∀ w, Calls Tryd.prog 5 #[.int .u64 lo, .float .f64 0, .float .f64 4607182418800017408] w fun e w' => e = .returned (.bool true) ∧ w' = w)
    (hu2 : ∀ w, Calls Tryd.prog 5 #[.int .u64 hi, .float .f64 0, .float .f64 4607182418800017408] w fun e w' => e = .returned (.bool true) ∧ w' = w)
    (hg : (FloatKind.f64.format.order lo.toNat hi.toNat == some Ordering.gt) = false)
    (hb : ∀ w, Calls Tryd.prog 7 #[.int .i32 c] w fun e w' => e = .returned (.int .u64 B) ∧ Below w.heap.size w w')
    (hx : ∀ w, Calls Tryd.prog 7 #[.int .i32 x] w fun e w' => e = .returned (.int .u64 B') ∧ Below w.heap.size w w')
    (hc : ∀ w, Calls Tryd.prog 8 #[.int .i32 c, .int .u64 lo, .int .u64 hi] w fun e w' => e = .returned (.int .i32 x) ∧ Below w.heap.size w w')
    (hi0 : (x != 0) = true)
    (hz1 : (FloatKind.f64.format.order B lo.toNat == some Ordering.gt || FloatKind.f64.format.order B lo.toNat == some Ordering.eq) = z1)
    (hz2 : (FloatKind.f64.format.order B hi.toNat == some Ordering.lt || FloatKind.f64.format.order B hi.toNat == some Ordering.eq) = z2)
    (hxc : z1 = true → z2 = true → (x != c) = false)
    (hs : Ieee.double.sub lo.toNat 4571261708172110332 = some lo') (ha : Ieee.double.add hi.toNat 4571261708172110332 = some hi')
    (g1 : (FloatKind.f64.format.order B' lo' == some Ordering.gt || FloatKind.f64.format.order B' lo' == some Ordering.eq) = true)
    (g2 : (FloatKind.f64.format.order B' hi' == some Ordering.lt || FloatKind.f64.format.order B' hi' == some Ordering.eq) = true)
    (w : World) (hV : Go.Proofs.YtfpmnkmclbembaaDoorFmt.VarsOK w) :
    Calls Tryd.prog 3 #[.int .i32 c, .int .u64 lo, .int .u64 hi] w fun e w' => e = .returned (.bool true) ∧ Below w.heap.size w w' := by
  have kp := Aside0.mk hp
  have ku1 := Aside0.mk hu1
  have ku2 := Aside0.mk hu2
  have kb := Aside0.mk hb
  have kx := Aside0.mk hx
  have kc := Aside0.mk hc
  have ki := Aside0.mk (implIsSet x)
  rw [hi0] at ki
  have hV' := Aside0.mk hV
  have f1 := run_frombits lo
  have f2 := run_frombits hi
  have f3 := run_frombits (B : Int)
  have f4 := run_frombits (B' : Int)
  rw [Int.toNat_natCast] at f3 f4
  have e1 := fsub hs
  have e2 := fadd ha
  clear hp hu1 hu2 hb hx hc hi0 hV hs ha
  generalize lo.toNat = ln at *
  generalize hi.toNat = hn at *
  cases z1 with
  | false =>
    clear hxc
    go_enter Tryd.func3, Tryd.ntmps3
    go_wp2_with (first | (go_at_call 4; refine (kp.out _).mono ?_; rintro e w1 ⟨rfl, ⟨nd, rfl⟩⟩) | (go_at_call 5; (with_reducible first | refine (ku1.out _).mono ?_ | refine (ku2.out _).mono ?_); rintro e w2 ⟨rfl, rfl⟩) | (go_at_call 7; (with_reducible first | refine (kb.out _).mono ?_ | refine (kx.out _).mono ?_); rintro e w3 ⟨rfl, hB⟩) | (go_at_call 8; refine (kc.out _).mono ?_; rintro e w3 ⟨rfl, hB⟩) | (go_at_call 9; refine (ki.out _).mono ?_; rintro e w3 ⟨rfl, rfl⟩) | (go_at_call 10; refine (coloured_c _ (hV'.out.below (by repeat (first | exact Below.refl _ _ | apply pw_below_drewN | refine below_step ?_ (by assumption))))).mono ?_; rintro e w5 ⟨rfl, hB⟩))
    go_ret
    exact ⟨rfl, (by repeat (first | exact Below.refl _ _ | apply pw_below_drewN | refine below_step ?_ (by assumption)))⟩
  | true =>
    cases z2 with
    | false =>
      clear hxc
      go_enter Tryd.func3, Tryd.ntmps3
      go_wp2_with (first | (go_at_call 4; refine (kp.out _).mono ?_; rintro e w1 ⟨rfl, ⟨nd, rfl⟩⟩) | (go_at_call 5; (with_reducible first | refine (ku1.out _).mono ?_ | refine (ku2.out _).mono ?_); rintro e w2 ⟨rfl, rfl⟩) | (go_at_call 7; (with_reducible first | refine (kb.out _).mono ?_ | refine (kx.out _).mono ?_); rintro e w3 ⟨rfl, hB⟩) | (go_at_call 8; refine (kc.out _).mono ?_; rintro e w3 ⟨rfl, hB⟩) | (go_at_call 9; refine (ki.out _).mono ?_; rintro e w3 ⟨rfl, rfl⟩) | (go_at_call 10; refine (coloured_c _ (hV'.out.below (by repeat (first | exact Below.refl _ _ | apply pw_below_drewN | refine below_step ?_ (by assumption))))).mono ?_; rintro e w5 ⟨rfl, hB⟩))
      go_ret
      exact ⟨rfl, (by repeat (first | exact Below.refl _ _ | apply pw_below_drewN | refine below_step ?_ (by assumption)))⟩
    | true =>
      have hxc := hxc rfl rfl
      go_enter Tryd.func3, Tryd.ntmps3
      go_wp2_with (first | (go_at_call 4; refine (kp.out _).mono ?_; rintro e w1 ⟨rfl, ⟨nd, rfl⟩⟩) | (go_at_call 5; (with_reducible first | refine (ku1.out _).mono ?_ | refine (ku2.out _).mono ?_); rintro e w2 ⟨rfl, rfl⟩) | (go_at_call 7; (with_reducible first | refine (kb.out _).mono ?_ | refine (kx.out _).mono ?_); rintro e w3 ⟨rfl, hB⟩) | (go_at_call 8; refine (kc.out _).mono ?_; rintro e w3 ⟨rfl, hB⟩) | (go_at_call 9; refine (ki.out _).mono ?_; rintro e w3 ⟨rfl, rfl⟩) | (go_at_call 10; refine (coloured_c _ (hV'.out.below (by repeat (first | exact Below.refl _ _ | apply pw_below_drewN | refine below_step ?_ (by assumption))))).mono ?_; rintro e w5 ⟨rfl, hB⟩))
      go_ret
      exact ⟨rfl, (by repeat (first | exact Below.refl _ _ | apply pw_below_drewN | refine below_step ?_ (by assumption)))⟩
set_option maxRecDepth 100000 in
set_option maxHeartbeats 8000000 in
theorem law_early (c lo hi : Int) (p u1 u2 g : Bool) (hall : (p && u1 && u2 && !g) = false)
    (hp : ∀ w, Calls Tryd.prog 4 #[.int .i32 c] w fun e w' => e = .returned (.bool p) ∧ Drawn0 w w')
    (hu1 : ∀ w, Calls Tryd.prog 5 #[.int .u64 lo, .float .f64 0, .float .f64 4607182418800017408] w fun e w' => e = .returned (.bool u1) ∧ w' = w)
    (hu2 : ∀ w, Calls Tryd.prog 5 #[.int .u64 hi, .float .f64 0, .float .f64 4607182418800017408] w fun e w' => e = .returned (.bool u2) ∧ w' = w)
    (hg : (FloatKind.f64.format.order lo.toNat hi.toNat == some Ordering.gt) = g) (w : World) :
    Calls Tryd.prog 3 #[.int .i32 c, .int .u64 lo, .int .u64 hi] w fun e w' => e = .returned (.bool true) ∧ Below w.heap.size w w' := by
  have kp := Aside0.mk hp
  have ku1 := Aside0.mk hu1
  have ku2 := Aside0.mk hu2
  have f1 := run_frombits lo
  have f2 := run_frombits hi
  clear hp hu1 hu2
  generalize lo.toNat = ln at *
  generalize hi.toNat = hn at *
  cases p with
  | false =>
    clear hall hg
    go_enter Tryd.func3, Tryd.ntmps3
    go_wp2_with (first | (go_at_call 4; refine (kp.out _).mono ?_; rintro e w1 ⟨rfl, ⟨nd, rfl⟩⟩) | (go_at_call 5; (with_reducible first | refine (ku1.out _).mono ?_ | refine (ku2.out _).mono ?_); rintro e w2 ⟨rfl, rfl⟩))
    all_goals go_ret
    all_goals exact ⟨rfl, by repeat (first | exact Below.refl _ _ | apply pw_below_drewN)⟩
  | true =>
    cases u1 with
    | false =>
      clear hall hg
      go_enter Tryd.func3, Tryd.ntmps3
      go_wp2_with (first | (go_at_call 4; refine (kp.out _).mono ?_; rintro e w1 ⟨rfl, ⟨nd, rfl⟩⟩) | (go_at_call 5; (with_reducible first | refine (ku1.out _).mono ?_ | refine (ku2.out _).mono ?_); rintro e w2 ⟨rfl, rfl⟩))
      all_goals go_ret
      all_goals exact ⟨rfl, by repeat (first | exact Below.refl _ _ | apply pw_below_drewN)⟩
    | true =>
      cases u2 with
      | false =>
        clear hall hg
        go_enter Tryd.func3, Tryd.ntmps3
        go_wp2_with (first | (go_at_call 4; refine (kp.out _).mono ?_; rintro e w1 ⟨rfl, ⟨nd, rfl⟩⟩) | (go_at_call 5; (with_reducible first | refine (ku1.out _).mono ?_ | refine (ku2.out _).mono ?_); rintro e w2 ⟨rfl, rfl⟩))
        all_goals go_ret
        all_goals exact ⟨rfl, by repeat (first | exact Below.refl _ _ | apply pw_below_drewN)⟩
      | true =>
        cases g with
        | false => cases hall
        | true =>
          clear hall
          go_enter Tryd.func3, Tryd.ntmps3
          go_wp2_with (first | (go_at_call 4; refine (kp.out _).mono ?_; rintro e w1 ⟨rfl, ⟨nd, rfl⟩⟩) | (go_at_call 5; (with_reducible first | refine (ku1.out _).mono ?_ | refine (ku2.out _).mono ?_); rintro e w2 ⟨rfl, rfl⟩))
          all_goals go_ret
          all_goals exact ⟨rfl, by repeat (first | exact Below.refl _ _ | apply pw_below_drewN)⟩
theorem lawClamp (c lo hi : Int) (w : World) (hV : Go.Proofs.YtfpmnkmclbembaaDoorFmt.VarsOK w) :
    Calls Tryd.prog 3 #[.int .i32 c, .int .u64 lo, .int .u64 hi] w fun e w' => e = .returned (.bool true) ∧ Below w.heap.size w w' := by
  have kp := plain_c c
  have ku1 := unit_c lo 0 4607182418800017408
  have ku2 := unit_c hi 0 4607182418800017408
  cases hall : ((decide (1 ≤ c) && decide (c ≤ 16777216)) && unitB lo.toNat 0 4607182418800017408 && unitB hi.toNat 0 4607182418800017408 && !(FloatKind.f64.format.order lo.toNat hi.toNat == some Ordering.gt)) with
  | false => exact law_early c lo hi _ _ _ _ hall kp ku1 ku2 rfl w
  | true =>
    rw [Bool.and_eq_true, Bool.and_eq_true, Bool.and_eq_true, Bool.not_eq_true'] at hall
    obtain ⟨⟨⟨hp, h1⟩, h2⟩, hg⟩ := hall
    rw [hp] at kp
    rw [h1] at ku1
    rw [h2] at ku2
    obtain ⟨n, rfl⟩ : ∃ n : Nat, c = (n : Int) + 1 := by
      simp only [Bool.and_eq_true, decide_eq_true_eq] at hp
      exact ⟨(c - 1).toNat, by omega⟩
    have hn : n < 16777216 := by simp only [Bool.and_eq_true, decide_eq_true_eq] at hp; omega
    unfold unitB at h1 h2
    rw [Bool.and_eq_true] at h1 h2
    obtain ⟨l, vl, l0, l1⟩ := unit_va h1.1 h1.2
    obtain ⟨h, vh, h0, hU⟩ := unit_va h2.1 h2.2
    have lh : l ≤ h := by
      have hg' : (Ieee.double.order lo.toNat hi.toNat == some Ordering.gt) = false := hg
      rw [order_va vl vh] at hg'
      rcases Int.lt_or_le h l with hh | hh
      · rw [Int.compare_eq_gt.2 hh] at hg'; cases hg'
      · exact hh
    have hS : sumP n ≤ 765 := by unfold sumP; omega
    obtain ⟨b, vb, _, _, _⟩ := br_va (sumP n) hS
    obtain ⟨m, t, hm, ht1, ht2, hH, hmn, hcl⟩ := clamp_c n hn lo.toNat hi.toNat l h b vl vh vb l0 lh hU
    have hQ : sumP m ≤ 765 := by unfold sumP; omega
    obtain ⟨lo', hi', s1, s2, g1, g2⟩ := held_tests vl vh l0 ht1 ht2 hU hQ hH
    refine law_main _ ((m : Int) + 1) lo hi (Br (sumP n)) (Br (sumP m)) lo' hi' _ _ kp ku1 ku2 hg
      (implBr _ _ _ _ (parts_of n hn) (by omega) (by omega) (by omega)) (implBr _ _ _ _ (parts_of m hm) (by omega) (by omega) (by omega))
      (implClamp _ lo hi _ hcl) (bne_iff_ne.2 (by omega)) rfl rfl (fun z1 z2 => ?_) s1 s2 g1 g2 w hV
    have := hmn (ge_of vb vl z1) (le_of vb vh z2)
    rw [this]
    simp
end Go.Proofs.YtfpmnkmclbembaaDoorFlt
