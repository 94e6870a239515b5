/- The law FnColourDistance, by a walk. -/
import Derived.Test.YthpfcofkhchkcaaDoorFlt2
import Derived.Test.YthpfcofkhchkcaaDoorSqrt
set_option linter.unusedVariables false
set_option linter.unusedSimpArgs false
namespace Go.Proofs.YthpfcofkhchkcaaDoorFlt
open Go.RowKit Go.Proofs.YthpfcofkhchkcaaDoorW.PrintWords Go.Proofs.YthpfcofkhchkcaaDoorIeee Go.Proofs.YthpfcofkhchkcaaDoor
theorem run_sqrt (x z : Nat) (h : Ieee.double.sqrt x = some z) (w : World) : (callFunc 57 #[.float .f64 x]).run Tryd.prog w = .ok (.value (.float .f64 z)) w := by
  rw [run_callFunc_extern (P := Tryd.prog) (e := Extern.MathSqrt.sqrt) Tryd.func57 (by decide +kernel) rfl (by rfl) (by rfl)]
  have : (Extern.MathSqrt.sqrt #[.float .f64 x]).run Tryd.prog w = .ok (.float .f64 z) w := by
    have h' : FloatKind.f64.format.sqrt x = some z := h
    change Sem.run Tryd.prog (match FloatKind.f64.format.sqrt x with | some r => pure (Value.float .f64 r) | none => do pure (Value.float .f64 (← choose (.nanBits .f64 x x)))) w = _
    rw [h']
    rfl
  rw [this]; rfl
theorem sqrt_c (x z : Nat) (h : Ieee.double.sqrt x = some z) (w : World) : Calls Tryd.prog 50 #[.float .f64 x] w fun e w' => e = .returned (.float .f64 z) ∧ w' = w := by
  have hs := run_sqrt x z h
  clear h
  go_enter Tryd.func50, Tryd.ntmps50
  go_wp2_with fail
  go_ret
  exact ⟨rfl, rfl⟩
/-- The sum under the root. -/
def E (m x y z : Int) : Int := (512 + m) * (x * x) / 256 + 4 * (y * y) + (767 - m) * (z * z) / 256
theorem sq_b {x : Int} (h1 : -255 ≤ x) (h2 : x ≤ 255) : 0 ≤ x * x ∧ x * x ≤ 65025 := by
  have e : x * x = ((x.natAbs * x.natAbs : Nat) : Int) := (Int.natAbs_mul_self).symm
  have h3 : x.natAbs * x.natAbs ≤ 255 * 255 := Nat.mul_le_mul (by omega) (by omega)
  rw [e]
  generalize x.natAbs * x.natAbs = q at h3
  omega
theorem am_b {a x : Int} (h0 : 0 ≤ a) (ha : a ≤ 1000) (h1 : -255 ≤ x) (h2 : x ≤ 255) : -255000 ≤ a * x ∧ a * x ≤ 255000 := by
  have u : a * x ≤ a * 255 := Int.mul_le_mul_of_nonneg_left h2 h0
  have l : a * (-255) ≤ a * x := Int.mul_le_mul_of_nonneg_left h1 h0
  omega
theorem ax_b {a X : Int} (h0 : 0 ≤ a) (h1 : 0 ≤ X) (h2 : X ≤ 65025) : 0 ≤ a * X ∧ a * X ≤ a * 65025 :=
  ⟨Int.mul_nonneg h0 h1, Int.mul_le_mul_of_nonneg_left h2 h0⟩
theorem E_eq {m x y z : Int} (hm0 : 0 ≤ m) (hm1 : m ≤ 255) (x1 : -255 ≤ x) (x2 : x ≤ 255) (y1 : -255 ≤ y) (y2 : y ≤ 255) (z1 : -255 ≤ z) (z2 : z ≤ 255) :
    wrap64 (wrap64 (wrap64 (wrap64 ((512 + m) * x) * x) / 256 + wrap64 (4 * y * y)) + wrap64 (wrap64 ((767 - m) * z) * z) / 256) = E m x y z ∧ 0 ≤ E m x y z ∧ E m x y z ≤ 585225 := by
  obtain ⟨X0, X1⟩ := sq_b x1 x2
  obtain ⟨Y0, Y1⟩ := sq_b y1 y2
  obtain ⟨Z0, Z1⟩ := sq_b z1 z2
  obtain ⟨a1, a2⟩ := am_b (a := 512 + m) (by omega) (by omega) x1 x2
  obtain ⟨c1, c2⟩ := am_b (a := 767 - m) (by omega) (by omega) z1 z2
  obtain ⟨A0, A1⟩ := ax_b (a := 512 + m) (by omega) X0 X1
  obtain ⟨C0, C1⟩ := ax_b (a := 767 - m) (by omega) Z0 Z1
  have w1 : wrap64 ((512 + m) * x) = (512 + m) * x := by
    generalize (512 + m) * x = q at a1 a2; unfold wrap64; omega
  have w2 : wrap64 ((767 - m) * z) = (767 - m) * z := by
    generalize (767 - m) * z = q at c1 c2; unfold wrap64; omega
  have e1 : (512 + m) * x * x = (512 + m) * (x * x) := Int.mul_assoc _ _ _
  have e2 : (767 - m) * z * z = (767 - m) * (z * z) := Int.mul_assoc _ _ _
  have e3 : 4 * y * y = 4 * (y * y) := Int.mul_assoc _ _ _
  rw [w1, w2, e1, e2, e3]
  unfold E
  clear w1 w2 e1 e2 e3 a1 a2 c1 c2
  generalize (512 + m) * (x * x) = A at A0 A1 ⊢
  generalize (767 - m) * (z * z) = C at C0 C1 ⊢
  generalize y * y = Y at Y0 Y1 ⊢
  have A2 : A ≤ 50000000 := by omega
  have C2 : C ≤ 50000000 := by omega
  have v1 : wrap64 A = A := by clear C0 C1 C2 A1; unfold wrap64; omega
  have v2 : wrap64 C = C := by clear A0 A1 A2 C1 v1; unfold wrap64; omega
  have v3 : wrap64 (4 * Y) = 4 * Y := by clear A0 A1 A2 C0 C1 C2 v1 v2; unfold wrap64; omega
  rw [v1, v2, v3]
  have v4 : wrap64 (A / 256 + 4 * Y) = A / 256 + 4 * Y := by clear A1 C0 C1 C2 v1 v2 v3; unfold wrap64; omega
  rw [v4]
  have v5 : wrap64 (A / 256 + 4 * Y + C / 256) = A / 256 + 4 * Y + C / 256 := by clear A1 C1 v1 v2 v3 v4; unfold wrap64; omega
  rw [v5]
  clear v1 v2 v3 v4 v5
  refine ⟨rfl, by omega, by omega⟩
theorem E_eq2 {m x y z : Int} (hm0 : 0 ≤ m) (hm1 : m ≤ 255) (x1 : -255 ≤ x) (x2 : x ≤ 255) (y1 : -255 ≤ y) (y2 : y ≤ 255) (z1 : -255 ≤ z) (z2 : z ≤ 255) :
    wrap64 (wrap64 (wrap64 ((wrap64 (wrap64 ((512 + m) * x) * x)).tdiv 256) + wrap64 (4 * y * y)) + wrap64 ((wrap64 (wrap64 ((767 - m) * z) * z)).tdiv 256)) = E m x y z := by
  obtain ⟨X0, X1⟩ := sq_b x1 x2
  obtain ⟨Y0, Y1⟩ := sq_b y1 y2
  obtain ⟨Z0, Z1⟩ := sq_b z1 z2
  obtain ⟨a1, a2⟩ := am_b (a := 512 + m) (by omega) (by omega) x1 x2
  obtain ⟨c1, c2⟩ := am_b (a := 767 - m) (by omega) (by omega) z1 z2
  obtain ⟨A0, A1⟩ := ax_b (a := 512 + m) (by omega) X0 X1
  obtain ⟨C0, C1⟩ := ax_b (a := 767 - m) (by omega) Z0 Z1
  have w1 : wrap64 ((512 + m) * x) = (512 + m) * x := by
    generalize (512 + m) * x = q at a1 a2; unfold wrap64; omega
  have w2 : wrap64 ((767 - m) * z) = (767 - m) * z := by
    generalize (767 - m) * z = q at c1 c2; unfold wrap64; omega
  have e1 : (512 + m) * x * x = (512 + m) * (x * x) := Int.mul_assoc _ _ _
  have e2 : (767 - m) * z * z = (767 - m) * (z * z) := Int.mul_assoc _ _ _
  have e3 : 4 * y * y = 4 * (y * y) := Int.mul_assoc _ _ _
  rw [w1, w2, e1, e2, e3]
  unfold E
  clear w1 w2 e1 e2 e3 a1 a2 c1 c2
  generalize (512 + m) * (x * x) = A at A0 A1 ⊢
  generalize (767 - m) * (z * z) = C at C0 C1 ⊢
  generalize y * y = Y at Y0 Y1 ⊢
  have A2 : A ≤ 50000000 := by omega
  have C2 : C ≤ 50000000 := by omega
  have v1 : wrap64 A = A := by clear C0 C1 C2 A1; unfold wrap64; omega
  have v2 : wrap64 C = C := by clear A0 A1 A2 C1 v1; unfold wrap64; omega
  have v3 : wrap64 (4 * Y) = 4 * Y := by clear A0 A1 A2 C0 C1 C2 v1 v2; unfold wrap64; omega
  have t1 : A.tdiv 256 = A / 256 := Int.tdiv_eq_ediv_of_nonneg A0
  have t2 : C.tdiv 256 = C / 256 := Int.tdiv_eq_ediv_of_nonneg C0
  have u1 : wrap64 (A / 256) = A / 256 := by clear C0 C1 C2 A1 v1 v2 v3 t1 t2; unfold wrap64; omega
  have u2 : wrap64 (C / 256) = C / 256 := by clear A0 A1 A2 C1 v1 v2 v3 t1 t2 u1; unfold wrap64; omega
  rw [v1, v2, v3, t1, t2, u1, u2]
  clear t1 t2 u1 u2
  have v4 : wrap64 (A / 256 + 4 * Y) = A / 256 + 4 * Y := by clear A1 C0 C1 C2 v1 v2 v3; unfold wrap64; omega
  rw [v4]
  have v5 : wrap64 (A / 256 + 4 * Y + C / 256) = A / 256 + 4 * Y + C / 256 := by clear A1 C1 v1 v2 v3 v4; unfold wrap64; omega
  rw [v5]
set_option maxHeartbeats 4000000 in
theorem distance (c d : Int) (p1 p2 p3 r1 r2 r3 : Int) (z : Nat) (hc : ∀ w, Calls Tryd.prog 40 #[.int .i32 c] w fun e w' => e = .returned (.int .u8 p1) ∧ Drawn0 w w') (w : World)
   (hc2 : ∀ w, Calls Tryd.prog 41 #[.int .i32 c] w fun e w' => e = .returned (.int .u8 p2) ∧ Drawn0 w w')
   (hc3 : ∀ w, Calls Tryd.prog 42 #[.int .i32 c] w fun e w' => e = .returned (.int .u8 p3) ∧ Drawn0 w w')
   (hd : ∀ w, Calls Tryd.prog 40 #[.int .i32 d] w fun e w' => e = .returned (.int .u8 r1) ∧ Drawn0 w w')
   (hd2 : ∀ w, Calls Tryd.prog 41 #[.int .i32 d] w fun e w' => e = .returned (.int .u8 r2) ∧ Drawn0 w w')
   (hd3 : ∀ w, Calls Tryd.prog 42 #[.int .i32 d] w fun e w' => e = .returned (.int .u8 r3) ∧ Drawn0 w w')
   (b1 : 0 ≤ p1) (b2 : p1 ≤ 255) (b3 : 0 ≤ p2) (b4 : p2 ≤ 255) (b5 : 0 ≤ p3) (b6 : p3 ≤ 255) (b7 : 0 ≤ r1) (b8 : r1 ≤ 255) (b9 : 0 ≤ r2) (b10 : r2 ≤ 255) (b11 : 0 ≤ r3) (b12 : r3 ≤ 255) (hz : Ieee.double.sqrt (floatOfInt .f64 (E ((p1 + r1) / 2) (p1 - r1) (p2 - r2) (p3 - r3))) = some z) :
    Calls Tryd.prog 48 #[.int .i32 c, .int .i32 d] w fun e w' => e = .returned (.float .f64 z) ∧ Below w.heap.size w w' := by
  have k1 := Aside0.mk hc
  have k2 := Aside0.mk hc2
  have k3 := Aside0.mk hc3
  have l1 := Aside0.mk hd
  have l2 := Aside0.mk hd2
  have l3 := Aside0.mk hd3
  clear hc hc2 hc3 hd hd2 hd3
  obtain ⟨hE, _, _⟩ := E_eq (m := (p1 + r1) / 2) (x := p1 - r1) (y := p2 - r2) (z := p3 - r3) (by omega) (by omega) (by omega) (by omega) (by omega) (by omega) (by omega) (by omega)
  rw [← hE] at hz
  have ks := Aside0.mk (sqrt_c _ z hz)
  clear hE hz
  go_enter Tryd.func48, Tryd.ntmps48
  go_wp2_with (first | (go_at_call 40; (with_reducible first | refine (k1.out _).mono ?_ | refine (l1.out _).mono ?_); rintro e w' ⟨rfl, ⟨nd, rfl⟩⟩) | (go_at_call 41; (with_reducible first | refine (k2.out _).mono ?_ | refine (l2.out _).mono ?_); rintro e w' ⟨rfl, ⟨nd, rfl⟩⟩) | (go_at_call 42; (with_reducible first | refine (k3.out _).mono ?_ | refine (l3.out _).mono ?_); rintro e w' ⟨rfl, ⟨nd, rfl⟩⟩) | (go_at_call 50; refine (ks.out _).mono ?_; rintro e w' ⟨rfl, rfl⟩))
  go_ret
  exact ⟨rfl, by repeat (first | exact Below.refl _ _ | apply pw_below_drewN)⟩
set_option maxHeartbeats 4000000 in
theorem implD (c d : Int) (z : Nat) (h : ∀ w, Calls Tryd.prog 48 #[.int .i32 c, .int .i32 d] w fun e w' => e = .returned (.float .f64 z) ∧ Below w.heap.size w w') (w : World) :
    Calls Tryd.prog 31 #[.int .i32 c, .int .i32 d] w fun e w' => e = .returned (.int .u64 (z : Int)) ∧ Below w.heap.size w w' := by
  have k := Aside0.mk h
  have hb := run_bits z
  clear h
  go_enter Tryd.func31, Tryd.ntmps31
  go_wp2_with (go_at_call 48; refine (k.out _).mono ?_; rintro e w' ⟨rfl, hB⟩)
  go_ret
  exact ⟨rfl, hB⟩
set_option maxHeartbeats 4000000 in
theorem specD (c d : Int) (p1 p2 p3 r1 r2 r3 : Int) (z : Nat)
   (hc : ∀ w, Calls Tryd.prog 49 #[.int .i32 c] w fun e w' => e = .returned (.tuple #[.int .u8 p1, .int .u8 p2, .int .u8 p3]) ∧ Drawn0 w w')
   (hd : ∀ w, Calls Tryd.prog 49 #[.int .i32 d] w fun e w' => e = .returned (.tuple #[.int .u8 r1, .int .u8 r2, .int .u8 r3]) ∧ Drawn0 w w')
   (b1 : 0 ≤ p1) (b2 : p1 ≤ 255) (b3 : 0 ≤ p2) (b4 : p2 ≤ 255) (b5 : 0 ≤ p3) (b6 : p3 ≤ 255) (b7 : 0 ≤ r1) (b8 : r1 ≤ 255) (b9 : 0 ≤ r2) (b10 : r2 ≤ 255) (b11 : 0 ≤ r3) (b12 : r3 ≤ 255) (hz : Ieee.double.sqrt (floatOfInt .f64 (E ((p1 + r1) / 2) (p1 - r1) (p2 - r2) (p3 - r3))) = some z) (w : World) :
    Calls Tryd.prog 32 #[.int .i32 c, .int .i32 d] w fun e w' => e = .returned (.int .u64 (z : Int)) ∧ Below w.heap.size w w' := by
  have k1 := Aside0.mk hc
  have l1 := Aside0.mk hd
  clear hc hd
  have hb := run_bits z
  have hE := E_eq2 (m := (p1 + r1) / 2) (x := p1 - r1) (y := p2 - r2) (z := p3 - r3) (by omega) (by omega) (by omega) (by omega) (by omega) (by omega) (by omega) (by omega)
  rw [← hE] at hz
  have ks := Aside0.mk (sqrt_c _ z hz)
  clear hE hz
  go_enter Tryd.func32, Tryd.ntmps32
  go_wp2_with (first | (go_at_call 49; (with_reducible first | refine (k1.out _).mono ?_ | refine (l1.out _).mono ?_); rintro e w' ⟨rfl, ⟨nd, rfl⟩⟩) | (go_at_call 50; refine (ks.out _).mono ?_; rintro e w' ⟨rfl, rfl⟩))
  go_ret
  exact ⟨rfl, by repeat (first | exact Below.refl _ _ | apply pw_below_drewN)⟩
theorem E_symm (p1 p2 p3 r1 r2 r3 : Int) : E ((r1 + p1) / 2) (r1 - p1) (r2 - p2) (r3 - p3) = E ((p1 + r1) / 2) (p1 - r1) (p2 - r2) (p3 - r3) := by
  have n : ∀ a b : Int, (a - b) * (a - b) = (b - a) * (b - a) := fun a b => by
    rw [← Int.neg_sub b a, Int.neg_mul_neg]
  unfold E
  rw [n r1 p1, n r2 p2, n r3 p3, Int.add_comm r1 p1]
theorem E_same (m p1 p2 p3 : Int) : E m (p1 - p1) (p2 - p2) (p3 - p3) = 0 := by
  unfold E
  rw [Int.sub_self, Int.sub_self, Int.sub_self]
  simp
set_option maxHeartbeats 8000000 in
set_option maxRecDepth 100000 in
theorem lawDistance (c d : Int) (w : World) (hV : Go.Proofs.YthpfcofkhchkcaaDoorFmt.VarsOK w) :
    Calls Tryd.prog 12 #[.int .i32 c, .int .i32 d] w fun e w' => e = .returned (.bool true) ∧ Below w.heap.size w w' := by
  have kp := Aside0.mk (plain_c c)
  have kq := Aside0.mk (plain_c d)
  have hV' := Aside0.mk hV
  clear hV
  by_cases hp : (decide (1 ≤ c) && decide (c ≤ 16777216)) = true
  · by_cases hq : (decide (1 ≤ d) && decide (d ≤ 16777216)) = true
    · obtain ⟨n, rfl⟩ : ∃ n : Nat, c = (n : Int) + 1 := by
        simp only [Bool.and_eq_true, decide_eq_true_eq] at hp
        exact ⟨(c - 1).toNat, by omega⟩
      have hn : n < 16777216 := by simp only [Bool.and_eq_true, decide_eq_true_eq] at hp; omega
      obtain ⟨k, rfl⟩ : ∃ k : Nat, d = (k : Int) + 1 := by
        simp only [Bool.and_eq_true, decide_eq_true_eq] at hq
        exact ⟨(d - 1).toNat, by omega⟩
      have hk : k < 16777216 := by simp only [Bool.and_eq_true, decide_eq_true_eq] at hq; omega
      have a1 : n / 65536 ≤ 255 := by omega
      have a2 : n / 256 % 256 ≤ 255 := by omega
      have a3 : n % 256 ≤ 255 := by omega
      have d1 : k / 65536 ≤ 255 := by omega
      have d2 : k / 256 % 256 ≤ 255 := by omega
      have d3 : k % 256 ≤ 255 := by omega
      have P := parts_of n hn
      have Q := parts_of k hk
      have SP := specRGB n hn
      have SQ := specRGB k hk
      clear hn hk
      generalize n / 65536 = p1 at *
      generalize n / 256 % 256 = p2 at *
      generalize n % 256 = p3 at *
      generalize k / 65536 = r1 at *
      generalize k / 256 % 256 = r2 at *
      generalize k % 256 = r3 at *
      generalize hcn : ((n : Int) + 1) = c at *
      generalize hdk : ((k : Int) + 1) = d at *
      clear hcn hdk
      obtain ⟨_, e0, e1⟩ := E_eq (m := ((p1 : Int) + r1) / 2) (x := (p1 : Int) - r1) (y := (p2 : Int) - r2) (z := (p3 : Int) - r3) (by omega) (by omega) (by omega) (by omega) (by omega) (by omega) (by omega) (by omega)
      obtain ⟨N, hN⟩ : ∃ N : Nat, E (((p1 : Int) + r1) / 2) ((p1 : Int) - r1) ((p2 : Int) - r2) ((p3 : Int) - r3) = (N : Int) := ⟨(E (((p1 : Int) + r1) / 2) ((p1 : Int) - r1) ((p2 : Int) - r2) ((p3 : Int) - r3)).toNat, (Int.toNat_of_nonneg e0).symm⟩
      obtain ⟨z, hz, o1, o2⟩ := dist_ok (N := N) (by rw [hN] at e1; omega)
      rw [← hN] at hz
      have hz2 := hz
      rw [← E_symm] at hz2
      have hz3 : Ieee.double.sqrt (floatOfInt .f64 (E (((p1 : Int) + p1) / 2) ((p1 : Int) - p1) ((p2 : Int) - p2) ((p3 : Int) - p3))) = some 0 := by rw [E_same]; exact dist_zero
      have k1 := Aside0.mk (implD c d z (fun w => distance c d p1 p2 p3 r1 r2 r3 z P.r w P.g P.b Q.r Q.g Q.b (by omega) (by omega) (by omega) (by omega) (by omega) (by omega) (by omega) (by omega) (by omega) (by omega) (by omega) (by omega) hz))
      have k2 := Aside0.mk (implD d c z (fun w => distance d c r1 r2 r3 p1 p2 p3 z Q.r w Q.g Q.b P.r P.g P.b (by omega) (by omega) (by omega) (by omega) (by omega) (by omega) (by omega) (by omega) (by omega) (by omega) (by omega) (by omega) hz2))
      have k3 := Aside0.mk (implD c c 0 (fun w => distance c c p1 p2 p3 p1 p2 p3 0 P.r w P.g P.b P.r P.g P.b (by omega) (by omega) (by omega) (by omega) (by omega) (by omega) (by omega) (by omega) (by omega) (by omega) (by omega) (by omega) hz3))
      have ks := Aside0.mk (specD c d p1 p2 p3 r1 r2 r3 z SP SQ (by omega) (by omega) (by omega) (by omega) (by omega) (by omega) (by omega) (by omega) (by omega) (by omega) (by omega) (by omega) hz)
      have fr0 : ∀ w, (callFunc 24 #[.int .u64 ((0 : Nat) : Int)]).run Tryd.prog w = .ok (.value (.float .f64 0)) w := run_frombits 0
      have fr1 : ∀ w, (callFunc 24 #[.int .u64 0]).run Tryd.prog w = .ok (.value (.float .f64 0)) w := run_frombits 0
      have hz0 : (FloatKind.f64.format.order 0 0 == some Ordering.eq) = true := by decide +kernel
      have ku : Aside0 (∀ w, Calls Tryd.prog 25 #[.int .u64 (z : Int), .float .f64 0, .float .f64 4652007308841189376] w fun e w' => e = .returned (.bool true) ∧ w' = w) := ⟨fun w => by
        have := unit_c (z : Int) 0 4652007308841189376 w
        rw [Int.toNat_natCast] at this
        have hu : unitB z 0 4652007308841189376 = true := by unfold unitB; rw [o1, o2]; rfl
        rw [hu] at this; exact this⟩
      clear hz hz2 hz3 hN e0 e1 o1 o2 P Q SP SQ a1 a2 a3 d1 d2 d3
      go_enter Tryd.func12, Tryd.ntmps12
      go_wp2_with (first | (go_at_call 26; (with_reducible first | refine (kp.out _).mono ?_ | refine (kq.out _).mono ?_); rintro e w1 ⟨rfl, ⟨nd, rfl⟩⟩) | (go_at_call 25; refine (ku.out _).mono ?_; rintro e w2 ⟨rfl, rfl⟩) | (go_at_call 31; (with_reducible first | refine (k1.out _).mono ?_ | refine (k2.out _).mono ?_ | refine (k3.out _).mono ?_); rintro e w3 ⟨rfl, hB⟩) | (go_at_call 32; refine (ks.out _).mono ?_; rintro e w3 ⟨rfl, hB⟩) | (go_at_call 16; refine (coloured_c _ (hV'.out.below (by repeat (first | exact Below.refl _ _ | apply pw_below_drewN | refine below_step ?_ (by assumption))))).mono ?_; rintro e w5 ⟨rfl, hB⟩))
      go_ret
      exact ⟨rfl, (by repeat (first | exact Below.refl _ _ | apply pw_below_drewN | refine below_step ?_ (by assumption)))⟩
    · have hq0 : (decide (1 ≤ d) && decide (d ≤ 16777216)) = false := by simpa using hq
      clear hq
      generalize hpc : (decide (1 ≤ c) && decide (c ≤ 16777216)) = pc at *
      generalize hpd : (decide (1 ≤ d) && decide (d ≤ 16777216)) = pd at *
      subst hp hq0
      go_enter Tryd.func12, Tryd.ntmps12
      go_wp2_with (go_at_call 26; (with_reducible first | refine (kp.out _).mono ?_ | refine (kq.out _).mono ?_); rintro e w1 ⟨rfl, ⟨nd, rfl⟩⟩)
      go_ret
      exact ⟨rfl, by repeat (first | exact Below.refl _ _ | apply pw_below_drewN)⟩
  · have hp0 : (decide (1 ≤ c) && decide (c ≤ 16777216)) = false := by simpa using hp
    clear hp
    generalize hpc : (decide (1 ≤ c) && decide (c ≤ 16777216)) = pc at *
    subst hp0
    go_enter Tryd.func12, Tryd.ntmps12
    go_wp2_with (go_at_call 26; (with_reducible first | refine (kp.out _).mono ?_ | refine (kq.out _).mono ?_); rintro e w1 ⟨rfl, ⟨nd, rfl⟩⟩)
    all_goals go_ret
    all_goals exact ⟨rfl, by repeat (first | exact Below.refl _ _ | apply pw_below_drewN)⟩
end Go.Proofs.YthpfcofkhchkcaaDoorFlt
