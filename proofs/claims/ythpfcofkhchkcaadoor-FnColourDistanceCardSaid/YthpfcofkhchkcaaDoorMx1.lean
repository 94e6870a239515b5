-- WRITTEN BY OUR myprint.py, a program of this session's over the kit's printer
import Derived.Test.YthpfcofkhchkcaaDoorMx0
namespace Go.Proofs.YthpfcofkhchkcaaDoor.M
open Go.RowKit Go.Proofs.YthpfcofkhchkcaaDoorW.PrintWords Go.Proofs.YthpfcofkhchkcaaDoorW.PrintLast Go.Proofs.YthpfcofkhchkcaaDoorW.PrintMore
attribute [local go_sem] max2_int min2_int max_two min_two max_three min_three max_four min_four   -- for this text's walks alone
set_option linter.unusedVariables false
set_option linter.unusedSimpArgs false

/-! ### spec_shades: function 34 -/
def spec_shades.f  : Option ((List (S56))) := some (([(⟨(⟨#[98, 108, 97, 99, 107]⟩ : ByteArray), 0⟩ : S56), (⟨(⟨#[100, 97, 114, 107, 114, 101, 100]⟩ : ByteArray), 8323072⟩ : S56), (⟨(⟨#[100, 97, 114, 107, 103, 114, 101, 101, 110]⟩ : ByteArray), 32512⟩ : S56), (⟨(⟨#[98, 114, 111, 119, 110]⟩ : ByteArray), 8355808⟩ : S56), (⟨(⟨#[100, 97, 114, 107, 98, 108, 117, 101]⟩ : ByteArray), 127⟩ : S56), (⟨(⟨#[112, 117, 114, 112, 108, 101]⟩ : ByteArray), 8323199⟩ : S56), (⟨(⟨#[116, 101, 97, 108]⟩ : ByteArray), 32639⟩ : S56), (⟨(⟨#[108, 105, 103, 104, 116, 103, 114, 97, 121]⟩ : ByteArray), 15066597⟩ : S56), (⟨(⟨#[100, 97, 114, 107, 103, 114, 97, 121]⟩ : ByteArray), 5592405⟩ : S56), (⟨(⟨#[114, 101, 100]⟩ : ByteArray), 16711680⟩ : S56), (⟨(⟨#[103, 114, 101, 101, 110]⟩ : ByteArray), 65280⟩ : S56), (⟨(⟨#[121, 101, 108, 108, 111, 119]⟩ : ByteArray), 16776960⟩ : S56), (⟨(⟨#[98, 108, 117, 101]⟩ : ByteArray), 255⟩ : S56), (⟨(⟨#[102, 117, 99, 104, 115, 105, 97]⟩ : ByteArray), 16711935⟩ : S56), (⟨(⟨#[116, 117, 114, 113, 117, 111, 105, 115, 101]⟩ : ByteArray), 65535⟩ : S56), (⟨(⟨#[119, 104, 105, 116, 101]⟩ : ByteArray), 16777215⟩ : S56)] : List (S56)))
set_option maxHeartbeats 8000000 in
set_option maxRecDepth 100000 in
theorem spec_shades.calls  (r : List (S56)) (w : World) (h : spec_shades.f  = some r) :
    Calls Tryd.prog 34 #[] w fun e w' => ∃ v0_ : Value, e = .returned (v0_) ∧ Kd.R k56 56 w' w.heap.size (fun _ => True) v0_ r ∧ Below w.heap.size w w' := by
  have hu56 := Tryd.underlying56
  have HB := Aside0.mk (Below.refl w.heap.size w)
  have H : (some (([(⟨(⟨#[98, 108, 97, 99, 107]⟩ : ByteArray), 0⟩ : S56), (⟨(⟨#[100, 97, 114, 107, 114, 101, 100]⟩ : ByteArray), 8323072⟩ : S56), (⟨(⟨#[100, 97, 114, 107, 103, 114, 101, 101, 110]⟩ : ByteArray), 32512⟩ : S56), (⟨(⟨#[98, 114, 111, 119, 110]⟩ : ByteArray), 8355808⟩ : S56), (⟨(⟨#[100, 97, 114, 107, 98, 108, 117, 101]⟩ : ByteArray), 127⟩ : S56), (⟨(⟨#[112, 117, 114, 112, 108, 101]⟩ : ByteArray), 8323199⟩ : S56), (⟨(⟨#[116, 101, 97, 108]⟩ : ByteArray), 32639⟩ : S56), (⟨(⟨#[108, 105, 103, 104, 116, 103, 114, 97, 121]⟩ : ByteArray), 15066597⟩ : S56), (⟨(⟨#[100, 97, 114, 107, 103, 114, 97, 121]⟩ : ByteArray), 5592405⟩ : S56), (⟨(⟨#[114, 101, 100]⟩ : ByteArray), 16711680⟩ : S56), (⟨(⟨#[103, 114, 101, 101, 110]⟩ : ByteArray), 65280⟩ : S56), (⟨(⟨#[121, 101, 108, 108, 111, 119]⟩ : ByteArray), 16776960⟩ : S56), (⟨(⟨#[98, 108, 117, 101]⟩ : ByteArray), 255⟩ : S56), (⟨(⟨#[102, 117, 99, 104, 115, 105, 97]⟩ : ByteArray), 16711935⟩ : S56), (⟨(⟨#[116, 117, 114, 113, 117, 111, 105, 115, 101]⟩ : ByteArray), 65535⟩ : S56), (⟨(⟨#[119, 104, 105, 116, 101]⟩ : ByteArray), 16777215⟩ : S56)] : List (S56)))) = some r := h
  clear h
  obtain ⟨y101, hy101⟩ : ∃ y_ : List (S56), y_ = (([(⟨(⟨#[98, 108, 97, 99, 107]⟩ : ByteArray), 0⟩ : S56), (⟨(⟨#[100, 97, 114, 107, 114, 101, 100]⟩ : ByteArray), 8323072⟩ : S56), (⟨(⟨#[100, 97, 114, 107, 103, 114, 101, 101, 110]⟩ : ByteArray), 32512⟩ : S56), (⟨(⟨#[98, 114, 111, 119, 110]⟩ : ByteArray), 8355808⟩ : S56), (⟨(⟨#[100, 97, 114, 107, 98, 108, 117, 101]⟩ : ByteArray), 127⟩ : S56), (⟨(⟨#[112, 117, 114, 112, 108, 101]⟩ : ByteArray), 8323199⟩ : S56), (⟨(⟨#[116, 101, 97, 108]⟩ : ByteArray), 32639⟩ : S56), (⟨(⟨#[108, 105, 103, 104, 116, 103, 114, 97, 121]⟩ : ByteArray), 15066597⟩ : S56), (⟨(⟨#[100, 97, 114, 107, 103, 114, 97, 121]⟩ : ByteArray), 5592405⟩ : S56), (⟨(⟨#[114, 101, 100]⟩ : ByteArray), 16711680⟩ : S56), (⟨(⟨#[103, 114, 101, 101, 110]⟩ : ByteArray), 65280⟩ : S56), (⟨(⟨#[121, 101, 108, 108, 111, 119]⟩ : ByteArray), 16776960⟩ : S56), (⟨(⟨#[98, 108, 117, 101]⟩ : ByteArray), 255⟩ : S56), (⟨(⟨#[102, 117, 99, 104, 115, 105, 97]⟩ : ByteArray), 16711935⟩ : S56), (⟨(⟨#[116, 117, 114, 113, 117, 111, 105, 115, 101]⟩ : ByteArray), 65535⟩ : S56), (⟨(⟨#[119, 104, 105, 116, 101]⟩ : ByteArray), 16777215⟩ : S56)] : List (S56))) := ⟨_, rfl⟩
  replace H : (some y101) = some r := by first | (rw [hy101]; with_reducible exact H) | (have H2_ := (Option.bind_some _ _).symm.trans H; rw [hy101]; with_reducible exact H2_) | (have H2_ := (Option.bind_some _ _).symm.trans H; with_reducible exact H2_) | with_reducible exact H | (rw [hy101]; exact H) | exact H
  have Ny101 := Aside0.mk hy101
  clear hy101
  obtain rfl := Option.some.inj H
  go_enter Tryd.func34, Tryd.ntmps34
  go_wp2_with (first | ((with_reducible refine gate_dst (N := 17) rfl ?_); refine Kd.R_lit k56 _ 56 ?hg (N := 17) ?hd (xs := ([(⟨(⟨#[98, 108, 97, 99, 107]⟩ : ByteArray), 0⟩ : S56), (⟨(⟨#[100, 97, 114, 107, 114, 101, 100]⟩ : ByteArray), 8323072⟩ : S56), (⟨(⟨#[100, 97, 114, 107, 103, 114, 101, 101, 110]⟩ : ByteArray), 32512⟩ : S56), (⟨(⟨#[98, 114, 111, 119, 110]⟩ : ByteArray), 8355808⟩ : S56), (⟨(⟨#[100, 97, 114, 107, 98, 108, 117, 101]⟩ : ByteArray), 127⟩ : S56), (⟨(⟨#[112, 117, 114, 112, 108, 101]⟩ : ByteArray), 8323199⟩ : S56), (⟨(⟨#[116, 101, 97, 108]⟩ : ByteArray), 32639⟩ : S56), (⟨(⟨#[108, 105, 103, 104, 116, 103, 114, 97, 121]⟩ : ByteArray), 15066597⟩ : S56), (⟨(⟨#[100, 97, 114, 107, 103, 114, 97, 121]⟩ : ByteArray), 5592405⟩ : S56), (⟨(⟨#[114, 101, 100]⟩ : ByteArray), 16711680⟩ : S56), (⟨(⟨#[103, 114, 101, 101, 110]⟩ : ByteArray), 65280⟩ : S56), (⟨(⟨#[121, 101, 108, 108, 111, 119]⟩ : ByteArray), 16776960⟩ : S56), (⟨(⟨#[98, 108, 117, 101]⟩ : ByteArray), 255⟩ : S56), (⟨(⟨#[102, 117, 99, 104, 115, 105, 97]⟩ : ByteArray), 16711935⟩ : S56), (⟨(⟨#[116, 117, 114, 113, 117, 111, 105, 115, 101]⟩ : ByteArray), 65535⟩ : S56), (⟨(⟨#[119, 104, 105, 116, 101]⟩ : ByteArray), 16777215⟩ : S56)] : List (S56))) (inner := [.string (⟨#[98, 108, 97, 99, 107]⟩ : ByteArray), .int .i64 0, .string (⟨#[100, 97, 114, 107, 114, 101, 100]⟩ : ByteArray), .int .i64 8323072, .string (⟨#[100, 97, 114, 107, 103, 114, 101, 101, 110]⟩ : ByteArray), .int .i64 32512, .string (⟨#[98, 114, 111, 119, 110]⟩ : ByteArray), .int .i64 8355808, .string (⟨#[100, 97, 114, 107, 98, 108, 117, 101]⟩ : ByteArray), .int .i64 127, .string (⟨#[112, 117, 114, 112, 108, 101]⟩ : ByteArray), .int .i64 8323199, .string (⟨#[116, 101, 97, 108]⟩ : ByteArray), .int .i64 32639, .string (⟨#[108, 105, 103, 104, 116, 103, 114, 97, 121]⟩ : ByteArray), .int .i64 15066597, .string (⟨#[100, 97, 114, 107, 103, 114, 97, 121]⟩ : ByteArray), .int .i64 5592405, .string (⟨#[114, 101, 100]⟩ : ByteArray), .int .i64 16711680, .string (⟨#[103, 114, 101, 101, 110]⟩ : ByteArray), .int .i64 65280, .string (⟨#[121, 101, 108, 108, 111, 119]⟩ : ByteArray), .int .i64 16776960, .string (⟨#[98, 108, 117, 101]⟩ : ByteArray), .int .i64 255, .string (⟨#[102, 117, 99, 104, 115, 105, 97]⟩ : ByteArray), .int .i64 16711935, .string (⟨#[116, 117, 114, 113, 117, 111, 105, 115, 101]⟩ : ByteArray), .int .i64 65535, .string (⟨#[119, 104, 105, 116, 101]⟩ : ByteArray), .int .i64 16777215]) (ok := fun _ => True) (okp := fun _ => True) ?hr ?hp (fun _ hk => hk) trivial (Below.refl _ _) (Nat.le_refl _) (by simp) ?_; (case hd => rfl); (case hg => rfl); (case hr => first | (go_simp; done) | (go_simp; rfl)); (case hp => exact (Reps.c2 (show Kd.M k56 _ _ _ (⟨(⟨#[98, 108, 97, 99, 107]⟩ : ByteArray), 0⟩ : S56) [.string (⟨#[98, 108, 97, 99, 107]⟩ : ByteArray), .int .i64 0] from (k56_mkM _ _ _ (⟨(⟨#[98, 108, 97, 99, 107]⟩ : ByteArray), 0⟩ : S56) )) (Reps.c2 (show Kd.M k56 _ _ _ (⟨(⟨#[100, 97, 114, 107, 114, 101, 100]⟩ : ByteArray), 8323072⟩ : S56) [.string (⟨#[100, 97, 114, 107, 114, 101, 100]⟩ : ByteArray), .int .i64 8323072] from (k56_mkM _ _ _ (⟨(⟨#[100, 97, 114, 107, 114, 101, 100]⟩ : ByteArray), 8323072⟩ : S56) )) (Reps.c2 (show Kd.M k56 _ _ _ (⟨(⟨#[100, 97, 114, 107, 103, 114, 101, 101, 110]⟩ : ByteArray), 32512⟩ : S56) [.string (⟨#[100, 97, 114, 107, 103, 114, 101, 101, 110]⟩ : ByteArray), .int .i64 32512] from (k56_mkM _ _ _ (⟨(⟨#[100, 97, 114, 107, 103, 114, 101, 101, 110]⟩ : ByteArray), 32512⟩ : S56) )) (Reps.c2 (show Kd.M k56 _ _ _ (⟨(⟨#[98, 114, 111, 119, 110]⟩ : ByteArray), 8355808⟩ : S56) [.string (⟨#[98, 114, 111, 119, 110]⟩ : ByteArray), .int .i64 8355808] from (k56_mkM _ _ _ (⟨(⟨#[98, 114, 111, 119, 110]⟩ : ByteArray), 8355808⟩ : S56) )) (Reps.c2 (show Kd.M k56 _ _ _ (⟨(⟨#[100, 97, 114, 107, 98, 108, 117, 101]⟩ : ByteArray), 127⟩ : S56) [.string (⟨#[100, 97, 114, 107, 98, 108, 117, 101]⟩ : ByteArray), .int .i64 127] from (k56_mkM _ _ _ (⟨(⟨#[100, 97, 114, 107, 98, 108, 117, 101]⟩ : ByteArray), 127⟩ : S56) )) (Reps.c2 (show Kd.M k56 _ _ _ (⟨(⟨#[112, 117, 114, 112, 108, 101]⟩ : ByteArray), 8323199⟩ : S56) [.string (⟨#[112, 117, 114, 112, 108, 101]⟩ : ByteArray), .int .i64 8323199] from (k56_mkM _ _ _ (⟨(⟨#[112, 117, 114, 112, 108, 101]⟩ : ByteArray), 8323199⟩ : S56) )) (Reps.c2 (show Kd.M k56 _ _ _ (⟨(⟨#[116, 101, 97, 108]⟩ : ByteArray), 32639⟩ : S56) [.string (⟨#[116, 101, 97, 108]⟩ : ByteArray), .int .i64 32639] from (k56_mkM _ _ _ (⟨(⟨#[116, 101, 97, 108]⟩ : ByteArray), 32639⟩ : S56) )) (Reps.c2 (show Kd.M k56 _ _ _ (⟨(⟨#[108, 105, 103, 104, 116, 103, 114, 97, 121]⟩ : ByteArray), 15066597⟩ : S56) [.string (⟨#[108, 105, 103, 104, 116, 103, 114, 97, 121]⟩ : ByteArray), .int .i64 15066597] from (k56_mkM _ _ _ (⟨(⟨#[108, 105, 103, 104, 116, 103, 114, 97, 121]⟩ : ByteArray), 15066597⟩ : S56) )) (Reps.c2 (show Kd.M k56 _ _ _ (⟨(⟨#[100, 97, 114, 107, 103, 114, 97, 121]⟩ : ByteArray), 5592405⟩ : S56) [.string (⟨#[100, 97, 114, 107, 103, 114, 97, 121]⟩ : ByteArray), .int .i64 5592405] from (k56_mkM _ _ _ (⟨(⟨#[100, 97, 114, 107, 103, 114, 97, 121]⟩ : ByteArray), 5592405⟩ : S56) )) (Reps.c2 (show Kd.M k56 _ _ _ (⟨(⟨#[114, 101, 100]⟩ : ByteArray), 16711680⟩ : S56) [.string (⟨#[114, 101, 100]⟩ : ByteArray), .int .i64 16711680] from (k56_mkM _ _ _ (⟨(⟨#[114, 101, 100]⟩ : ByteArray), 16711680⟩ : S56) )) (Reps.c2 (show Kd.M k56 _ _ _ (⟨(⟨#[103, 114, 101, 101, 110]⟩ : ByteArray), 65280⟩ : S56) [.string (⟨#[103, 114, 101, 101, 110]⟩ : ByteArray), .int .i64 65280] from (k56_mkM _ _ _ (⟨(⟨#[103, 114, 101, 101, 110]⟩ : ByteArray), 65280⟩ : S56) )) (Reps.c2 (show Kd.M k56 _ _ _ (⟨(⟨#[121, 101, 108, 108, 111, 119]⟩ : ByteArray), 16776960⟩ : S56) [.string (⟨#[121, 101, 108, 108, 111, 119]⟩ : ByteArray), .int .i64 16776960] from (k56_mkM _ _ _ (⟨(⟨#[121, 101, 108, 108, 111, 119]⟩ : ByteArray), 16776960⟩ : S56) )) (Reps.c2 (show Kd.M k56 _ _ _ (⟨(⟨#[98, 108, 117, 101]⟩ : ByteArray), 255⟩ : S56) [.string (⟨#[98, 108, 117, 101]⟩ : ByteArray), .int .i64 255] from (k56_mkM _ _ _ (⟨(⟨#[98, 108, 117, 101]⟩ : ByteArray), 255⟩ : S56) )) (Reps.c2 (show Kd.M k56 _ _ _ (⟨(⟨#[102, 117, 99, 104, 115, 105, 97]⟩ : ByteArray), 16711935⟩ : S56) [.string (⟨#[102, 117, 99, 104, 115, 105, 97]⟩ : ByteArray), .int .i64 16711935] from (k56_mkM _ _ _ (⟨(⟨#[102, 117, 99, 104, 115, 105, 97]⟩ : ByteArray), 16711935⟩ : S56) )) (Reps.c2 (show Kd.M k56 _ _ _ (⟨(⟨#[116, 117, 114, 113, 117, 111, 105, 115, 101]⟩ : ByteArray), 65535⟩ : S56) [.string (⟨#[116, 117, 114, 113, 117, 111, 105, 115, 101]⟩ : ByteArray), .int .i64 65535] from (k56_mkM _ _ _ (⟨(⟨#[116, 117, 114, 113, 117, 111, 105, 115, 101]⟩ : ByteArray), 65535⟩ : S56) )) (Reps.c2 (show Kd.M k56 _ _ _ (⟨(⟨#[119, 104, 105, 116, 101]⟩ : ByteArray), 16777215⟩ : S56) [.string (⟨#[119, 104, 105, 116, 101]⟩ : ByteArray), .int .i64 16777215] from (k56_mkM _ _ _ (⟨(⟨#[119, 104, 105, 116, 101]⟩ : ByteArray), 16777215⟩ : S56) )) (Reps.none _ _)))))))))))))))))); intro v102 w1 ho2 hb hg_ hnew_; clear hg_ hnew_; (first | rw [← Ny101.out] at ho2 | (simp only [Int.reduceToNat] at ho2; rw [← Ny101.out] at ho2)); have n0_ := Aside0.mk (Kd.R_lower ho2 (below_size (by repeat (first | (with_reducible first | exact HB.out | apply below_alloc | apply pw_below_drewN | apply below_drew1) | exact HB.out)))); have n1_ := Aside0.mk (below_step (by repeat (first | (with_reducible first | exact HB.out | apply below_alloc | apply pw_below_drewN | apply below_drew1) | exact HB.out)) hb); clear HB; have HO103 := n0_; have HB := n1_; clear n0_ n1_; clear hb ho2))
  go_ret
  exact ⟨_, by first | rfl | (simp [errW_none, errW_some] <;> rfl) | (simp [*, errW_none, errW_some] <;> rfl), by (with_reducible repeat (first | apply Kd.R_alloc | apply Kd.R_drewN | apply Kd.R_drew)); exact HO103.out, by repeat (first | (with_reducible first | exact HB.out | apply below_alloc | apply pw_below_drewN | apply below_drew1) | exact HB.out)⟩

/-! ### spec_hex: function 35 -/
mutual
def spec_hex.j0 : Nat → Int → Bool → Option (Int)
  | 0, _, _ => none
  | k + 1, x0, x3 => if x3 = true then (some ((x0 - 48) % 256)) else (if x0 ≥ 97 then (spec_hex.j1 k x0 (decide (x0 ≤ 102))) else (spec_hex.j1 k x0 false))
def spec_hex.j1 : Nat → Int → Bool → Option (Int)
  | 0, _, _ => none
  | k + 1, x0, x13 => if x13 = true then (some (((x0 - 97) % 256) + 10)) else (if x0 ≥ 65 then (if x0 ≤ 70 then (some (((x0 - 65) % 256) + 10)) else (some (-1))) else (some (-1)))
end
def spec_hex.f (k : Nat) (a0 : Int) : Option (Int) := if a0 ≥ 48 then (spec_hex.j0 k a0 (decide (a0 ≤ 57))) else (spec_hex.j0 k a0 false)
theorem spec_hex.mono_l : ∀ k, (∀ y0 y1, LeO (spec_hex.j0 k y0 y1) (spec_hex.j0 (k + 1) y0 y1)) ∧ (∀ y0 y1, LeO (spec_hex.j1 k y0 y1) (spec_hex.j1 (k + 1) y0 y1))
  | 0 => ⟨fun _ _ r h => by simp [spec_hex.j0] at h, fun _ _ r h => by simp [spec_hex.j1] at h⟩
  | k + 1 => by
    obtain ⟨ih0, ih1⟩ := spec_hex.mono_l k
    refine ⟨?_, ?_⟩
    · intro y0 y1
      unfold spec_hex.j0
      repeat' first
      | (with_reducible exact ih0 _ _)
      | (with_reducible exact ih1 _ _)
      | (with_reducible exact LeO.refl _)
      | (with_reducible exact LeO.none _)
      | (with_reducible refine LeO.ite ?_ ?_)
      | (with_reducible refine LeO.bind ?_ (fun _ => ?_))
      | exact ih0 _ _
      | exact ih1 _ _
      | exact LeO.none _
      | refine LeO.ite ?_ ?_
      | refine LeO.bind ?_ (fun _ => ?_)
    · intro y0 y1
      unfold spec_hex.j1
      repeat' first
      | (with_reducible exact ih0 _ _)
      | (with_reducible exact ih1 _ _)
      | (with_reducible exact LeO.refl _)
      | (with_reducible exact LeO.none _)
      | (with_reducible refine LeO.ite ?_ ?_)
      | (with_reducible refine LeO.bind ?_ (fun _ => ?_))
      | exact ih0 _ _
      | exact ih1 _ _
      | exact LeO.none _
      | refine LeO.ite ?_ ?_
      | refine LeO.bind ?_ (fun _ => ?_)
theorem spec_hex.mono : ∀ a0 k, LeO (spec_hex.f k a0) (spec_hex.f (k + 1) a0) := by
  intro a0 k
  obtain ⟨ih0, ih1⟩ := spec_hex.mono_l k
  unfold spec_hex.f
  repeat' first
      | (with_reducible exact ih0 _ _)
      | (with_reducible exact ih1 _ _)
      | (with_reducible exact LeO.refl _)
      | (with_reducible exact LeO.none _)
      | (with_reducible refine LeO.ite ?_ ?_)
      | (with_reducible refine LeO.bind ?_ (fun _ => ?_))
      | exact ih0 _ _
      | exact ih1 _ _
      | exact LeO.none _
      | refine LeO.ite ?_ ?_
      | refine LeO.bind ?_ (fun _ => ?_)
set_option maxHeartbeats 8000000 in
set_option maxRecDepth 100000 in
theorem spec_hex.calls (k : Nat) (a0 : Int) (r : Int) (w : World) (h : spec_hex.f k a0 = some r) :
    Calls Tryd.prog 35 #[.int .u8 a0] w fun e w' => e = .returned (.int .i64 r) ∧ Drawn0 w w' := by
  have H : (if a0 ≥ 48 then (spec_hex.j0 k a0 (decide (a0 ≤ 57))) else (spec_hex.j0 k a0 false)) = some r := h
  clear h
  have HC2 := Aside0.mk H
  clear H
  go_enter Tryd.func35, Tryd.ntmps35
  go_upto_region 1 with (fail)
  go_cut [3] (fun v3 wc => ∃ (kq : Nat) (x3_1 : Bool), v3 = .bool x3_1 ∧ Aside0 (spec_hex.j0 kq a0 x3_1 = some r) ∧ Aside0 (kq ≤ k) ∧ Drawn0 w wc)
  case first =>
    have H := HC2.out
    clear HC2
    by_cases c3 : a0 ≥ 48
    · rw [if_pos c3] at H
      have c3b0 : decide (48 ≤ a0) = true := decide_eq_true c3
      clear c3
      (try (have c3b2 := c3b0; simp only [ByteArray.size_extract, Nat.min_self] at c3b2)); (first | rw [c3b0] | (simp only [i64_w, i32_w]; rw [c3b0]) | rw [c3b1] | skip)
      have H' := Aside0.mk H
      clear H
      go_wp2
      go_meet
      case rel => exact ⟨_, (decide (a0 ≤ 57)), (by first | rfl | (simp; done) | (simp [*]; done)), H', ⟨by first | omega | exact Nat.le_refl _⟩, by repeat (first | exact Drawn0.refl _ | apply Drawn0.step)⟩
    · rw [if_neg c3] at H
      have c3b0 : decide (48 ≤ a0) = false := decide_eq_false c3
      clear c3
      (try (have c3b2 := c3b0; simp only [ByteArray.size_extract, Nat.min_self] at c3b2)); (first | rw [c3b0] | (simp only [i64_w, i32_w]; rw [c3b0]) | rw [c3b1] | skip)
      have H' := Aside0.mk H
      clear H
      go_wp2
      go_meet
      case rel => exact ⟨_, (false), (by first | rfl | (simp; done) | (simp [*]; done)), H', ⟨by first | omega | exact Nat.le_refl _⟩, by repeat (first | exact Drawn0.refl _ | apply Drawn0.step)⟩
  case rest =>
    clear HC2
    try clear p2
    try clear c3
    try clear c3b0
    try clear c3b1
    try clear c3b2
    obtain ⟨kq, x3_1, rfl, HA, HJ1, ⟨mc1, rfl⟩⟩ := hcut
    cases kq with
    | zero => exact absurd HA.out (by simp [spec_hex.j0])
    | succ kj1 =>
      have H := HA.out
      clear HA
      simp only [spec_hex.j0] at H
      by_cases c4 : x3_1 = true
      · subst c4
        have H1 : (some ((a0 - 48) % 256)) = some r := by rw [if_pos rfl] at H; exact H
        clear H
        have H := H1
        clear H1
        obtain rfl := Option.some.inj H
        go_wp2
        go_ret
        exact ⟨by first | rfl | (simp; done) | (simp [*]; done), by repeat (first | exact Drawn0.refl _ | apply Drawn0.step)⟩
      · replace c4 := Bool.eq_false_iff.mpr c4
        subst c4
        have H1 : (if a0 ≥ 97 then (spec_hex.j1 kj1 a0 (decide (a0 ≤ 102))) else (spec_hex.j1 kj1 a0 false)) = some r := by rw [if_neg (show ¬ (false = true) by decide)] at H; exact H
        clear H
        have H := H1
        clear H1
        have HC5 := Aside0.mk H
        clear H
        go_upto_region 3 with (fail)
        go_cut [13] (fun v13 wc => ∃ (kq : Nat) (x13_4 : Bool), v13 = .bool x13_4 ∧ Aside0 (spec_hex.j1 kq a0 x13_4 = some r) ∧ Aside0 (kq ≤ kj1) ∧ Drawn0 w wc)
        case first =>
          have H := HC5.out
          clear HC5
          by_cases c6 : a0 ≥ 97
          · rw [if_pos c6] at H
            have c6b0 : decide (97 ≤ a0) = true := decide_eq_true c6
            clear c6
            (try (have c6b2 := c6b0; simp only [ByteArray.size_extract, Nat.min_self] at c6b2)); (first | rw [c6b0] | (simp only [i64_w, i32_w]; rw [c6b0]) | rw [c6b1] | skip)
            have H' := Aside0.mk H
            clear H
            go_wp2
            go_meet
            case rel => exact ⟨_, (decide (a0 ≤ 102)), (by first | rfl | (simp; done) | (simp [*]; done)), H', ⟨by have := HJ1.out; first | omega | exact Nat.le_refl _⟩, by repeat (first | exact Drawn0.refl _ | apply Drawn0.step)⟩
          · rw [if_neg c6] at H
            have c6b0 : decide (97 ≤ a0) = false := decide_eq_false c6
            clear c6
            (try (have c6b2 := c6b0; simp only [ByteArray.size_extract, Nat.min_self] at c6b2)); (first | rw [c6b0] | (simp only [i64_w, i32_w]; rw [c6b0]) | rw [c6b1] | skip)
            have H' := Aside0.mk H
            clear H
            go_wp2
            go_meet
            case rel => exact ⟨_, (false), (by first | rfl | (simp; done) | (simp [*]; done)), H', ⟨by have := HJ1.out; first | omega | exact Nat.le_refl _⟩, by repeat (first | exact Drawn0.refl _ | apply Drawn0.step)⟩
        case rest =>
          clear HC5
          try clear c1
          try clear p2
          try clear c3
          try clear c3b0
          try clear c3b1
          try clear c3b2
          try clear c4
          try clear c6
          try clear c6b0
          try clear c6b1
          try clear c6b2
          try clear p2
          obtain ⟨kq, x13_4, rfl, HA, HJ4, ⟨mc4, rfl⟩⟩ := hcut
          cases kq with
          | zero => exact absurd HA.out (by simp [spec_hex.j1])
          | succ kj4 =>
            have H := HA.out
            clear HA
            simp only [spec_hex.j1] at H
            by_cases c7 : x13_4 = true
            · subst c7
              have H1 : (some (((a0 - 97) % 256) + 10)) = some r := by rw [if_pos rfl] at H; exact H
              clear H
              have H := H1
              clear H1
              obtain rfl := Option.some.inj H
              go_wp2
              go_ret
              exact ⟨by first | rfl | (simp; done) | (simp [*]; done), by repeat (first | exact Drawn0.refl _ | apply Drawn0.step)⟩
            · replace c7 := Bool.eq_false_iff.mpr c7
              subst c7
              have H1 : (if a0 ≥ 65 then (if a0 ≤ 70 then (some (((a0 - 65) % 256) + 10)) else (some (-1))) else (some (-1))) = some r := by rw [if_neg (show ¬ (false = true) by decide)] at H; exact H
              clear H
              have H := H1
              clear H1
              by_cases c8 : a0 ≥ 65
              · rw [if_pos c8] at H
                have c8b0 : decide (65 ≤ a0) = true := decide_eq_true c8
                clear c8
                by_cases c9 : a0 ≤ 70
                · rw [if_pos c9] at H
                  have c9b0 : decide (a0 ≤ 70) = true := decide_eq_true c9
                  clear c9
                  obtain rfl := Option.some.inj H
                  go_wp2
                  go_ret
                  exact ⟨by first | rfl | (simp; done) | (simp [*]; done), by repeat (first | exact Drawn0.refl _ | apply Drawn0.step)⟩
                · rw [if_neg c9] at H
                  have c9b0 : decide (a0 ≤ 70) = false := decide_eq_false c9
                  clear c9
                  obtain rfl := Option.some.inj H
                  go_wp2
                  go_ret
                  exact ⟨by first | rfl | (simp; done) | (simp [*]; done), by repeat (first | exact Drawn0.refl _ | apply Drawn0.step)⟩
              · rw [if_neg c8] at H
                have c8b0 : decide (65 ≤ a0) = false := decide_eq_false c8
                clear c8
                obtain rfl := Option.some.inj H
                go_wp2
                go_ret
                exact ⟨by first | rfl | (simp; done) | (simp [*]; done), by repeat (first | exact Drawn0.refl _ | apply Drawn0.step)⟩

end Go.Proofs.YthpfcofkhchkcaaDoor.M
