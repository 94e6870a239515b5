-- WRITTEN BY OUR myprint.py, a program of this session's over the kit's printer
import Derived.Test.YtkdkkbadmjpkfaaDoorMx0
import Derived.Test.YtkdkkbadmjpkfaaDoorMx2
import Derived.Test.YtkdkkbadmjpkfaaDoorMx3
import Derived.Test.YtkdkkbadmjpkfaaDoorMx4
namespace Go.Proofs.YtkdkkbadmjpkfaaDoor.M
open Go.RowKit Go.Proofs.YtkdkkbadmjpkfaaDoorW.PrintWords Go.Proofs.YtkdkkbadmjpkfaaDoorW.PrintLast Go.Proofs.YtkdkkbadmjpkfaaDoorW.PrintMore
attribute [local go_sem] max2_int min2_int max_two min_two max_three min_three max_four min_four   -- for this text's walks alone
set_option linter.unusedVariables false
set_option linter.unusedSimpArgs false

/-! ### laws_waking: function 9 -/
def laws_waking.f (k : Nat)  : Option (Bool) := (impl_SplitLines.f k (([(⟨1000, (⟨#[105, 102, 10, 120]⟩ : ByteArray)⟩ : S32), (⟨2000, (⟨#[121]⟩ : ByteArray)⟩ : S32)] : List (S32)))).bind fun t173 => (if (t173.length : Int) = 2 then (if 0 < (t173.length : Int) then ((laws_text.f k (rd_L4 t173 0)).bind fun t177 => (if t177.toList = ([105, 102, 10] : List UInt8) then (if 1 < (t173.length : Int) then ((laws_text.f k (rd_L4 t173 1)).bind fun t179 => (some (t179.toList == ([120, 121] : List UInt8)))) else (none)) else (some false))) else (none)) else (some false))
theorem laws_waking.mono : ∀ k, LeO (laws_waking.f k ) (laws_waking.f (k + 1) ) := by
  intro  k
  unfold laws_waking.f
  repeat' first
      | (with_reducible exact impl_SplitLines.mono _ _)
      | (with_reducible exact laws_text.mono _ _)
      | (with_reducible exact LeO.refl _)
      | (with_reducible exact LeO.none _)
      | (with_reducible refine LeO.ite ?_ ?_)
      | (with_reducible refine LeO.bind ?_ (fun _ => ?_))
      | exact impl_SplitLines.mono _ _
      | exact laws_text.mono _ _
      | exact LeO.none _
      | refine LeO.ite ?_ ?_
      | refine LeO.bind ?_ (fun _ => ?_)
set_option maxHeartbeats 8000000 in
set_option maxRecDepth 100000 in
theorem laws_waking.calls (k : Nat)  (r : Bool) (w : World) (h : laws_waking.f k  = some r) :
    Calls Tryd.prog 9 #[] w fun e w' => e = .returned (.bool r) ∧ Below w.heap.size w w' := by
  have hu32 := Tryd.underlying32
  have HB := Aside0.mk (Below.refl w.heap.size w)
  have H : ((impl_SplitLines.f k (([(⟨1000, (⟨#[105, 102, 10, 120]⟩ : ByteArray)⟩ : S32), (⟨2000, (⟨#[121]⟩ : ByteArray)⟩ : S32)] : List (S32)))).bind fun t173 => (if (t173.length : Int) = 2 then (if 0 < (t173.length : Int) then ((laws_text.f k (rd_L4 t173 0)).bind fun t177 => (if t177.toList = ([105, 102, 10] : List UInt8) then (if 1 < (t173.length : Int) then ((laws_text.f k (rd_L4 t173 1)).bind fun t179 => (some (t179.toList == ([120, 121] : List UInt8)))) else (none)) else (some false))) else (none)) else (some false))) = some r := h
  clear h
  obtain ⟨y170, hy170⟩ : ∃ y_ : List (S32), y_ = (([(⟨1000, (⟨#[105, 102, 10, 120]⟩ : ByteArray)⟩ : S32), (⟨2000, (⟨#[121]⟩ : ByteArray)⟩ : S32)] : List (S32))) := ⟨_, rfl⟩
  replace H : ((impl_SplitLines.f k y170).bind fun t173 => (if (t173.length : Int) = 2 then (if 0 < (t173.length : Int) then ((laws_text.f k (rd_L4 t173 0)).bind fun t177 => (if t177.toList = ([105, 102, 10] : List UInt8) then (if 1 < (t173.length : Int) then ((laws_text.f k (rd_L4 t173 1)).bind fun t179 => (some (t179.toList == ([120, 121] : List UInt8)))) else (none)) else (some false))) else (none)) else (some false))) = some r := by first | (rw [hy170]; with_reducible exact H) | (have H2_ := (Option.bind_some _ _).symm.trans H; rw [hy170]; with_reducible exact H2_) | (have H2_ := (Option.bind_some _ _).symm.trans H; with_reducible exact H2_) | with_reducible exact H | (rw [hy170]; exact H) | exact H
  have Ny170 := Aside0.mk hy170
  clear hy170
  replace H := Option.bind_eq_some_iff.mp H
  obtain ⟨t173, A10, H⟩ := H
  replace H : (if (t173.length : Int) = 2 then (if 0 < (t173.length : Int) then ((laws_text.f k (rd_L4 t173 0)).bind fun t177 => (if t177.toList = ([105, 102, 10] : List UInt8) then (if 1 < (t173.length : Int) then ((laws_text.f k (rd_L4 t173 1)).bind fun t179 => (some (t179.toList == ([120, 121] : List UInt8)))) else (none)) else (some false))) else (none)) else (some false)) = some r := H
  have A1 := Aside0.mk A10
  clear A10
  by_cases c2 : (t173.length : Int) = 2
  · rw [if_pos c2] at H
    have c2b0 : ((t173.length : Int) == 2) = true := beq_iff_eq.mpr c2
    have c2b1 : ((t173.length : Int) != 2) = false := bne_eq_false_iff_eq.mpr c2
    clear c2
    by_cases c3 : 0 < (t173.length : Int)
    · rw [if_pos c3] at H
      have c3b0 : decide (0 < (t173.length : Int)) = true := decide_eq_true c3
      have c3b1 : decide (0 < t173.length) = true := decide_eq_true (by omega)
      clear c3
      replace H := Option.bind_eq_some_iff.mp H
      obtain ⟨t177, A40, H⟩ := H
      replace H : (if t177.toList = ([105, 102, 10] : List UInt8) then (if 1 < (t173.length : Int) then ((laws_text.f k (rd_L4 t173 1)).bind fun t179 => (some (t179.toList == ([120, 121] : List UInt8)))) else (none)) else (some false)) = some r := H
      have A4 := Aside0.mk A40
      clear A40
      by_cases c5 : t177.toList = ([105, 102, 10] : List UInt8)
      · rw [if_pos c5] at H
        have c5b0 : (t177.toList == ([105, 102, 10] : List UInt8)) = true := beq_iff_eq.mpr c5
        have c5b1 : (t177.toList != ([105, 102, 10] : List UInt8)) = false := bne_eq_false_iff_eq.mpr c5
        clear c5
        by_cases c6 : 1 < (t173.length : Int)
        · rw [if_pos c6] at H
          have c6b0 : decide (1 < (t173.length : Int)) = true := decide_eq_true c6
          have c6b1 : decide (1 < t173.length) = true := decide_eq_true (by omega)
          clear c6
          replace H := Option.bind_eq_some_iff.mp H
          obtain ⟨t179, A70, H⟩ := H
          replace H : (some (t179.toList == ([120, 121] : List UInt8))) = some r := H
          have A7 := Aside0.mk A70
          clear A70
          obtain rfl := Option.some.inj H
          go_enter Tryd.func9, Tryd.ntmps9
          go_wp2_with (first | ((with_reducible refine gate_dst (N := 4) rfl ?_); refine Kd.R_lit k32 _ 32 ?hg (N := 4) ?hd (xs := ([(⟨1000, (⟨#[105, 102, 10, 120]⟩ : ByteArray)⟩ : S32), (⟨2000, (⟨#[121]⟩ : ByteArray)⟩ : S32)] : List (S32))) (inner := [.int .i64 1000, .string (⟨#[105, 102, 10, 120]⟩ : ByteArray), .int .i64 2000, .string (⟨#[121]⟩ : ByteArray)]) (ok := fun _ => True) (okp := fun _ => True) ?hr ?hp (fun _ hk => hk) trivial (Below.refl _ _) (Nat.le_refl _) (by simp) ?_; (case hd => rfl); (case hg => rfl); (case hr => first | (go_simp; done) | (go_simp; rfl)); (case hp => exact (Reps.c2 (show Kd.M k32 _ _ _ (⟨1000, (⟨#[105, 102, 10, 120]⟩ : ByteArray)⟩ : S32) [.int .i64 1000, .string (⟨#[105, 102, 10, 120]⟩ : ByteArray)] from (k32_mkM _ _ _ (⟨1000, (⟨#[105, 102, 10, 120]⟩ : ByteArray)⟩ : S32) )) (Reps.c2 (show Kd.M k32 _ _ _ (⟨2000, (⟨#[121]⟩ : ByteArray)⟩ : S32) [.int .i64 2000, .string (⟨#[121]⟩ : ByteArray)] from (k32_mkM _ _ _ (⟨2000, (⟨#[121]⟩ : ByteArray)⟩ : S32) )) (Reps.none _ _)))); intro v171 w8 ho9 hb hg_ hnew_; clear hg_ hnew_; (first | rw [← Ny170.out] at ho9 | (simp only [Int.reduceToNat] at ho9; rw [← Ny170.out] at ho9)); have n0_ := Aside0.mk (Kd.R_lower ho9 (below_size (by repeat (first | (with_reducible first | exact HB.out | apply below_alloc | apply pw_below_drewN | apply below_drew1) | exact HB.out)))); have n1_ := Aside0.mk (below_step (by repeat (first | (with_reducible first | exact HB.out | apply below_alloc | apply pw_below_drewN | apply below_drew1) | exact HB.out)) hb); clear HB; have HO172 := n0_; have HB := n1_; clear n0_ n1_; clear hb ho9; obtain ⟨Ao10, co10, eo10⟩ := Kd.R_slice HO172.out; subst eo10) | ((with_reducible refine gate_callee (f := 18) rfl ?_); refine goesL_ (some 5) rfl rfl Tryd.func18 (by kernel_rfl) rfl #[.slice Ao10 y170.length co10] rfl (by (try simp only [List.map_toArray, List.map_cons, List.map_nil]); first | done | rfl | (simp only [List.length_drop, List.length_take]; rfl)) ?_; (with_reducible refine (impl_SplitLines.calls k _ _ y170 t173 _ ?side1 ?side2 A1.out).mono ?_); (case side1 => repeat (first | exact (Kd.R_reads' HO172.out).2.2 | (with_reducible refine Kd.C_alloc ?_ _) | (with_reducible refine Kd.C_drewN ?_ _) | (with_reducible refine Kd.C_drew ?_))); (case side2 => exact (Kd.R_reads' HO172.out).2.1); rintro e w11 ⟨v174, rfl, ho0, hb⟩; refine ⟨_, rfl, ?_⟩; have n0_ := Aside0.mk (Kd.R_below (by (with_reducible repeat (first | apply Kd.R_alloc | apply Kd.R_drewN | apply Kd.R_drew)); exact HO172.out) hb); have n1_ := Aside0.mk (Kd.S_lower (Kd.S_new' ho0 (Kd.R_lt (by (with_reducible repeat (first | apply Kd.R_alloc | apply Kd.R_drewN | apply Kd.R_drew)); exact HO172.out))) (below_size (by repeat (first | (with_reducible first | exact HB.out | apply below_alloc | apply pw_below_drewN | apply below_drew1) | exact HB.out)))); have n2_ := Aside0.mk (below_step (by repeat (first | (with_reducible first | exact HB.out | apply below_alloc | apply pw_below_drewN | apply below_drew1) | exact HB.out)) hb); clear HO172; clear HB; have HO172 := n0_; have HO175 := n1_; have HB := n2_; clear n0_ n1_ n2_; (try clear hb); (try clear hb2); (try clear hk); (try clear hi); (try clear ho0); obtain ⟨Ao12, co12, eo12⟩ := Kd.S_slice HO175.out; subst eo12; have p176 : 0 ≤ (0 : Int) := (by omega); have q176 : 0 < (t173.length : Int) := of_decide_eq_true (by first | (with_reducible assumption) | assumption); obtain ⟨ad176, A176_0, c176_0, e176, hx176_0, hl176_0, hi176_0⟩ := at_L4 (Kd.S_reads' HO175.out).2.2 0 p176 q176; cases e176; obtain ⟨ce176, hce176, hMe176, hcc176⟩ := Kd.S_get HO175.out [] 0 p176 (by first | exact q176 | exact of_decide_eq_true (by first | (with_reducible assumption) | assumption) | (have e_ := (Kd.S_reads' HO175.out).1; omega)); obtain ⟨ve176_0, rfl, ge176_0⟩ := hMe176; have hv176_0 := hcc176 0 _ rfl; rw [Nat.add_zero, show ((Kd.slice 32 k32)).sz = 1 from rfl, Nat.mul_one] at hv176_0; replace hv176_0 := Option.some.inj (hv176_0.symm.trans hx176_0); rw [hv176_0] at ge176_0; have HL176_0 := Aside0.mk (show Kd.R k32 32 _ _ _ _ (rd_L4 t173 0) from ge176_0); clear hv176_0 ge176_0; clear hcc176 hce176; have qi176 : (0 < t173.length) = True := eq_true (by omega); (try rw [show ((0 : Int)).toNat = 0 from rfl] at hx176_0); (try rw [Addr.add_zero'] at hx176_0); have HR176_0 := Aside0.mk hi176_0; have HC176_0 := Aside0.mk hl176_0; clear hi176_0 hl176_0; replace p176 := eq_true p176; replace q176 := eq_true q176) | (go_at_call 19; (with_reducible refine (laws_text.calls k _ _ (rd_L4 t173 0) t177 _ ?side1 ?side2 A4.out).mono ?_); (case side1 => repeat (first | exact (by repeat (first | (with_reducible exact HR176_0.out) | (with_reducible refine Kd.C_alloc ?_ _) | (with_reducible refine Kd.C_drewN ?_ _) | (with_reducible refine Kd.C_drew ?_) | exact HR176_0.out)) | (with_reducible refine Kd.C_alloc ?_ _) | (with_reducible refine Kd.C_drewN ?_ _) | (with_reducible refine Kd.C_drew ?_))); (case side2 => exact HC176_0.out); rintro e w13 ⟨rfl, hb⟩; have n0_ := Aside0.mk (Kd.R_below (by (with_reducible repeat (first | apply Kd.R_alloc | apply Kd.R_drewN | apply Kd.R_drew)); exact HO172.out) hb); have n1_ := Aside0.mk (Kd.S_below (by (with_reducible repeat (first | apply Kd.S_alloc | apply Kd.S_drewN | apply Kd.S_drew)); exact HO175.out) hb); have n2_ := Aside0.mk (Kd.R_below (by (with_reducible repeat (first | apply Kd.R_alloc | apply Kd.R_drewN | apply Kd.R_drew)); exact HL176_0.out) hb); have n3_ := Aside0.mk (Kd.C_below (by repeat (first | (with_reducible exact HR176_0.out) | (with_reducible refine Kd.C_alloc ?_ _) | (with_reducible refine Kd.C_drewN ?_ _) | (with_reducible refine Kd.C_drew ?_) | exact HR176_0.out)) hb); have n4_ := Aside0.mk (below_step (by repeat (first | (with_reducible first | exact HB.out | apply below_alloc | apply pw_below_drewN | apply below_drew1) | exact HB.out)) hb); clear HO172; clear HO175; clear HL176_0; clear HR176_0; clear HB; have HO172 := n0_; have HO175 := n1_; have HL176_0 := n2_; have HR176_0 := n3_; have HB := n4_; clear n0_ n1_ n2_ n3_ n4_; (try clear hb); (try clear hb2); (try clear hk); (try clear hi); have p178 : 0 ≤ (1 : Int) := (by omega); have q178 : 1 < (t173.length : Int) := of_decide_eq_true (by first | (with_reducible assumption) | assumption); obtain ⟨ad178, A178_0, c178_0, e178, hx178_0, hl178_0, hi178_0⟩ := at_L4 (Kd.S_reads' HO175.out).2.2 1 p178 q178; obtain rfl : ad176 = ad178 := (by injection e178); obtain ⟨ce178, hce178, hMe178, hcc178⟩ := Kd.S_get HO175.out [] 1 p178 (by first | exact q178 | exact of_decide_eq_true (by first | (with_reducible assumption) | assumption) | (have e_ := (Kd.S_reads' HO175.out).1; omega)); obtain ⟨ve178_0, rfl, ge178_0⟩ := hMe178; have hv178_0 := hcc178 0 _ rfl; rw [Nat.add_zero, show ((Kd.slice 32 k32)).sz = 1 from rfl, Nat.mul_one] at hv178_0; replace hv178_0 := Option.some.inj (hv178_0.symm.trans hx178_0); rw [hv178_0] at ge178_0; have HL178_0 := Aside0.mk (show Kd.R k32 32 _ _ _ _ (rd_L4 t173 1) from ge178_0); clear hv178_0 ge178_0; clear hcc178 hce178; (try simp only [show (1 : Int).toNat = 1 from rfl, Nat.reduceMul, Nat.reduceEqDiff, Go.Addr.add, ↓reduceIte] at hx178_0); have qi178 : (1 < t173.length) = True := eq_true (by omega); (try rw [show ((1 : Int)).toNat = 1 from rfl] at hx178_0); have HR178_0 := Aside0.mk hi178_0; have HC178_0 := Aside0.mk hl178_0; clear hi178_0 hl178_0; replace p178 := eq_true p178; replace q178 := eq_true q178) | (go_at_call 19; (with_reducible refine (laws_text.calls k _ _ (rd_L4 t173 1) t179 _ ?side1 ?side2 A7.out).mono ?_); (case side1 => repeat (first | exact (by repeat (first | (with_reducible exact HR178_0.out) | (with_reducible refine Kd.C_alloc ?_ _) | (with_reducible refine Kd.C_drewN ?_ _) | (with_reducible refine Kd.C_drew ?_) | exact HR178_0.out)) | (with_reducible refine Kd.C_alloc ?_ _) | (with_reducible refine Kd.C_drewN ?_ _) | (with_reducible refine Kd.C_drew ?_))); (case side2 => exact HC178_0.out); rintro e w14 ⟨rfl, hb⟩; have n0_ := Aside0.mk (Kd.R_below (by (with_reducible repeat (first | apply Kd.R_alloc | apply Kd.R_drewN | apply Kd.R_drew)); exact HO172.out) hb); have n1_ := Aside0.mk (Kd.S_below (by (with_reducible repeat (first | apply Kd.S_alloc | apply Kd.S_drewN | apply Kd.S_drew)); exact HO175.out) hb); have n2_ := Aside0.mk (Kd.R_below (by (with_reducible repeat (first | apply Kd.R_alloc | apply Kd.R_drewN | apply Kd.R_drew)); exact HL176_0.out) hb); have n3_ := Aside0.mk (Kd.R_below (by (with_reducible repeat (first | apply Kd.R_alloc | apply Kd.R_drewN | apply Kd.R_drew)); exact HL178_0.out) hb); have n4_ := Aside0.mk (Kd.C_below (by repeat (first | (with_reducible exact HR176_0.out) | (with_reducible refine Kd.C_alloc ?_ _) | (with_reducible refine Kd.C_drewN ?_ _) | (with_reducible refine Kd.C_drew ?_) | exact HR176_0.out)) hb); have n5_ := Aside0.mk (Kd.C_below (by repeat (first | (with_reducible exact HR178_0.out) | (with_reducible refine Kd.C_alloc ?_ _) | (with_reducible refine Kd.C_drewN ?_ _) | (with_reducible refine Kd.C_drew ?_) | exact HR178_0.out)) hb); have n6_ := Aside0.mk (below_step (by repeat (first | (with_reducible first | exact HB.out | apply below_alloc | apply pw_below_drewN | apply below_drew1) | exact HB.out)) hb); clear HO172; clear HO175; clear HL176_0; clear HL178_0; clear HR176_0; clear HR178_0; clear HB; have HO172 := n0_; have HO175 := n1_; have HL176_0 := n2_; have HL178_0 := n3_; have HR176_0 := n4_; have HR178_0 := n5_; have HB := n6_; clear n0_ n1_ n2_ n3_ n4_ n5_ n6_; (try clear hb); (try clear hb2); (try clear hk); (try clear hi)))
          go_ret
          exact ⟨by first | rfl | (simp [errW_none, errW_some] <;> rfl) | (simp [*, errW_none, errW_some] <;> rfl), by repeat (first | (with_reducible first | exact HB.out | apply below_alloc | apply pw_below_drewN | apply below_drew1) | exact HB.out)⟩
        · rw [if_neg c6] at H
          exact absurd H (by simp)
      · rw [if_neg c5] at H
        have c5b0 : (t177.toList == ([105, 102, 10] : List UInt8)) = false := beq_eq_false_iff_ne.mpr c5
        have c5b1 : (t177.toList != ([105, 102, 10] : List UInt8)) = true := bne_iff_ne.mpr c5
        obtain rfl := Option.some.inj H
        go_enter Tryd.func9, Tryd.ntmps9
        go_wp2_with (first | ((with_reducible refine gate_dst (N := 4) rfl ?_); refine Kd.R_lit k32 _ 32 ?hg (N := 4) ?hd (xs := ([(⟨1000, (⟨#[105, 102, 10, 120]⟩ : ByteArray)⟩ : S32), (⟨2000, (⟨#[121]⟩ : ByteArray)⟩ : S32)] : List (S32))) (inner := [.int .i64 1000, .string (⟨#[105, 102, 10, 120]⟩ : ByteArray), .int .i64 2000, .string (⟨#[121]⟩ : ByteArray)]) (ok := fun _ => True) (okp := fun _ => True) ?hr ?hp (fun _ hk => hk) trivial (Below.refl _ _) (Nat.le_refl _) (by simp) ?_; (case hd => rfl); (case hg => rfl); (case hr => first | (go_simp; done) | (go_simp; rfl)); (case hp => exact (Reps.c2 (show Kd.M k32 _ _ _ (⟨1000, (⟨#[105, 102, 10, 120]⟩ : ByteArray)⟩ : S32) [.int .i64 1000, .string (⟨#[105, 102, 10, 120]⟩ : ByteArray)] from (k32_mkM _ _ _ (⟨1000, (⟨#[105, 102, 10, 120]⟩ : ByteArray)⟩ : S32) )) (Reps.c2 (show Kd.M k32 _ _ _ (⟨2000, (⟨#[121]⟩ : ByteArray)⟩ : S32) [.int .i64 2000, .string (⟨#[121]⟩ : ByteArray)] from (k32_mkM _ _ _ (⟨2000, (⟨#[121]⟩ : ByteArray)⟩ : S32) )) (Reps.none _ _)))); intro v171 w15 ho16 hb hg_ hnew_; clear hg_ hnew_; (first | rw [← Ny170.out] at ho16 | (simp only [Int.reduceToNat] at ho16; rw [← Ny170.out] at ho16)); have n0_ := Aside0.mk (Kd.R_lower ho16 (below_size (by repeat (first | (with_reducible first | exact HB.out | apply below_alloc | apply pw_below_drewN | apply below_drew1) | exact HB.out)))); have n1_ := Aside0.mk (below_step (by repeat (first | (with_reducible first | exact HB.out | apply below_alloc | apply pw_below_drewN | apply below_drew1) | exact HB.out)) hb); clear HB; have HO172 := n0_; have HB := n1_; clear n0_ n1_; clear hb ho16; obtain ⟨Ao17, co17, eo17⟩ := Kd.R_slice HO172.out; subst eo17) | ((with_reducible refine gate_callee (f := 18) rfl ?_); refine goesL_ (some 5) rfl rfl Tryd.func18 (by kernel_rfl) rfl #[.slice Ao17 y170.length co17] rfl (by (try simp only [List.map_toArray, List.map_cons, List.map_nil]); first | done | rfl | (simp only [List.length_drop, List.length_take]; rfl)) ?_; (with_reducible refine (impl_SplitLines.calls k _ _ y170 t173 _ ?side1 ?side2 A1.out).mono ?_); (case side1 => repeat (first | exact (Kd.R_reads' HO172.out).2.2 | (with_reducible refine Kd.C_alloc ?_ _) | (with_reducible refine Kd.C_drewN ?_ _) | (with_reducible refine Kd.C_drew ?_))); (case side2 => exact (Kd.R_reads' HO172.out).2.1); rintro e w18 ⟨v174, rfl, ho0, hb⟩; refine ⟨_, rfl, ?_⟩; have n0_ := Aside0.mk (Kd.R_below (by (with_reducible repeat (first | apply Kd.R_alloc | apply Kd.R_drewN | apply Kd.R_drew)); exact HO172.out) hb); have n1_ := Aside0.mk (Kd.S_lower (Kd.S_new' ho0 (Kd.R_lt (by (with_reducible repeat (first | apply Kd.R_alloc | apply Kd.R_drewN | apply Kd.R_drew)); exact HO172.out))) (below_size (by repeat (first | (with_reducible first | exact HB.out | apply below_alloc | apply pw_below_drewN | apply below_drew1) | exact HB.out)))); have n2_ := Aside0.mk (below_step (by repeat (first | (with_reducible first | exact HB.out | apply below_alloc | apply pw_below_drewN | apply below_drew1) | exact HB.out)) hb); clear HO172; clear HB; have HO172 := n0_; have HO175 := n1_; have HB := n2_; clear n0_ n1_ n2_; (try clear hb); (try clear hb2); (try clear hk); (try clear hi); (try clear ho0); obtain ⟨Ao19, co19, eo19⟩ := Kd.S_slice HO175.out; subst eo19; have p176 : 0 ≤ (0 : Int) := (by omega); have q176 : 0 < (t173.length : Int) := of_decide_eq_true (by first | (with_reducible assumption) | assumption); obtain ⟨ad176, A176_0, c176_0, e176, hx176_0, hl176_0, hi176_0⟩ := at_L4 (Kd.S_reads' HO175.out).2.2 0 p176 q176; cases e176; obtain ⟨ce176, hce176, hMe176, hcc176⟩ := Kd.S_get HO175.out [] 0 p176 (by first | exact q176 | exact of_decide_eq_true (by first | (with_reducible assumption) | assumption) | (have e_ := (Kd.S_reads' HO175.out).1; omega)); obtain ⟨ve176_0, rfl, ge176_0⟩ := hMe176; have hv176_0 := hcc176 0 _ rfl; rw [Nat.add_zero, show ((Kd.slice 32 k32)).sz = 1 from rfl, Nat.mul_one] at hv176_0; replace hv176_0 := Option.some.inj (hv176_0.symm.trans hx176_0); rw [hv176_0] at ge176_0; have HL176_0 := Aside0.mk (show Kd.R k32 32 _ _ _ _ (rd_L4 t173 0) from ge176_0); clear hv176_0 ge176_0; clear hcc176 hce176; have qi176 : (0 < t173.length) = True := eq_true (by omega); (try rw [show ((0 : Int)).toNat = 0 from rfl] at hx176_0); (try rw [Addr.add_zero'] at hx176_0); have HR176_0 := Aside0.mk hi176_0; have HC176_0 := Aside0.mk hl176_0; clear hi176_0 hl176_0; replace p176 := eq_true p176; replace q176 := eq_true q176) | (go_at_call 19; (with_reducible refine (laws_text.calls k _ _ (rd_L4 t173 0) t177 _ ?side1 ?side2 A4.out).mono ?_); (case side1 => repeat (first | exact (by repeat (first | (with_reducible exact HR176_0.out) | (with_reducible refine Kd.C_alloc ?_ _) | (with_reducible refine Kd.C_drewN ?_ _) | (with_reducible refine Kd.C_drew ?_) | exact HR176_0.out)) | (with_reducible refine Kd.C_alloc ?_ _) | (with_reducible refine Kd.C_drewN ?_ _) | (with_reducible refine Kd.C_drew ?_))); (case side2 => exact HC176_0.out); rintro e w20 ⟨rfl, hb⟩; have n0_ := Aside0.mk (Kd.R_below (by (with_reducible repeat (first | apply Kd.R_alloc | apply Kd.R_drewN | apply Kd.R_drew)); exact HO172.out) hb); have n1_ := Aside0.mk (Kd.S_below (by (with_reducible repeat (first | apply Kd.S_alloc | apply Kd.S_drewN | apply Kd.S_drew)); exact HO175.out) hb); have n2_ := Aside0.mk (Kd.R_below (by (with_reducible repeat (first | apply Kd.R_alloc | apply Kd.R_drewN | apply Kd.R_drew)); exact HL176_0.out) hb); have n3_ := Aside0.mk (Kd.C_below (by repeat (first | (with_reducible exact HR176_0.out) | (with_reducible refine Kd.C_alloc ?_ _) | (with_reducible refine Kd.C_drewN ?_ _) | (with_reducible refine Kd.C_drew ?_) | exact HR176_0.out)) hb); have n4_ := Aside0.mk (below_step (by repeat (first | (with_reducible first | exact HB.out | apply below_alloc | apply pw_below_drewN | apply below_drew1) | exact HB.out)) hb); clear HO172; clear HO175; clear HL176_0; clear HR176_0; clear HB; have HO172 := n0_; have HO175 := n1_; have HL176_0 := n2_; have HR176_0 := n3_; have HB := n4_; clear n0_ n1_ n2_ n3_ n4_; (try clear hb); (try clear hb2); (try clear hk); (try clear hi)))
        go_ret
        exact ⟨by first | rfl | (simp [errW_none, errW_some] <;> rfl) | (simp [*, errW_none, errW_some] <;> rfl), by repeat (first | (with_reducible first | exact HB.out | apply below_alloc | apply pw_below_drewN | apply below_drew1) | exact HB.out)⟩
    · rw [if_neg c3] at H
      exact absurd H (by simp)
  · rw [if_neg c2] at H
    have c2b0 : ((t173.length : Int) == 2) = false := beq_eq_false_iff_ne.mpr c2
    have c2b1 : ((t173.length : Int) != 2) = true := bne_iff_ne.mpr c2
    obtain rfl := Option.some.inj H
    go_enter Tryd.func9, Tryd.ntmps9
    go_wp2_with (first | ((with_reducible refine gate_dst (N := 4) rfl ?_); refine Kd.R_lit k32 _ 32 ?hg (N := 4) ?hd (xs := ([(⟨1000, (⟨#[105, 102, 10, 120]⟩ : ByteArray)⟩ : S32), (⟨2000, (⟨#[121]⟩ : ByteArray)⟩ : S32)] : List (S32))) (inner := [.int .i64 1000, .string (⟨#[105, 102, 10, 120]⟩ : ByteArray), .int .i64 2000, .string (⟨#[121]⟩ : ByteArray)]) (ok := fun _ => True) (okp := fun _ => True) ?hr ?hp (fun _ hk => hk) trivial (Below.refl _ _) (Nat.le_refl _) (by simp) ?_; (case hd => rfl); (case hg => rfl); (case hr => first | (go_simp; done) | (go_simp; rfl)); (case hp => exact (Reps.c2 (show Kd.M k32 _ _ _ (⟨1000, (⟨#[105, 102, 10, 120]⟩ : ByteArray)⟩ : S32) [.int .i64 1000, .string (⟨#[105, 102, 10, 120]⟩ : ByteArray)] from (k32_mkM _ _ _ (⟨1000, (⟨#[105, 102, 10, 120]⟩ : ByteArray)⟩ : S32) )) (Reps.c2 (show Kd.M k32 _ _ _ (⟨2000, (⟨#[121]⟩ : ByteArray)⟩ : S32) [.int .i64 2000, .string (⟨#[121]⟩ : ByteArray)] from (k32_mkM _ _ _ (⟨2000, (⟨#[121]⟩ : ByteArray)⟩ : S32) )) (Reps.none _ _)))); intro v171 w21 ho22 hb hg_ hnew_; clear hg_ hnew_; (first | rw [← Ny170.out] at ho22 | (simp only [Int.reduceToNat] at ho22; rw [← Ny170.out] at ho22)); have n0_ := Aside0.mk (Kd.R_lower ho22 (below_size (by repeat (first | (with_reducible first | exact HB.out | apply below_alloc | apply pw_below_drewN | apply below_drew1) | exact HB.out)))); have n1_ := Aside0.mk (below_step (by repeat (first | (with_reducible first | exact HB.out | apply below_alloc | apply pw_below_drewN | apply below_drew1) | exact HB.out)) hb); clear HB; have HO172 := n0_; have HB := n1_; clear n0_ n1_; clear hb ho22; obtain ⟨Ao23, co23, eo23⟩ := Kd.R_slice HO172.out; subst eo23) | ((with_reducible refine gate_callee (f := 18) rfl ?_); refine goesL_ (some 5) rfl rfl Tryd.func18 (by kernel_rfl) rfl #[.slice Ao23 y170.length co23] rfl (by (try simp only [List.map_toArray, List.map_cons, List.map_nil]); first | done | rfl | (simp only [List.length_drop, List.length_take]; rfl)) ?_; (with_reducible refine (impl_SplitLines.calls k _ _ y170 t173 _ ?side1 ?side2 A1.out).mono ?_); (case side1 => repeat (first | exact (Kd.R_reads' HO172.out).2.2 | (with_reducible refine Kd.C_alloc ?_ _) | (with_reducible refine Kd.C_drewN ?_ _) | (with_reducible refine Kd.C_drew ?_))); (case side2 => exact (Kd.R_reads' HO172.out).2.1); rintro e w24 ⟨v174, rfl, ho0, hb⟩; refine ⟨_, rfl, ?_⟩; have n0_ := Aside0.mk (Kd.R_below (by (with_reducible repeat (first | apply Kd.R_alloc | apply Kd.R_drewN | apply Kd.R_drew)); exact HO172.out) hb); have n1_ := Aside0.mk (Kd.S_lower (Kd.S_new' ho0 (Kd.R_lt (by (with_reducible repeat (first | apply Kd.R_alloc | apply Kd.R_drewN | apply Kd.R_drew)); exact HO172.out))) (below_size (by repeat (first | (with_reducible first | exact HB.out | apply below_alloc | apply pw_below_drewN | apply below_drew1) | exact HB.out)))); have n2_ := Aside0.mk (below_step (by repeat (first | (with_reducible first | exact HB.out | apply below_alloc | apply pw_below_drewN | apply below_drew1) | exact HB.out)) hb); clear HO172; clear HB; have HO172 := n0_; have HO175 := n1_; have HB := n2_; clear n0_ n1_ n2_; (try clear hb); (try clear hb2); (try clear hk); (try clear hi); (try clear ho0); obtain ⟨Ao25, co25, eo25⟩ := Kd.S_slice HO175.out; subst eo25))
    go_ret
    exact ⟨by first | rfl | (simp [errW_none, errW_some] <;> rfl) | (simp [*, errW_none, errW_some] <;> rfl), by repeat (first | (with_reducible first | exact HB.out | apply below_alloc | apply pw_below_drewN | apply below_drew1) | exact HB.out)⟩

/-! ### laws_FnTake: function 3 -/
def laws_FnTake.j0 : Nat → List (S32) → Int → Bool → Option (Bool)
  | 0, _, _, _ => none
  | k + 1, x0, x1, x14 => if x14 = true then (some true) else ((impl_Take.f x0 x1).bind fun t182 => (if 0 ≤ (mn x1 (x0.length : Int)) then (if (mn x1 (x0.length : Int)) ≤ (x0.length : Int) then ((laws_same.f k t182 (x0.take ((mn x1 (x0.length : Int)) : Int).toNat)).bind fun t189 => (if t189 = true then ((laws_waking.f k).bind fun t190 => (some t190)) else (some false))) else (none)) else (none)))
def laws_FnTake.f (k : Nat) (l0 : List (S32)) (a1 : Int) : Option (Bool) := (laws_zzFits4.f k l0).bind fun t180 => (if t180 = true then ((laws_small.f k l0).bind fun t181 => (if t181 = true then (laws_FnTake.j0 k l0 a1 (decide (a1 < 1))) else (laws_FnTake.j0 k l0 a1 true))) else (some true))
theorem laws_FnTake.mono_l : ∀ k, (∀ y0 y1 y2, LeO (laws_FnTake.j0 k y0 y1 y2) (laws_FnTake.j0 (k + 1) y0 y1 y2))
  | 0 => fun _ _ _ r h => by simp [laws_FnTake.j0] at h
  | k + 1 => by
    have ih0 := laws_FnTake.mono_l k
    · intro y0 y1 y2
      unfold laws_FnTake.j0
      repeat' first
      | (with_reducible exact ih0 _ _ _)
      | (with_reducible exact laws_same.mono _ _ _)
      | (with_reducible exact laws_small.mono _ _)
      | (with_reducible exact laws_waking.mono _)
      | (with_reducible exact laws_zzFits4.mono _ _)
      | (with_reducible exact LeO.refl _)
      | (with_reducible exact LeO.none _)
      | (with_reducible refine LeO.ite ?_ ?_)
      | (with_reducible refine LeO.bind ?_ (fun _ => ?_))
      | exact ih0 _ _ _
      | exact laws_same.mono _ _ _
      | exact laws_small.mono _ _
      | exact laws_waking.mono _
      | exact laws_zzFits4.mono _ _
      | exact LeO.none _
      | refine LeO.ite ?_ ?_
      | refine LeO.bind ?_ (fun _ => ?_)
theorem laws_FnTake.mono : ∀ a0 a1 k, LeO (laws_FnTake.f k a0 a1) (laws_FnTake.f (k + 1) a0 a1) := by
  intro a0 a1 k
  have ih0 := laws_FnTake.mono_l k
  unfold laws_FnTake.f
  repeat' first
      | (with_reducible exact ih0 _ _ _)
      | (with_reducible exact laws_same.mono _ _ _)
      | (with_reducible exact laws_small.mono _ _)
      | (with_reducible exact laws_waking.mono _)
      | (with_reducible exact laws_zzFits4.mono _ _)
      | (with_reducible exact LeO.refl _)
      | (with_reducible exact LeO.none _)
      | (with_reducible refine LeO.ite ?_ ?_)
      | (with_reducible refine LeO.bind ?_ (fun _ => ?_))
      | exact ih0 _ _ _
      | exact laws_same.mono _ _ _
      | exact laws_small.mono _ _
      | exact laws_waking.mono _
      | exact laws_zzFits4.mono _ _
      | exact LeO.none _
      | refine LeO.ite ?_ ?_
      | refine LeO.bind ?_ (fun _ => ?_)
def laws_FnTake.T5 : Bool × List (List Nat × List Nat) := (true, [([], []), ([], []), ([0, 1], [0, 1]), ([], []), ([], []), ([], []), ([5], [5]), ([4, 6], [4, 6]), ([3, 7], [3, 7]), ([2, 8, 2], [2, 8]), ([9, 9], [9]), ([10, 10], [10]), ([10, 11], [10, 11]), ([12, 11, 0, 1, 2, 3, 4, 5, 6, 7, 8, 9, 10, 11, 12], [12])])
def laws_FnTake.B5 : List Nat := [0, 0, 3, 0, 0, 0, 32, 112, 248, 511, 1023, 2047, 4095, 8191]
theorem laws_FnTake.tab5 : rtab .any (opsOf Tryd.f3 5) = laws_FnTake.T5 := by kernel_rfl
theorem laws_FnTake.bits5 : waitsOk laws_FnTake.T5.2 laws_FnTake.B5 = true := by kernel_rfl
set_option maxHeartbeats 8000000 in
set_option maxRecDepth 100000 in
theorem laws_FnTake.calls (k : Nat) (A0 : Option Addr) (c0 : Nat) (l0 : List (S32)) (a1 : Int) (r : Bool) (w : World) (hr0 : Kd.C k32 w A0 l0.length l0) (hc0 : l0.length ≤ c0) (hV : Go.Proofs.YtkdkkbadmjpkfaaDoorFmt.VarsOK w) (h : laws_FnTake.f k l0 a1 = some r) :
    Calls Tryd.prog 3 #[.slice A0 l0.length c0, .int .i64 a1] w fun e w' => e = .returned (.bool r) ∧ Below w.heap.size w w' := by
  have HR0 := Aside0.mk hr0
  have HC0 := Aside0.mk hc0
  clear hr0 hc0
  have HB := Aside0.mk (Below.refl w.heap.size w)
  have HV := Aside0.mk hV
  clear hV
  have H : ((laws_zzFits4.f k l0).bind fun t180 => (if t180 = true then ((laws_small.f k l0).bind fun t181 => (if t181 = true then (laws_FnTake.j0 k l0 a1 (decide (a1 < 1))) else (laws_FnTake.j0 k l0 a1 true))) else (some true))) = some r := h
  clear h
  replace H := Option.bind_eq_some_iff.mp H
  obtain ⟨t180, A30, H⟩ := H
  replace H : (if t180 = true then ((laws_small.f k l0).bind fun t181 => (if t181 = true then (laws_FnTake.j0 k l0 a1 (decide (a1 < 1))) else (laws_FnTake.j0 k l0 a1 true))) else (some true)) = some r := H
  have A3 := Aside0.mk A30
  clear A30
  by_cases c4 : t180 = true
  · subst c4
    have H1 : ((laws_small.f k l0).bind fun t181 => (if t181 = true then (laws_FnTake.j0 k l0 a1 (decide (a1 < 1))) else (laws_FnTake.j0 k l0 a1 true))) = some r := by rw [if_pos rfl] at H; exact H
    clear H
    have H := H1
    clear H1
    have HC5 := Aside0.mk H
    clear H
    go_enter Tryd.func3, Tryd.ntmps3
    go_upto_region 3 with (first | ((with_reducible refine gate_callee (f := 5) rfl ?_); refine goesL_ (some 6) rfl rfl Tryd.func5 (by kernel_rfl) rfl #[.slice A0 l0.length c0] rfl (by (try simp only [List.map_toArray, List.map_cons, List.map_nil]); first | done | rfl | (simp only [List.length_drop, List.length_take]; rfl)) ?_; (with_reducible refine (laws_zzFits4.calls k _ _ l0 true _ ?side1 ?side2 A3.out).mono ?_); (case side1 => repeat (first | exact HR0.out | (with_reducible refine Kd.C_alloc ?_ _) | (with_reducible refine Kd.C_drewN ?_ _) | (with_reducible refine Kd.C_drew ?_))); (case side2 => exact HC0.out); rintro e w6 ⟨rfl, hb⟩; refine ⟨_, rfl, ?_⟩; have n0_ := Aside0.mk (below_step (by repeat (first | (with_reducible first | exact HB.out | apply below_alloc | apply pw_below_drewN | apply below_drew1) | exact HB.out)) hb); clear HB; have HB := n0_; clear n0_; (try clear hb); (try clear hb2); (try clear hk); (try clear hi)))
    (try simp only [Act.put, List.setIfInBounds_toArray, List.set_cons_zero, List.set_cons_succ])
    go_cut [14] (fun v14 wc => ∃ (kq : Nat) (x14_4 : Bool), v14 = .bool x14_4 ∧ Aside0 (laws_FnTake.j0 kq l0 a1 x14_4 = some r) ∧ Aside0 (kq ≤ k) ∧ Aside0 (Below w.heap.size w wc))
    case first =>
      have H := HC5.out
      clear HC5
      replace H := Option.bind_eq_some_iff.mp H
      obtain ⟨t181, A70, H⟩ := H
      replace H : (if t181 = true then (laws_FnTake.j0 k l0 a1 (decide (a1 < 1))) else (laws_FnTake.j0 k l0 a1 true)) = some r := H
      have A7 := Aside0.mk A70
      clear A70
      by_cases c8 : t181 = true
      · subst c8
        have H1 : (laws_FnTake.j0 k l0 a1 (decide (a1 < 1))) = some r := by rw [if_pos rfl] at H; exact H
        clear H
        have H := H1
        clear H1
        have H' := Aside0.mk H
        clear H
        go_wp2_with (first | ((with_reducible refine gate_callee (f := 6) rfl ?_); refine goesL_ (some 9) rfl rfl Tryd.func6 (by kernel_rfl) rfl #[.slice A0 l0.length c0] rfl (by (try simp only [List.map_toArray, List.map_cons, List.map_nil]); first | done | rfl | (simp only [List.length_drop, List.length_take]; rfl)) ?_; (with_reducible refine (laws_small.calls k _ _ l0 true _ ?side1 ?side2 A7.out).mono ?_); (case side1 => repeat (first | exact (Kd.C_below HR0.out HB.out) | (with_reducible refine Kd.C_alloc ?_ _) | (with_reducible refine Kd.C_drewN ?_ _) | (with_reducible refine Kd.C_drew ?_))); (case side2 => exact HC0.out); rintro e w9 ⟨rfl, hb⟩; refine ⟨_, rfl, ?_⟩; have n0_ := Aside0.mk (below_step (by repeat (first | (with_reducible first | exact HB.out | apply below_alloc | apply pw_below_drewN | apply below_drew1) | exact HB.out)) hb); clear HB; have HB := n0_; clear n0_; (try clear hb); (try clear hb2); (try clear hk); (try clear hi)))
        go_meet
        case rel => exact ⟨_, (decide (a1 < 1)), (by first | rfl | (simp; done) | (simp [*]; done)), H', ⟨by first | omega | exact Nat.le_refl _⟩, ⟨by repeat (first | (with_reducible first | exact HB.out | apply below_alloc | apply pw_below_drewN | apply below_drew1) | exact HB.out)⟩⟩
      · replace c8 := Bool.eq_false_iff.mpr c8
        subst c8
        have H1 : (laws_FnTake.j0 k l0 a1 true) = some r := by rw [if_neg (show ¬ (false = true) by decide)] at H; exact H
        clear H
        have H := H1
        clear H1
        have H' := Aside0.mk H
        clear H
        go_wp2_with (first | ((with_reducible refine gate_callee (f := 6) rfl ?_); refine goesL_ (some 9) rfl rfl Tryd.func6 (by kernel_rfl) rfl #[.slice A0 l0.length c0] rfl (by (try simp only [List.map_toArray, List.map_cons, List.map_nil]); first | done | rfl | (simp only [List.length_drop, List.length_take]; rfl)) ?_; (with_reducible refine (laws_small.calls k _ _ l0 false _ ?side1 ?side2 A7.out).mono ?_); (case side1 => repeat (first | exact (Kd.C_below HR0.out HB.out) | (with_reducible refine Kd.C_alloc ?_ _) | (with_reducible refine Kd.C_drewN ?_ _) | (with_reducible refine Kd.C_drew ?_))); (case side2 => exact HC0.out); rintro e w10 ⟨rfl, hb⟩; refine ⟨_, rfl, ?_⟩; have n0_ := Aside0.mk (below_step (by repeat (first | (with_reducible first | exact HB.out | apply below_alloc | apply pw_below_drewN | apply below_drew1) | exact HB.out)) hb); clear HB; have HB := n0_; clear n0_; (try clear hb); (try clear hb2); (try clear hk); (try clear hi)))
        go_meet
        case rel => exact ⟨_, (true), (by first | rfl | (simp; done) | (simp [*]; done)), H', ⟨by first | omega | exact Nat.le_refl _⟩, ⟨by repeat (first | (with_reducible first | exact HB.out | apply below_alloc | apply pw_below_drewN | apply below_drew1) | exact HB.out)⟩⟩
    case rest =>
      clear HC5
      try clear p2
      try clear c3
      try clear c4
      try clear c5
      try clear c6
      try clear c8
      obtain ⟨kq, x14_4, rfl, HA, HJ4, HB⟩ := hcut
      cases kq with
      | zero => exact absurd HA.out (by simp [laws_FnTake.j0])
      | succ kj4 =>
        have H := HA.out
        clear HA
        simp only [laws_FnTake.j0] at H
        by_cases c11 : x14_4 = true
        · subst c11
          have H1 : (some true) = some r := by rw [if_pos rfl] at H; exact H
          clear H
          have H := H1
          clear H1
          obtain rfl := Option.some.inj H
          go_wp2
          go_ret
          exact ⟨by first | rfl | (simp [errW_none, errW_some] <;> rfl) | (simp [*, errW_none, errW_some] <;> rfl), by repeat (first | (with_reducible first | exact HB.out | apply below_alloc | apply pw_below_drewN | apply below_drew1) | exact HB.out)⟩
        · replace c11 := Bool.eq_false_iff.mpr c11
          subst c11
          have H1 : ((impl_Take.f l0 a1).bind fun t182 => (if 0 ≤ (mn a1 (l0.length : Int)) then (if (mn a1 (l0.length : Int)) ≤ (l0.length : Int) then ((laws_same.f kj4 t182 (l0.take ((mn a1 (l0.length : Int)) : Int).toNat)).bind fun t189 => (if t189 = true then ((laws_waking.f kj4).bind fun t190 => (some t190)) else (some false))) else (none)) else (none))) = some r := by rw [if_neg (show ¬ (false = true) by decide)] at H; exact H
          clear H
          have H := H1
          clear H1
          replace H := Option.bind_eq_some_iff.mp H
          obtain ⟨t182, A120, H⟩ := H
          replace H : (if 0 ≤ (mn a1 (l0.length : Int)) then (if (mn a1 (l0.length : Int)) ≤ (l0.length : Int) then ((laws_same.f kj4 t182 (l0.take ((mn a1 (l0.length : Int)) : Int).toNat)).bind fun t189 => (if t189 = true then ((laws_waking.f kj4).bind fun t190 => (some t190)) else (some false))) else (none)) else (none)) = some r := H
          have A12 := Aside0.mk A120
          clear A120
          obtain ⟨ji13, hji13⟩ : ∃ j_ : Int, (mn a1 (l0.length : Int)) = j_ := ⟨_, rfl⟩
          replace H : (if 0 ≤ (ji13) then (if (ji13) ≤ (l0.length : Int) then ((laws_same.f kj4 t182 (l0.take ((ji13) : Int).toNat)).bind fun t189 => (if t189 = true then ((laws_waking.f kj4).bind fun t190 => (some t190)) else (some false))) else (none)) else (none)) = some r := by first | (rw [hji13] at H; exact H) | (simp only [hji13] at H ⊢; exact H)
          (try rw [hji13] at A12)
          have hji13_ : (if (l0.length : Int) < a1 then (l0.length : Int) else a1) = ji13 := hji13
          by_cases c14 : 0 ≤ (ji13)
          · rw [if_pos c14] at H
            have c14b0 := eq_true c14
            have c14b1 : decide (0 ≤ (ji13)) = true := decide_eq_true c14
            clear c14
            by_cases c15 : (ji13) ≤ (l0.length : Int)
            · rw [if_pos c15] at H
              have c15b0 := eq_true c15
              have c15b1 : decide ((ji13) ≤ (l0.length : Int)) = true := decide_eq_true c15
              clear c15
              obtain ⟨y185, hy185⟩ : ∃ y_ : List (S32), y_ = (l0.take ((ji13) : Int).toNat) := ⟨_, rfl⟩
              replace H : ((laws_same.f kj4 t182 y185).bind fun t189 => (if t189 = true then ((laws_waking.f kj4).bind fun t190 => (some t190)) else (some false))) = some r := by first | (rw [hy185]; with_reducible exact H) | (have H2_ := (Option.bind_some _ _).symm.trans H; rw [hy185]; with_reducible exact H2_) | (have H2_ := (Option.bind_some _ _).symm.trans H; with_reducible exact H2_) | with_reducible exact H | (rw [hy185]; exact H) | exact H
              have Ny185 := Aside0.mk hy185
              clear hy185
              replace H := Option.bind_eq_some_iff.mp H
              obtain ⟨t189, A160, H⟩ := H
              replace H : (if t189 = true then ((laws_waking.f kj4).bind fun t190 => (some t190)) else (some false)) = some r := H
              have A16 := Aside0.mk A160
              clear A160
              by_cases c17 : t189 = true
              · subst c17
                have H1 : ((laws_waking.f kj4).bind fun t190 => (some t190)) = some r := by rw [if_pos rfl] at H; exact H
                clear H
                have H := H1
                clear H1
                replace H := Option.bind_eq_some_iff.mp H
                obtain ⟨t190, A180, H⟩ := H
                replace H : (some t190) = some r := H
                have A18 := Aside0.mk A180
                clear A180
                obtain rfl := Option.some.inj H
                try go_wp2
                have n0_ := Aside0.mk (below_drew1 HB.out)
                clear HB
                have HB := n0_
                clear n0_
                have q20 : ((ji13) : Int) ≤ ((l0.length : Int) : Int) := of_decide_eq_true (by first | (with_reducible assumption) | assumption)
                obtain ⟨i020, hi020, _, hsz20, _⟩ := info_parts info32
                have hroom20 : l0.length ≤ c0 := HC0.out
                have hC20 : Kd.C k32 _ A0 l0.length l0 := HR0.out
                have hcut20 := cut_to (P := Tryd.prog) 22 32 .i64 Tryd.underlying22 hi020 A0 l0.length c0 (ji13) (of_decide_eq_true (by first | (with_reducible assumption) | assumption)) q20 hroom20
                have hr20 := Kd.C_take (m := ((ji13) : Int).toNat) hC20 (by omega)
                have hy20 : y185.length = ((ji13) : Int).toNat := (by rw [Ny185.out, List.length_take]; omega)
                rw [← Ny185.out] at hr20
                rw [← hy20] at hcut20
                have HR188 := Aside0.mk hr20
                have HC188 := Aside0.mk (show y185.length ≤ c0 from by omega)
                clear hr20 hC20 hroom20 hi020 hsz20
                have KY20 := Aside0.mk hy20
                clear hy20
                replace q20 := eq_true q20
                refine start_ (n := 14) (S := fun w' => True) (ds := []) #[false, false, false, false, false, false, false, false, false, false, false, false, false, false] (by kernel_rfl) rfl rfl trivial (fun hHeld => ?_); refine with_tabW laws_FnTake.tab5 laws_FnTake.bits5 (fun HT_ HW_ => ?_)
                generalize wc.drew = w19 at HB HR188 hHeld ⊢
                refine pure_ (i := 0) (N := some 15) (v := ?_) (a' := ?_) #[true, false, false, false, false, false, false, false, false, false, false, false, false, false] rfl rfl (any_of HT_.out (by kernel_rfl)) (fun _ _ _ h => h) (Or.inl ⟨by rfl, ?_⟩) ?_ ?_
                rotate_left
                · intro w'
                  go_simp
                  with_reducible rfl
                rotate_left
                · simp only [Act.put, List.setIfInBounds_toArray, List.set_cons_zero, List.set_cons_succ, i64_w, i32_w]
                  rfl
                refine pure_ (i := 1) (N := some 16) (v := ?_) (a' := ?_) #[true, true, false, false, false, false, false, false, false, false, false, false, false, false] rfl rfl (any_of HT_.out (by kernel_rfl)) (fun _ _ _ h => h) (Or.inl ⟨by rfl, ?_⟩) ?_ ?_
                rotate_left
                · intro w'
                  go_simp
                  with_reducible rfl
                rotate_left
                · simp only [Act.put, List.setIfInBounds_toArray, List.set_cons_zero, List.set_cons_succ, i64_w, i32_w]
                  rfl
                refine pure_ (i := 3) (N := some 18) (v := ?_) (a' := ?_) #[true, true, false, true, false, false, false, false, false, false, false, false, false, false] rfl rfl (any_of HT_.out (by kernel_rfl)) (fun _ _ _ h => h) (Or.inl ⟨by rfl, ?_⟩) ?_ ?_
                rotate_left
                · intro w'
                  go_simp
                  with_reducible rfl
                rotate_left
                · simp only [Act.put, List.setIfInBounds_toArray, List.set_cons_zero, List.set_cons_succ, i64_w, i32_w]
                  rfl
                refine pure_ (i := 4) (N := some 19) (v := ?_) (a' := ?_) #[true, true, false, true, true, false, false, false, false, false, false, false, false, false] rfl rfl (any_of HT_.out (by kernel_rfl)) (fun _ _ _ h => h) (Or.inl ⟨by rfl, ?_⟩) ?_ ?_
                rotate_left
                · intro w'
                  go_simp
                  with_reducible rfl
                rotate_left
                · simp only [Act.put, List.setIfInBounds_toArray, List.set_cons_zero, List.set_cons_succ, i64_w, i32_w]
                  rfl
                refine pure_ (i := 5) (N := some 20) (v := ?_) (a' := ?_) #[true, true, false, true, true, true, false, false, false, false, false, false, false, false] rfl rfl (any_of HT_.out (by kernel_rfl)) (fun _ _ _ h => h) (Or.inl ⟨by rfl, ?_⟩) ?_ ?_
                rotate_left
                · intro w'
                  go_simp
                  with_reducible rfl
                rotate_left
                · simp only [Act.put, List.setIfInBounds_toArray, List.set_cons_zero, List.set_cons_succ, i64_w, i32_w]
                  rfl
                refine pure_ (i := 6) (N := some 21) (v := ?_) (a' := ?_) #[true, true, false, true, true, true, true, false, false, false, false, false, false, false] rfl rfl (any_of HT_.out (by kernel_rfl)) (fun _ _ _ h => h) (Or.inl ⟨by rfl, ?_⟩) ?_ ?_
                rotate_left
                · intro w'
                  go_simp
                  with_reducible rfl
                rotate_left
                · simp only [Act.put, List.setIfInBounds_toArray, List.set_cons_zero, List.set_cons_succ, i64_w, i32_w]
                  rfl
                refine pure_ (i := 7) (N := some 22) (v := ?_) (a' := ?_) #[true, true, false, true, true, true, true, true, false, false, false, false, false, false] rfl rfl (any_of HT_.out (by kernel_rfl)) (fun _ _ _ h => h) (Or.inl ⟨by rfl, ?_⟩) ?_ ?_
                rotate_left
                · intro w'
                  go_simp
                  with_reducible rfl
                rotate_left
                · simp only [Act.put, List.setIfInBounds_toArray, List.set_cons_zero, List.set_cons_succ, i64_w, i32_w]
                  rfl
                refine pure_ (i := 8) (N := some 23) (v := ?_) (a' := ?_) #[true, true, false, true, true, true, true, true, true, false, false, false, false, false] rfl rfl (any_of HT_.out (by kernel_rfl)) (fun _ _ _ h => h) (Or.inl ⟨by rfl, ?_⟩) ?_ ?_
                rotate_left
                · intro w'
                  go_simp
                  with_reducible rfl
                rotate_left
                · simp only [Act.put, List.setIfInBounds_toArray, List.set_cons_zero, List.set_cons_succ, i64_w, i32_w]
                  rfl
                refine one_ (i := 2) (N := some 17) #[true, true, true, true, true, true, true, true, true, false, false, false, false, false] rfl rfl (one_of HT_.out (by kernel_rfl)) (by decide) (fun K hK => ?_)
                refine goes_ Tryd.func8 (by kernel_rfl) rfl #[.slice A0 l0.length c0, .int .i64 a1] (by rfl) rfl rfl (by (try simp only [List.map_toArray, List.map_cons, List.map_nil]); first | done | rfl | (simp only [List.length_drop, List.length_take]; rfl)) ?_
                with_reducible refine (impl_Take.calls _ _ l0 a1 t182 _ ?side1 ?side2 ?side3 A12.out).mono ?_
                (case side1 => repeat (first | exact (Kd.C_below HR0.out HB.out) | (with_reducible refine Kd.C_alloc ?_ _) | (with_reducible refine Kd.C_drewN ?_ _) | (with_reducible refine Kd.C_drew ?_)))
                (case side2 => exact HC0.out)
                (case side3 => exact Go.Proofs.YtkdkkbadmjpkfaaDoorFmt.VarsOK.below HV.out (by repeat (first | (with_reducible first | exact HB.out | apply below_alloc | apply pw_below_drewN | apply below_drew1) | exact HB.out)))
                rintro e w21 ⟨v183, rfl, ho0, hb⟩
                refine ⟨_, rfl, ?_⟩
                have n0_ := Aside0.mk (Kd.R_lower ho0 (below_size (by repeat (first | (with_reducible first | exact HB.out | apply below_alloc | apply pw_below_drewN | apply below_drew1) | exact HB.out))))
                have n1_ := Aside0.mk (below_step (by repeat (first | (with_reducible first | exact HB.out | apply below_alloc | apply pw_below_drewN | apply below_drew1) | exact HB.out)) hb)
                clear HB
                have HO184 := n0_
                have HB := n1_
                clear n0_ n1_
                (try clear hb)
                (try clear hb2)
                (try clear hk)
                (try clear hi)
                (try clear ho0)
                obtain ⟨Ao22, co22, eo22⟩ := Kd.R_slice HO184.out
                (first | subst eo22 | (injection eo22 with f1_ f2_ f3_; have f4_ := f1_.symm; have f5_ := f3_.symm; clear f1_ f2_ f3_; subst f4_; subst f5_))
                refine hK.out _ _ trivial (fun hHeld => ?_)
                clear hK K
                refine norm_ (a' := ?_) ?_ ?_
                rotate_left
                · show Act.put _ (some 17) _ = _
                  simp only [Act.put, List.setIfInBounds_toArray, List.set_cons_zero, List.set_cons_succ, i64_w, i32_w]
                  rfl
                refine one_ (i := 9) (N := some 24) #[true, true, true, true, true, true, true, true, true, true, false, false, false, false] rfl rfl (one_of HT_.out (by kernel_rfl)) (by decide) (fun K hK => ?_)
                refine goes_ Tryd.func7 (by kernel_rfl) rfl #[.slice Ao22 t182.length co22, .slice A0 y185.length c0] (by rfl) rfl rfl (by (try simp only [List.map_toArray, List.map_cons, List.map_nil]); first | done | rfl | (simp only [List.length_drop, List.length_take]; rfl)) ?_
                with_reducible refine (laws_same.calls kj4 _ _ t182 _ _ y185 true _ ?side1 ?side2 ?side3 ?side4 A16.out).mono ?_
                (case side1 => repeat (first | exact (Kd.R_reads' HO184.out).2.2 | (with_reducible refine Kd.C_alloc ?_ _) | (with_reducible refine Kd.C_drewN ?_ _) | (with_reducible refine Kd.C_drew ?_)))
                (case side2 => exact (Kd.R_reads' HO184.out).2.1)
                (case side3 => repeat (first | exact (Kd.C_below HR188.out HB.out) | (with_reducible refine Kd.C_alloc ?_ _) | (with_reducible refine Kd.C_drewN ?_ _) | (with_reducible refine Kd.C_drew ?_)))
                (case side4 => exact HC188.out)
                rintro e w' ⟨rfl, ⟨nd, rfl⟩⟩
                refine ⟨_, rfl, ?_⟩
                refine hK.out _ _ trivial (fun hHeld => ?_)
                clear hK K
                refine norm_ (a' := ?_) ?_ ?_
                rotate_left
                · show Act.put _ (some 24) _ = _
                  simp only [Act.put, List.setIfInBounds_toArray, List.set_cons_zero, List.set_cons_succ, i64_w, i32_w]
                  rfl
                refine pure_ (i := 10) (N := some 25) (v := ?_) (a' := ?_) #[true, true, true, true, true, true, true, true, true, true, true, false, false, false] rfl rfl (any_of HT_.out (by kernel_rfl)) (fun _ _ _ h => h) (Or.inl ⟨by rfl, ?_⟩) ?_ ?_
                rotate_left
                · intro w'
                  go_simp
                  with_reducible rfl
                rotate_left
                · simp only [Act.put, List.setIfInBounds_toArray, List.set_cons_zero, List.set_cons_succ, i64_w, i32_w]
                  rfl
                refine one_ (i := 11) (N := some 26) #[true, true, true, true, true, true, true, true, true, true, true, true, false, false] rfl rfl (one_of HT_.out (by kernel_rfl)) (by decide) (fun K hK => ?_)
                refine goes_ Tryd.func9 (by kernel_rfl) rfl #[] (by rfl) rfl rfl (by (try simp only [List.map_toArray, List.map_cons, List.map_nil]); first | done | rfl | (simp only [List.length_drop, List.length_take]; rfl)) ?_
                with_reducible refine (laws_waking.calls kj4  t190 _ A18.out).mono ?_
                rintro e w23 ⟨rfl, hb⟩
                refine ⟨_, rfl, ?_⟩
                have n0_ := Aside0.mk (Kd.R_below (by (with_reducible repeat (first | apply Kd.R_alloc | apply Kd.R_drewN | apply Kd.R_drew)); exact HO184.out) hb)
                have n1_ := Aside0.mk (below_step (by repeat (first | (with_reducible first | exact HB.out | apply below_alloc | apply pw_below_drewN | apply below_drew1) | exact HB.out)) hb)
                clear HO184
                clear HB
                have HO184 := n0_
                have HB := n1_
                clear n0_ n1_
                (try clear hb)
                (try clear hb2)
                (try clear hk)
                (try clear hi)
                refine hK.out _ _ trivial (fun hHeld => ?_)
                clear hK K
                refine norm_ (a' := ?_) ?_ ?_
                rotate_left
                · show Act.put _ (some 26) _ = _
                  simp only [Act.put, List.setIfInBounds_toArray, List.set_cons_zero, List.set_cons_succ, i64_w, i32_w]
                  rfl
                refine pure_ (i := 12) (N := some 27) (v := ?_) (a' := ?_) #[true, true, true, true, true, true, true, true, true, true, true, true, true, false] rfl rfl (any_of HT_.out (by kernel_rfl)) (fun _ _ _ h => h) (Or.inl ⟨by rfl, ?_⟩) ?_ ?_
                rotate_left
                · intro w'
                  go_simp
                  with_reducible rfl
                rotate_left
                · simp only [Act.put, List.setIfInBounds_toArray, List.set_cons_zero, List.set_cons_succ, i64_w, i32_w]
                  rfl
                refine pure_ (i := 13) (N := some 4) (v := ?_) (a' := ?_) #[true, true, true, true, true, true, true, true, true, true, true, true, true, true] rfl rfl (any_of HT_.out (by kernel_rfl)) (fun _ _ _ h => h) (Or.inl ⟨by rfl, ?_⟩) ?_ ?_
                rotate_left
                · intro w'
                  go_simp
                  with_reducible rfl
                rotate_left
                · simp only [Act.put, List.setIfInBounds_toArray, List.set_cons_zero, List.set_cons_succ, i64_w, i32_w]
                  rfl
                refine done_ (done_of HT_.out (by kernel_rfl)) ?_
                try go_wp2
                go_ret
                exact ⟨by first | rfl | (simp [errW_none, errW_some] <;> rfl) | (simp only [← hji13]; first | rfl | (simp [errW_none, errW_some] <;> rfl)) | (simp [*, errW_none, errW_some] <;> rfl), by repeat (first | (with_reducible first | exact HB.out | apply below_alloc | apply pw_below_drewN | apply below_drew1) | exact HB.out)⟩
              · replace c17 := Bool.eq_false_iff.mpr c17
                subst c17
                have H1 : (some false) = some r := by rw [if_neg (show ¬ (false = true) by decide)] at H; exact H
                clear H
                have H := H1
                clear H1
                obtain rfl := Option.some.inj H
                try go_wp2
                have n0_ := Aside0.mk (below_drew1 HB.out)
                clear HB
                have HB := n0_
                clear n0_
                have q25 : ((ji13) : Int) ≤ ((l0.length : Int) : Int) := of_decide_eq_true (by first | (with_reducible assumption) | assumption)
                obtain ⟨i025, hi025, _, hsz25, _⟩ := info_parts info32
                have hroom25 : l0.length ≤ c0 := HC0.out
                have hC25 : Kd.C k32 _ A0 l0.length l0 := HR0.out
                have hcut25 := cut_to (P := Tryd.prog) 22 32 .i64 Tryd.underlying22 hi025 A0 l0.length c0 (ji13) (of_decide_eq_true (by first | (with_reducible assumption) | assumption)) q25 hroom25
                have hr25 := Kd.C_take (m := ((ji13) : Int).toNat) hC25 (by omega)
                have hy25 : y185.length = ((ji13) : Int).toNat := (by rw [Ny185.out, List.length_take]; omega)
                rw [← Ny185.out] at hr25
                rw [← hy25] at hcut25
                have HR188 := Aside0.mk hr25
                have HC188 := Aside0.mk (show y185.length ≤ c0 from by omega)
                clear hr25 hC25 hroom25 hi025 hsz25
                have KY25 := Aside0.mk hy25
                clear hy25
                replace q25 := eq_true q25
                refine start_ (n := 14) (S := fun w' => True) (ds := []) #[false, false, false, false, false, false, false, false, false, false, false, false, false, false] (by kernel_rfl) rfl rfl trivial (fun hHeld => ?_); refine with_tabW laws_FnTake.tab5 laws_FnTake.bits5 (fun HT_ HW_ => ?_)
                generalize wc.drew = w24 at HB HR188 hHeld ⊢
                refine pure_ (i := 0) (N := some 15) (v := ?_) (a' := ?_) #[true, false, false, false, false, false, false, false, false, false, false, false, false, false] rfl rfl (any_of HT_.out (by kernel_rfl)) (fun _ _ _ h => h) (Or.inl ⟨by rfl, ?_⟩) ?_ ?_
                rotate_left
                · intro w'
                  go_simp
                  with_reducible rfl
                rotate_left
                · simp only [Act.put, List.setIfInBounds_toArray, List.set_cons_zero, List.set_cons_succ, i64_w, i32_w]
                  rfl
                refine pure_ (i := 1) (N := some 16) (v := ?_) (a' := ?_) #[true, true, false, false, false, false, false, false, false, false, false, false, false, false] rfl rfl (any_of HT_.out (by kernel_rfl)) (fun _ _ _ h => h) (Or.inl ⟨by rfl, ?_⟩) ?_ ?_
                rotate_left
                · intro w'
                  go_simp
                  with_reducible rfl
                rotate_left
                · simp only [Act.put, List.setIfInBounds_toArray, List.set_cons_zero, List.set_cons_succ, i64_w, i32_w]
                  rfl
                refine pure_ (i := 3) (N := some 18) (v := ?_) (a' := ?_) #[true, true, false, true, false, false, false, false, false, false, false, false, false, false] rfl rfl (any_of HT_.out (by kernel_rfl)) (fun _ _ _ h => h) (Or.inl ⟨by rfl, ?_⟩) ?_ ?_
                rotate_left
                · intro w'
                  go_simp
                  with_reducible rfl
                rotate_left
                · simp only [Act.put, List.setIfInBounds_toArray, List.set_cons_zero, List.set_cons_succ, i64_w, i32_w]
                  rfl
                refine pure_ (i := 4) (N := some 19) (v := ?_) (a' := ?_) #[true, true, false, true, true, false, false, false, false, false, false, false, false, false] rfl rfl (any_of HT_.out (by kernel_rfl)) (fun _ _ _ h => h) (Or.inl ⟨by rfl, ?_⟩) ?_ ?_
                rotate_left
                · intro w'
                  go_simp
                  with_reducible rfl
                rotate_left
                · simp only [Act.put, List.setIfInBounds_toArray, List.set_cons_zero, List.set_cons_succ, i64_w, i32_w]
                  rfl
                refine pure_ (i := 5) (N := some 20) (v := ?_) (a' := ?_) #[true, true, false, true, true, true, false, false, false, false, false, false, false, false] rfl rfl (any_of HT_.out (by kernel_rfl)) (fun _ _ _ h => h) (Or.inl ⟨by rfl, ?_⟩) ?_ ?_
                rotate_left
                · intro w'
                  go_simp
                  with_reducible rfl
                rotate_left
                · simp only [Act.put, List.setIfInBounds_toArray, List.set_cons_zero, List.set_cons_succ, i64_w, i32_w]
                  rfl
                refine pure_ (i := 6) (N := some 21) (v := ?_) (a' := ?_) #[true, true, false, true, true, true, true, false, false, false, false, false, false, false] rfl rfl (any_of HT_.out (by kernel_rfl)) (fun _ _ _ h => h) (Or.inl ⟨by rfl, ?_⟩) ?_ ?_
                rotate_left
                · intro w'
                  go_simp
                  with_reducible rfl
                rotate_left
                · simp only [Act.put, List.setIfInBounds_toArray, List.set_cons_zero, List.set_cons_succ, i64_w, i32_w]
                  rfl
                refine pure_ (i := 7) (N := some 22) (v := ?_) (a' := ?_) #[true, true, false, true, true, true, true, true, false, false, false, false, false, false] rfl rfl (any_of HT_.out (by kernel_rfl)) (fun _ _ _ h => h) (Or.inl ⟨by rfl, ?_⟩) ?_ ?_
                rotate_left
                · intro w'
                  go_simp
                  with_reducible rfl
                rotate_left
                · simp only [Act.put, List.setIfInBounds_toArray, List.set_cons_zero, List.set_cons_succ, i64_w, i32_w]
                  rfl
                refine pure_ (i := 8) (N := some 23) (v := ?_) (a' := ?_) #[true, true, false, true, true, true, true, true, true, false, false, false, false, false] rfl rfl (any_of HT_.out (by kernel_rfl)) (fun _ _ _ h => h) (Or.inl ⟨by rfl, ?_⟩) ?_ ?_
                rotate_left
                · intro w'
                  go_simp
                  with_reducible rfl
                rotate_left
                · simp only [Act.put, List.setIfInBounds_toArray, List.set_cons_zero, List.set_cons_succ, i64_w, i32_w]
                  rfl
                refine one_ (i := 2) (N := some 17) #[true, true, true, true, true, true, true, true, true, false, false, false, false, false] rfl rfl (one_of HT_.out (by kernel_rfl)) (by decide) (fun K hK => ?_)
                refine goes_ Tryd.func8 (by kernel_rfl) rfl #[.slice A0 l0.length c0, .int .i64 a1] (by rfl) rfl rfl (by (try simp only [List.map_toArray, List.map_cons, List.map_nil]); first | done | rfl | (simp only [List.length_drop, List.length_take]; rfl)) ?_
                with_reducible refine (impl_Take.calls _ _ l0 a1 t182 _ ?side1 ?side2 ?side3 A12.out).mono ?_
                (case side1 => repeat (first | exact (Kd.C_below HR0.out HB.out) | (with_reducible refine Kd.C_alloc ?_ _) | (with_reducible refine Kd.C_drewN ?_ _) | (with_reducible refine Kd.C_drew ?_)))
                (case side2 => exact HC0.out)
                (case side3 => exact Go.Proofs.YtkdkkbadmjpkfaaDoorFmt.VarsOK.below HV.out (by repeat (first | (with_reducible first | exact HB.out | apply below_alloc | apply pw_below_drewN | apply below_drew1) | exact HB.out)))
                rintro e w26 ⟨v183, rfl, ho0, hb⟩
                refine ⟨_, rfl, ?_⟩
                have n0_ := Aside0.mk (Kd.R_lower ho0 (below_size (by repeat (first | (with_reducible first | exact HB.out | apply below_alloc | apply pw_below_drewN | apply below_drew1) | exact HB.out))))
                have n1_ := Aside0.mk (below_step (by repeat (first | (with_reducible first | exact HB.out | apply below_alloc | apply pw_below_drewN | apply below_drew1) | exact HB.out)) hb)
                clear HB
                have HO184 := n0_
                have HB := n1_
                clear n0_ n1_
                (try clear hb)
                (try clear hb2)
                (try clear hk)
                (try clear hi)
                (try clear ho0)
                obtain ⟨Ao27, co27, eo27⟩ := Kd.R_slice HO184.out
                (first | subst eo27 | (injection eo27 with f1_ f2_ f3_; have f4_ := f1_.symm; have f5_ := f3_.symm; clear f1_ f2_ f3_; subst f4_; subst f5_))
                refine hK.out _ _ trivial (fun hHeld => ?_)
                clear hK K
                refine norm_ (a' := ?_) ?_ ?_
                rotate_left
                · show Act.put _ (some 17) _ = _
                  simp only [Act.put, List.setIfInBounds_toArray, List.set_cons_zero, List.set_cons_succ, i64_w, i32_w]
                  rfl
                refine one_ (i := 9) (N := some 24) #[true, true, true, true, true, true, true, true, true, true, false, false, false, false] rfl rfl (one_of HT_.out (by kernel_rfl)) (by decide) (fun K hK => ?_)
                refine goes_ Tryd.func7 (by kernel_rfl) rfl #[.slice Ao27 t182.length co27, .slice A0 y185.length c0] (by rfl) rfl rfl (by (try simp only [List.map_toArray, List.map_cons, List.map_nil]); first | done | rfl | (simp only [List.length_drop, List.length_take]; rfl)) ?_
                with_reducible refine (laws_same.calls kj4 _ _ t182 _ _ y185 false _ ?side1 ?side2 ?side3 ?side4 A16.out).mono ?_
                (case side1 => repeat (first | exact (Kd.R_reads' HO184.out).2.2 | (with_reducible refine Kd.C_alloc ?_ _) | (with_reducible refine Kd.C_drewN ?_ _) | (with_reducible refine Kd.C_drew ?_)))
                (case side2 => exact (Kd.R_reads' HO184.out).2.1)
                (case side3 => repeat (first | exact (Kd.C_below HR188.out HB.out) | (with_reducible refine Kd.C_alloc ?_ _) | (with_reducible refine Kd.C_drewN ?_ _) | (with_reducible refine Kd.C_drew ?_)))
                (case side4 => exact HC188.out)
                rintro e w' ⟨rfl, ⟨nd, rfl⟩⟩
                refine ⟨_, rfl, ?_⟩
                refine hK.out _ _ trivial (fun hHeld => ?_)
                clear hK K
                refine norm_ (a' := ?_) ?_ ?_
                rotate_left
                · show Act.put _ (some 24) _ = _
                  simp only [Act.put, List.setIfInBounds_toArray, List.set_cons_zero, List.set_cons_succ, i64_w, i32_w]
                  rfl
                refine pure_ (i := 10) (N := some 25) (v := ?_) (a' := ?_) #[true, true, true, true, true, true, true, true, true, true, true, false, false, false] rfl rfl (any_of HT_.out (by kernel_rfl)) (fun _ _ _ h => h) (Or.inl ⟨by rfl, ?_⟩) ?_ ?_
                rotate_left
                · intro w'
                  go_simp
                  with_reducible rfl
                rotate_left
                · simp only [Act.put, List.setIfInBounds_toArray, List.set_cons_zero, List.set_cons_succ, i64_w, i32_w]
                  rfl
                refine pure_ (i := 11) (N := some 26) (v := undef) (a' := ?_) #[true, true, true, true, true, true, true, true, true, true, true, true, false, false] rfl rfl (any_of HT_.out (by kernel_rfl)) (fun _ _ _ h => h) (Or.inr ⟨by rfl, rfl⟩) ?_ ?_
                rotate_left
                · simp only [Act.put, List.setIfInBounds_toArray, List.set_cons_zero, List.set_cons_succ, i64_w, i32_w]
                  rfl
                refine pure_ (i := 12) (N := some 27) (v := ?_) (a' := ?_) #[true, true, true, true, true, true, true, true, true, true, true, true, true, false] rfl rfl (any_of HT_.out (by kernel_rfl)) (fun _ _ _ h => h) (Or.inl ⟨by rfl, ?_⟩) ?_ ?_
                rotate_left
                · intro w'
                  go_simp
                  with_reducible rfl
                rotate_left
                · simp only [Act.put, List.setIfInBounds_toArray, List.set_cons_zero, List.set_cons_succ, i64_w, i32_w]
                  rfl
                refine pure_ (i := 13) (N := some 4) (v := ?_) (a' := ?_) #[true, true, true, true, true, true, true, true, true, true, true, true, true, true] rfl rfl (any_of HT_.out (by kernel_rfl)) (fun _ _ _ h => h) (Or.inl ⟨by rfl, ?_⟩) ?_ ?_
                rotate_left
                · intro w'
                  go_simp
                  with_reducible rfl
                rotate_left
                · simp only [Act.put, List.setIfInBounds_toArray, List.set_cons_zero, List.set_cons_succ, i64_w, i32_w]
                  rfl
                refine done_ (done_of HT_.out (by kernel_rfl)) ?_
                try go_wp2
                go_ret
                exact ⟨by first | rfl | (simp [errW_none, errW_some] <;> rfl) | (simp only [← hji13]; first | rfl | (simp [errW_none, errW_some] <;> rfl)) | (simp [*, errW_none, errW_some] <;> rfl), by repeat (first | (with_reducible first | exact HB.out | apply below_alloc | apply pw_below_drewN | apply below_drew1) | exact HB.out)⟩
            · rw [if_neg c15] at H
              exact absurd H (by simp)
          · rw [if_neg c14] at H
            exact absurd H (by simp)
  · replace c4 := Bool.eq_false_iff.mpr c4
    subst c4
    have H1 : (some true) = some r := by rw [if_neg (show ¬ (false = true) by decide)] at H; exact H
    clear H
    have H := H1
    clear H1
    obtain rfl := Option.some.inj H
    go_enter Tryd.func3, Tryd.ntmps3
    go_wp2_with (first | ((with_reducible refine gate_callee (f := 5) rfl ?_); refine goesL_ (some 6) rfl rfl Tryd.func5 (by kernel_rfl) rfl #[.slice A0 l0.length c0] rfl (by (try simp only [List.map_toArray, List.map_cons, List.map_nil]); first | done | rfl | (simp only [List.length_drop, List.length_take]; rfl)) ?_; (with_reducible refine (laws_zzFits4.calls k _ _ l0 false _ ?side1 ?side2 A3.out).mono ?_); (case side1 => repeat (first | exact HR0.out | (with_reducible refine Kd.C_alloc ?_ _) | (with_reducible refine Kd.C_drewN ?_ _) | (with_reducible refine Kd.C_drew ?_))); (case side2 => exact HC0.out); rintro e w28 ⟨rfl, hb⟩; refine ⟨_, rfl, ?_⟩; have n0_ := Aside0.mk (below_step (by repeat (first | (with_reducible first | exact HB.out | apply below_alloc | apply pw_below_drewN | apply below_drew1) | exact HB.out)) hb); clear HB; have HB := n0_; clear n0_; (try clear hb); (try clear hb2); (try clear hk); (try clear hi)))
    go_ret
    exact ⟨by first | rfl | (simp [errW_none, errW_some] <;> rfl) | (simp [*, errW_none, errW_some] <;> rfl), by repeat (first | (with_reducible first | exact HB.out | apply below_alloc | apply pw_below_drewN | apply below_drew1) | exact HB.out)⟩
def wf_S32 (x : S32) : Prop := (IntKind.i64.min ≤ x.f0 ∧ x.f0 ≤ IntKind.i64.max) ∧ (x.f1.size ≤ maxLen)
def laws_FnTake.Pure : Prop := ∀ (l0 : List (S32)) (a1 : Int), (l0.length ≤ 9223372036854775807 ∧ ∀ x ∈ l0, wf_S32 x) → (Lit.int .i64 a1).wf = true → ∃ k, laws_FnTake.f k l0 a1 = some true

end Go.Proofs.YtkdkkbadmjpkfaaDoor.M
