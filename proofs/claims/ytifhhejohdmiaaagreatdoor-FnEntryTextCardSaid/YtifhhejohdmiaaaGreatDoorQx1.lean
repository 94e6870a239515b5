-- WRITTEN BY OUR myprint.py, a program of this session's over the kit's printer
import Derived.Test.YtifhhejohdmiaaaGreatDoorQx0
namespace Go.Proofs.YtifhhejohdmiaaaGreatDoor.Q
open Go.RowKit Go.Proofs.YtifhhejohdmiaaaGreatDoorW.PrintWords Go.Proofs.YtifhhejohdmiaaaGreatDoorW.PrintLast Go.Proofs.YtifhhejohdmiaaaGreatDoorW.PrintMore
attribute [local go_sem] max2_int min2_int max_two min_two max_three min_three max_four min_four   -- for this text's walks alone
set_option linter.unusedVariables false
set_option linter.unusedSimpArgs false

/-! ### spec_plain: function 69 -/
def spec_plain.f (a0 : Int) : Option (Bool) := if a0 ≥ 1 then (some (decide (a0 ≤ 16777216))) else (some false)
set_option maxHeartbeats 8000000 in
set_option maxRecDepth 100000 in
theorem spec_plain.calls (a0 : Int) (r : Bool) (w : World) (h : spec_plain.f a0 = some r) :
    Calls Tryz.prog 69 #[.int .i32 a0] w fun e w' => e = .returned (.bool r) ∧ Drawn0 w w' := by
  have H : (if a0 ≥ 1 then (some (decide (a0 ≤ 16777216))) else (some false)) = some r := h
  clear h
  by_cases c2 : a0 ≥ 1
  · rw [if_pos c2] at H
    have c2b0 : decide (1 ≤ a0) = true := decide_eq_true c2
    clear c2
    obtain rfl := Option.some.inj H
    go_enter Tryz.func69, Tryz.ntmps69
    go_wp2
    go_ret
    exact ⟨by first | rfl | (simp; done) | (simp [*]; done), by repeat (first | exact Drawn0.refl _ | apply Drawn0.step)⟩
  · rw [if_neg c2] at H
    have c2b0 : decide (1 ≤ a0) = false := decide_eq_false c2
    clear c2
    obtain rfl := Option.some.inj H
    go_enter Tryz.func69, Tryz.ntmps69
    go_wp2
    go_ret
    exact ⟨by first | rfl | (simp; done) | (simp [*]; done), by repeat (first | exact Drawn0.refl _ | apply Drawn0.step)⟩
def spec_plain.Pure : Prop := ∀ (a0 : Int), (Lit.int .i32 a0).wf = true → spec_plain.f a0 = some true

/-! ### spec_ColourString: function 35 -/
def spec_ColourString.l0 : Nat → Int → List Int → Int → Option (ByteArray × Int)
  | 0, _, _, _ => none
  | k + 1, x4, x5, x6 => if x6 > 0 then (if 0 ≤ (Int.tmod x4 16) then (if (Int.tmod x4 16) < 16 then (if 0 ≤ x6 then (if x6 < (x5.length : Int) then (spec_ColourString.l0 k (wrap64 (Int.tdiv x4 16)) (x5.set (x6 : Int).toNat (bt (⟨#[48, 49, 50, 51, 52, 53, 54, 55, 56, 57, 97, 98, 99, 100, 101, 102]⟩ : ByteArray) (Int.tmod x4 16))) (wrap64 (x6 - 1))) else (none)) else (none)) else (none)) else (none)) else (some (strOfNums x5, 1))
def spec_ColourString.f (k : Nat) (a0 : Int) : Option (ByteArray × Int) := (spec_plain.f a0).bind fun t101 => (if t101 = true then (spec_ColourString.l0 k (wrap64 ((wrap64 (a0)) - 1)) (([35, 0, 0, 0, 0, 0, 0] : List Int)) 6) else (some ((⟨#[]⟩ : ByteArray), 2)))
theorem spec_ColourString.mono_l : ∀ k, (∀ y0 y1 y2, LeO (spec_ColourString.l0 k y0 y1 y2) (spec_ColourString.l0 (k + 1) y0 y1 y2))
  | 0 => fun _ _ _ r h => by simp [spec_ColourString.l0] at h
  | k + 1 => by
    have ih0 := spec_ColourString.mono_l k
    · intro y0 y1 y2
      unfold spec_ColourString.l0
      repeat' first
      | (with_reducible exact ih0 _ _ _)
      | (with_reducible exact LeO.refl _)
      | (with_reducible exact LeO.none _)
      | (with_reducible refine LeO.ite ?_ ?_)
      | (with_reducible refine LeO.bind ?_ (fun _ => ?_))
      | exact ih0 _ _ _
      | exact LeO.none _
      | refine LeO.ite ?_ ?_
      | refine LeO.bind ?_ (fun _ => ?_)
theorem spec_ColourString.mono : ∀ a0 k, LeO (spec_ColourString.f k a0) (spec_ColourString.f (k + 1) a0) := by
  intro a0 k
  have ih0 := spec_ColourString.mono_l k
  unfold spec_ColourString.f
  repeat' first
      | (with_reducible exact ih0 _ _ _)
      | (with_reducible exact LeO.refl _)
      | (with_reducible exact LeO.none _)
      | (with_reducible refine LeO.ite ?_ ?_)
      | (with_reducible refine LeO.bind ?_ (fun _ => ?_))
      | exact ih0 _ _ _
      | exact LeO.none _
      | refine LeO.ite ?_ ?_
      | refine LeO.bind ?_ (fun _ => ?_)
set_option maxHeartbeats 8000000 in
set_option maxRecDepth 100000 in
theorem spec_ColourString.calls (k : Nat) (a0 : Int) (r1 : ByteArray) (r2 : Int) (w : World) (h : spec_ColourString.f k a0 = some (r1, r2)) :
    Calls Tryz.prog 35 #[.int .i32 a0] w fun e w' => e = .returned (.tuple #[.string r1, .int .i64 r2]) ∧ Below w.heap.size w w' := by
  have HB := Aside0.mk (Below.refl w.heap.size w)
  have H : ((spec_plain.f a0).bind fun t101 => (if t101 = true then (spec_ColourString.l0 k (wrap64 ((wrap64 (a0)) - 1)) (([35, 0, 0, 0, 0, 0, 0] : List Int)) 6) else (some ((⟨#[]⟩ : ByteArray), 2)))) = some (r1, r2) := h
  clear h
  replace H := Option.bind_eq_some_iff.mp H
  obtain ⟨t101, A20, H⟩ := H
  replace H : (if t101 = true then (spec_ColourString.l0 k (wrap64 ((wrap64 (a0)) - 1)) (([35, 0, 0, 0, 0, 0, 0] : List Int)) 6) else (some ((⟨#[]⟩ : ByteArray), 2))) = some (r1, r2) := H
  have A2 := Aside0.mk A20
  clear A20
  by_cases c3 : t101 = true
  · subst c3
    have H1 : (spec_ColourString.l0 k (wrap64 ((wrap64 (a0)) - 1)) (([35, 0, 0, 0, 0, 0, 0] : List Int)) 6) = some (r1, r2) := by rw [if_pos rfl] at H; exact H
    clear H
    have H := H1
    clear H1
    obtain ⟨y102, hy102⟩ : ∃ y_ : List Int, y_ = (([35, 0, 0, 0, 0, 0, 0] : List Int)) := ⟨_, rfl⟩
    replace H : (spec_ColourString.l0 k (wrap64 ((wrap64 (a0)) - 1)) y102 6) = some (r1, r2) := by first | (rw [hy102]; with_reducible exact H) | (have H2_ := (Option.bind_some _ _).symm.trans H; rw [hy102]; with_reducible exact H2_) | (have H2_ := (Option.bind_some _ _).symm.trans H; with_reducible exact H2_) | with_reducible exact H | (rw [hy102]; exact H) | exact H
    have Ny102 := Aside0.mk hy102
    clear hy102
    have H' := Aside0.mk H
    clear H
    go_enter Tryz.func35, Tryz.ntmps35
    go_wp2_with (first | ((with_reducible refine gate_callee (f := 69) rfl ?_); refine goesL_ (some 8) rfl rfl Tryz.func69 (by kernel_rfl) rfl #[.int .i32 a0] rfl (by (try simp only [List.map_toArray, List.map_cons, List.map_nil]); first | done | rfl | (simp only [List.length_drop, List.length_take]; rfl)) ?_; (with_reducible refine (spec_plain.calls a0 true _ A2.out).mono ?_); rintro e w' ⟨rfl, ⟨nd, rfl⟩⟩; refine ⟨_, rfl, ?_⟩) | ((with_reducible refine gate_dst (N := 13) rfl ?_); refine Kd.R_lit (Kd.int .u8) _ 5 ?hg (N := 13) ?hd (xs := ([35, 0, 0, 0, 0, 0, 0] : List Int)) (inner := [.int .u8 35, .int .u8 0, .int .u8 0, .int .u8 0, .int .u8 0, .int .u8 0, .int .u8 0]) (ok := fun _ => True) (okp := fun _ => True) ?hr ?hp (fun _ hk => hk) trivial (Below.refl _ _) (Nat.le_refl _) (by simp) ?_; (case hd => rfl); (case hg => rfl); (case hr => first | (go_simp; done) | (go_simp; rfl)); (case hp => exact (Reps.one (show Kd.M (Kd.int .u8) _ _ _ 35 [.int .u8 35] from rfl) (Reps.one (show Kd.M (Kd.int .u8) _ _ _ 0 [.int .u8 0] from rfl) (Reps.one (show Kd.M (Kd.int .u8) _ _ _ 0 [.int .u8 0] from rfl) (Reps.one (show Kd.M (Kd.int .u8) _ _ _ 0 [.int .u8 0] from rfl) (Reps.one (show Kd.M (Kd.int .u8) _ _ _ 0 [.int .u8 0] from rfl) (Reps.one (show Kd.M (Kd.int .u8) _ _ _ 0 [.int .u8 0] from rfl) (Reps.one (show Kd.M (Kd.int .u8) _ _ _ 0 [.int .u8 0] from rfl) (Reps.none _ _))))))))); intro v103 w4 ho5 hb hg_ hnew_; clear hg_ hnew_; (first | rw [← Ny102.out] at ho5 | (simp only [Int.reduceToNat] at ho5; rw [← Ny102.out] at ho5)); have n0_ := Aside0.mk (Kd.R_lower ho5 (below_size (by repeat (first | (with_reducible first | exact HB.out | apply below_alloc | apply pw_below_drewN | apply below_drew1) | exact HB.out)))); have n1_ := Aside0.mk (below_step (by repeat (first | (with_reducible first | exact HB.out | apply below_alloc | apply pw_below_drewN | apply below_drew1) | exact HB.out)) hb); clear HB; have HO104 := n0_; have HB := n1_; clear n0_ n1_; clear hb ho5))
    go_loopg [4, 6] k (fun kq v4 v6 w' => ∃ (x4_1 : Int) (x5_1 : List Int) (x6_1 : Int), v4 = .int .i64 x4_1 ∧ v6 = .int .i64 x6_1 ∧ Aside0 (spec_ColourString.l0 kq x4_1 x5_1 x6_1 = some (r1, r2)) ∧ Aside0 (kq ≤ k) ∧ Aside0 (Kd.R (Kd.int .u8) 5 w' w.heap.size (fun _ => True) v103 x5_1) ∧ Aside0 (Below w.heap.size w w'))
    case atStart => exact ⟨(wrap64 ((wrap64 (a0)) - 1)), (y102), (6), (by first | rfl | (simp; done) | (simp [*]; done)), (by first | rfl | (simp; done) | (simp [*]; done)), H', ⟨Nat.le_refl _⟩, ⟨by (with_reducible repeat (first | apply Kd.R_alloc | apply Kd.R_drewN | apply Kd.R_drew)); exact HO104.out⟩, ⟨by repeat (first | (with_reducible first | exact HB.out | apply below_alloc | apply pw_below_drewN | apply below_drew1) | exact HB.out)⟩⟩
    case round =>
      clear H'
      try clear p2
      try clear c3
      obtain ⟨x4_1, x5_1, x6_1, rfl, rfl, HA, HK1, HO_5, HB⟩ := hrel
      cases gk with
      | zero => exact absurd HA.out (by simp [spec_ColourString.l0])
      | succ k1 =>
        have H := HA.out
        clear HA
        simp only [spec_ColourString.l0] at H
        by_cases c6 : x6_1 > 0
        · rw [if_pos c6] at H
          have c6b0 : decide (0 < x6_1) = true := decide_eq_true c6
          clear c6
          obtain ⟨ji7, hji7⟩ : ∃ j_ : Int, (Int.tmod x4_1 16) = j_ := ⟨_, rfl⟩
          replace H : (if 0 ≤ (ji7) then (if (ji7) < 16 then (if 0 ≤ x6_1 then (if x6_1 < (x5_1.length : Int) then (spec_ColourString.l0 k1 (wrap64 (Int.tdiv x4_1 16)) (x5_1.set (x6_1 : Int).toNat (bt (⟨#[48, 49, 50, 51, 52, 53, 54, 55, 56, 57, 97, 98, 99, 100, 101, 102]⟩ : ByteArray) (ji7))) (wrap64 (x6_1 - 1))) else (none)) else (none)) else (none)) else (none)) = some (r1, r2) := by first | (rw [hji7] at H; exact H) | (simp only [hji7] at H ⊢; exact H)
          by_cases c8 : 0 ≤ (ji7)
          · rw [if_pos c8] at H
            have c8b0 : decide (0 ≤ (ji7)) = true := decide_eq_true c8
            clear c8
            by_cases c9 : (ji7) < 16
            · rw [if_pos c9] at H
              have c9b0 : decide ((ji7) < 16) = true := decide_eq_true c9
              clear c9
              by_cases c11 : 0 ≤ x6_1
              · rw [if_pos c11] at H
                have c11b0 : decide (0 ≤ x6_1) = true := decide_eq_true c11
                clear c11
                by_cases c12 : x6_1 < (x5_1.length : Int)
                · rw [if_pos c12] at H
                  have c12b0 : decide (x6_1 < (x5_1.length : Int)) = true := decide_eq_true c12
                  clear c12
                  obtain ⟨y105, hy105⟩ : ∃ y_ : List Int, y_ = (x5_1.set (x6_1 : Int).toNat (bt (⟨#[48, 49, 50, 51, 52, 53, 54, 55, 56, 57, 97, 98, 99, 100, 101, 102]⟩ : ByteArray) (ji7))) := ⟨_, rfl⟩
                  replace H : (spec_ColourString.l0 k1 (wrap64 (Int.tdiv x4_1 16)) y105 (wrap64 (x6_1 - 1))) = some (r1, r2) := by first | (rw [hy105]; with_reducible exact H) | (have H2_ := (Option.bind_some _ _).symm.trans H; rw [hy105]; with_reducible exact H2_) | (have H2_ := (Option.bind_some _ _).symm.trans H; with_reducible exact H2_) | with_reducible exact H | (rw [hy105]; exact H) | exact H
                  have Ny105 := Aside0.mk hy105
                  clear hy105
                  have H' := Aside0.mk H
                  clear H
                  have p10 : 0 ≤ ((ji7) : Int) := of_decide_eq_true (by first | (with_reducible assumption) | assumption)
                  have q10 : (ji7) < (16 : Int) := of_decide_eq_true (by first | (with_reducible assumption) | assumption)
                  have hx10 := bt_at (⟨#[48, 49, 50, 51, 52, 53, 54, 55, 56, 57, 97, 98, 99, 100, 101, 102]⟩ : ByteArray) (ji7)
                  replace p10 := eq_true p10
                  replace q10 := eq_true q10
                  have p13 : 0 ≤ (x6_1 : Int) := of_decide_eq_true (by first | (with_reducible assumption) | assumption)
                  have q13 : (x6_1 : Int) < ((x5_1.length : Int) : Int) := of_decide_eq_true (by first | (with_reducible assumption) | assumption)
                  obtain ⟨go13, co13, eo13, gb13, gl13, cl13, HG13⟩ := Kd.R_form HO_5.out (by omega)
                  (first | cases eo13 | (injection eo13 with ea_ en_ ec_; (first | subst ea_ | (injection ea_ with ea_; subst ea_)); subst ec_; clear en_))
                  have GB13 := Aside0.mk gb13
                  have GG13 := Aside0.mk HG13
                  clear gb13 gl13 HG13
                  obtain ⟨hx13_0, hf13_0⟩ := Kd.R_celln 0 HO_5.out (x6_1 : Int) p13 q13
                  replace p13 := eq_true p13
                  replace q13 := eq_true q13
                  have HP14 := Kd.R_putg HO_5.out (x6_1 : Int) (bt (⟨#[48, 49, 50, 51, 52, 53, 54, 55, 56, 57, 97, 98, 99, 100, 101, 102]⟩ : ByteArray) (ji7))
                  go_wp2_with (first | ((with_reducible refine gate_store (t := 5) (p := 23) rfl ?_); refine store_event (t := 5) (p := 23) (v := ?vo_w15) (w1 := (wr.setCell ⟨go13, (x6_1 : Int).toNat, none⟩ (.int .u8 (bt (⟨#[48, 49, 50, 51, 52, 53, 54, 55, 56, 57, 97, 98, 99, 100, 101, 102]⟩ : ByteArray) (ji7))))) ?hg ?ho ?hn ?hr ?_; (case ho => rfl); (case hg => rfl); (case hn => rfl); (case hr => first | (go_simp; done) | (go_simp; rfl)); intro w15 hw; have hg : wr.grownBy w15 (some go13) := (by rw [hw]; exact HP14.2); have hp_ : Kd.R (Kd.int .u8) 5 w15 w.heap.size (fun _ => True) (.slice (some ⟨go13, 0, none⟩) x5_1.length co13) y105 := (by rw [hw, Ny105.out]; exact HP14.1); clear HP14; have n0_ := Aside0.mk (hp_); have n1_ := Aside0.mk ((by rw [hw]; exact below_set (HB.out) GB13.out : Below w.heap.size w w15)); clear HO_5; clear HB; have HO_5 := n0_; have HB := n1_; clear n0_ n1_; clear hg hw hp_))
                  go_roundg k1
                  case measure => have := HK1.out; omega
                  case rel => exact ⟨(wrap64 (Int.tdiv x4_1 16)), (y105), (wrap64 (x6_1 - 1)), (by first | rfl | (simp; done) | (simp [*]; done)), (by first | rfl | (simp; done) | (simp [*]; done)), H', ⟨by have := HK1.out; omega⟩, ⟨by (with_reducible repeat (first | apply Kd.R_alloc | apply Kd.R_drewN | apply Kd.R_drew)); exact HO_5.out⟩, ⟨by repeat (first | (with_reducible first | exact HB.out | apply below_alloc | apply pw_below_drewN | apply below_drew1) | exact HB.out)⟩⟩
                · rw [if_neg c12] at H
                  exact absurd H (by simp)
              · rw [if_neg c11] at H
                exact absurd H (by simp)
            · rw [if_neg c9] at H
              exact absurd H (by simp)
          · rw [if_neg c8] at H
            exact absurd H (by simp)
        · rw [if_neg c6] at H
          have c6b0 : decide (0 < x6_1) = false := decide_eq_false c6
          clear c6
          simp only [Option.some.injEq, Prod.mk.injEq] at H
          obtain ⟨rfl, rfl⟩ := H
          have hcv16 := own_string (P := Tryz.prog) Tryz.underlying124 Tryz.underlying5 Tryz.underlying9 (Kd.own_of_R HO_5.out)
          go_wp2
          go_ret2
          exact ⟨by first | rfl | (simp [errW_none, errW_some] <;> rfl) | (simp [*, errW_none, errW_some] <;> rfl), by repeat (first | (with_reducible first | exact HB.out | apply below_alloc | apply pw_below_drewN | apply below_drew1) | exact HB.out)⟩
  · replace c3 := Bool.eq_false_iff.mpr c3
    subst c3
    have H1 : (some ((⟨#[]⟩ : ByteArray), 2)) = some (r1, r2) := by rw [if_neg (show ¬ (false = true) by decide)] at H; exact H
    clear H
    have H := H1
    clear H1
    simp only [Option.some.injEq, Prod.mk.injEq] at H
    obtain ⟨rfl, rfl⟩ := H
    go_enter Tryz.func35, Tryz.ntmps35
    go_wp2_with (first | ((with_reducible refine gate_callee (f := 69) rfl ?_); refine goesL_ (some 8) rfl rfl Tryz.func69 (by kernel_rfl) rfl #[.int .i32 a0] rfl (by (try simp only [List.map_toArray, List.map_cons, List.map_nil]); first | done | rfl | (simp only [List.length_drop, List.length_take]; rfl)) ?_; (with_reducible refine (spec_plain.calls a0 false _ A2.out).mono ?_); rintro e w' ⟨rfl, ⟨nd, rfl⟩⟩; refine ⟨_, rfl, ?_⟩))
    go_ret2
    exact ⟨by first | rfl | (simp [errW_none, errW_some] <;> rfl) | (simp [*, errW_none, errW_some] <;> rfl), by repeat (first | (with_reducible first | exact HB.out | apply below_alloc | apply pw_below_drewN | apply below_drew1) | exact HB.out)⟩

end Go.Proofs.YtifhhejohdmiaaaGreatDoor.Q
