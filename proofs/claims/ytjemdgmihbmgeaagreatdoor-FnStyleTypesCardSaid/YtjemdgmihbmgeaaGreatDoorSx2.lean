-- WRITTEN BY OUR myprint.py, a program of this session's over the kit's printer
import Derived.Test.YtjemdgmihbmgeaaGreatDoorSx0
namespace Go.Proofs.YtjemdgmihbmgeaaGreatDoor.S
open Go.RowKit Go.Proofs.YtjemdgmihbmgeaaGreatDoorW.PrintWords Go.Proofs.YtjemdgmihbmgeaaGreatDoorW.PrintLast Go.Proofs.YtjemdgmihbmgeaaGreatDoorW.PrintMore
attribute [local go_sem] max2_int min2_int max_two min_two max_three min_three max_four min_four   -- for this text's walks alone
set_option linter.unusedVariables false
set_option linter.unusedSimpArgs false

/-! ### spec_words: function 64 -/
mutual
def spec_words.l0 : Nat → ByteArray → List ByteArray → ByteArray → Int → Option (List ByteArray × Int)
  | 0, _, _, _, _ => none
  | k + 1, x0, x4, x5, x6 => if x6 < (x0.size : Int) then (if 0 ≤ x6 then (if (bt x0 x6) ≥ 128 then (some (([] : List ByteArray), 2)) else (if (bt x0 x6) = 32 then (spec_words.j1 k x0 x4 x5 x6 (bt x0 x6) true) else (if (bt x0 x6) ≥ 9 then (spec_words.j1 k x0 x4 x5 x6 (bt x0 x6) (decide ((bt x0 x6) ≤ 13))) else (spec_words.j1 k x0 x4 x5 x6 (bt x0 x6) false)))) else (none)) else (if x5.toList = ([] : List UInt8) then (some (x4, 1)) else (if x4.length < 8796093022208 then (some ((x4 ++ [x5]), 1)) else (none)))
def spec_words.j1 : Nat → ByteArray → List ByteArray → ByteArray → Int → Int → Bool → Option (List ByteArray × Int)
  | 0, _, _, _, _, _, _ => none
  | k + 1, x0, x4, x5, x6, x7, x28 => if x28 = true then (if x5.toList = ([] : List UInt8) then (spec_words.l0 k x0 x4 (⟨#[]⟩ : ByteArray) (wrap64 (x6 + 1))) else (if x4.length < 8796093022208 then (spec_words.l0 k x0 (x4 ++ [x5]) (⟨#[]⟩ : ByteArray) (wrap64 (x6 + 1))) else (none))) else ((some (([x7] : List Int) : List Int)).bind fun y107 => (if x5.size + (strOfNums y107).size ≤ 9223372036854775807 then (spec_words.l0 k x0 x4 (x5 ++ (strOfNums y107)) (wrap64 (x6 + 1))) else (none)))
end
def spec_words.f (k : Nat) (a0 : ByteArray) : Option (List ByteArray × Int) := spec_words.l0 k a0 ([] : List ByteArray) (⟨#[]⟩ : ByteArray) 0
theorem spec_words.mono_l : ∀ k, (∀ y0 y1 y2 y3, LeO (spec_words.l0 k y0 y1 y2 y3) (spec_words.l0 (k + 1) y0 y1 y2 y3)) ∧ (∀ y0 y1 y2 y3 y4 y5, LeO (spec_words.j1 k y0 y1 y2 y3 y4 y5) (spec_words.j1 (k + 1) y0 y1 y2 y3 y4 y5))
  | 0 => ⟨fun _ _ _ _ r h => by simp [spec_words.l0] at h, fun _ _ _ _ _ _ r h => by simp [spec_words.j1] at h⟩
  | k + 1 => by
    obtain ⟨ih0, ih1⟩ := spec_words.mono_l k
    refine ⟨?_, ?_⟩
    · intro y0 y1 y2 y3
      unfold spec_words.l0
      repeat' first
      | (with_reducible exact ih0 _ _ _ _)
      | (with_reducible exact ih1 _ _ _ _ _ _)
      | (with_reducible exact LeO.refl _)
      | (with_reducible exact LeO.none _)
      | (with_reducible refine LeO.ite ?_ ?_)
      | (with_reducible refine LeO.bind ?_ (fun _ => ?_))
      | exact ih0 _ _ _ _
      | exact ih1 _ _ _ _ _ _
      | exact LeO.none _
      | refine LeO.ite ?_ ?_
      | refine LeO.bind ?_ (fun _ => ?_)
    · intro y0 y1 y2 y3 y4 y5
      unfold spec_words.j1
      repeat' first
      | (with_reducible exact ih0 _ _ _ _)
      | (with_reducible exact ih1 _ _ _ _ _ _)
      | (with_reducible exact LeO.refl _)
      | (with_reducible exact LeO.none _)
      | (with_reducible refine LeO.ite ?_ ?_)
      | (with_reducible refine LeO.bind ?_ (fun _ => ?_))
      | exact ih0 _ _ _ _
      | exact ih1 _ _ _ _ _ _
      | exact LeO.none _
      | refine LeO.ite ?_ ?_
      | refine LeO.bind ?_ (fun _ => ?_)
theorem spec_words.mono : ∀ a0 k, LeO (spec_words.f k a0) (spec_words.f (k + 1) a0) := by
  intro a0 k
  obtain ⟨ih0, ih1⟩ := spec_words.mono_l k
  unfold spec_words.f
  repeat' first
      | (with_reducible exact ih0 _ _ _ _)
      | (with_reducible exact ih1 _ _ _ _ _ _)
      | (with_reducible exact LeO.refl _)
      | (with_reducible exact LeO.none _)
      | (with_reducible refine LeO.ite ?_ ?_)
      | (with_reducible refine LeO.bind ?_ (fun _ => ?_))
      | exact ih0 _ _ _ _
      | exact ih1 _ _ _ _ _ _
      | exact LeO.none _
      | refine LeO.ite ?_ ?_
      | refine LeO.bind ?_ (fun _ => ?_)
set_option maxHeartbeats 8000000 in
set_option maxRecDepth 100000 in
theorem spec_words.calls (k : Nat) (a0 : ByteArray) (r1 : List ByteArray) (r2 : Int) (w : World) (h : spec_words.f k a0 = some (r1, r2)) :
    Calls Tryz.prog 64 #[.string a0] w fun e w' => ∃ v0_ : Value, e = .returned (.tuple #[v0_, .int .i64 r2]) ∧ Kd.R Kd.string 9 w' w.heap.size (fun _ => True) v0_ r1 ∧ Below w.heap.size w w' := by
  have HB := Aside0.mk (Below.refl w.heap.size w)
  have H : (spec_words.l0 k a0 ([] : List ByteArray) (⟨#[]⟩ : ByteArray) 0) = some (r1, r2) := h
  clear h
  have H' := Aside0.mk H
  clear H
  go_enter Tryz.func64, Tryz.ntmps64
  go_wp2
  go_loopg [4, 5, 6] k (fun kq v4 v5 v6 w' => ∃ (x4_1 : List ByteArray) (x5_1 : ByteArray) (x6_1 : Int), v5 = .string x5_1 ∧ v6 = .int .i64 x6_1 ∧ Aside0 (spec_words.l0 kq a0 x4_1 x5_1 x6_1 = some (r1, r2)) ∧ Aside0 (kq ≤ k) ∧ Aside0 (Kd.R Kd.string 9 w' w.heap.size (fun _ => True) v4 x4_1) ∧ Aside0 (Below w.heap.size w w'))
  case atStart => exact ⟨(([] : List ByteArray)), ((⟨#[]⟩ : ByteArray)), (0), (by first | rfl | (simp; done) | (simp [*]; done)), (by first | rfl | (simp; done) | (simp [*]; done)), H', ⟨Nat.le_refl _⟩, ⟨by first | exact Kd.R_nil _ _ _ _ _ | exact Kd.N_nil _ _ _ _ _ | exact Kd.V_nil _ _ _ _ _ | exact Kd.Q_nil _ _ _ _ _ | exact Kd.S_nil _ _ _ _ _⟩, ⟨by repeat (first | (with_reducible first | exact HB.out | apply below_alloc | apply pw_below_drewN | apply below_drew1) | exact HB.out)⟩⟩
  case round =>
    clear H'
    obtain ⟨x4_1, x5_1, x6_1, rfl, rfl, HA, HK1, HO_4, HB⟩ := hrel
    cases gk with
    | zero => exact absurd HA.out (by simp [spec_words.l0])
    | succ k1 =>
      have H := HA.out
      clear HA
      simp only [spec_words.l0] at H
      by_cases c2 : x6_1 < (a0.size : Int)
      · rw [if_pos c2] at H
        have c2b0 : decide (x6_1 < (a0.size : Int)) = true := decide_eq_true c2
        clear c2
        by_cases c3 : 0 ≤ x6_1
        · rw [if_pos c3] at H
          have c3b0 : decide (0 ≤ x6_1) = true := decide_eq_true c3
          clear c3
          by_cases c5 : (bt a0 x6_1) ≥ 128
          · rw [if_pos c5] at H
            have c5b0 : decide (128 ≤ (bt a0 x6_1)) = true := decide_eq_true c5
            clear c5
            simp only [Option.some.injEq, Prod.mk.injEq] at H
            obtain ⟨rfl, rfl⟩ := H
            have p4 : 0 ≤ (x6_1 : Int) := of_decide_eq_true (by first | (with_reducible assumption) | assumption)
            have q4 : x6_1 < (a0.size : Int) := of_decide_eq_true (by first | (with_reducible assumption) | assumption)
            have hx4 := bt_at a0 x6_1
            replace p4 := eq_true p4
            replace q4 := eq_true q4
            go_wp2
            go_ret2
            exact ⟨_, by first | rfl | (simp [errW_none, errW_some] <;> rfl) | (simp [*, errW_none, errW_some] <;> rfl), by first | exact Kd.R_nil _ _ _ _ _ | exact Kd.N_nil _ _ _ _ _ | exact Kd.V_nil _ _ _ _ _ | exact Kd.Q_nil _ _ _ _ _ | exact Kd.S_nil _ _ _ _ _, by repeat (first | (with_reducible first | exact HB.out | apply below_alloc | apply pw_below_drewN | apply below_drew1) | exact HB.out)⟩
          · rw [if_neg c5] at H
            have c5b0 : decide (128 ≤ (bt a0 x6_1)) = false := decide_eq_false c5
            clear c5
            have HC6 := Aside0.mk H
            clear H
            have p4 : 0 ≤ (x6_1 : Int) := of_decide_eq_true (by first | (with_reducible assumption) | assumption)
            have q4 : x6_1 < (a0.size : Int) := of_decide_eq_true (by first | (with_reducible assumption) | assumption)
            have hx4 := bt_at a0 x6_1
            replace p4 := eq_true p4
            replace q4 := eq_true q4
            go_upto_region 9 with (fail)
            go_cut [28] (fun v28 wc => ∃ (kq : Nat) (x28_5 : Bool), v28 = .bool x28_5 ∧ Aside0 (spec_words.j1 kq a0 x4_1 x5_1 x6_1 (bt a0 x6_1) x28_5 = some (r1, r2)) ∧ Aside0 (kq ≤ k1) ∧ Aside0 (Kd.R Kd.string 9 wc w.heap.size (fun _ => True) u4 x4_1) ∧ Aside0 (Below w.heap.size w wc))
            case first =>
              have H := HC6.out
              clear HC6
              by_cases c7 : (bt a0 x6_1) = 32
              · rw [if_pos c7] at H
                have c7b0 : ((bt a0 x6_1) == 32) = true := beq_iff_eq.mpr c7
                have c7b1 : ((bt a0 x6_1) != 32) = false := bne_eq_false_iff_eq.mpr c7
                clear c7
                (try (have c7b2 := c7b0; simp only [ByteArray.size_extract, Nat.min_self] at c7b2)); (first | rw [c7b0] | (simp only [i64_w, i32_w]; rw [c7b0]) | rw [c7b1] | skip)
                have H' := Aside0.mk H
                clear H
                go_wp2
                go_meet
                case rel => exact ⟨_, (true), (by first | rfl | (simp; done) | (simp [*]; done)), H', ⟨by have := HK1.out; first | omega | exact Nat.le_refl _⟩, ⟨by (with_reducible repeat (first | apply Kd.R_alloc | apply Kd.R_drewN | apply Kd.R_drew)); exact HO_4.out⟩, ⟨by repeat (first | (with_reducible first | exact HB.out | apply below_alloc | apply pw_below_drewN | apply below_drew1) | exact HB.out)⟩⟩
              · rw [if_neg c7] at H
                have c7b0 : ((bt a0 x6_1) == 32) = false := beq_eq_false_iff_ne.mpr c7
                have c7b1 : ((bt a0 x6_1) != 32) = true := bne_iff_ne.mpr c7
                (try (have c7b2 := c7b0; simp only [ByteArray.size_extract, Nat.min_self] at c7b2)); (first | rw [c7b0] | (simp only [i64_w, i32_w]; rw [c7b0]) | rw [c7b1] | skip)
                by_cases c8 : (bt a0 x6_1) ≥ 9
                · rw [if_pos c8] at H
                  have c8b0 : decide (9 ≤ (bt a0 x6_1)) = true := decide_eq_true c8
                  clear c8
                  have H' := Aside0.mk H
                  clear H
                  go_wp2
                  go_meet
                  case rel => exact ⟨_, (decide ((bt a0 x6_1) ≤ 13)), (by first | rfl | (simp; done) | (simp [*]; done)), H', ⟨by have := HK1.out; first | omega | exact Nat.le_refl _⟩, ⟨by (with_reducible repeat (first | apply Kd.R_alloc | apply Kd.R_drewN | apply Kd.R_drew)); exact HO_4.out⟩, ⟨by repeat (first | (with_reducible first | exact HB.out | apply below_alloc | apply pw_below_drewN | apply below_drew1) | exact HB.out)⟩⟩
                · rw [if_neg c8] at H
                  have c8b0 : decide (9 ≤ (bt a0 x6_1)) = false := decide_eq_false c8
                  clear c8
                  have H' := Aside0.mk H
                  clear H
                  go_wp2
                  go_meet
                  case rel => exact ⟨_, (false), (by first | rfl | (simp; done) | (simp [*]; done)), H', ⟨by have := HK1.out; first | omega | exact Nat.le_refl _⟩, ⟨by (with_reducible repeat (first | apply Kd.R_alloc | apply Kd.R_drewN | apply Kd.R_drew)); exact HO_4.out⟩, ⟨by repeat (first | (with_reducible first | exact HB.out | apply below_alloc | apply pw_below_drewN | apply below_drew1) | exact HB.out)⟩⟩
            case rest =>
              clear HC6
              try clear c2
              try clear c2b0
              try clear p2
              try clear c3
              try clear c3b0
              try clear p4
              try clear q4
              try clear hx4
              try clear c5
              try clear c5b0
              try clear c6
              try clear c7
              try clear c7b0
              try clear c7b1
              try clear c7b2
              try clear c8
              try clear c8b0
              try clear p4
              try clear q4
              obtain ⟨kq, x28_5, rfl, HA, HJ5, HO_4, HB⟩ := hcut
              cases kq with
              | zero => exact absurd HA.out (by simp [spec_words.j1])
              | succ kj5 =>
                have H := HA.out
                clear HA
                simp only [spec_words.j1] at H
                by_cases c9 : x28_5 = true
                · subst c9
                  have H1 : (if x5_1.toList = ([] : List UInt8) then (spec_words.l0 kj5 a0 x4_1 (⟨#[]⟩ : ByteArray) (wrap64 (x6_1 + 1))) else (if x4_1.length < 8796093022208 then (spec_words.l0 kj5 a0 (x4_1 ++ [x5_1]) (⟨#[]⟩ : ByteArray) (wrap64 (x6_1 + 1))) else (none))) = some (r1, r2) := by rw [if_pos rfl] at H; exact H
                  clear H
                  have H := H1
                  clear H1
                  by_cases c10 : x5_1.toList = ([] : List UInt8)
                  · rw [if_pos c10] at H
                    have c10b0 : (x5_1.toList == ([] : List UInt8)) = true := beq_iff_eq.mpr c10
                    have c10b1 : (x5_1.toList != ([] : List UInt8)) = false := bne_eq_false_iff_eq.mpr c10
                    clear c10
                    have H' := Aside0.mk H
                    clear H
                    go_wp2
                    go_roundg kj5
                    case measure => have := HK1.out; have := HJ5.out; omega
                    case rel => exact ⟨(x4_1), ((⟨#[]⟩ : ByteArray)), (wrap64 (x6_1 + 1)), (by first | rfl | (simp; done) | (simp [*]; done)), (by first | rfl | (simp; done) | (simp [*]; done)), H', ⟨by have := HK1.out; have := HJ5.out; omega⟩, ⟨by (with_reducible repeat (first | apply Kd.R_alloc | apply Kd.R_drewN | apply Kd.R_drew)); exact HO_4.out⟩, ⟨by repeat (first | (with_reducible first | exact HB.out | apply below_alloc | apply pw_below_drewN | apply below_drew1) | exact HB.out)⟩⟩
                  · rw [if_neg c10] at H
                    have c10b0 : (x5_1.toList == ([] : List UInt8)) = false := beq_eq_false_iff_ne.mpr c10
                    have c10b1 : (x5_1.toList != ([] : List UInt8)) = true := bne_iff_ne.mpr c10
                    by_cases c11 : x4_1.length < 8796093022208
                    · rw [if_pos c11] at H
                      have LMc11 := Aside0.mk c11
                      clear c11
                      obtain ⟨y104, hy104⟩ : ∃ y_ : List ByteArray, y_ = (x4_1 ++ [x5_1]) := ⟨_, rfl⟩
                      replace H : (spec_words.l0 kj5 a0 y104 (⟨#[]⟩ : ByteArray) (wrap64 (x6_1 + 1))) = some (r1, r2) := by first | (rw [hy104]; with_reducible exact H) | (have H2_ := (Option.bind_some _ _).symm.trans H; rw [hy104]; with_reducible exact H2_) | (have H2_ := (Option.bind_some _ _).symm.trans H; with_reducible exact H2_) | with_reducible exact H | (rw [hy104]; exact H) | exact H
                      have Ny104 := Aside0.mk hy104
                      clear hy104
                      have H' := Aside0.mk H
                      clear H
                      go_wp2_with (first | ((with_reducible refine gate_builtin (b := .append) (xs := #[.tmp 31, .tmp 33]) rfl ?_); at_builtin; refine Kd.R_append Kd.string (w0 := w) w.heap.size rfl (.tmp 31) (.tmp 33) 124 9 (.string ⟨#[]⟩) 16 rfl Tryz.underlying124 info9 rfl (by decide) (by omega) u4 x4_1 x5_1 [.string x5_1] (fun _ => True) (fun _ => False) rfl rfl ?aP (fun _ hk => hk.elim) ?aF ?aO ?aB ?aS ?aL ?_; (case aP => exact rfl); (case aB => exact (by repeat (first | (with_reducible first | exact HB.out | apply below_alloc | apply pw_below_drewN | apply below_drew1) | exact HB.out))); (case aF => exact (fun _ _ => trivial)); (case aO => exact (by (with_reducible repeat (first | apply Kd.R_alloc | apply Kd.R_drewN | apply Kd.R_drew)); exact HO_4.out)); (case aS => exact (below_size (by repeat (first | (with_reducible first | exact HB.out | apply below_alloc | apply pw_below_drewN | apply below_drew1) | exact HB.out)))); (case aL => have := LMc11.out; omega); intro v105 w12 ho hb hg hat; rw [← Ny104.out] at ho; have n0_ := Aside0.mk (hb); have n1_ := Aside0.mk (ho); clear HB; clear HO_4; have HB := n0_; have HO106 := n1_; clear n0_ n1_; clear ho hb hg hat))
                      go_roundg kj5
                      case measure => have := HK1.out; have := HJ5.out; omega
                      case rel => exact ⟨(y104), ((⟨#[]⟩ : ByteArray)), (wrap64 (x6_1 + 1)), (by first | rfl | (simp; done) | (simp [*]; done)), (by first | rfl | (simp; done) | (simp [*]; done)), H', ⟨by have := HK1.out; have := HJ5.out; omega⟩, ⟨by (with_reducible repeat (first | apply Kd.R_alloc | apply Kd.R_drewN | apply Kd.R_drew)); exact HO106.out⟩, ⟨by repeat (first | (with_reducible first | exact HB.out | apply below_alloc | apply pw_below_drewN | apply below_drew1) | exact HB.out)⟩⟩
                    · rw [if_neg c11] at H
                      exact absurd H (by simp)
                · replace c9 := Bool.eq_false_iff.mpr c9
                  subst c9
                  have H1 : ((some (([(bt a0 x6_1)] : List Int) : List Int)).bind fun y107 => (if x5_1.size + (strOfNums y107).size ≤ 9223372036854775807 then (spec_words.l0 kj5 a0 x4_1 (x5_1 ++ (strOfNums y107)) (wrap64 (x6_1 + 1))) else (none))) = some (r1, r2) := by rw [if_neg (show ¬ (false = true) by decide)] at H; exact H
                  clear H
                  have H := H1
                  clear H1
                  obtain ⟨y107, hy107⟩ : ∃ y_ : List Int, y_ = (([(bt a0 x6_1)] : List Int)) := ⟨_, rfl⟩
                  replace H : (if x5_1.size + (strOfNums y107).size ≤ 9223372036854775807 then (spec_words.l0 kj5 a0 x4_1 (x5_1 ++ (strOfNums y107)) (wrap64 (x6_1 + 1))) else (none)) = some (r1, r2) := by first | (rw [hy107]; with_reducible exact H) | (have H2_ := (Option.bind_some _ _).symm.trans H; rw [hy107]; with_reducible exact H2_) | (have H2_ := (Option.bind_some _ _).symm.trans H; with_reducible exact H2_) | with_reducible exact H | (rw [hy107]; exact H) | exact H
                  have Ny107 := Aside0.mk hy107
                  clear hy107
                  by_cases c13 : x5_1.size + (strOfNums y107).size ≤ 9223372036854775807
                  · rw [if_pos c13] at H
                    have c13b0 := eq_true c13
                    have c13b1 : decide (x5_1.size + (strOfNums y107).size ≤ 9223372036854775807) = true := decide_eq_true c13
                    try have c13b2 : (9223372036854775807 < x5_1.size + (strOfNums y107).size) = False := eq_false (Nat.not_lt.2 c13)
                    have H' := Aside0.mk H
                    clear H
                    go_wp2_with (first | ((with_reducible refine gate_dst (N := 37) rfl ?_); refine Kd.R_lit (Kd.int .u8) _ 5 ?hg (N := 37) ?hd (xs := ([(bt a0 x6_1)] : List Int)) (inner := [.int .u8 (bt a0 x6_1)]) (ok := fun _ => True) (okp := fun _ => True) ?hr ?hp (fun _ hk => hk) trivial (Below.refl _ _) (Nat.le_refl _) (by simp) ?_; (case hd => rfl); (case hg => rfl); (case hr => first | (go_simp; done) | (go_simp; rfl)); (case hp => exact (Reps.one (show Kd.M (Kd.int .u8) _ _ _ (bt a0 x6_1) [.int .u8 (bt a0 x6_1)] from rfl) (Reps.none _ _))); intro v108 w14 ho15 hb hg_ hnew_; clear hg_ hnew_; (first | rw [← Ny107.out] at ho15 | (simp only [Int.reduceToNat] at ho15; rw [← Ny107.out] at ho15)); have n0_ := Aside0.mk (Kd.R_below (by (with_reducible repeat (first | apply Kd.R_alloc | apply Kd.R_drewN | apply Kd.R_drew)); exact HO_4.out) hb); have n1_ := Aside0.mk (Kd.R_lower ho15 (below_size (by repeat (first | (with_reducible first | exact HB.out | apply below_alloc | apply pw_below_drewN | apply below_drew1) | exact HB.out)))); have n2_ := Aside0.mk (below_step (by repeat (first | (with_reducible first | exact HB.out | apply below_alloc | apply pw_below_drewN | apply below_drew1) | exact HB.out)) hb); clear HO_4; clear HB; have HO_4 := n0_; have HO109 := n1_; have HB := n2_; clear n0_ n1_ n2_; clear hb ho15; have hcv16 := own_string (P := Tryz.prog) Tryz.underlying162 Tryz.underlying5 Tryz.underlying9 (Kd.own_of_R HO109.out)))
                    go_roundg kj5
                    case measure => have := HK1.out; have := HJ5.out; omega
                    case rel => exact ⟨(x4_1), (x5_1 ++ (strOfNums y107)), (wrap64 (x6_1 + 1)), (by first | rfl | (simp; done) | (simp [*]; done)), (by first | rfl | (simp; done) | (simp [*]; done)), H', ⟨by have := HK1.out; have := HJ5.out; omega⟩, ⟨by (with_reducible repeat (first | apply Kd.R_alloc | apply Kd.R_drewN | apply Kd.R_drew)); exact HO_4.out⟩, ⟨by repeat (first | (with_reducible first | exact HB.out | apply below_alloc | apply pw_below_drewN | apply below_drew1) | exact HB.out)⟩⟩
                  · rw [if_neg c13] at H
                    exact absurd H (by simp)
        · rw [if_neg c3] at H
          exact absurd H (by simp)
      · rw [if_neg c2] at H
        have c2b0 : decide (x6_1 < (a0.size : Int)) = false := decide_eq_false c2
        clear c2
        by_cases c17 : x5_1.toList = ([] : List UInt8)
        · rw [if_pos c17] at H
          have c17b0 : (x5_1.toList == ([] : List UInt8)) = true := beq_iff_eq.mpr c17
          have c17b1 : (x5_1.toList != ([] : List UInt8)) = false := bne_eq_false_iff_eq.mpr c17
          clear c17
          simp only [Option.some.injEq, Prod.mk.injEq] at H
          obtain ⟨rfl, rfl⟩ := H
          go_wp2
          go_ret2
          exact ⟨_, by first | rfl | (simp [errW_none, errW_some] <;> rfl) | (simp [*, errW_none, errW_some] <;> rfl), by (with_reducible repeat (first | apply Kd.R_alloc | apply Kd.R_drewN | apply Kd.R_drew)); exact HO_4.out, by repeat (first | (with_reducible first | exact HB.out | apply below_alloc | apply pw_below_drewN | apply below_drew1) | exact HB.out)⟩
        · rw [if_neg c17] at H
          have c17b0 : (x5_1.toList == ([] : List UInt8)) = false := beq_eq_false_iff_ne.mpr c17
          have c17b1 : (x5_1.toList != ([] : List UInt8)) = true := bne_iff_ne.mpr c17
          by_cases c18 : x4_1.length < 8796093022208
          · rw [if_pos c18] at H
            have LMc18 := Aside0.mk c18
            clear c18
            obtain ⟨y101, hy101⟩ : ∃ y_ : List ByteArray, y_ = (x4_1 ++ [x5_1]) := ⟨_, rfl⟩
            replace H : (some (y101, 1)) = some (r1, r2) := by first | (rw [hy101]; with_reducible exact H) | (have H2_ := (Option.bind_some _ _).symm.trans H; rw [hy101]; with_reducible exact H2_) | (have H2_ := (Option.bind_some _ _).symm.trans H; with_reducible exact H2_) | with_reducible exact H | (rw [hy101]; exact H) | exact H
            have Ny101 := Aside0.mk hy101
            clear hy101
            simp only [Option.some.injEq, Prod.mk.injEq] at H
            obtain ⟨rfl, rfl⟩ := H
            go_wp2_with (first | ((with_reducible refine gate_builtin (b := .append) (xs := #[.tmp 42, .tmp 44]) rfl ?_); at_builtin; refine Kd.R_append Kd.string (w0 := w) w.heap.size rfl (.tmp 42) (.tmp 44) 124 9 (.string ⟨#[]⟩) 16 rfl Tryz.underlying124 info9 rfl (by decide) (by omega) u4 x4_1 x5_1 [.string x5_1] (fun _ => True) (fun _ => False) rfl rfl ?aP (fun _ hk => hk.elim) ?aF ?aO ?aB ?aS ?aL ?_; (case aP => exact rfl); (case aB => exact (by repeat (first | (with_reducible first | exact HB.out | apply below_alloc | apply pw_below_drewN | apply below_drew1) | exact HB.out))); (case aF => exact (fun _ _ => trivial)); (case aO => exact (by (with_reducible repeat (first | apply Kd.R_alloc | apply Kd.R_drewN | apply Kd.R_drew)); exact HO_4.out)); (case aS => exact (below_size (by repeat (first | (with_reducible first | exact HB.out | apply below_alloc | apply pw_below_drewN | apply below_drew1) | exact HB.out)))); (case aL => have := LMc18.out; omega); intro v102 w19 ho hb hg hat; rw [← Ny101.out] at ho; have n0_ := Aside0.mk (hb); have n1_ := Aside0.mk (ho); clear HB; clear HO_4; have HB := n0_; have HO103 := n1_; clear n0_ n1_; clear ho hb hg hat))
            go_ret2
            exact ⟨_, by first | rfl | (simp [errW_none, errW_some] <;> rfl) | (simp [*, errW_none, errW_some] <;> rfl), by (with_reducible repeat (first | apply Kd.R_alloc | apply Kd.R_drewN | apply Kd.R_drew)); exact HO103.out, by repeat (first | (with_reducible first | exact HB.out | apply below_alloc | apply pw_below_drewN | apply below_drew1) | exact HB.out)⟩
          · rw [if_neg c18] at H
            exact absurd H (by simp)

/-! ### spec_begins: function 65 -/
def spec_begins.f (a0 : ByteArray) (a1 : ByteArray) : Option (Bool) := if (a0.size : Int) ≥ (a1.size : Int) then (if 0 ≤ (a1.size : Int) then (if (a1.size : Int) ≤ (a0.size : Int) then (some ((a0.extract 0 ((a1.size : Int) : Int).toNat).toList == a1.toList)) else (none)) else (none)) else (some false)
set_option maxHeartbeats 8000000 in
set_option maxRecDepth 100000 in
theorem spec_begins.calls (a0 : ByteArray) (a1 : ByteArray) (r : Bool) (w : World) (h : spec_begins.f a0 a1 = some r) :
    Calls Tryz.prog 65 #[.string a0, .string a1] w fun e w' => e = .returned (.bool r) ∧ Drawn0 w w' := by
  have H : (if (a0.size : Int) ≥ (a1.size : Int) then (if 0 ≤ (a1.size : Int) then (if (a1.size : Int) ≤ (a0.size : Int) then (some ((a0.extract 0 ((a1.size : Int) : Int).toNat).toList == a1.toList)) else (none)) else (none)) else (some false)) = some r := h
  clear h
  by_cases c3 : (a0.size : Int) ≥ (a1.size : Int)
  · rw [if_pos c3] at H
    have c3b0 : decide ((a1.size : Int) ≤ (a0.size : Int)) = true := decide_eq_true c3
    have c3b1 : decide (a1.size ≤ a0.size) = true := decide_eq_true (Int.ofNat_le.mp c3)
    clear c3
    by_cases c4 : 0 ≤ (a1.size : Int)
    · rw [if_pos c4] at H
      have c4b0 := eq_true c4
      have c4b1 : decide (0 ≤ (a1.size : Int)) = true := decide_eq_true c4
      clear c4
      by_cases c5 : (a1.size : Int) ≤ (a0.size : Int)
      · rw [if_pos c5] at H
        have c5b0 := eq_true c5
        have c5b1 : decide ((a1.size : Int) ≤ (a0.size : Int)) = true := decide_eq_true c5
        clear c5
        obtain rfl := Option.some.inj H
        go_enter Tryz.func65, Tryz.ntmps65
        go_wp2
        go_ret
        exact ⟨by first | rfl | (simp; done) | (simp [*]; done), by repeat (first | exact Drawn0.refl _ | apply Drawn0.step)⟩
      · rw [if_neg c5] at H
        exact absurd H (by simp)
    · rw [if_neg c4] at H
      exact absurd H (by simp)
  · rw [if_neg c3] at H
    have c3b0 : decide ((a1.size : Int) ≤ (a0.size : Int)) = false := decide_eq_false c3
    have c3b1 : decide (a1.size ≤ a0.size) = false := decide_eq_false (fun h => c3 (Int.ofNat_le.mpr h))
    clear c3
    obtain rfl := Option.some.inj H
    go_enter Tryz.func65, Tryz.ntmps65
    go_wp2
    go_ret
    exact ⟨by first | rfl | (simp; done) | (simp [*]; done), by repeat (first | exact Drawn0.refl _ | apply Drawn0.step)⟩

/-! ### spec_shades: function 88 -/
def spec_shades.f  : Option ((List (S166))) := some (([(⟨(⟨#[98, 108, 97, 99, 107]⟩ : ByteArray), 0⟩ : S166), (⟨(⟨#[100, 97, 114, 107, 114, 101, 100]⟩ : ByteArray), 8323072⟩ : S166), (⟨(⟨#[100, 97, 114, 107, 103, 114, 101, 101, 110]⟩ : ByteArray), 32512⟩ : S166), (⟨(⟨#[98, 114, 111, 119, 110]⟩ : ByteArray), 8355808⟩ : S166), (⟨(⟨#[100, 97, 114, 107, 98, 108, 117, 101]⟩ : ByteArray), 127⟩ : S166), (⟨(⟨#[112, 117, 114, 112, 108, 101]⟩ : ByteArray), 8323199⟩ : S166), (⟨(⟨#[116, 101, 97, 108]⟩ : ByteArray), 32639⟩ : S166), (⟨(⟨#[108, 105, 103, 104, 116, 103, 114, 97, 121]⟩ : ByteArray), 15066597⟩ : S166), (⟨(⟨#[100, 97, 114, 107, 103, 114, 97, 121]⟩ : ByteArray), 5592405⟩ : S166), (⟨(⟨#[114, 101, 100]⟩ : ByteArray), 16711680⟩ : S166), (⟨(⟨#[103, 114, 101, 101, 110]⟩ : ByteArray), 65280⟩ : S166), (⟨(⟨#[121, 101, 108, 108, 111, 119]⟩ : ByteArray), 16776960⟩ : S166), (⟨(⟨#[98, 108, 117, 101]⟩ : ByteArray), 255⟩ : S166), (⟨(⟨#[102, 117, 99, 104, 115, 105, 97]⟩ : ByteArray), 16711935⟩ : S166), (⟨(⟨#[116, 117, 114, 113, 117, 111, 105, 115, 101]⟩ : ByteArray), 65535⟩ : S166), (⟨(⟨#[119, 104, 105, 116, 101]⟩ : ByteArray), 16777215⟩ : S166)] : List (S166)))
set_option maxHeartbeats 8000000 in
set_option maxRecDepth 100000 in
theorem spec_shades.calls  (r : List (S166)) (w : World) (h : spec_shades.f  = some r) :
    Calls Tryz.prog 88 #[] w fun e w' => ∃ v0_ : Value, e = .returned (v0_) ∧ Kd.R k166 166 w' w.heap.size (fun _ => True) v0_ r ∧ Below w.heap.size w w' := by
  have hu166 := Tryz.underlying166
  have HB := Aside0.mk (Below.refl w.heap.size w)
  have H : (some (([(⟨(⟨#[98, 108, 97, 99, 107]⟩ : ByteArray), 0⟩ : S166), (⟨(⟨#[100, 97, 114, 107, 114, 101, 100]⟩ : ByteArray), 8323072⟩ : S166), (⟨(⟨#[100, 97, 114, 107, 103, 114, 101, 101, 110]⟩ : ByteArray), 32512⟩ : S166), (⟨(⟨#[98, 114, 111, 119, 110]⟩ : ByteArray), 8355808⟩ : S166), (⟨(⟨#[100, 97, 114, 107, 98, 108, 117, 101]⟩ : ByteArray), 127⟩ : S166), (⟨(⟨#[112, 117, 114, 112, 108, 101]⟩ : ByteArray), 8323199⟩ : S166), (⟨(⟨#[116, 101, 97, 108]⟩ : ByteArray), 32639⟩ : S166), (⟨(⟨#[108, 105, 103, 104, 116, 103, 114, 97, 121]⟩ : ByteArray), 15066597⟩ : S166), (⟨(⟨#[100, 97, 114, 107, 103, 114, 97, 121]⟩ : ByteArray), 5592405⟩ : S166), (⟨(⟨#[114, 101, 100]⟩ : ByteArray), 16711680⟩ : S166), (⟨(⟨#[103, 114, 101, 101, 110]⟩ : ByteArray), 65280⟩ : S166), (⟨(⟨#[121, 101, 108, 108, 111, 119]⟩ : ByteArray), 16776960⟩ : S166), (⟨(⟨#[98, 108, 117, 101]⟩ : ByteArray), 255⟩ : S166), (⟨(⟨#[102, 117, 99, 104, 115, 105, 97]⟩ : ByteArray), 16711935⟩ : S166), (⟨(⟨#[116, 117, 114, 113, 117, 111, 105, 115, 101]⟩ : ByteArray), 65535⟩ : S166), (⟨(⟨#[119, 104, 105, 116, 101]⟩ : ByteArray), 16777215⟩ : S166)] : List (S166)))) = some r := h
  clear h
  obtain ⟨y110, hy110⟩ : ∃ y_ : List (S166), y_ = (([(⟨(⟨#[98, 108, 97, 99, 107]⟩ : ByteArray), 0⟩ : S166), (⟨(⟨#[100, 97, 114, 107, 114, 101, 100]⟩ : ByteArray), 8323072⟩ : S166), (⟨(⟨#[100, 97, 114, 107, 103, 114, 101, 101, 110]⟩ : ByteArray), 32512⟩ : S166), (⟨(⟨#[98, 114, 111, 119, 110]⟩ : ByteArray), 8355808⟩ : S166), (⟨(⟨#[100, 97, 114, 107, 98, 108, 117, 101]⟩ : ByteArray), 127⟩ : S166), (⟨(⟨#[112, 117, 114, 112, 108, 101]⟩ : ByteArray), 8323199⟩ : S166), (⟨(⟨#[116, 101, 97, 108]⟩ : ByteArray), 32639⟩ : S166), (⟨(⟨#[108, 105, 103, 104, 116, 103, 114, 97, 121]⟩ : ByteArray), 15066597⟩ : S166), (⟨(⟨#[100, 97, 114, 107, 103, 114, 97, 121]⟩ : ByteArray), 5592405⟩ : S166), (⟨(⟨#[114, 101, 100]⟩ : ByteArray), 16711680⟩ : S166), (⟨(⟨#[103, 114, 101, 101, 110]⟩ : ByteArray), 65280⟩ : S166), (⟨(⟨#[121, 101, 108, 108, 111, 119]⟩ : ByteArray), 16776960⟩ : S166), (⟨(⟨#[98, 108, 117, 101]⟩ : ByteArray), 255⟩ : S166), (⟨(⟨#[102, 117, 99, 104, 115, 105, 97]⟩ : ByteArray), 16711935⟩ : S166), (⟨(⟨#[116, 117, 114, 113, 117, 111, 105, 115, 101]⟩ : ByteArray), 65535⟩ : S166), (⟨(⟨#[119, 104, 105, 116, 101]⟩ : ByteArray), 16777215⟩ : S166)] : List (S166))) := ⟨_, rfl⟩
  replace H : (some y110) = some r := by first | (rw [hy110]; with_reducible exact H) | (have H2_ := (Option.bind_some _ _).symm.trans H; rw [hy110]; with_reducible exact H2_) | (have H2_ := (Option.bind_some _ _).symm.trans H; with_reducible exact H2_) | with_reducible exact H | (rw [hy110]; exact H) | exact H
  have Ny110 := Aside0.mk hy110
  clear hy110
  obtain rfl := Option.some.inj H
  go_enter Tryz.func88, Tryz.ntmps88
  go_wp2_with (first | ((with_reducible refine gate_dst (N := 17) rfl ?_); refine Kd.R_lit k166 _ 166 ?hg (N := 17) ?hd (xs := ([(⟨(⟨#[98, 108, 97, 99, 107]⟩ : ByteArray), 0⟩ : S166), (⟨(⟨#[100, 97, 114, 107, 114, 101, 100]⟩ : ByteArray), 8323072⟩ : S166), (⟨(⟨#[100, 97, 114, 107, 103, 114, 101, 101, 110]⟩ : ByteArray), 32512⟩ : S166), (⟨(⟨#[98, 114, 111, 119, 110]⟩ : ByteArray), 8355808⟩ : S166), (⟨(⟨#[100, 97, 114, 107, 98, 108, 117, 101]⟩ : ByteArray), 127⟩ : S166), (⟨(⟨#[112, 117, 114, 112, 108, 101]⟩ : ByteArray), 8323199⟩ : S166), (⟨(⟨#[116, 101, 97, 108]⟩ : ByteArray), 32639⟩ : S166), (⟨(⟨#[108, 105, 103, 104, 116, 103, 114, 97, 121]⟩ : ByteArray), 15066597⟩ : S166), (⟨(⟨#[100, 97, 114, 107, 103, 114, 97, 121]⟩ : ByteArray), 5592405⟩ : S166), (⟨(⟨#[114, 101, 100]⟩ : ByteArray), 16711680⟩ : S166), (⟨(⟨#[103, 114, 101, 101, 110]⟩ : ByteArray), 65280⟩ : S166), (⟨(⟨#[121, 101, 108, 108, 111, 119]⟩ : ByteArray), 16776960⟩ : S166), (⟨(⟨#[98, 108, 117, 101]⟩ : ByteArray), 255⟩ : S166), (⟨(⟨#[102, 117, 99, 104, 115, 105, 97]⟩ : ByteArray), 16711935⟩ : S166), (⟨(⟨#[116, 117, 114, 113, 117, 111, 105, 115, 101]⟩ : ByteArray), 65535⟩ : S166), (⟨(⟨#[119, 104, 105, 116, 101]⟩ : ByteArray), 16777215⟩ : S166)] : List (S166))) (inner := [.string (⟨#[98, 108, 97, 99, 107]⟩ : ByteArray), .int .i64 0, .string (⟨#[100, 97, 114, 107, 114, 101, 100]⟩ : ByteArray), .int .i64 8323072, .string (⟨#[100, 97, 114, 107, 103, 114, 101, 101, 110]⟩ : ByteArray), .int .i64 32512, .string (⟨#[98, 114, 111, 119, 110]⟩ : ByteArray), .int .i64 8355808, .string (⟨#[100, 97, 114, 107, 98, 108, 117, 101]⟩ : ByteArray), .int .i64 127, .string (⟨#[112, 117, 114, 112, 108, 101]⟩ : ByteArray), .int .i64 8323199, .string (⟨#[116, 101, 97, 108]⟩ : ByteArray), .int .i64 32639, .string (⟨#[108, 105, 103, 104, 116, 103, 114, 97, 121]⟩ : ByteArray), .int .i64 15066597, .string (⟨#[100, 97, 114, 107, 103, 114, 97, 121]⟩ : ByteArray), .int .i64 5592405, .string (⟨#[114, 101, 100]⟩ : ByteArray), .int .i64 16711680, .string (⟨#[103, 114, 101, 101, 110]⟩ : ByteArray), .int .i64 65280, .string (⟨#[121, 101, 108, 108, 111, 119]⟩ : ByteArray), .int .i64 16776960, .string (⟨#[98, 108, 117, 101]⟩ : ByteArray), .int .i64 255, .string (⟨#[102, 117, 99, 104, 115, 105, 97]⟩ : ByteArray), .int .i64 16711935, .string (⟨#[116, 117, 114, 113, 117, 111, 105, 115, 101]⟩ : ByteArray), .int .i64 65535, .string (⟨#[119, 104, 105, 116, 101]⟩ : ByteArray), .int .i64 16777215]) (ok := fun _ => True) (okp := fun _ => True) ?hr ?hp (fun _ hk => hk) trivial (Below.refl _ _) (Nat.le_refl _) (by simp) ?_; (case hd => rfl); (case hg => rfl); (case hr => first | (go_simp; done) | (go_simp; rfl)); (case hp => exact (Reps.c2 (show Kd.M k166 _ _ _ (⟨(⟨#[98, 108, 97, 99, 107]⟩ : ByteArray), 0⟩ : S166) [.string (⟨#[98, 108, 97, 99, 107]⟩ : ByteArray), .int .i64 0] from (k166_mkM _ _ _ (⟨(⟨#[98, 108, 97, 99, 107]⟩ : ByteArray), 0⟩ : S166) )) (Reps.c2 (show Kd.M k166 _ _ _ (⟨(⟨#[100, 97, 114, 107, 114, 101, 100]⟩ : ByteArray), 8323072⟩ : S166) [.string (⟨#[100, 97, 114, 107, 114, 101, 100]⟩ : ByteArray), .int .i64 8323072] from (k166_mkM _ _ _ (⟨(⟨#[100, 97, 114, 107, 114, 101, 100]⟩ : ByteArray), 8323072⟩ : S166) )) (Reps.c2 (show Kd.M k166 _ _ _ (⟨(⟨#[100, 97, 114, 107, 103, 114, 101, 101, 110]⟩ : ByteArray), 32512⟩ : S166) [.string (⟨#[100, 97, 114, 107, 103, 114, 101, 101, 110]⟩ : ByteArray), .int .i64 32512] from (k166_mkM _ _ _ (⟨(⟨#[100, 97, 114, 107, 103, 114, 101, 101, 110]⟩ : ByteArray), 32512⟩ : S166) )) (Reps.c2 (show Kd.M k166 _ _ _ (⟨(⟨#[98, 114, 111, 119, 110]⟩ : ByteArray), 8355808⟩ : S166) [.string (⟨#[98, 114, 111, 119, 110]⟩ : ByteArray), .int .i64 8355808] from (k166_mkM _ _ _ (⟨(⟨#[98, 114, 111, 119, 110]⟩ : ByteArray), 8355808⟩ : S166) )) (Reps.c2 (show Kd.M k166 _ _ _ (⟨(⟨#[100, 97, 114, 107, 98, 108, 117, 101]⟩ : ByteArray), 127⟩ : S166) [.string (⟨#[100, 97, 114, 107, 98, 108, 117, 101]⟩ : ByteArray), .int .i64 127] from (k166_mkM _ _ _ (⟨(⟨#[100, 97, 114, 107, 98, 108, 117, 101]⟩ : ByteArray), 127⟩ : S166) )) (Reps.c2 (show Kd.M k166 _ _ _ (⟨(⟨#[112, 117, 114, 112, 108, 101]⟩ : ByteArray), 8323199⟩ : S166) [.string (⟨#[112, 117, 114, 112, 108, 101]⟩ : ByteArray), .int .i64 8323199] from (k166_mkM _ _ _ (⟨(⟨#[112, 117, 114, 112, 108, 101]⟩ : ByteArray), 8323199⟩ : S166) )) (Reps.c2 (show Kd.M k166 _ _ _ (⟨(⟨#[116, 101, 97, 108]⟩ : ByteArray), 32639⟩ : S166) [.string (⟨#[116, 101, 97, 108]⟩ : ByteArray), .int .i64 32639] from (k166_mkM _ _ _ (⟨(⟨#[116, 101, 97, 108]⟩ : ByteArray), 32639⟩ : S166) )) (Reps.c2 (show Kd.M k166 _ _ _ (⟨(⟨#[108, 105, 103, 104, 116, 103, 114, 97, 121]⟩ : ByteArray), 15066597⟩ : S166) [.string (⟨#[108, 105, 103, 104, 116, 103, 114, 97, 121]⟩ : ByteArray), .int .i64 15066597] from (k166_mkM _ _ _ (⟨(⟨#[108, 105, 103, 104, 116, 103, 114, 97, 121]⟩ : ByteArray), 15066597⟩ : S166) )) (Reps.c2 (show Kd.M k166 _ _ _ (⟨(⟨#[100, 97, 114, 107, 103, 114, 97, 121]⟩ : ByteArray), 5592405⟩ : S166) [.string (⟨#[100, 97, 114, 107, 103, 114, 97, 121]⟩ : ByteArray), .int .i64 5592405] from (k166_mkM _ _ _ (⟨(⟨#[100, 97, 114, 107, 103, 114, 97, 121]⟩ : ByteArray), 5592405⟩ : S166) )) (Reps.c2 (show Kd.M k166 _ _ _ (⟨(⟨#[114, 101, 100]⟩ : ByteArray), 16711680⟩ : S166) [.string (⟨#[114, 101, 100]⟩ : ByteArray), .int .i64 16711680] from (k166_mkM _ _ _ (⟨(⟨#[114, 101, 100]⟩ : ByteArray), 16711680⟩ : S166) )) (Reps.c2 (show Kd.M k166 _ _ _ (⟨(⟨#[103, 114, 101, 101, 110]⟩ : ByteArray), 65280⟩ : S166) [.string (⟨#[103, 114, 101, 101, 110]⟩ : ByteArray), .int .i64 65280] from (k166_mkM _ _ _ (⟨(⟨#[103, 114, 101, 101, 110]⟩ : ByteArray), 65280⟩ : S166) )) (Reps.c2 (show Kd.M k166 _ _ _ (⟨(⟨#[121, 101, 108, 108, 111, 119]⟩ : ByteArray), 16776960⟩ : S166) [.string (⟨#[121, 101, 108, 108, 111, 119]⟩ : ByteArray), .int .i64 16776960] from (k166_mkM _ _ _ (⟨(⟨#[121, 101, 108, 108, 111, 119]⟩ : ByteArray), 16776960⟩ : S166) )) (Reps.c2 (show Kd.M k166 _ _ _ (⟨(⟨#[98, 108, 117, 101]⟩ : ByteArray), 255⟩ : S166) [.string (⟨#[98, 108, 117, 101]⟩ : ByteArray), .int .i64 255] from (k166_mkM _ _ _ (⟨(⟨#[98, 108, 117, 101]⟩ : ByteArray), 255⟩ : S166) )) (Reps.c2 (show Kd.M k166 _ _ _ (⟨(⟨#[102, 117, 99, 104, 115, 105, 97]⟩ : ByteArray), 16711935⟩ : S166) [.string (⟨#[102, 117, 99, 104, 115, 105, 97]⟩ : ByteArray), .int .i64 16711935] from (k166_mkM _ _ _ (⟨(⟨#[102, 117, 99, 104, 115, 105, 97]⟩ : ByteArray), 16711935⟩ : S166) )) (Reps.c2 (show Kd.M k166 _ _ _ (⟨(⟨#[116, 117, 114, 113, 117, 111, 105, 115, 101]⟩ : ByteArray), 65535⟩ : S166) [.string (⟨#[116, 117, 114, 113, 117, 111, 105, 115, 101]⟩ : ByteArray), .int .i64 65535] from (k166_mkM _ _ _ (⟨(⟨#[116, 117, 114, 113, 117, 111, 105, 115, 101]⟩ : ByteArray), 65535⟩ : S166) )) (Reps.c2 (show Kd.M k166 _ _ _ (⟨(⟨#[119, 104, 105, 116, 101]⟩ : ByteArray), 16777215⟩ : S166) [.string (⟨#[119, 104, 105, 116, 101]⟩ : ByteArray), .int .i64 16777215] from (k166_mkM _ _ _ (⟨(⟨#[119, 104, 105, 116, 101]⟩ : ByteArray), 16777215⟩ : S166) )) (Reps.none _ _)))))))))))))))))); intro v111 w1 ho2 hb hg_ hnew_; clear hg_ hnew_; (first | rw [← Ny110.out] at ho2 | (simp only [Int.reduceToNat] at ho2; rw [← Ny110.out] at ho2)); have n0_ := Aside0.mk (Kd.R_lower ho2 (below_size (by repeat (first | (with_reducible first | exact HB.out | apply below_alloc | apply pw_below_drewN | apply below_drew1) | exact HB.out)))); have n1_ := Aside0.mk (below_step (by repeat (first | (with_reducible first | exact HB.out | apply below_alloc | apply pw_below_drewN | apply below_drew1) | exact HB.out)) hb); clear HB; have HO112 := n0_; have HB := n1_; clear n0_ n1_; clear hb ho2))
  go_ret
  exact ⟨_, by first | rfl | (simp [errW_none, errW_some] <;> rfl) | (simp [*, errW_none, errW_some] <;> rfl), by (with_reducible repeat (first | apply Kd.R_alloc | apply Kd.R_drewN | apply Kd.R_drew)); exact HO112.out, by repeat (first | (with_reducible first | exact HB.out | apply below_alloc | apply pw_below_drewN | apply below_drew1) | exact HB.out)⟩

/-! ### spec_hex: function 89 -/
mutual
def spec_hex.j0 : Nat → Int → Bool → Option (Int)
  | 0, _, _ => none
  | k + 1, x0, x3 => if x3 = true then (some ((x0 - 48) % 256)) else (if x0 ≥ 97 then (spec_hex.j1 k x0 (decide (x0 ≤ 102))) else (spec_hex.j1 k x0 false))
def spec_hex.j1 : Nat → Int → Bool → Option (Int)
  | 0, _, _ => none
  | k + 1, x0, x13 => if x13 = true then (some (((x0 - 97) % 256) + 10)) else (if x0 ≥ 65 then (if x0 ≤ 70 then (some (((x0 - 65) % 256) + 10)) else (some (-1))) else (some (-1)))
end
def spec_hex.f (k : Nat) (a0 : Int) : Option (Int) := if a0 ≥ 48 then (spec_hex.j0 k a0 (decide (a0 ≤ 57))) else (spec_hex.j0 k a0 false)
theorem spec_hex.mono_l : ∀ k, (∀ y0 y1, LeO (spec_hex.j0 k y0 y1) (spec_hex.j0 (k + 1) y0 y1)) ∧ (∀ y0 y1, LeO (spec_hex.j1 k y0 y1) (spec_hex.j1 (k + 1) y0 y1))
  | 0 => ⟨fun _ _ r h => by simp [spec_hex.j0] at h, fun _ _ r h => by simp [spec_hex.j1] at h⟩
  | k + 1 => by
    obtain ⟨ih0, ih1⟩ := spec_hex.mono_l k
    refine ⟨?_, ?_⟩
    · intro y0 y1
      unfold spec_hex.j0
      repeat' first
      | (with_reducible exact ih0 _ _)
      | (with_reducible exact ih1 _ _)
      | (with_reducible exact LeO.refl _)
      | (with_reducible exact LeO.none _)
      | (with_reducible refine LeO.ite ?_ ?_)
      | (with_reducible refine LeO.bind ?_ (fun _ => ?_))
      | exact ih0 _ _
      | exact ih1 _ _
      | exact LeO.none _
      | refine LeO.ite ?_ ?_
      | refine LeO.bind ?_ (fun _ => ?_)
    · intro y0 y1
      unfold spec_hex.j1
      repeat' first
      | (with_reducible exact ih0 _ _)
      | (with_reducible exact ih1 _ _)
      | (with_reducible exact LeO.refl _)
      | (with_reducible exact LeO.none _)
      | (with_reducible refine LeO.ite ?_ ?_)
      | (with_reducible refine LeO.bind ?_ (fun _ => ?_))
      | exact ih0 _ _
      | exact ih1 _ _
      | exact LeO.none _
      | refine LeO.ite ?_ ?_
      | refine LeO.bind ?_ (fun _ => ?_)
theorem spec_hex.mono : ∀ a0 k, LeO (spec_hex.f k a0) (spec_hex.f (k + 1) a0) := by
  intro a0 k
  obtain ⟨ih0, ih1⟩ := spec_hex.mono_l k
  unfold spec_hex.f
  repeat' first
      | (with_reducible exact ih0 _ _)
      | (with_reducible exact ih1 _ _)
      | (with_reducible exact LeO.refl _)
      | (with_reducible exact LeO.none _)
      | (with_reducible refine LeO.ite ?_ ?_)
      | (with_reducible refine LeO.bind ?_ (fun _ => ?_))
      | exact ih0 _ _
      | exact ih1 _ _
      | exact LeO.none _
      | refine LeO.ite ?_ ?_
      | refine LeO.bind ?_ (fun _ => ?_)
set_option maxHeartbeats 8000000 in
set_option maxRecDepth 100000 in
theorem spec_hex.calls (k : Nat) (a0 : Int) (r : Int) (w : World) (h : spec_hex.f k a0 = some r) :
    Calls Tryz.prog 89 #[.int .u8 a0] w fun e w' => e = .returned (.int .i64 r) ∧ Drawn0 w w' := by
  have H : (if a0 ≥ 48 then (spec_hex.j0 k a0 (decide (a0 ≤ 57))) else (spec_hex.j0 k a0 false)) = some r := h
  clear h
  have HC2 := Aside0.mk H
  clear H
  go_enter Tryz.func89, Tryz.ntmps89
  go_upto_region 1 with (fail)
  go_cut [3] (fun v3 wc => ∃ (kq : Nat) (x3_1 : Bool), v3 = .bool x3_1 ∧ Aside0 (spec_hex.j0 kq a0 x3_1 = some r) ∧ Aside0 (kq ≤ k) ∧ Drawn0 w wc)
  case first =>
    have H := HC2.out
    clear HC2
    by_cases c3 : a0 ≥ 48
    · rw [if_pos c3] at H
      have c3b0 : decide (48 ≤ a0) = true := decide_eq_true c3
      clear c3
      (try (have c3b2 := c3b0; simp only [ByteArray.size_extract, Nat.min_self] at c3b2)); (first | rw [c3b0] | (simp only [i64_w, i32_w]; rw [c3b0]) | rw [c3b1] | skip)
      have H' := Aside0.mk H
      clear H
      go_wp2
      go_meet
      case rel => exact ⟨_, (decide (a0 ≤ 57)), (by first | rfl | (simp; done) | (simp [*]; done)), H', ⟨by first | omega | exact Nat.le_refl _⟩, by repeat (first | exact Drawn0.refl _ | apply Drawn0.step)⟩
    · rw [if_neg c3] at H
      have c3b0 : decide (48 ≤ a0) = false := decide_eq_false c3
      clear c3
      (try (have c3b2 := c3b0; simp only [ByteArray.size_extract, Nat.min_self] at c3b2)); (first | rw [c3b0] | (simp only [i64_w, i32_w]; rw [c3b0]) | rw [c3b1] | skip)
      have H' := Aside0.mk H
      clear H
      go_wp2
      go_meet
      case rel => exact ⟨_, (false), (by first | rfl | (simp; done) | (simp [*]; done)), H', ⟨by first | omega | exact Nat.le_refl _⟩, by repeat (first | exact Drawn0.refl _ | apply Drawn0.step)⟩
  case rest =>
    clear HC2
    try clear p2
    try clear c3
    try clear c3b0
    try clear c3b1
    try clear c3b2
    obtain ⟨kq, x3_1, rfl, HA, HJ1, ⟨mc1, rfl⟩⟩ := hcut
    cases kq with
    | zero => exact absurd HA.out (by simp [spec_hex.j0])
    | succ kj1 =>
      have H := HA.out
      clear HA
      simp only [spec_hex.j0] at H
      by_cases c4 : x3_1 = true
      · subst c4
        have H1 : (some ((a0 - 48) % 256)) = some r := by rw [if_pos rfl] at H; exact H
        clear H
        have H := H1
        clear H1
        obtain rfl := Option.some.inj H
        go_wp2
        go_ret
        exact ⟨by first | rfl | (simp; done) | (simp [*]; done), by repeat (first | exact Drawn0.refl _ | apply Drawn0.step)⟩
      · replace c4 := Bool.eq_false_iff.mpr c4
        subst c4
        have H1 : (if a0 ≥ 97 then (spec_hex.j1 kj1 a0 (decide (a0 ≤ 102))) else (spec_hex.j1 kj1 a0 false)) = some r := by rw [if_neg (show ¬ (false = true) by decide)] at H; exact H
        clear H
        have H := H1
        clear H1
        have HC5 := Aside0.mk H
        clear H
        go_upto_region 3 with (fail)
        go_cut [13] (fun v13 wc => ∃ (kq : Nat) (x13_4 : Bool), v13 = .bool x13_4 ∧ Aside0 (spec_hex.j1 kq a0 x13_4 = some r) ∧ Aside0 (kq ≤ kj1) ∧ Drawn0 w wc)
        case first =>
          have H := HC5.out
          clear HC5
          by_cases c6 : a0 ≥ 97
          · rw [if_pos c6] at H
            have c6b0 : decide (97 ≤ a0) = true := decide_eq_true c6
            clear c6
            (try (have c6b2 := c6b0; simp only [ByteArray.size_extract, Nat.min_self] at c6b2)); (first | rw [c6b0] | (simp only [i64_w, i32_w]; rw [c6b0]) | rw [c6b1] | skip)
            have H' := Aside0.mk H
            clear H
            go_wp2
            go_meet
            case rel => exact ⟨_, (decide (a0 ≤ 102)), (by first | rfl | (simp; done) | (simp [*]; done)), H', ⟨by have := HJ1.out; first | omega | exact Nat.le_refl _⟩, by repeat (first | exact Drawn0.refl _ | apply Drawn0.step)⟩
          · rw [if_neg c6] at H
            have c6b0 : decide (97 ≤ a0) = false := decide_eq_false c6
            clear c6
            (try (have c6b2 := c6b0; simp only [ByteArray.size_extract, Nat.min_self] at c6b2)); (first | rw [c6b0] | (simp only [i64_w, i32_w]; rw [c6b0]) | rw [c6b1] | skip)
            have H' := Aside0.mk H
            clear H
            go_wp2
            go_meet
            case rel => exact ⟨_, (false), (by first | rfl | (simp; done) | (simp [*]; done)), H', ⟨by have := HJ1.out; first | omega | exact Nat.le_refl _⟩, by repeat (first | exact Drawn0.refl _ | apply Drawn0.step)⟩
        case rest =>
          clear HC5
          try clear c1
          try clear p2
          try clear c3
          try clear c3b0
          try clear c3b1
          try clear c3b2
          try clear c4
          try clear c6
          try clear c6b0
          try clear c6b1
          try clear c6b2
          try clear p2
          obtain ⟨kq, x13_4, rfl, HA, HJ4, ⟨mc4, rfl⟩⟩ := hcut
          cases kq with
          | zero => exact absurd HA.out (by simp [spec_hex.j1])
          | succ kj4 =>
            have H := HA.out
            clear HA
            simp only [spec_hex.j1] at H
            by_cases c7 : x13_4 = true
            · subst c7
              have H1 : (some (((a0 - 97) % 256) + 10)) = some r := by rw [if_pos rfl] at H; exact H
              clear H
              have H := H1
              clear H1
              obtain rfl := Option.some.inj H
              go_wp2
              go_ret
              exact ⟨by first | rfl | (simp; done) | (simp [*]; done), by repeat (first | exact Drawn0.refl _ | apply Drawn0.step)⟩
            · replace c7 := Bool.eq_false_iff.mpr c7
              subst c7
              have H1 : (if a0 ≥ 65 then (if a0 ≤ 70 then (some (((a0 - 65) % 256) + 10)) else (some (-1))) else (some (-1))) = some r := by rw [if_neg (show ¬ (false = true) by decide)] at H; exact H
              clear H
              have H := H1
              clear H1
              by_cases c8 : a0 ≥ 65
              · rw [if_pos c8] at H
                have c8b0 : decide (65 ≤ a0) = true := decide_eq_true c8
                clear c8
                by_cases c9 : a0 ≤ 70
                · rw [if_pos c9] at H
                  have c9b0 : decide (a0 ≤ 70) = true := decide_eq_true c9
                  clear c9
                  obtain rfl := Option.some.inj H
                  go_wp2
                  go_ret
                  exact ⟨by first | rfl | (simp; done) | (simp [*]; done), by repeat (first | exact Drawn0.refl _ | apply Drawn0.step)⟩
                · rw [if_neg c9] at H
                  have c9b0 : decide (a0 ≤ 70) = false := decide_eq_false c9
                  clear c9
                  obtain rfl := Option.some.inj H
                  go_wp2
                  go_ret
                  exact ⟨by first | rfl | (simp; done) | (simp [*]; done), by repeat (first | exact Drawn0.refl _ | apply Drawn0.step)⟩
              · rw [if_neg c8] at H
                have c8b0 : decide (65 ≤ a0) = false := decide_eq_false c8
                clear c8
                obtain rfl := Option.some.inj H
                go_wp2
                go_ret
                exact ⟨by first | rfl | (simp; done) | (simp [*]; done), by repeat (first | exact Drawn0.refl _ | apply Drawn0.step)⟩

end Go.Proofs.YtjemdgmihbmgeaaGreatDoor.S
