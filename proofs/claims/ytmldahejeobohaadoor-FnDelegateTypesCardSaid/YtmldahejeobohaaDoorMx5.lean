-- WRITTEN BY OUR myprint.py, a program of this session's over the kit's printer
import Derived.Test.YtmldahejeobohaaDoorMx0
import Derived.Test.YtmldahejeobohaaDoorMx1
import Derived.Test.YtmldahejeobohaaDoorMx3
import Derived.Test.YtmldahejeobohaaDoorMx4
namespace Go.Proofs.YtmldahejeobohaaDoor.M
open Go.RowKit Go.Proofs.YtmldahejeobohaaDoorW.PrintWords Go.Proofs.YtmldahejeobohaaDoorW.PrintLast Go.Proofs.YtmldahejeobohaaDoorW.PrintMore
attribute [local go_sem] max2_int min2_int max_two min_two max_three min_three max_four min_four   -- for this text's walks alone
set_option linter.unusedVariables false
set_option linter.unusedSimpArgs false

/-! ### laws_sameInts: function 18 -/
def laws_sameInts.l0 : Nat → List Int → List Int → Int → Int → Option (Bool)
  | 0, _, _, _, _ => none
  | k + 1, x0, x1, x12, x13 => if x13 < x12 then (if 0 ≤ x13 then (if x13 < (x0.length : Int) then (if x13 < (x1.length : Int) then (if (rd x0 x13) = (rd x1 x13) then (laws_sameInts.l0 k x0 x1 x12 (wrap64 (x13 + 1))) else (some false)) else (none)) else (none)) else (none)) else (some true)
def laws_sameInts.f (k : Nat) (l0 : List Int) (l1 : List Int) : Option (Bool) := if (l0.length : Int) = (l1.length : Int) then (laws_sameInts.l0 k l0 l1 (l0.length : Int) 0) else (some false)
theorem laws_sameInts.mono_l : ∀ k, (∀ y0 y1 y2 y3, LeO (laws_sameInts.l0 k y0 y1 y2 y3) (laws_sameInts.l0 (k + 1) y0 y1 y2 y3))
  | 0 => fun _ _ _ _ r h => by simp [laws_sameInts.l0] at h
  | k + 1 => by
    have ih0 := laws_sameInts.mono_l k
    · intro y0 y1 y2 y3
      unfold laws_sameInts.l0
      repeat' first
      | (with_reducible exact ih0 _ _ _ _)
      | (with_reducible exact LeO.refl _)
      | (with_reducible exact LeO.none _)
      | (with_reducible refine LeO.ite ?_ ?_)
      | (with_reducible refine LeO.bind ?_ (fun _ => ?_))
      | exact ih0 _ _ _ _
      | exact LeO.none _
      | refine LeO.ite ?_ ?_
      | refine LeO.bind ?_ (fun _ => ?_)
theorem laws_sameInts.mono : ∀ a0 a1 k, LeO (laws_sameInts.f k a0 a1) (laws_sameInts.f (k + 1) a0 a1) := by
  intro a0 a1 k
  have ih0 := laws_sameInts.mono_l k
  unfold laws_sameInts.f
  repeat' first
      | (with_reducible exact ih0 _ _ _ _)
      | (with_reducible exact LeO.refl _)
      | (with_reducible exact LeO.none _)
      | (with_reducible refine LeO.ite ?_ ?_)
      | (with_reducible refine LeO.bind ?_ (fun _ => ?_))
      | exact ih0 _ _ _ _
      | exact LeO.none _
      | refine LeO.ite ?_ ?_
      | refine LeO.bind ?_ (fun _ => ?_)
set_option maxHeartbeats 8000000 in
set_option maxRecDepth 100000 in
theorem laws_sameInts.calls (k : Nat) (A0 : Option Addr) (c0 : Nat) (l0 : List Int) (A1 : Option Addr) (c1 : Nat) (l1 : List Int) (r : Bool) (w : World) (hr0 : Kd.C (Kd.int .i64) w A0 l0.length l0) (hc0 : l0.length ≤ c0) (hr1 : Kd.C (Kd.int .i64) w A1 l1.length l1) (hc1 : l1.length ≤ c1) (h : laws_sameInts.f k l0 l1 = some r) :
    Calls Tryd.prog 18 #[.slice A0 l0.length c0, .slice A1 l1.length c1] w fun e w' => e = .returned (.bool r) ∧ Drawn0 w w' := by
  have HR0 := Aside0.mk hr0
  have HC0 := Aside0.mk hc0
  clear hr0 hc0
  have HR1 := Aside0.mk hr1
  have HC1 := Aside0.mk hc1
  clear hr1 hc1
  have H : (if (l0.length : Int) = (l1.length : Int) then (laws_sameInts.l0 k l0 l1 (l0.length : Int) 0) else (some false)) = some r := h
  clear h
  by_cases c3 : (l0.length : Int) = (l1.length : Int)
  · rw [if_pos c3] at H
    have c3b0 : ((l0.length : Int) == (l1.length : Int)) = true := beq_iff_eq.mpr c3
    have c3b1 : ((l0.length : Int) != (l1.length : Int)) = false := bne_eq_false_iff_eq.mpr c3
    have c3b2 : (l0.length == l1.length) = true := by first | simpa using c3 | (simp at c3 ⊢; omega)
    clear c3
    have H' := Aside0.mk H
    clear H
    go_enter Tryd.func18, Tryd.ntmps18
    go_wp2
    repeat (go_quiet (fail); try go_wp2)
    go_loopg [13] k (fun kq v13 w' => ∃ (x13_1 : Int), v13 = .int .i64 x13_1 ∧ Aside0 (laws_sameInts.l0 kq l0 l1 (l0.length : Int) x13_1 = some r) ∧ Aside0 (kq ≤ k) ∧ Drawn0 w w')
    case atStart => exact ⟨(0), (by first | rfl | (simp; done) | (simp [*]; done)), H', ⟨Nat.le_refl _⟩, by repeat (first | exact Drawn0.refl _ | apply Drawn0.step)⟩
    case round =>
      clear H'
      try clear c1
      try clear p2
      try clear c3
      try clear c3b0
      try clear c3b1
      try clear c3b2
      obtain ⟨x13_1, rfl, HA, HK1, ⟨m1, rfl⟩⟩ := hrel
      cases gk with
      | zero => exact absurd HA.out (by simp [laws_sameInts.l0])
      | succ k1 =>
        have H := HA.out
        clear HA
        simp only [laws_sameInts.l0] at H
        by_cases c4 : x13_1 < (l0.length : Int)
        · rw [if_pos c4] at H
          have c4b0 : decide (x13_1 < (l0.length : Int)) = true := decide_eq_true c4
          clear c4
          by_cases c5 : 0 ≤ x13_1
          · rw [if_pos c5] at H
            have c5b0 : decide (0 ≤ x13_1) = true := decide_eq_true c5
            clear c5
            by_cases c6 : x13_1 < (l0.length : Int)
            · rw [if_pos c6] at H
              have c6b0 : decide (x13_1 < (l0.length : Int)) = true := decide_eq_true c6
              clear c6
              by_cases c7 : x13_1 < (l1.length : Int)
              · rw [if_pos c7] at H
                have c7b0 : decide (x13_1 < (l1.length : Int)) = true := decide_eq_true c7
                clear c7
                by_cases c8 : (rd l0 x13_1) = (rd l1 x13_1)
                · rw [if_pos c8] at H
                  have c8b0 : ((rd l0 x13_1) == (rd l1 x13_1)) = true := beq_iff_eq.mpr c8
                  have c8b1 : ((rd l0 x13_1) != (rd l1 x13_1)) = false := bne_eq_false_iff_eq.mpr c8
                  clear c8
                  have H' := Aside0.mk H
                  clear H
                  have p206 : 0 ≤ (x13_1 : Int) := of_decide_eq_true (by first | (with_reducible assumption) | assumption)
                  have q206 : x13_1 < (l0.length : Int) := of_decide_eq_true (by first | (with_reducible assumption) | assumption)
                  obtain ⟨ad206, e206, hx206_0⟩ := Kd.at_int HR0.out x13_1 p206 q206
                  cases e206
                  replace p206 := eq_true p206
                  replace q206 := eq_true q206
                  have p207 : 0 ≤ (x13_1 : Int) := of_decide_eq_true (by first | (with_reducible assumption) | assumption)
                  have q207 : x13_1 < (l1.length : Int) := of_decide_eq_true (by first | (with_reducible assumption) | assumption)
                  obtain ⟨ad207, e207, hx207_0⟩ := Kd.at_int HR1.out x13_1 p207 q207
                  cases e207
                  replace p207 := eq_true p207
                  replace q207 := eq_true q207
                  go_wp2
                  repeat (go_quiet (fail); try go_wp2)
                  go_roundg k1
                  case measure => have := HK1.out; omega
                  case rel => exact ⟨(wrap64 (x13_1 + 1)), (by first | rfl | (simp; done) | (simp [*]; done)), H', ⟨by have := HK1.out; omega⟩, by repeat (first | exact Drawn0.refl _ | apply Drawn0.step)⟩
                · rw [if_neg c8] at H
                  have c8b0 : ((rd l0 x13_1) == (rd l1 x13_1)) = false := beq_eq_false_iff_ne.mpr c8
                  have c8b1 : ((rd l0 x13_1) != (rd l1 x13_1)) = true := bne_iff_ne.mpr c8
                  obtain rfl := Option.some.inj H
                  have p206 : 0 ≤ (x13_1 : Int) := of_decide_eq_true (by first | (with_reducible assumption) | assumption)
                  have q206 : x13_1 < (l0.length : Int) := of_decide_eq_true (by first | (with_reducible assumption) | assumption)
                  obtain ⟨ad206, e206, hx206_0⟩ := Kd.at_int HR0.out x13_1 p206 q206
                  cases e206
                  replace p206 := eq_true p206
                  replace q206 := eq_true q206
                  have p207 : 0 ≤ (x13_1 : Int) := of_decide_eq_true (by first | (with_reducible assumption) | assumption)
                  have q207 : x13_1 < (l1.length : Int) := of_decide_eq_true (by first | (with_reducible assumption) | assumption)
                  obtain ⟨ad207, e207, hx207_0⟩ := Kd.at_int HR1.out x13_1 p207 q207
                  cases e207
                  replace p207 := eq_true p207
                  replace q207 := eq_true q207
                  go_wp2
                  repeat (go_quiet (fail); try go_wp2)
                  go_ret
                  exact ⟨by first | rfl | (simp; done) | (simp [*]; done), by repeat (first | exact Drawn0.refl _ | apply Drawn0.step)⟩
              · rw [if_neg c7] at H
                exact absurd H (by simp)
            · rw [if_neg c6] at H
              exact absurd H (by simp)
          · rw [if_neg c5] at H
            exact absurd H (by simp)
        · rw [if_neg c4] at H
          have c4b0 : decide (x13_1 < (l0.length : Int)) = false := decide_eq_false c4
          clear c4
          obtain rfl := Option.some.inj H
          go_wp2
          repeat (go_quiet (fail); try go_wp2)
          go_ret
          exact ⟨by first | rfl | (simp; done) | (simp [*]; done), by repeat (first | exact Drawn0.refl _ | apply Drawn0.step)⟩
  · rw [if_neg c3] at H
    have c3b0 : ((l0.length : Int) == (l1.length : Int)) = false := beq_eq_false_iff_ne.mpr c3
    have c3b1 : ((l0.length : Int) != (l1.length : Int)) = true := bne_iff_ne.mpr c3
    have c3b2 : (l0.length == l1.length) = false := by first | simpa using c3 | (simp at c3 ⊢; omega)
    obtain rfl := Option.some.inj H
    go_enter Tryd.func18, Tryd.ntmps18
    go_wp2
    repeat (go_quiet (fail); try go_wp2)
    go_ret
    exact ⟨by first | rfl | (simp; done) | (simp [*]; done), by repeat (first | exact Drawn0.refl _ | apply Drawn0.step)⟩

/-! ### laws_FnDelegateTypes: function 5 -/
mutual
def laws_FnDelegateTypes.j0 : Nat → List (S29) → List (S27) → Bool → Option (Bool)
  | 0, _, _, _ => none
  | k + 1, x0, x1, x21 => if x21 = true then (some true) else ((laws_cutting.f k x0).bind fun t209 => (if t209 = true then ((laws_small.f k x1).bind fun t210 => (if t210 = true then ((laws_hollow.f k x1).bind fun t211 => (laws_FnDelegateTypes.j1 k x0 x1 t211)) else (laws_FnDelegateTypes.j1 k x0 x1 true))) else (laws_FnDelegateTypes.j1 k x0 x1 true)))
def laws_FnDelegateTypes.j1 : Nat → List (S29) → List (S27) → Bool → Option (Bool)
  | 0, _, _, _ => none
  | k + 1, x0, x1, x33 => if x33 = true then (some true) else ((impl_Delegate.f x0 x1).bind fun bt212 => (laws_FnDelegateTypes.l0 k x0 x1 bt212.1 bt212.2 ([] : List Int) x1 (x1.length : Int) 0))
def laws_FnDelegateTypes.l0 : Nat → List (S29) → List (S27) → List (S27) → Bool → List Int → List (S27) → Int → Int → Option (Bool)
  | 0, _, _, _, _, _, _, _, _ => none
  | k + 1, x0, x1, x5, x6, x7, x40, x41, x42 => if x42 < x41 then (if 0 ≤ x42 then (if x42 < (x40.length : Int) then (if ((rd_T27 x40 x42).f0) = (-12) then (if x7.length + ((rd_T27 x40 x42).f1).size < 140737488355328 then (laws_FnDelegateTypes.l0 k x0 x1 x5 x6 (x7 ++ bytesOf ((rd_T27 x40 x42).f1)) x40 x41 (wrap64 (x42 + 1))) else (none)) else (laws_FnDelegateTypes.l0 k x0 x1 x5 x6 x7 x40 x41 (wrap64 (x42 + 1)))) else (none)) else (none)) else ((laws_cut.f k x0 (strOfNums x7)).bind fun t221 => ((laws_each.f k t221).bind fun t224 => ((laws_each.f k x1).bind fun t227 => (laws_FnDelegateTypes.l1 k x5 x6 t224 ([] : List Int) t227 (t227.length : Int) 0))))
def laws_FnDelegateTypes.l1 : Nat → List (S27) → Bool → List Int → List Int → List Int → Int → Int → Option (Bool)
  | 0, _, _, _, _, _, _, _ => none
  | k + 1, x5, x6, x10, x11, x60, x61, x62 => if x62 < x61 then (if 0 ≤ x62 then (if x62 < (x60.length : Int) then (if (rd x60 x62) = (-12) then (if 0 < (x10.length : Int) then (if x11.length < 17592186044416 then (if 1 ≤ (x10.length : Int) then (laws_FnDelegateTypes.l1 k x5 x6 (x10.drop (1 : Int).toNat) (x11 ++ [rd x10 0]) x60 x61 (wrap64 (x62 + 1))) else (none)) else (none)) else (none)) else (if x11.length < 17592186044416 then (laws_FnDelegateTypes.l1 k x5 x6 x10 (x11 ++ [rd x60 x62]) x60 x61 (wrap64 (x62 + 1))) else (none))) else (none)) else (none)) else (if x6 = true then ((laws_each.f k x5).bind fun t241 => ((laws_sameInts.f k t241 x11).bind fun t244 => (if t244 = true then ((laws_waking.f k).bind fun t245 => (some t245)) else (some false)))) else (some false))
end
def laws_FnDelegateTypes.f (k : Nat) (l0 : List (S29)) (l1 : List (S27)) : Option (Bool) := if (l0.length : Int) > 2147483647 then (laws_FnDelegateTypes.j0 k l0 l1 true) else ((laws_zzFits4.f k l1).bind fun t208 => (laws_FnDelegateTypes.j0 k l0 l1 (!t208)))
theorem laws_FnDelegateTypes.mono_l : ∀ k, (∀ y0 y1 y2, LeO (laws_FnDelegateTypes.j0 k y0 y1 y2) (laws_FnDelegateTypes.j0 (k + 1) y0 y1 y2)) ∧ (∀ y0 y1 y2, LeO (laws_FnDelegateTypes.j1 k y0 y1 y2) (laws_FnDelegateTypes.j1 (k + 1) y0 y1 y2)) ∧ (∀ y0 y1 y2 y3 y4 y5 y6 y7, LeO (laws_FnDelegateTypes.l0 k y0 y1 y2 y3 y4 y5 y6 y7) (laws_FnDelegateTypes.l0 (k + 1) y0 y1 y2 y3 y4 y5 y6 y7)) ∧ (∀ y0 y1 y2 y3 y4 y5 y6, LeO (laws_FnDelegateTypes.l1 k y0 y1 y2 y3 y4 y5 y6) (laws_FnDelegateTypes.l1 (k + 1) y0 y1 y2 y3 y4 y5 y6))
  | 0 => ⟨fun _ _ _ r h => by simp [laws_FnDelegateTypes.j0] at h, fun _ _ _ r h => by simp [laws_FnDelegateTypes.j1] at h, fun _ _ _ _ _ _ _ _ r h => by simp [laws_FnDelegateTypes.l0] at h, fun _ _ _ _ _ _ _ r h => by simp [laws_FnDelegateTypes.l1] at h⟩
  | k + 1 => by
    obtain ⟨ih0, ih1, ih2, ih3⟩ := laws_FnDelegateTypes.mono_l k
    refine ⟨?_, ?_, ?_, ?_⟩
    · intro y0 y1 y2
      unfold laws_FnDelegateTypes.j0
      repeat' first
      | (with_reducible exact ih0 _ _ _)
      | (with_reducible exact ih1 _ _ _)
      | (with_reducible exact ih2 _ _ _ _ _ _ _ _)
      | (with_reducible exact ih3 _ _ _ _ _ _ _)
      | (with_reducible exact laws_cut.mono _ _ _)
      | (with_reducible exact laws_cutting.mono _ _)
      | (with_reducible exact laws_each.mono _ _)
      | (with_reducible exact laws_hollow.mono _ _)
      | (with_reducible exact laws_sameInts.mono _ _ _)
      | (with_reducible exact laws_small.mono _ _)
      | (with_reducible exact laws_waking.mono _)
      | (with_reducible exact laws_zzFits4.mono _ _)
      | (with_reducible exact LeO.refl _)
      | (with_reducible exact LeO.none _)
      | (with_reducible refine LeO.ite ?_ ?_)
      | (with_reducible refine LeO.bind ?_ (fun _ => ?_))
      | exact ih0 _ _ _
      | exact ih1 _ _ _
      | exact ih2 _ _ _ _ _ _ _ _
      | exact ih3 _ _ _ _ _ _ _
      | exact laws_cut.mono _ _ _
      | exact laws_cutting.mono _ _
      | exact laws_each.mono _ _
      | exact laws_hollow.mono _ _
      | exact laws_sameInts.mono _ _ _
      | exact laws_small.mono _ _
      | exact laws_waking.mono _
      | exact laws_zzFits4.mono _ _
      | exact LeO.none _
      | refine LeO.ite ?_ ?_
      | refine LeO.bind ?_ (fun _ => ?_)
    · intro y0 y1 y2
      unfold laws_FnDelegateTypes.j1
      repeat' first
      | (with_reducible exact ih0 _ _ _)
      | (with_reducible exact ih1 _ _ _)
      | (with_reducible exact ih2 _ _ _ _ _ _ _ _)
      | (with_reducible exact ih3 _ _ _ _ _ _ _)
      | (with_reducible exact laws_cut.mono _ _ _)
      | (with_reducible exact laws_cutting.mono _ _)
      | (with_reducible exact laws_each.mono _ _)
      | (with_reducible exact laws_hollow.mono _ _)
      | (with_reducible exact laws_sameInts.mono _ _ _)
      | (with_reducible exact laws_small.mono _ _)
      | (with_reducible exact laws_waking.mono _)
      | (with_reducible exact laws_zzFits4.mono _ _)
      | (with_reducible exact LeO.refl _)
      | (with_reducible exact LeO.none _)
      | (with_reducible refine LeO.ite ?_ ?_)
      | (with_reducible refine LeO.bind ?_ (fun _ => ?_))
      | exact ih0 _ _ _
      | exact ih1 _ _ _
      | exact ih2 _ _ _ _ _ _ _ _
      | exact ih3 _ _ _ _ _ _ _
      | exact laws_cut.mono _ _ _
      | exact laws_cutting.mono _ _
      | exact laws_each.mono _ _
      | exact laws_hollow.mono _ _
      | exact laws_sameInts.mono _ _ _
      | exact laws_small.mono _ _
      | exact laws_waking.mono _
      | exact laws_zzFits4.mono _ _
      | exact LeO.none _
      | refine LeO.ite ?_ ?_
      | refine LeO.bind ?_ (fun _ => ?_)
    · intro y0 y1 y2 y3 y4 y5 y6 y7
      unfold laws_FnDelegateTypes.l0
      repeat' first
      | (with_reducible exact ih0 _ _ _)
      | (with_reducible exact ih1 _ _ _)
      | (with_reducible exact ih2 _ _ _ _ _ _ _ _)
      | (with_reducible exact ih3 _ _ _ _ _ _ _)
      | (with_reducible exact laws_cut.mono _ _ _)
      | (with_reducible exact laws_cutting.mono _ _)
      | (with_reducible exact laws_each.mono _ _)
      | (with_reducible exact laws_hollow.mono _ _)
      | (with_reducible exact laws_sameInts.mono _ _ _)
      | (with_reducible exact laws_small.mono _ _)
      | (with_reducible exact laws_waking.mono _)
      | (with_reducible exact laws_zzFits4.mono _ _)
      | (with_reducible exact LeO.refl _)
      | (with_reducible exact LeO.none _)
      | (with_reducible refine LeO.ite ?_ ?_)
      | (with_reducible refine LeO.bind ?_ (fun _ => ?_))
      | exact ih0 _ _ _
      | exact ih1 _ _ _
      | exact ih2 _ _ _ _ _ _ _ _
      | exact ih3 _ _ _ _ _ _ _
      | exact laws_cut.mono _ _ _
      | exact laws_cutting.mono _ _
      | exact laws_each.mono _ _
      | exact laws_hollow.mono _ _
      | exact laws_sameInts.mono _ _ _
      | exact laws_small.mono _ _
      | exact laws_waking.mono _
      | exact laws_zzFits4.mono _ _
      | exact LeO.none _
      | refine LeO.ite ?_ ?_
      | refine LeO.bind ?_ (fun _ => ?_)
    · intro y0 y1 y2 y3 y4 y5 y6
      unfold laws_FnDelegateTypes.l1
      repeat' first
      | (with_reducible exact ih0 _ _ _)
      | (with_reducible exact ih1 _ _ _)
      | (with_reducible exact ih2 _ _ _ _ _ _ _ _)
      | (with_reducible exact ih3 _ _ _ _ _ _ _)
      | (with_reducible exact laws_cut.mono _ _ _)
      | (with_reducible exact laws_cutting.mono _ _)
      | (with_reducible exact laws_each.mono _ _)
      | (with_reducible exact laws_hollow.mono _ _)
      | (with_reducible exact laws_sameInts.mono _ _ _)
      | (with_reducible exact laws_small.mono _ _)
      | (with_reducible exact laws_waking.mono _)
      | (with_reducible exact laws_zzFits4.mono _ _)
      | (with_reducible exact LeO.refl _)
      | (with_reducible exact LeO.none _)
      | (with_reducible refine LeO.ite ?_ ?_)
      | (with_reducible refine LeO.bind ?_ (fun _ => ?_))
      | exact ih0 _ _ _
      | exact ih1 _ _ _
      | exact ih2 _ _ _ _ _ _ _ _
      | exact ih3 _ _ _ _ _ _ _
      | exact laws_cut.mono _ _ _
      | exact laws_cutting.mono _ _
      | exact laws_each.mono _ _
      | exact laws_hollow.mono _ _
      | exact laws_sameInts.mono _ _ _
      | exact laws_small.mono _ _
      | exact laws_waking.mono _
      | exact laws_zzFits4.mono _ _
      | exact LeO.none _
      | refine LeO.ite ?_ ?_
      | refine LeO.bind ?_ (fun _ => ?_)
theorem laws_FnDelegateTypes.mono : ∀ a0 a1 k, LeO (laws_FnDelegateTypes.f k a0 a1) (laws_FnDelegateTypes.f (k + 1) a0 a1) := by
  intro a0 a1 k
  obtain ⟨ih0, ih1, ih2, ih3⟩ := laws_FnDelegateTypes.mono_l k
  unfold laws_FnDelegateTypes.f
  repeat' first
      | (with_reducible exact ih0 _ _ _)
      | (with_reducible exact ih1 _ _ _)
      | (with_reducible exact ih2 _ _ _ _ _ _ _ _)
      | (with_reducible exact ih3 _ _ _ _ _ _ _)
      | (with_reducible exact laws_cut.mono _ _ _)
      | (with_reducible exact laws_cutting.mono _ _)
      | (with_reducible exact laws_each.mono _ _)
      | (with_reducible exact laws_hollow.mono _ _)
      | (with_reducible exact laws_sameInts.mono _ _ _)
      | (with_reducible exact laws_small.mono _ _)
      | (with_reducible exact laws_waking.mono _)
      | (with_reducible exact laws_zzFits4.mono _ _)
      | (with_reducible exact LeO.refl _)
      | (with_reducible exact LeO.none _)
      | (with_reducible refine LeO.ite ?_ ?_)
      | (with_reducible refine LeO.bind ?_ (fun _ => ?_))
      | exact ih0 _ _ _
      | exact ih1 _ _ _
      | exact ih2 _ _ _ _ _ _ _ _
      | exact ih3 _ _ _ _ _ _ _
      | exact laws_cut.mono _ _ _
      | exact laws_cutting.mono _ _
      | exact laws_each.mono _ _
      | exact laws_hollow.mono _ _
      | exact laws_sameInts.mono _ _ _
      | exact laws_small.mono _ _
      | exact laws_waking.mono _
      | exact laws_zzFits4.mono _ _
      | exact LeO.none _
      | refine LeO.ite ?_ ?_
      | refine LeO.bind ?_ (fun _ => ?_)
set_option maxHeartbeats 8000000 in
set_option maxRecDepth 100000 in
theorem laws_FnDelegateTypes.calls (k : Nat) (A0 : Option Addr) (c0 : Nat) (l0 : List (S29)) (A1 : Option Addr) (c1 : Nat) (l1 : List (S27)) (r : Bool) (w : World) (hr0 : Kd.C k29 w A0 l0.length l0) (hc0 : l0.length ≤ c0) (hr1 : Kd.C k27 w A1 l1.length l1) (hc1 : l1.length ≤ c1) (hV : Go.Proofs.YtmldahejeobohaaDoorFmt.VarsOK w) (h : laws_FnDelegateTypes.f k l0 l1 = some r) :
    Calls Tryd.prog 5 #[.slice A0 l0.length c0, .slice A1 l1.length c1] w fun e w' => e = .returned (.bool r) ∧ Below w.heap.size w w' := by
  have hu27 := Tryd.underlying27
  have HR0 := Aside0.mk hr0
  have HC0 := Aside0.mk hc0
  clear hr0 hc0
  have HR1 := Aside0.mk hr1
  have HC1 := Aside0.mk hc1
  clear hr1 hc1
  have HB := Aside0.mk (Below.refl w.heap.size w)
  have HV := Aside0.mk hV
  clear hV
  have H : (if (l0.length : Int) > 2147483647 then (laws_FnDelegateTypes.j0 k l0 l1 true) else ((laws_zzFits4.f k l1).bind fun t208 => (laws_FnDelegateTypes.j0 k l0 l1 (!t208)))) = some r := h
  clear h
  have HC3 := Aside0.mk H
  clear H
  go_enter Tryd.func5, Tryd.ntmps5
  go_upto_region 1 with (fail)
  go_cut [21] (fun v21 wc => ∃ (kq : Nat) (x21_2 : Bool), v21 = .bool x21_2 ∧ Aside0 (laws_FnDelegateTypes.j0 kq l0 l1 x21_2 = some r) ∧ Aside0 (kq ≤ k) ∧ Aside0 (Below w.heap.size w wc))
  case first =>
    have H := HC3.out
    clear HC3
    by_cases c4 : (l0.length : Int) > 2147483647
    · rw [if_pos c4] at H
      have c4b0 : decide (2147483647 < (l0.length : Int)) = true := decide_eq_true c4
      have c4b1 : decide (2147483647 < l0.length) = true := decide_eq_true (by omega)
      clear c4
      (try (have c4b2 := c4b0; simp only [ByteArray.size_extract, Nat.min_self] at c4b2)); (first | rw [c4b0] | (simp only [i64_w, i32_w]; rw [c4b0]) | rw [c4b1] | skip)
      have H' := Aside0.mk H
      clear H
      go_wp2
      go_meet
      case rel => exact ⟨_, (true), (by first | rfl | (simp; done) | (simp [*]; done)), H', ⟨by first | omega | exact Nat.le_refl _⟩, ⟨by repeat (first | (with_reducible first | exact HB.out | apply below_alloc | apply pw_below_drewN | apply below_drew1) | exact HB.out)⟩⟩
    · rw [if_neg c4] at H
      have c4b0 : decide (2147483647 < (l0.length : Int)) = false := decide_eq_false c4
      have c4b1 : decide (2147483647 < l0.length) = false := decide_eq_false (by omega)
      clear c4
      (try (have c4b2 := c4b0; simp only [ByteArray.size_extract, Nat.min_self] at c4b2)); (first | rw [c4b0] | (simp only [i64_w, i32_w]; rw [c4b0]) | rw [c4b1] | skip)
      replace H := Option.bind_eq_some_iff.mp H
      obtain ⟨t208, A50, H⟩ := H
      replace H : (laws_FnDelegateTypes.j0 k l0 l1 (!t208)) = some r := H
      have A5 := Aside0.mk A50
      clear A50
      have H' := Aside0.mk H
      clear H
      go_wp2_with (first | (go_at_call 6; (with_reducible refine (laws_zzFits4.calls k _ _ l1 t208 _ ?side1 ?side2 A5.out).mono ?_); (case side1 => repeat (first | exact (Kd.C_below HR1.out HB.out) | (with_reducible refine Kd.C_alloc ?_ _) | (with_reducible refine Kd.C_drewN ?_ _) | (with_reducible refine Kd.C_drew ?_))); (case side2 => exact HC1.out); rintro e w6 ⟨rfl, hb⟩; have n0_ := Aside0.mk (below_step (by repeat (first | (with_reducible first | exact HB.out | apply below_alloc | apply pw_below_drewN | apply below_drew1) | exact HB.out)) hb); clear HB; have HB := n0_; clear n0_; (try clear hb); (try clear hb2); (try clear hk); (try clear hi)))
      go_meet
      case rel => exact ⟨_, (!t208), (by first | rfl | (simp; done) | (simp [*]; done)), H', ⟨by first | omega | exact Nat.le_refl _⟩, ⟨by repeat (first | (with_reducible first | exact HB.out | apply below_alloc | apply pw_below_drewN | apply below_drew1) | exact HB.out)⟩⟩
  case rest =>
    clear HC3
    try clear c1
    try clear p2
    try clear c4
    try clear c4b0
    try clear c4b1
    try clear c4b2
    try clear c5
    obtain ⟨kq, x21_2, rfl, HA, HJ2, HB⟩ := hcut
    cases kq with
    | zero => exact absurd HA.out (by simp [laws_FnDelegateTypes.j0])
    | succ kj2 =>
      have H := HA.out
      clear HA
      simp only [laws_FnDelegateTypes.j0] at H
      by_cases c7 : x21_2 = true
      · subst c7
        have H1 : (some true) = some r := by rw [if_pos rfl] at H; exact H
        clear H
        have H := H1
        clear H1
        obtain rfl := Option.some.inj H
        go_wp2
        go_ret
        exact ⟨by first | rfl | (simp [errW_none, errW_some] <;> rfl) | (simp [*, errW_none, errW_some] <;> rfl), by repeat (first | (with_reducible first | exact HB.out | apply below_alloc | apply pw_below_drewN | apply below_drew1) | exact HB.out)⟩
      · replace c7 := Bool.eq_false_iff.mpr c7
        subst c7
        have H1 : ((laws_cutting.f kj2 l0).bind fun t209 => (if t209 = true then ((laws_small.f kj2 l1).bind fun t210 => (if t210 = true then ((laws_hollow.f kj2 l1).bind fun t211 => (laws_FnDelegateTypes.j1 kj2 l0 l1 t211)) else (laws_FnDelegateTypes.j1 kj2 l0 l1 true))) else (laws_FnDelegateTypes.j1 kj2 l0 l1 true))) = some r := by rw [if_neg (show ¬ (false = true) by decide)] at H; exact H
        clear H
        have H := H1
        clear H1
        have HC8 := Aside0.mk H
        clear H
        go_upto_region 3 with (fail)
        go_cut [33] (fun v33 wc => ∃ (kq : Nat) (x33_7 : Bool), v33 = .bool x33_7 ∧ Aside0 (laws_FnDelegateTypes.j1 kq l0 l1 x33_7 = some r) ∧ Aside0 (kq ≤ kj2) ∧ Aside0 (Below w.heap.size w wc))
        case first =>
          have H := HC8.out
          clear HC8
          replace H := Option.bind_eq_some_iff.mp H
          obtain ⟨t209, A90, H⟩ := H
          replace H : (if t209 = true then ((laws_small.f kj2 l1).bind fun t210 => (if t210 = true then ((laws_hollow.f kj2 l1).bind fun t211 => (laws_FnDelegateTypes.j1 kj2 l0 l1 t211)) else (laws_FnDelegateTypes.j1 kj2 l0 l1 true))) else (laws_FnDelegateTypes.j1 kj2 l0 l1 true)) = some r := H
          have A9 := Aside0.mk A90
          clear A90
          by_cases c10 : t209 = true
          · subst c10
            have H1 : ((laws_small.f kj2 l1).bind fun t210 => (if t210 = true then ((laws_hollow.f kj2 l1).bind fun t211 => (laws_FnDelegateTypes.j1 kj2 l0 l1 t211)) else (laws_FnDelegateTypes.j1 kj2 l0 l1 true))) = some r := by rw [if_pos rfl] at H; exact H
            clear H
            have H := H1
            clear H1
            replace H := Option.bind_eq_some_iff.mp H
            obtain ⟨t210, A110, H⟩ := H
            replace H : (if t210 = true then ((laws_hollow.f kj2 l1).bind fun t211 => (laws_FnDelegateTypes.j1 kj2 l0 l1 t211)) else (laws_FnDelegateTypes.j1 kj2 l0 l1 true)) = some r := H
            have A11 := Aside0.mk A110
            clear A110
            by_cases c12 : t210 = true
            · subst c12
              have H1 : ((laws_hollow.f kj2 l1).bind fun t211 => (laws_FnDelegateTypes.j1 kj2 l0 l1 t211)) = some r := by rw [if_pos rfl] at H; exact H
              clear H
              have H := H1
              clear H1
              replace H := Option.bind_eq_some_iff.mp H
              obtain ⟨t211, A130, H⟩ := H
              replace H : (laws_FnDelegateTypes.j1 kj2 l0 l1 t211) = some r := H
              have A13 := Aside0.mk A130
              clear A130
              have H' := Aside0.mk H
              clear H
              go_wp2_with (first | ((with_reducible refine gate_callee (f := 7) rfl ?_); refine goesL_ (some 23) rfl rfl Tryd.func7 (by kernel_rfl) rfl #[.slice A0 l0.length c0] rfl (by (try simp only [List.map_toArray, List.map_cons, List.map_nil]); first | done | rfl | (simp only [List.length_drop, List.length_take]; rfl)) ?_; (with_reducible refine (laws_cutting.calls kj2 _ _ l0 true _ ?side1 ?side2 A9.out).mono ?_); (case side1 => repeat (first | exact (Kd.C_below HR0.out HB.out) | (with_reducible refine Kd.C_alloc ?_ _) | (with_reducible refine Kd.C_drewN ?_ _) | (with_reducible refine Kd.C_drew ?_))); (case side2 => exact HC0.out); rintro e w14 ⟨rfl, hb⟩; refine ⟨_, rfl, ?_⟩; have n0_ := Aside0.mk (below_step (by repeat (first | (with_reducible first | exact HB.out | apply below_alloc | apply pw_below_drewN | apply below_drew1) | exact HB.out)) hb); clear HB; have HB := n0_; clear n0_; (try clear hb); (try clear hb2); (try clear hk); (try clear hi)) | (go_at_call 8; (with_reducible refine (laws_small.calls kj2 _ _ l1 true _ ?side1 ?side2 A11.out).mono ?_); (case side1 => repeat (first | exact (Kd.C_below HR1.out HB.out) | (with_reducible refine Kd.C_alloc ?_ _) | (with_reducible refine Kd.C_drewN ?_ _) | (with_reducible refine Kd.C_drew ?_))); (case side2 => exact HC1.out); rintro e w15 ⟨rfl, hb⟩; have n0_ := Aside0.mk (below_step (by repeat (first | (with_reducible first | exact HB.out | apply below_alloc | apply pw_below_drewN | apply below_drew1) | exact HB.out)) hb); clear HB; have HB := n0_; clear n0_; (try clear hb); (try clear hb2); (try clear hk); (try clear hi)) | (go_at_call 9; (with_reducible refine (laws_hollow.calls kj2 _ _ l1 t211 _ ?side1 ?side2 A13.out).mono ?_); (case side1 => repeat (first | exact (Kd.C_below HR1.out HB.out) | (with_reducible refine Kd.C_alloc ?_ _) | (with_reducible refine Kd.C_drewN ?_ _) | (with_reducible refine Kd.C_drew ?_))); (case side2 => exact HC1.out); rintro e w16 ⟨rfl, hb⟩; have n0_ := Aside0.mk (below_step (by repeat (first | (with_reducible first | exact HB.out | apply below_alloc | apply pw_below_drewN | apply below_drew1) | exact HB.out)) hb); clear HB; have HB := n0_; clear n0_; (try clear hb); (try clear hb2); (try clear hk); (try clear hi)))
              go_meet
              case rel => exact ⟨_, (t211), (by first | rfl | (simp; done) | (simp [*]; done)), H', ⟨by have := HJ2.out; first | omega | exact Nat.le_refl _⟩, ⟨by repeat (first | (with_reducible first | exact HB.out | apply below_alloc | apply pw_below_drewN | apply below_drew1) | exact HB.out)⟩⟩
            · replace c12 := Bool.eq_false_iff.mpr c12
              subst c12
              have H1 : (laws_FnDelegateTypes.j1 kj2 l0 l1 true) = some r := by rw [if_neg (show ¬ (false = true) by decide)] at H; exact H
              clear H
              have H := H1
              clear H1
              have H' := Aside0.mk H
              clear H
              go_wp2_with (first | ((with_reducible refine gate_callee (f := 7) rfl ?_); refine goesL_ (some 23) rfl rfl Tryd.func7 (by kernel_rfl) rfl #[.slice A0 l0.length c0] rfl (by (try simp only [List.map_toArray, List.map_cons, List.map_nil]); first | done | rfl | (simp only [List.length_drop, List.length_take]; rfl)) ?_; (with_reducible refine (laws_cutting.calls kj2 _ _ l0 true _ ?side1 ?side2 A9.out).mono ?_); (case side1 => repeat (first | exact (Kd.C_below HR0.out HB.out) | (with_reducible refine Kd.C_alloc ?_ _) | (with_reducible refine Kd.C_drewN ?_ _) | (with_reducible refine Kd.C_drew ?_))); (case side2 => exact HC0.out); rintro e w17 ⟨rfl, hb⟩; refine ⟨_, rfl, ?_⟩; have n0_ := Aside0.mk (below_step (by repeat (first | (with_reducible first | exact HB.out | apply below_alloc | apply pw_below_drewN | apply below_drew1) | exact HB.out)) hb); clear HB; have HB := n0_; clear n0_; (try clear hb); (try clear hb2); (try clear hk); (try clear hi)) | (go_at_call 8; (with_reducible refine (laws_small.calls kj2 _ _ l1 false _ ?side1 ?side2 A11.out).mono ?_); (case side1 => repeat (first | exact (Kd.C_below HR1.out HB.out) | (with_reducible refine Kd.C_alloc ?_ _) | (with_reducible refine Kd.C_drewN ?_ _) | (with_reducible refine Kd.C_drew ?_))); (case side2 => exact HC1.out); rintro e w18 ⟨rfl, hb⟩; have n0_ := Aside0.mk (below_step (by repeat (first | (with_reducible first | exact HB.out | apply below_alloc | apply pw_below_drewN | apply below_drew1) | exact HB.out)) hb); clear HB; have HB := n0_; clear n0_; (try clear hb); (try clear hb2); (try clear hk); (try clear hi)))
              go_meet
              case rel => exact ⟨_, (true), (by first | rfl | (simp; done) | (simp [*]; done)), H', ⟨by have := HJ2.out; first | omega | exact Nat.le_refl _⟩, ⟨by repeat (first | (with_reducible first | exact HB.out | apply below_alloc | apply pw_below_drewN | apply below_drew1) | exact HB.out)⟩⟩
          · replace c10 := Bool.eq_false_iff.mpr c10
            subst c10
            have H1 : (laws_FnDelegateTypes.j1 kj2 l0 l1 true) = some r := by rw [if_neg (show ¬ (false = true) by decide)] at H; exact H
            clear H
            have H := H1
            clear H1
            have H' := Aside0.mk H
            clear H
            go_wp2_with (first | ((with_reducible refine gate_callee (f := 7) rfl ?_); refine goesL_ (some 23) rfl rfl Tryd.func7 (by kernel_rfl) rfl #[.slice A0 l0.length c0] rfl (by (try simp only [List.map_toArray, List.map_cons, List.map_nil]); first | done | rfl | (simp only [List.length_drop, List.length_take]; rfl)) ?_; (with_reducible refine (laws_cutting.calls kj2 _ _ l0 false _ ?side1 ?side2 A9.out).mono ?_); (case side1 => repeat (first | exact (Kd.C_below HR0.out HB.out) | (with_reducible refine Kd.C_alloc ?_ _) | (with_reducible refine Kd.C_drewN ?_ _) | (with_reducible refine Kd.C_drew ?_))); (case side2 => exact HC0.out); rintro e w19 ⟨rfl, hb⟩; refine ⟨_, rfl, ?_⟩; have n0_ := Aside0.mk (below_step (by repeat (first | (with_reducible first | exact HB.out | apply below_alloc | apply pw_below_drewN | apply below_drew1) | exact HB.out)) hb); clear HB; have HB := n0_; clear n0_; (try clear hb); (try clear hb2); (try clear hk); (try clear hi)))
            go_meet
            case rel => exact ⟨_, (true), (by first | rfl | (simp; done) | (simp [*]; done)), H', ⟨by have := HJ2.out; first | omega | exact Nat.le_refl _⟩, ⟨by repeat (first | (with_reducible first | exact HB.out | apply below_alloc | apply pw_below_drewN | apply below_drew1) | exact HB.out)⟩⟩
        case rest =>
          clear HC8
          try clear c1
          try clear p2
          try clear c4
          try clear c4b0
          try clear c4b1
          try clear c4b2
          try clear c5
          try clear c7
          try clear c10
          try clear c12
          try clear p2
          obtain ⟨kq, x33_7, rfl, HA, HJ7, HB⟩ := hcut
          cases kq with
          | zero => exact absurd HA.out (by simp [laws_FnDelegateTypes.j1])
          | succ kj7 =>
            have H := HA.out
            clear HA
            simp only [laws_FnDelegateTypes.j1] at H
            by_cases c20 : x33_7 = true
            · subst c20
              have H1 : (some true) = some r := by rw [if_pos rfl] at H; exact H
              clear H
              have H := H1
              clear H1
              obtain rfl := Option.some.inj H
              go_wp2
              go_ret
              exact ⟨by first | rfl | (simp [errW_none, errW_some] <;> rfl) | (simp [*, errW_none, errW_some] <;> rfl), by repeat (first | (with_reducible first | exact HB.out | apply below_alloc | apply pw_below_drewN | apply below_drew1) | exact HB.out)⟩
            · replace c20 := Bool.eq_false_iff.mpr c20
              subst c20
              have H1 : ((impl_Delegate.f l0 l1).bind fun bt212 => (laws_FnDelegateTypes.l0 kj7 l0 l1 bt212.1 bt212.2 ([] : List Int) l1 (l1.length : Int) 0)) = some r := by rw [if_neg (show ¬ (false = true) by decide)] at H; exact H
              clear H
              have H := H1
              clear H1
              replace H := Option.bind_eq_some_iff.mp H
              obtain ⟨⟨t212, t213⟩, A210, H⟩ := H
              replace H : (laws_FnDelegateTypes.l0 kj7 l0 l1 t212 t213 ([] : List Int) l1 (l1.length : Int) 0) = some r := H
              have A21 := Aside0.mk A210
              clear A210
              have H' := Aside0.mk H
              clear H
              go_wp2_with (first | ((with_reducible refine gate_callee (f := 11) rfl ?_); refine goesL_ (some 37) rfl rfl Tryd.func11 (by kernel_rfl) rfl #[.slice A0 l0.length c0, .slice A1 l1.length c1] rfl (by (try simp only [List.map_toArray, List.map_cons, List.map_nil]); first | done | rfl | (simp only [List.length_drop, List.length_take]; rfl)) ?_; (with_reducible refine (impl_Delegate.calls _ _ l0 _ _ l1 t212 t213 _ ?side1 ?side2 ?side3 ?side4 ?side5 A21.out).mono ?_); (case side1 => repeat (first | exact (Kd.C_below HR0.out HB.out) | (with_reducible refine Kd.C_alloc ?_ _) | (with_reducible refine Kd.C_drewN ?_ _) | (with_reducible refine Kd.C_drew ?_))); (case side2 => exact HC0.out); (case side3 => repeat (first | exact (Kd.C_below HR1.out HB.out) | (with_reducible refine Kd.C_alloc ?_ _) | (with_reducible refine Kd.C_drewN ?_ _) | (with_reducible refine Kd.C_drew ?_))); (case side4 => exact HC1.out); (case side5 => exact Go.Proofs.YtmldahejeobohaaDoorFmt.VarsOK.below HV.out (by repeat (first | (with_reducible first | exact HB.out | apply below_alloc | apply pw_below_drewN | apply below_drew1) | exact HB.out))); rintro e w22 ⟨v214, rfl, ho0, hb⟩; refine ⟨_, rfl, ?_⟩; have n0_ := Aside0.mk (Kd.R_lower ho0 (below_size (by repeat (first | (with_reducible first | exact HB.out | apply below_alloc | apply pw_below_drewN | apply below_drew1) | exact HB.out)))); have n1_ := Aside0.mk (below_step (by repeat (first | (with_reducible first | exact HB.out | apply below_alloc | apply pw_below_drewN | apply below_drew1) | exact HB.out)) hb); clear HB; have HO215 := n0_; have HB := n1_; clear n0_ n1_; (try clear hb); (try clear hb2); (try clear hk); (try clear hi); (try clear ho0)))
              go_loopg [7, 42] kj7 (fun kq v7 v42 w' => ∃ (x7_3 : List Int) (x42_3 : Int), v42 = .int .i64 x42_3 ∧ Aside0 (laws_FnDelegateTypes.l0 kq l0 l1 t212 t213 x7_3 l1 (l1.length : Int) x42_3 = some r) ∧ Aside0 (kq ≤ kj7) ∧ Aside0 (Kd.R k27 27 w' w.heap.size (fun _ => True) v214 t212) ∧ Aside0 (Kd.R (Kd.int .u8) 5 w' w.heap.size (fun _ => True) v7 x7_3) ∧ Aside0 (Below w.heap.size w w'))
              case atStart => exact ⟨(([] : List Int)), (0), (by first | rfl | (simp; done) | (simp [*]; done)), H', ⟨Nat.le_refl _⟩, ⟨by (with_reducible repeat (first | apply Kd.R_alloc | apply Kd.R_drewN | apply Kd.R_drew)); exact HO215.out⟩, ⟨by first | exact Kd.R_nil _ _ _ _ _ | exact Kd.N_nil _ _ _ _ _ | exact Kd.V_nil _ _ _ _ _ | exact Kd.Q_nil _ _ _ _ _ | exact Kd.S_nil _ _ _ _ _⟩, ⟨by repeat (first | (with_reducible first | exact HB.out | apply below_alloc | apply pw_below_drewN | apply below_drew1) | exact HB.out)⟩⟩
              case round =>
                clear H'
                try clear c1
                try clear c2
                try clear p2
                try clear c4
                try clear c4b0
                try clear c4b1
                try clear c4b2
                try clear c5
                try clear c7
                try clear c10
                try clear c11
                try clear c12
                try clear c20
                try clear p2
                obtain ⟨x7_3, x42_3, rfl, HA, HK3, HO_5, HO_7, HB⟩ := hrel
                cases gk with
                | zero => exact absurd HA.out (by simp [laws_FnDelegateTypes.l0])
                | succ k3 =>
                  have H := HA.out
                  clear HA
                  simp only [laws_FnDelegateTypes.l0] at H
                  by_cases c23 : x42_3 < (l1.length : Int)
                  · rw [if_pos c23] at H
                    have c23b0 : decide (x42_3 < (l1.length : Int)) = true := decide_eq_true c23
                    clear c23
                    by_cases c24 : 0 ≤ x42_3
                    · rw [if_pos c24] at H
                      have c24b0 : decide (0 ≤ x42_3) = true := decide_eq_true c24
                      clear c24
                      by_cases c25 : x42_3 < (l1.length : Int)
                      · rw [if_pos c25] at H
                        have c25b0 : decide (x42_3 < (l1.length : Int)) = true := decide_eq_true c25
                        clear c25
                        by_cases c26 : ((rd_T27 l1 x42_3).f0) = (-12)
                        · rw [if_pos c26] at H
                          have c26b0 : (((rd_T27 l1 x42_3).f0) == (-12)) = true := beq_iff_eq.mpr c26
                          have c26b1 : (((rd_T27 l1 x42_3).f0) != (-12)) = false := bne_eq_false_iff_eq.mpr c26
                          clear c26
                          by_cases c27 : x7_3.length + ((rd_T27 l1 x42_3).f1).size < 140737488355328
                          · rw [if_pos c27] at H
                            have LMc27 := Aside0.mk c27
                            clear c27
                            obtain ⟨y218, hy218⟩ : ∃ y_ : List Int, y_ = (x7_3 ++ bytesOf ((rd_T27 l1 x42_3).f1)) := ⟨_, rfl⟩
                            replace H : (laws_FnDelegateTypes.l0 k3 l0 l1 t212 t213 y218 l1 (l1.length : Int) (wrap64 (x42_3 + 1))) = some r := by first | (rw [hy218]; with_reducible exact H) | (have H2_ := (Option.bind_some _ _).symm.trans H; rw [hy218]; with_reducible exact H2_) | (have H2_ := (Option.bind_some _ _).symm.trans H; with_reducible exact H2_) | with_reducible exact H | (rw [hy218]; exact H) | exact H
                            have Ny218 := Aside0.mk hy218
                            clear hy218
                            have H' := Aside0.mk H
                            clear H
                            have p216 : 0 ≤ (x42_3 : Int) := of_decide_eq_true (by first | (with_reducible assumption) | assumption)
                            have q216 : x42_3 < (l1.length : Int) := of_decide_eq_true (by first | (with_reducible assumption) | assumption)
                            obtain ⟨ad216, e216, hx216_0, hx216_1⟩ := at_T27 HR1.out x42_3 p216 q216
                            cases e216
                            replace hx216_0 := (HB.out.cell (World.block_lt_of_cell? w _ hx216_0)).trans hx216_0
                            replace hx216_1 := (HB.out.cell (World.block_lt_of_cell? w _ hx216_1)).trans hx216_1
                            replace p216 := eq_true p216
                            replace q216 := eq_true q216
                            go_wp2_with (first | ((with_reducible refine gate_dst (N := 9) rfl ?_); refine box_event ?hg (N := 9) ?hd (cs := #[.int .i64 0, .string (⟨#[]⟩ : ByteArray)]) (t := 27) ?hr ?_; (case hd => rfl); (case hg => rfl); (case hr => first | (go_simp; done) | (go_simp; rfl)); intro gb217 hg w28 hbox hb; have n0_ := Aside0.mk (Kd.R_below (Kd.R_elderB (by (with_reducible repeat (first | apply Kd.R_alloc | apply Kd.R_drewN | apply Kd.R_drew)); exact HO_5.out) gb217 (Nat.le_of_eq hg.symm)) hb); have n1_ := Aside0.mk (Kd.R_below (by (with_reducible repeat (first | apply Kd.R_alloc | apply Kd.R_drewN | apply Kd.R_drew)); exact HO_7.out) hb); have n2_ := Aside0.mk (below_step (by repeat (first | (with_reducible first | exact HB.out | apply below_alloc | apply pw_below_drewN | apply below_drew1) | exact HB.out)) hb); have n3_ := Aside0.mk (hbox); have n4_ := Aside0.mk ((by rw [hg]; exact (below_size (by repeat (first | (with_reducible first | exact HB.out | apply below_alloc | apply pw_below_drewN | apply below_drew1) | exact HB.out))) : w.heap.size ≤ gb217)); have n5_ := Aside0.mk ((by rw [hg]; exact (below_size (by repeat (first | (with_reducible first | exact HB.out | apply below_alloc | apply pw_below_drewN | apply below_drew1) | exact HB.out))) : w.heap.size ≤ gb217)); clear HO_5; clear HO_7; clear HB; have HO_5 := n0_; have HO_7 := n1_; have HB := n2_; have BK217 := n3_; have GW217 := n4_; have GE217 := n5_; clear n0_ n1_ n2_ n3_ n4_ n5_; clear hb hbox hg; have hcz29_0 : w28.cell? ⟨gb217, 0, none⟩ = some (.int .i64 0) := (blk_cell BK217.out 0).trans rfl; have hcz29_1 : w28.cell? ⟨gb217, 1, none⟩ = some (.string (⟨#[]⟩ : ByteArray)) := (blk_cell BK217.out 1).trans rfl; have hfz29_0 := blk_frozen BK217.out 0; have hfz29_1 := blk_frozen BK217.out 1) | (at_builtin; refine print_append_str (w0 := w) w.heap.size rfl (.tmp 49) _ 38 9 5 rfl Tryd.underlying38 Tryd.underlying9 info5 u7 x7_3 ((rd_T27 l1 x42_3).f1) rfl rfl ?aO ?aB ?aS ?aL ?_; (case aB => exact (by repeat (first | (with_reducible first | exact HB.out | apply below_alloc | apply pw_below_drewN | apply below_drew1 | refine below_set ?_ GE217.out) | exact HB.out))); (case aO => exact (Kd.own_of_R (by (with_reducible repeat (first | apply Kd.R_alloc | apply Kd.R_drewN | apply Kd.R_drew)); exact Kd.R_mono (Kd.R_far (p := ⟨gb217, 1, none⟩) (Kd.R_far (p := ⟨gb217, 0, none⟩) (Kd.R_types HO_7.out BK217.out (by decide)) (fun _ hk => hk.2) (.int .i64 ((rd_T27 l1 x42_3).f0))) (fun _ hk => hk.2) (.string ((rd_T27 l1 x42_3).f1))) (fun _ hk => trivial)))); (case aS => exact (below_size (by repeat (first | (with_reducible first | exact HB.out | apply below_alloc | apply pw_below_drewN | apply below_drew1 | refine below_set ?_ GE217.out) | exact HB.out)))); (case aL => have := LMc27.out; omega); intro v219 w30 ho0 hb hg; have ho := Kd.R_of_own (h1 := fun _ => rfl) (ok := fun _ => True) ho0 (fun _ _ => trivial); clear ho0; have hat := True.intro; rw [← Ny218.out] at ho; change Kd.R (Kd.int .u8) 5 w30 w.heap.size (fun _ => True) v219 y218 at ho; have n0_ := Aside0.mk (Kd.R_over' (by (with_reducible repeat (first | apply Kd.R_alloc | apply Kd.R_drewN | apply Kd.R_drew)); exact (Kd.R_mono (Kd.R_far (p := ⟨gb217, 1, none⟩) (Kd.R_far (p := ⟨gb217, 0, none⟩) (Kd.R_mono HO_5.out (fun k_ hk => (⟨hk, hk.2⟩ : _ ∧ k_ ≠ gb217))) (fun _ hk => hk.2) (.int .i64 ((rd_T27 l1 x42_3).f0))) (fun _ hk => hk.2) (.string ((rd_T27 l1 x42_3).f1))) (fun _ h_ => h_.1))) (Kd.R_typed (by (with_reducible repeat (first | apply Kd.R_alloc | apply Kd.R_drewN | apply Kd.R_drew)); exact (Kd.R_mono (Kd.R_far (p := ⟨gb217, 1, none⟩) (Kd.R_far (p := ⟨gb217, 0, none⟩) (Kd.R_types HO_7.out BK217.out (by decide)) (fun _ hk => hk.2) (.int .i64 ((rd_T27 l1 x42_3).f0))) (fun _ hk => hk.2) (.string ((rd_T27 l1 x42_3).f1))) (fun _ h_ => h_.1)))) (by decide) hg); have n1_ := Aside0.mk (blk_grown (g := gb217) (o := .cells #[.int .i64 ((rd_T27 l1 x42_3).f0), .string ((rd_T27 l1 x42_3).f1)] 27 (0, 0)) (by (with_reducible repeat (first | refine blk_drewN ?_ _ | refine blk_drew ?_ | refine blk_alloc ?_ _)); refine blk_put (cs := #[.int .i64 ((rd_T27 l1 x42_3).f0), .string (⟨#[]⟩ : ByteArray)]) ?_ 1 _ rfl; (with_reducible repeat (first | refine blk_drewN ?_ _ | refine blk_drew ?_ | refine blk_alloc ?_ _)); refine blk_put (cs := #[.int .i64 0, .string (⟨#[]⟩ : ByteArray)]) ?_ 0 _ rfl; (with_reducible repeat (first | refine blk_drewN ?_ _ | refine blk_drew ?_ | refine blk_alloc ?_ _)); exact BK217.out) hg (Kd.R_ne HO_7.out BK217.out (by decide))); have n2_ := Aside0.mk (hb); have n3_ := Aside0.mk (ho); clear HO_5; clear BK217; clear HB; clear HO_7; have HO_5 := n0_; have BK217 := n1_; have HB := n2_; have HO220 := n3_; clear n0_ n1_ n2_ n3_; clear ho hb hg hat))
                            go_roundg k3
                            case measure => have := HJ2.out; have := HJ7.out; have := HK3.out; omega
                            case rel => exact ⟨(y218), (wrap64 (x42_3 + 1)), (by first | rfl | (simp; done) | (simp [*]; done)), H', ⟨by have := HJ2.out; have := HJ7.out; have := HK3.out; omega⟩, ⟨by (with_reducible repeat (first | apply Kd.R_alloc | apply Kd.R_drewN | apply Kd.R_drew)); exact Kd.R_mono HO_5.out (fun _ hk => trivial)⟩, ⟨by (with_reducible repeat (first | apply Kd.R_alloc | apply Kd.R_drewN | apply Kd.R_drew)); exact HO220.out⟩, ⟨by repeat (first | (with_reducible first | exact HB.out | apply below_alloc | apply pw_below_drewN | apply below_drew1 | refine below_set ?_ GE217.out) | exact HB.out)⟩⟩
                          · rw [if_neg c27] at H
                            exact absurd H (by simp)
                        · rw [if_neg c26] at H
                          have c26b0 : (((rd_T27 l1 x42_3).f0) == (-12)) = false := beq_eq_false_iff_ne.mpr c26
                          have c26b1 : (((rd_T27 l1 x42_3).f0) != (-12)) = true := bne_iff_ne.mpr c26
                          have H' := Aside0.mk H
                          clear H
                          have p216 : 0 ≤ (x42_3 : Int) := of_decide_eq_true (by first | (with_reducible assumption) | assumption)
                          have q216 : x42_3 < (l1.length : Int) := of_decide_eq_true (by first | (with_reducible assumption) | assumption)
                          obtain ⟨ad216, e216, hx216_0, hx216_1⟩ := at_T27 HR1.out x42_3 p216 q216
                          cases e216
                          replace hx216_0 := (HB.out.cell (World.block_lt_of_cell? w _ hx216_0)).trans hx216_0
                          replace hx216_1 := (HB.out.cell (World.block_lt_of_cell? w _ hx216_1)).trans hx216_1
                          replace p216 := eq_true p216
                          replace q216 := eq_true q216
                          go_wp2_with (first | ((with_reducible refine gate_dst (N := 9) rfl ?_); refine box_event ?hg (N := 9) ?hd (cs := #[.int .i64 0, .string (⟨#[]⟩ : ByteArray)]) (t := 27) ?hr ?_; (case hd => rfl); (case hg => rfl); (case hr => first | (go_simp; done) | (go_simp; rfl)); intro gb217 hg w31 hbox hb; have n0_ := Aside0.mk (Kd.R_below (Kd.R_elderB (by (with_reducible repeat (first | apply Kd.R_alloc | apply Kd.R_drewN | apply Kd.R_drew)); exact HO_5.out) gb217 (Nat.le_of_eq hg.symm)) hb); have n1_ := Aside0.mk (Kd.R_below (by (with_reducible repeat (first | apply Kd.R_alloc | apply Kd.R_drewN | apply Kd.R_drew)); exact HO_7.out) hb); have n2_ := Aside0.mk (below_step (by repeat (first | (with_reducible first | exact HB.out | apply below_alloc | apply pw_below_drewN | apply below_drew1) | exact HB.out)) hb); have n3_ := Aside0.mk (hbox); have n4_ := Aside0.mk ((by rw [hg]; exact (below_size (by repeat (first | (with_reducible first | exact HB.out | apply below_alloc | apply pw_below_drewN | apply below_drew1) | exact HB.out))) : w.heap.size ≤ gb217)); have n5_ := Aside0.mk ((by rw [hg]; exact (below_size (by repeat (first | (with_reducible first | exact HB.out | apply below_alloc | apply pw_below_drewN | apply below_drew1) | exact HB.out))) : w.heap.size ≤ gb217)); clear HO_5; clear HO_7; clear HB; have HO_5 := n0_; have HO_7 := n1_; have HB := n2_; have BK217 := n3_; have GW217 := n4_; have GE217 := n5_; clear n0_ n1_ n2_ n3_ n4_ n5_; clear hb hbox hg; have hcz32_0 : w31.cell? ⟨gb217, 0, none⟩ = some (.int .i64 0) := (blk_cell BK217.out 0).trans rfl; have hcz32_1 : w31.cell? ⟨gb217, 1, none⟩ = some (.string (⟨#[]⟩ : ByteArray)) := (blk_cell BK217.out 1).trans rfl; have hfz32_0 := blk_frozen BK217.out 0; have hfz32_1 := blk_frozen BK217.out 1))
                          go_roundg k3
                          case measure => have := HJ2.out; have := HJ7.out; have := HK3.out; omega
                          case rel => exact ⟨(x7_3), (wrap64 (x42_3 + 1)), (by first | rfl | (simp; done) | (simp [*]; done)), H', ⟨by have := HJ2.out; have := HJ7.out; have := HK3.out; omega⟩, ⟨by (with_reducible repeat (first | apply Kd.R_alloc | apply Kd.R_drewN | apply Kd.R_drew)); exact Kd.R_mono (Kd.R_far (p := ⟨gb217, 1, none⟩) (Kd.R_far (p := ⟨gb217, 0, none⟩) (Kd.R_mono HO_5.out (fun k_ hk => (⟨hk, hk.2⟩ : _ ∧ k_ ≠ gb217))) (fun _ hk => hk.2) (.int .i64 ((rd_T27 l1 x42_3).f0))) (fun _ hk => hk.2) (.string ((rd_T27 l1 x42_3).f1))) (fun _ hk => trivial)⟩, ⟨by (with_reducible repeat (first | apply Kd.R_alloc | apply Kd.R_drewN | apply Kd.R_drew)); exact Kd.R_mono (Kd.R_far (p := ⟨gb217, 1, none⟩) (Kd.R_far (p := ⟨gb217, 0, none⟩) (Kd.R_types HO_7.out BK217.out (by decide)) (fun _ hk => hk.2) (.int .i64 ((rd_T27 l1 x42_3).f0))) (fun _ hk => hk.2) (.string ((rd_T27 l1 x42_3).f1))) (fun _ hk => trivial)⟩, ⟨by repeat (first | (with_reducible first | exact HB.out | apply below_alloc | apply pw_below_drewN | apply below_drew1 | refine below_set ?_ GE217.out) | exact HB.out)⟩⟩
                      · rw [if_neg c25] at H
                        exact absurd H (by simp)
                    · rw [if_neg c24] at H
                      exact absurd H (by simp)
                  · rw [if_neg c23] at H
                    have c23b0 : decide (x42_3 < (l1.length : Int)) = false := decide_eq_false c23
                    clear c23
                    replace H := Option.bind_eq_some_iff.mp H
                    obtain ⟨t221, A330, H⟩ := H
                    replace H : ((laws_each.f k3 t221).bind fun t224 => ((laws_each.f k3 l1).bind fun t227 => (laws_FnDelegateTypes.l1 k3 t212 t213 t224 ([] : List Int) t227 (t227.length : Int) 0))) = some r := H
                    have A33 := Aside0.mk A330
                    clear A330
                    replace H := Option.bind_eq_some_iff.mp H
                    obtain ⟨t224, A340, H⟩ := H
                    replace H : ((laws_each.f k3 l1).bind fun t227 => (laws_FnDelegateTypes.l1 k3 t212 t213 t224 ([] : List Int) t227 (t227.length : Int) 0)) = some r := H
                    have A34 := Aside0.mk A340
                    clear A340
                    replace H := Option.bind_eq_some_iff.mp H
                    obtain ⟨t227, A350, H⟩ := H
                    replace H : (laws_FnDelegateTypes.l1 k3 t212 t213 t224 ([] : List Int) t227 (t227.length : Int) 0) = some r := H
                    have A35 := Aside0.mk A350
                    clear A350
                    have H' := Aside0.mk H
                    clear H
                    have hcv36 := own_string (P := Tryd.prog) Tryd.underlying38 Tryd.underlying5 Tryd.underlying9 (Kd.own_of_R HO_7.out)
                    go_wp2_with (first | ((with_reducible refine gate_callee (f := 17) rfl ?_); refine goesL_ (some 57) rfl rfl Tryd.func17 (by kernel_rfl) rfl #[.slice A0 l0.length c0, .string (strOfNums x7_3)] rfl (by (try simp only [List.map_toArray, List.map_cons, List.map_nil]); first | done | rfl | (simp only [List.length_drop, List.length_take]; rfl)) ?_; (with_reducible refine (laws_cut.calls k3 _ _ l0 (strOfNums x7_3) t221 _ ?side1 ?side2 A33.out).mono ?_); (case side1 => repeat (first | exact (Kd.C_below HR0.out HB.out) | (with_reducible refine Kd.C_alloc ?_ _) | (with_reducible refine Kd.C_drewN ?_ _) | (with_reducible refine Kd.C_drew ?_))); (case side2 => exact HC0.out); rintro e w37 ⟨v222, rfl, ho0, hb⟩; refine ⟨_, rfl, ?_⟩; have n0_ := Aside0.mk (Kd.R_elder' (by (with_reducible repeat (first | apply Kd.R_alloc | apply Kd.R_drewN | apply Kd.R_drew)); exact HO_5.out) (Kd.R_base ho0) hb); have n1_ := Aside0.mk (Kd.R_below (by (with_reducible repeat (first | apply Kd.R_alloc | apply Kd.R_drewN | apply Kd.R_drew)); exact HO_7.out) hb); have n2_ := Aside0.mk (Kd.R_lower (Kd.R_new' ho0 (Kd.R_lt (by (with_reducible repeat (first | apply Kd.R_alloc | apply Kd.R_drewN | apply Kd.R_drew)); exact HO_5.out))) (below_size (by repeat (first | (with_reducible first | exact HB.out | apply below_alloc | apply pw_below_drewN | apply below_drew1) | exact HB.out)))); have n3_ := Aside0.mk (below_step (by repeat (first | (with_reducible first | exact HB.out | apply below_alloc | apply pw_below_drewN | apply below_drew1) | exact HB.out)) hb); clear HO_5; clear HO_7; clear HB; have HO_5 := n0_; have HO_7 := n1_; have HO223 := n2_; have HB := n3_; clear n0_ n1_ n2_ n3_; (try clear hb); (try clear hb2); (try clear hk); (try clear hi); (try clear ho0); obtain ⟨Ao38, co38, eo38⟩ := Kd.R_slice HO223.out; subst eo38) | ((with_reducible refine gate_callee (f := 16) rfl ?_); refine goesL_ (some 58) rfl rfl Tryd.func16 (by kernel_rfl) rfl #[.slice Ao38 t221.length co38] rfl (by (try simp only [List.map_toArray, List.map_cons, List.map_nil]); first | done | rfl | (simp only [List.length_drop, List.length_take]; rfl)) ?_; (with_reducible refine (laws_each.calls k3 _ _ t221 t224 _ ?side1 ?side2 A34.out).mono ?_); (case side1 => repeat (first | exact (Kd.R_reads' HO223.out).2.2 | (with_reducible refine Kd.C_alloc ?_ _) | (with_reducible refine Kd.C_drewN ?_ _) | (with_reducible refine Kd.C_drew ?_))); (case side2 => exact (Kd.R_reads' HO223.out).2.1); rintro e w39 ⟨v225, rfl, ho0, hb⟩; refine ⟨_, rfl, ?_⟩; have n0_ := Aside0.mk (Kd.R_below (by (with_reducible repeat (first | apply Kd.R_alloc | apply Kd.R_drewN | apply Kd.R_drew)); exact HO_5.out) hb); have n1_ := Aside0.mk (Kd.R_below (by (with_reducible repeat (first | apply Kd.R_alloc | apply Kd.R_drewN | apply Kd.R_drew)); exact HO_7.out) hb); have n2_ := Aside0.mk (Kd.R_below (by (with_reducible repeat (first | apply Kd.R_alloc | apply Kd.R_drewN | apply Kd.R_drew)); exact HO223.out) hb); have n3_ := Aside0.mk (Kd.R_lower ho0 (below_size (by repeat (first | (with_reducible first | exact HB.out | apply below_alloc | apply pw_below_drewN | apply below_drew1) | exact HB.out)))); have n4_ := Aside0.mk (below_step (by repeat (first | (with_reducible first | exact HB.out | apply below_alloc | apply pw_below_drewN | apply below_drew1) | exact HB.out)) hb); clear HO_5; clear HO_7; clear HO223; clear HB; have HO_5 := n0_; have HO_7 := n1_; have HO223 := n2_; have HO226 := n3_; have HB := n4_; clear n0_ n1_ n2_ n3_ n4_; (try clear hb); (try clear hb2); (try clear hk); (try clear hi); (try clear ho0)) | ((with_reducible refine gate_callee (f := 16) rfl ?_); refine goesL_ (some 60) rfl rfl Tryd.func16 (by kernel_rfl) rfl #[.slice A1 l1.length c1] rfl (by (try simp only [List.map_toArray, List.map_cons, List.map_nil]); first | done | rfl | (simp only [List.length_drop, List.length_take]; rfl)) ?_; (with_reducible refine (laws_each.calls k3 _ _ l1 t227 _ ?side1 ?side2 A35.out).mono ?_); (case side1 => repeat (first | exact (Kd.C_below HR1.out HB.out) | (with_reducible refine Kd.C_alloc ?_ _) | (with_reducible refine Kd.C_drewN ?_ _) | (with_reducible refine Kd.C_drew ?_))); (case side2 => exact HC1.out); rintro e w40 ⟨v228, rfl, ho0, hb⟩; refine ⟨_, rfl, ?_⟩; have n0_ := Aside0.mk (Kd.R_below (by (with_reducible repeat (first | apply Kd.R_alloc | apply Kd.R_drewN | apply Kd.R_drew)); exact HO_5.out) hb); have n1_ := Aside0.mk (Kd.R_below (by (with_reducible repeat (first | apply Kd.R_alloc | apply Kd.R_drewN | apply Kd.R_drew)); exact HO_7.out) hb); have n2_ := Aside0.mk (Kd.R_below (by (with_reducible repeat (first | apply Kd.R_alloc | apply Kd.R_drewN | apply Kd.R_drew)); exact HO223.out) hb); have n3_ := Aside0.mk (Kd.R_elder' (by (with_reducible repeat (first | apply Kd.R_alloc | apply Kd.R_drewN | apply Kd.R_drew)); exact HO226.out) (Kd.R_base ho0) hb); have n4_ := Aside0.mk (Kd.R_lower (Kd.R_new' ho0 (Kd.R_lt (by (with_reducible repeat (first | apply Kd.R_alloc | apply Kd.R_drewN | apply Kd.R_drew)); exact HO226.out))) (below_size (by repeat (first | (with_reducible first | exact HB.out | apply below_alloc | apply pw_below_drewN | apply below_drew1) | exact HB.out)))); have n5_ := Aside0.mk (below_step (by repeat (first | (with_reducible first | exact HB.out | apply below_alloc | apply pw_below_drewN | apply below_drew1) | exact HB.out)) hb); clear HO_5; clear HO_7; clear HO223; clear HO226; clear HB; have HO_5 := n0_; have HO_7 := n1_; have HO223 := n2_; have HO226 := n3_; have HO229 := n4_; have HB := n5_; clear n0_ n1_ n2_ n3_ n4_ n5_; (try clear hb); (try clear hb2); (try clear hk); (try clear hi); (try clear ho0); obtain ⟨Ao41, co41, eo41⟩ := Kd.R_slice HO229.out; subst eo41))
                    go_loopg [10, 11, 62] k3 (fun kq v10 v11 v62 w' => ∃ (x10_4 : List Int) (x11_4 : List Int) (x62_4 : Int), v62 = .int .i64 x62_4 ∧ Aside0 (laws_FnDelegateTypes.l1 kq t212 t213 x10_4 x11_4 t227 (t227.length : Int) x62_4 = some r) ∧ Aside0 (kq ≤ k3) ∧ Aside0 (Kd.R k27 27 w' w.heap.size (fun _ => True) v214 t212) ∧ Aside0 (Kd.Q (Kd.int .i64) 3 w' w.heap.size (fun k_ => some k_ ≠ (v11 : Value).ownBlock ∧ some k_ ≠ ((.slice Ao41 t227.length co41) : Value).ownBlock) v10 x10_4) ∧ Aside0 (Kd.R (Kd.int .i64) 3 w' w.heap.size (fun k_ => some k_ ≠ (v10 : Value).ownBlock ∧ some k_ ≠ ((.slice Ao41 t227.length co41) : Value).ownBlock) v11 x11_4) ∧ Aside0 (Kd.R (Kd.int .i64) 3 w' w.heap.size (fun k_ => some k_ ≠ (v10 : Value).ownBlock ∧ some k_ ≠ (v11 : Value).ownBlock) (.slice Ao41 t227.length co41) t227) ∧ Aside0 (Below w.heap.size w w'))
                    case atStart => exact ⟨(t224), (([] : List Int)), (0), (by first | rfl | (simp; done) | (simp [*]; done)), H', ⟨Nat.le_refl _⟩, ⟨by (with_reducible repeat (first | apply Kd.R_alloc | apply Kd.R_drewN | apply Kd.R_drew)); exact Kd.R_mono HO_5.out (fun _ hk => trivial)⟩, ⟨Kd.Q_of_R (by (with_reducible repeat (first | apply Kd.R_alloc | apply Kd.R_drewN | apply Kd.R_drew)); exact Kd.R_mono HO226.out (fun _ hk => ⟨(by simp [Value.ownBlock]), hk.2⟩))⟩, ⟨by first | exact Kd.R_nil _ _ _ _ _ | exact Kd.N_nil _ _ _ _ _ | exact Kd.V_nil _ _ _ _ _ | exact Kd.Q_nil _ _ _ _ _ | exact Kd.S_nil _ _ _ _ _⟩, ⟨by (with_reducible repeat (first | apply Kd.R_alloc | apply Kd.R_drewN | apply Kd.R_drew)); exact Kd.R_mono HO229.out (fun _ hk => ⟨hk.2, (by simp [Value.ownBlock])⟩)⟩, ⟨by repeat (first | (with_reducible first | exact HB.out | apply below_alloc | apply pw_below_drewN | apply below_drew1) | exact HB.out)⟩⟩
                    case round =>
                      clear H'
                      try clear c1
                      try clear c2
                      try clear p2
                      try clear q2
                      try clear hx2
                      try clear hcv3
                      try clear c4
                      try clear c4b0
                      try clear c4b1
                      try clear c4b2
                      try clear c5
                      try clear p6
                      try clear c7
                      try clear c10
                      try clear c11
                      try clear c12
                      try clear c16
                      try clear c17
                      try clear c20
                      try clear p21
                      try clear q21
                      try clear hx21
                      try clear c23
                      try clear c23b0
                      try clear c24
                      try clear c24b0
                      try clear c25
                      try clear c25b0
                      try clear c26
                      try clear c26b0
                      try clear c26b1
                      try clear c27
                      try clear hcv36
                      try clear hcz29_0
                      try clear hcz29_1
                      try clear hcz32_0
                      try clear hcz32_1
                      try clear hfz29_0
                      try clear hfz29_1
                      try clear hfz32_0
                      try clear hfz32_1
                      try clear hx216_0
                      try clear hx216_1
                      try clear p2
                      try clear p216
                      try clear q216
                      obtain ⟨x10_4, x11_4, x62_4, rfl, HA, HK4, HO_5, HO_10, HO_11, HO_60, HB⟩ := hrel
                      cases gk with
                      | zero => exact absurd HA.out (by simp [laws_FnDelegateTypes.l1])
                      | succ k4 =>
                        have H := HA.out
                        clear HA
                        simp only [laws_FnDelegateTypes.l1] at H
                        by_cases c42 : x62_4 < (t227.length : Int)
                        · rw [if_pos c42] at H
                          have c42b0 : decide (x62_4 < (t227.length : Int)) = true := decide_eq_true c42
                          clear c42
                          by_cases c43 : 0 ≤ x62_4
                          · rw [if_pos c43] at H
                            have c43b0 : decide (0 ≤ x62_4) = true := decide_eq_true c43
                            clear c43
                            by_cases c44 : x62_4 < (t227.length : Int)
                            · rw [if_pos c44] at H
                              have c44b0 : decide (x62_4 < (t227.length : Int)) = true := decide_eq_true c44
                              clear c44
                              by_cases c45 : (rd t227 x62_4) = (-12)
                              · rw [if_pos c45] at H
                                have c45b0 : ((rd t227 x62_4) == (-12)) = true := beq_iff_eq.mpr c45
                                have c45b1 : ((rd t227 x62_4) != (-12)) = false := bne_eq_false_iff_eq.mpr c45
                                clear c45
                                by_cases c46 : 0 < (x10_4.length : Int)
                                · rw [if_pos c46] at H
                                  have c46b0 : decide (0 < (x10_4.length : Int)) = true := decide_eq_true c46
                                  have c46b1 : decide (0 < x10_4.length) = true := decide_eq_true (by omega)
                                  clear c46
                                  by_cases c47 : x11_4.length < 17592186044416
                                  · rw [if_pos c47] at H
                                    have LMc47 := Aside0.mk c47
                                    clear c47
                                    obtain ⟨y232, hy232⟩ : ∃ y_ : List Int, y_ = (x11_4 ++ [rd x10_4 0]) := ⟨_, rfl⟩
                                    replace H : (if 1 ≤ (x10_4.length : Int) then (laws_FnDelegateTypes.l1 k4 t212 t213 (x10_4.drop (1 : Int).toNat) y232 t227 (t227.length : Int) (wrap64 (x62_4 + 1))) else (none)) = some r := by first | (rw [hy232]; with_reducible exact H) | (have H2_ := (Option.bind_some _ _).symm.trans H; rw [hy232]; with_reducible exact H2_) | (have H2_ := (Option.bind_some _ _).symm.trans H; with_reducible exact H2_) | with_reducible exact H | (rw [hy232]; exact H) | exact H
                                    have Ny232 := Aside0.mk hy232
                                    clear hy232
                                    by_cases c48 : 1 ≤ (x10_4.length : Int)
                                    · rw [if_pos c48] at H
                                      have c48b0 := eq_true c48
                                      have c48b1 : decide (1 ≤ (x10_4.length : Int)) = true := decide_eq_true c48
                                      clear c48
                                      obtain ⟨y235, hy235⟩ : ∃ y_ : List Int, y_ = (x10_4.drop (1 : Int).toNat) := ⟨_, rfl⟩
                                      replace H : (laws_FnDelegateTypes.l1 k4 t212 t213 y235 y232 t227 (t227.length : Int) (wrap64 (x62_4 + 1))) = some r := by first | (rw [hy235]; with_reducible exact H) | (have H2_ := (Option.bind_some _ _).symm.trans H; rw [hy235]; with_reducible exact H2_) | (have H2_ := (Option.bind_some _ _).symm.trans H; with_reducible exact H2_) | with_reducible exact H | (rw [hy235]; exact H) | exact H
                                      have Ny235 := Aside0.mk hy235
                                      clear hy235
                                      have H' := Aside0.mk H
                                      clear H
                                      have p230 : 0 ≤ (x62_4 : Int) := of_decide_eq_true (by first | (with_reducible assumption) | assumption)
                                      have q230 : x62_4 < (t227.length : Int) := of_decide_eq_true (by first | (with_reducible assumption) | assumption)
                                      obtain ⟨ad230, e230, hx230_0⟩ := Kd.at_int (Kd.R_reads' HO_60.out).2.2 x62_4 p230 q230
                                      cases e230
                                      replace p230 := eq_true p230
                                      replace q230 := eq_true q230
                                      obtain ⟨Ao49, co49, eo49, _⟩ := Kd.Q_slice HO_10.out
                                      subst eo49
                                      have p231 : 0 ≤ (0 : Int) := (by omega)
                                      have q231 : 0 < (x10_4.length : Int) := of_decide_eq_true (by first | (with_reducible assumption) | assumption)
                                      obtain ⟨ad231, e231, hx231_0⟩ := Kd.at_int (Kd.Q_reads' HO_10.out).2.2 0 p231 q231
                                      cases e231
                                      have qi231 : (0 < x10_4.length) = True := eq_true (by omega)
                                      (try rw [show ((0 : Int)).toNat = 0 from rfl] at hx231_0)
                                      (try rw [Addr.add_zero'] at hx231_0)
                                      replace p231 := eq_true p231
                                      replace q231 := eq_true q231
                                      go_wp2_with (first | ((with_reducible refine gate_builtin (b := .append) (xs := #[.tmp 72, .tmp 76]) rfl ?_); at_builtin; refine Kd.R_append (Kd.int .i64) (w0 := w) w.heap.size rfl (.tmp 72) (.tmp 76) 39 3 (.int .i64 0) 8 rfl Tryd.underlying39 info3 rfl (by decide) (by omega) u11 x11_4 (rd x10_4 0) [.int .i64 (rd x10_4 0)] (fun k_ => some k_ ≠ (.slice (some ad231) x10_4.length co49 : Value).ownBlock ∧ some k_ ≠ (.slice (some ad230) t227.length co41 : Value).ownBlock) (fun _ => False) rfl rfl ?aP (fun _ hk => hk.elim) ?aF ?aO ?aB ?aS ?aL ?_; (case aP => exact rfl); (case aB => exact (by repeat (first | (with_reducible first | exact HB.out | apply below_alloc | apply pw_below_drewN | apply below_drew1) | exact HB.out))); (case aF => exact (fun k_ hk => ⟨Kd.fresh' (Kd.Q_lt (by (with_reducible repeat (first | apply Kd.Q_alloc | apply Kd.Q_drewN | apply Kd.Q_drew)); exact HO_10.out)) k_ hk, Kd.fresh' (Kd.R_lt (by (with_reducible repeat (first | apply Kd.R_alloc | apply Kd.R_drewN | apply Kd.R_drew)); exact HO_60.out)) k_ hk⟩)); (case aO => exact (by (with_reducible repeat (first | apply Kd.R_alloc | apply Kd.R_drewN | apply Kd.R_drew)); exact HO_11.out)); (case aS => exact (below_size (by repeat (first | (with_reducible first | exact HB.out | apply below_alloc | apply pw_below_drewN | apply below_drew1) | exact HB.out)))); (case aL => have := LMc47.out; omega); intro v233 w50 ho hb hg hat; rw [← Ny232.out] at ho; have n0_ := Aside0.mk (Kd.R_over' (by (with_reducible repeat (first | apply Kd.R_alloc | apply Kd.R_drewN | apply Kd.R_drew)); exact HO_5.out) (Kd.R_typed (by (with_reducible repeat (first | apply Kd.R_alloc | apply Kd.R_drewN | apply Kd.R_drew)); exact HO_11.out)) (by decide) hg); have n1_ := Aside0.mk (Kd.Q_after (ok := (fun k_ => some k_ ≠ (.slice (some ad230) t227.length co41 : Value).ownBlock)) (by (with_reducible repeat (first | apply Kd.Q_alloc | apply Kd.Q_drewN | apply Kd.Q_drew)); exact Kd.Q_mono HO_10.out (fun _ hk => ⟨hk.2, hk.1⟩)) hg hat); have n2_ := Aside0.mk (Kd.R_after (ok := (fun k_ => some k_ ≠ (.slice (some ad231) x10_4.length co49 : Value).ownBlock)) (by (with_reducible repeat (first | apply Kd.R_alloc | apply Kd.R_drewN | apply Kd.R_drew)); exact HO_60.out) hg hat); have n3_ := Aside0.mk (hb); have n4_ := Aside0.mk (ho); clear HO_5; clear HO_10; clear HO_60; clear HB; clear HO_11; have HO_5 := n0_; have HO_10 := n1_; have HO_60 := n2_; have HB := n3_; have HO234 := n4_; clear n0_ n1_ n2_ n3_ n4_; clear ho hb hg hat; have q51 : (1 : Int) ≤ ((x10_4.length : Int) : Int) := of_decide_eq_true (by first | (with_reducible assumption) | assumption); obtain ⟨i051, hi051, _, hsz51, _⟩ := info_parts info3; have hcut51 := cut_from (P := Tryd.prog) 39 3 .i64 Tryd.underlying39 hi051 1 hsz51 (some ad231) x10_4.length co49 1 (by omega) q51; have hr51 := Kd.Q_drop (k := (1 : Int).toNat) HO_10.out (by omega); obtain ⟨A51, hA51⟩ : ∃ A1, A1 = (if co49 = (1 : Int).toNat then (some ad231) else ((some ad231) : Option Addr).map (·.add ((1 : Int).toNat * 1))) := ⟨_, rfl⟩; obtain ⟨c51, hc51⟩ : ∃ c1, c1 = co49 - (1 : Int).toNat := ⟨_, rfl⟩; have hy51 : y235.length = x10_4.length - (1 : Int).toNat := (by rw [Ny235.out, List.length_drop]); rw [← Ny235.out] at hr51; rw [← hy51, ← hA51, ← hc51] at hcut51; replace hr51 : Kd.Q (Kd.int .i64) 3 w50 w.heap.size (fun k_ => some k_ ≠ (.slice (some ad230) t227.length co41 : Value).ownBlock ∧ some k_ ≠ (v233 : Value).ownBlock) (.slice A51 y235.length c51) y235 := (by rw [hA51, hc51, hy51]; exact hr51); have HE51 : Aside0 ((Value.slice A51 y235.length c51).ownBlock = (.slice (some ad231) x10_4.length co49 : Value).ownBlock) := ⟨by rw [hA51]; split <;> (cases ((some ad231) : Option Addr) <;> rfl)⟩; clear hy51 hi051 hsz51 HO_10 hA51 hc51; have HO237 := Aside0.mk hr51; clear hr51; replace q51 := eq_true q51; have n_ := Aside0.mk (Kd.R_mono (ok' := fun k_ => (some k_ ≠ (.slice A51 y235.length c51 : Value).ownBlock ∧ some k_ ≠ (v233 : Value).ownBlock)) HO_60.out (fun k_ hk => ⟨(by rw [HE51.out]; exact hk.1), hk.2⟩)); clear HO_60; have HO_60 := n_; clear n_; have n_ := Aside0.mk (Kd.R_mono (ok' := fun k_ => (some k_ ≠ (.slice A51 y235.length c51 : Value).ownBlock ∧ some k_ ≠ (.slice (some ad230) t227.length co41 : Value).ownBlock)) HO234.out (fun k_ hk => ⟨(by rw [HE51.out]; exact hk.1), hk.2⟩)); clear HO234; have HO234 := n_; clear n_))
                                      go_roundg k4
                                      case measure => have := HJ2.out; have := HJ7.out; have := HK3.out; have := HK4.out; omega
                                      case rel => exact ⟨(y235), (y232), (wrap64 (x62_4 + 1)), (by first | rfl | (simp; done) | (simp [*]; done)), H', ⟨by have := HJ2.out; have := HJ7.out; have := HK3.out; have := HK4.out; omega⟩, ⟨by (with_reducible repeat (first | apply Kd.R_alloc | apply Kd.R_drewN | apply Kd.R_drew)); exact HO_5.out⟩, ⟨by (with_reducible repeat (first | apply Kd.Q_alloc | apply Kd.Q_drewN | apply Kd.Q_drew)); exact Kd.Q_mono HO237.out (fun _ hk => ⟨hk.2, hk.1⟩)⟩, ⟨by (with_reducible repeat (first | apply Kd.R_alloc | apply Kd.R_drewN | apply Kd.R_drew)); exact HO234.out⟩, ⟨by (with_reducible repeat (first | apply Kd.R_alloc | apply Kd.R_drewN | apply Kd.R_drew)); exact HO_60.out⟩, ⟨by repeat (first | (with_reducible first | exact HB.out | apply below_alloc | apply pw_below_drewN | apply below_drew1) | exact HB.out)⟩⟩
                                    · rw [if_neg c48] at H
                                      exact absurd H (by simp)
                                  · rw [if_neg c47] at H
                                    exact absurd H (by simp)
                                · rw [if_neg c46] at H
                                  exact absurd H (by simp)
                              · rw [if_neg c45] at H
                                have c45b0 : ((rd t227 x62_4) == (-12)) = false := beq_eq_false_iff_ne.mpr c45
                                have c45b1 : ((rd t227 x62_4) != (-12)) = true := bne_iff_ne.mpr c45
                                by_cases c52 : x11_4.length < 17592186044416
                                · rw [if_pos c52] at H
                                  have LMc52 := Aside0.mk c52
                                  clear c52
                                  obtain ⟨y238, hy238⟩ : ∃ y_ : List Int, y_ = (x11_4 ++ [rd t227 x62_4]) := ⟨_, rfl⟩
                                  replace H : (laws_FnDelegateTypes.l1 k4 t212 t213 x10_4 y238 t227 (t227.length : Int) (wrap64 (x62_4 + 1))) = some r := by first | (rw [hy238]; with_reducible exact H) | (have H2_ := (Option.bind_some _ _).symm.trans H; rw [hy238]; with_reducible exact H2_) | (have H2_ := (Option.bind_some _ _).symm.trans H; with_reducible exact H2_) | with_reducible exact H | (rw [hy238]; exact H) | exact H
                                  have Ny238 := Aside0.mk hy238
                                  clear hy238
                                  have H' := Aside0.mk H
                                  clear H
                                  have p230 : 0 ≤ (x62_4 : Int) := of_decide_eq_true (by first | (with_reducible assumption) | assumption)
                                  have q230 : x62_4 < (t227.length : Int) := of_decide_eq_true (by first | (with_reducible assumption) | assumption)
                                  obtain ⟨ad230, e230, hx230_0⟩ := Kd.at_int (Kd.R_reads' HO_60.out).2.2 x62_4 p230 q230
                                  cases e230
                                  replace p230 := eq_true p230
                                  replace q230 := eq_true q230
                                  go_wp2_with (first | ((with_reducible refine gate_builtin (b := .append) (xs := #[.tmp 68, .tmp 70]) rfl ?_); at_builtin; refine Kd.R_append (Kd.int .i64) (w0 := w) w.heap.size rfl (.tmp 68) (.tmp 70) 39 3 (.int .i64 0) 8 rfl Tryd.underlying39 info3 rfl (by decide) (by omega) u11 x11_4 (rd t227 x62_4) [.int .i64 (rd t227 x62_4)] (fun k_ => some k_ ≠ (u10 : Value).ownBlock ∧ some k_ ≠ (.slice (some ad230) t227.length co41 : Value).ownBlock) (fun _ => False) rfl rfl ?aP (fun _ hk => hk.elim) ?aF ?aO ?aB ?aS ?aL ?_; (case aP => exact rfl); (case aB => exact (by repeat (first | (with_reducible first | exact HB.out | apply below_alloc | apply pw_below_drewN | apply below_drew1) | exact HB.out))); (case aF => exact (fun k_ hk => ⟨Kd.fresh' (Kd.Q_lt (by (with_reducible repeat (first | apply Kd.Q_alloc | apply Kd.Q_drewN | apply Kd.Q_drew)); exact HO_10.out)) k_ hk, Kd.fresh' (Kd.R_lt (by (with_reducible repeat (first | apply Kd.R_alloc | apply Kd.R_drewN | apply Kd.R_drew)); exact HO_60.out)) k_ hk⟩)); (case aO => exact (by (with_reducible repeat (first | apply Kd.R_alloc | apply Kd.R_drewN | apply Kd.R_drew)); exact HO_11.out)); (case aS => exact (below_size (by repeat (first | (with_reducible first | exact HB.out | apply below_alloc | apply pw_below_drewN | apply below_drew1) | exact HB.out)))); (case aL => have := LMc52.out; omega); intro v239 w53 ho hb hg hat; rw [← Ny238.out] at ho; have n0_ := Aside0.mk (Kd.R_over' (by (with_reducible repeat (first | apply Kd.R_alloc | apply Kd.R_drewN | apply Kd.R_drew)); exact HO_5.out) (Kd.R_typed (by (with_reducible repeat (first | apply Kd.R_alloc | apply Kd.R_drewN | apply Kd.R_drew)); exact HO_11.out)) (by decide) hg); have n1_ := Aside0.mk (Kd.Q_after (ok := (fun k_ => some k_ ≠ (.slice (some ad230) t227.length co41 : Value).ownBlock)) (by (with_reducible repeat (first | apply Kd.Q_alloc | apply Kd.Q_drewN | apply Kd.Q_drew)); exact Kd.Q_mono HO_10.out (fun _ hk => ⟨hk.2, hk.1⟩)) hg hat); have n2_ := Aside0.mk (Kd.R_after (ok := (fun k_ => some k_ ≠ (u10 : Value).ownBlock)) (by (with_reducible repeat (first | apply Kd.R_alloc | apply Kd.R_drewN | apply Kd.R_drew)); exact HO_60.out) hg hat); have n3_ := Aside0.mk (hb); have n4_ := Aside0.mk (ho); clear HO_5; clear HO_10; clear HO_60; clear HB; clear HO_11; have HO_5 := n0_; have HO_10 := n1_; have HO_60 := n2_; have HB := n3_; have HO240 := n4_; clear n0_ n1_ n2_ n3_ n4_; clear ho hb hg hat))
                                  go_roundg k4
                                  case measure => have := HJ2.out; have := HJ7.out; have := HK3.out; have := HK4.out; omega
                                  case rel => exact ⟨(x10_4), (y238), (wrap64 (x62_4 + 1)), (by first | rfl | (simp; done) | (simp [*]; done)), H', ⟨by have := HJ2.out; have := HJ7.out; have := HK3.out; have := HK4.out; omega⟩, ⟨by (with_reducible repeat (first | apply Kd.R_alloc | apply Kd.R_drewN | apply Kd.R_drew)); exact HO_5.out⟩, ⟨by (with_reducible repeat (first | apply Kd.Q_alloc | apply Kd.Q_drewN | apply Kd.Q_drew)); exact Kd.Q_mono HO_10.out (fun _ hk => ⟨hk.2, hk.1⟩)⟩, ⟨by (with_reducible repeat (first | apply Kd.R_alloc | apply Kd.R_drewN | apply Kd.R_drew)); exact HO240.out⟩, ⟨by (with_reducible repeat (first | apply Kd.R_alloc | apply Kd.R_drewN | apply Kd.R_drew)); exact HO_60.out⟩, ⟨by repeat (first | (with_reducible first | exact HB.out | apply below_alloc | apply pw_below_drewN | apply below_drew1) | exact HB.out)⟩⟩
                                · rw [if_neg c52] at H
                                  exact absurd H (by simp)
                            · rw [if_neg c44] at H
                              exact absurd H (by simp)
                          · rw [if_neg c43] at H
                            exact absurd H (by simp)
                        · rw [if_neg c42] at H
                          have c42b0 : decide (x62_4 < (t227.length : Int)) = false := decide_eq_false c42
                          clear c42
                          by_cases c54 : t213 = true
                          · subst c54
                            have H1 : ((laws_each.f k4 t212).bind fun t241 => ((laws_sameInts.f k4 t241 x11_4).bind fun t244 => (if t244 = true then ((laws_waking.f k4).bind fun t245 => (some t245)) else (some false)))) = some r := by rw [if_pos rfl] at H; exact H
                            clear H
                            have H := H1
                            clear H1
                            replace H := Option.bind_eq_some_iff.mp H
                            obtain ⟨t241, A550, H⟩ := H
                            replace H : ((laws_sameInts.f k4 t241 x11_4).bind fun t244 => (if t244 = true then ((laws_waking.f k4).bind fun t245 => (some t245)) else (some false))) = some r := H
                            have A55 := Aside0.mk A550
                            clear A550
                            replace H := Option.bind_eq_some_iff.mp H
                            obtain ⟨t244, A560, H⟩ := H
                            replace H : (if t244 = true then ((laws_waking.f k4).bind fun t245 => (some t245)) else (some false)) = some r := H
                            have A56 := Aside0.mk A560
                            clear A560
                            by_cases c57 : t244 = true
                            · subst c57
                              have H1 : ((laws_waking.f k4).bind fun t245 => (some t245)) = some r := by rw [if_pos rfl] at H; exact H
                              clear H
                              have H := H1
                              clear H1
                              replace H := Option.bind_eq_some_iff.mp H
                              obtain ⟨t245, A580, H⟩ := H
                              replace H : (some t245) = some r := H
                              have A58 := Aside0.mk A580
                              clear A580
                              obtain rfl := Option.some.inj H
                              obtain ⟨Ao59, co59, eo59⟩ := Kd.R_slice HO_5.out
                              subst eo59
                              go_wp2_with (first | (go_at_call 16; (with_reducible refine (laws_each.calls k4 _ _ t212 t241 _ ?side1 ?side2 A55.out).mono ?_); (case side1 => repeat (first | exact (Kd.R_reads' HO_5.out).2.2 | (with_reducible refine Kd.C_alloc ?_ _) | (with_reducible refine Kd.C_drewN ?_ _) | (with_reducible refine Kd.C_drew ?_))); (case side2 => exact (Kd.R_reads' HO_5.out).2.1); rintro e w60 ⟨v242, rfl, ho0, hb⟩; have n0_ := Aside0.mk (Kd.R_below (by (with_reducible repeat (first | apply Kd.R_alloc | apply Kd.R_drewN | apply Kd.R_drew)); exact HO_5.out) hb); have n1_ := Aside0.mk (Kd.Q_elder' (by (with_reducible repeat (first | apply Kd.Q_alloc | apply Kd.Q_drewN | apply Kd.Q_drew)); exact HO_10.out) (Kd.R_base ho0) hb); have n2_ := Aside0.mk (Kd.R_elder' (by (with_reducible repeat (first | apply Kd.R_alloc | apply Kd.R_drewN | apply Kd.R_drew)); exact HO_11.out) (Kd.R_base ho0) hb); have n3_ := Aside0.mk (Kd.R_elder' (by (with_reducible repeat (first | apply Kd.R_alloc | apply Kd.R_drewN | apply Kd.R_drew)); exact HO_60.out) (Kd.R_base ho0) hb); have n4_ := Aside0.mk (Kd.R_lower (Kd.R_new' (Kd.R_new' (Kd.R_new' ho0 (Kd.Q_lt (by (with_reducible repeat (first | apply Kd.Q_alloc | apply Kd.Q_drewN | apply Kd.Q_drew)); exact HO_10.out))) (Kd.R_lt (by (with_reducible repeat (first | apply Kd.R_alloc | apply Kd.R_drewN | apply Kd.R_drew)); exact HO_11.out))) (Kd.R_lt (by (with_reducible repeat (first | apply Kd.R_alloc | apply Kd.R_drewN | apply Kd.R_drew)); exact HO_60.out))) (below_size (by repeat (first | (with_reducible first | exact HB.out | apply below_alloc | apply pw_below_drewN | apply below_drew1) | exact HB.out)))); have n5_ := Aside0.mk (below_step (by repeat (first | (with_reducible first | exact HB.out | apply below_alloc | apply pw_below_drewN | apply below_drew1) | exact HB.out)) hb); clear HO_5; clear HO_10; clear HO_11; clear HO_60; clear HB; have HO_5 := n0_; have HO_10 := n1_; have HO_11 := n2_; have HO_60 := n3_; have HO243 := n4_; have HB := n5_; clear n0_ n1_ n2_ n3_ n4_ n5_; (try clear hb); (try clear hb2); (try clear hk); (try clear hi); (try clear ho0); obtain ⟨Ao61, co61, eo61⟩ := Kd.R_slice HO243.out; subst eo61; obtain ⟨Ao62, co62, eo62⟩ := Kd.R_slice HO_11.out; subst eo62) | (go_at_call 18; (with_reducible refine (laws_sameInts.calls k4 _ _ t241 _ _ x11_4 true _ ?side1 ?side2 ?side3 ?side4 A56.out).mono ?_); (case side1 => repeat (first | exact (Kd.R_reads' HO243.out).2.2 | (with_reducible refine Kd.C_alloc ?_ _) | (with_reducible refine Kd.C_drewN ?_ _) | (with_reducible refine Kd.C_drew ?_))); (case side2 => exact (Kd.R_reads' HO243.out).2.1); (case side3 => repeat (first | exact (Kd.R_reads' HO_11.out).2.2 | (with_reducible refine Kd.C_alloc ?_ _) | (with_reducible refine Kd.C_drewN ?_ _) | (with_reducible refine Kd.C_drew ?_))); (case side4 => exact (Kd.R_reads' HO_11.out).2.1); rintro e w' ⟨rfl, ⟨nd, rfl⟩⟩) | (go_at_call 14; (with_reducible refine (laws_waking.calls k4  t245 _ A58.out).mono ?_); rintro e w63 ⟨rfl, hb⟩; have n0_ := Aside0.mk (Kd.R_below (by (with_reducible repeat (first | apply Kd.R_alloc | apply Kd.R_drewN | apply Kd.R_drew)); exact HO_5.out) hb); have n1_ := Aside0.mk (Kd.Q_below (by (with_reducible repeat (first | apply Kd.Q_alloc | apply Kd.Q_drewN | apply Kd.Q_drew)); exact HO_10.out) hb); have n2_ := Aside0.mk (Kd.R_below (by (with_reducible repeat (first | apply Kd.R_alloc | apply Kd.R_drewN | apply Kd.R_drew)); exact HO_11.out) hb); have n3_ := Aside0.mk (Kd.R_below (by (with_reducible repeat (first | apply Kd.R_alloc | apply Kd.R_drewN | apply Kd.R_drew)); exact HO_60.out) hb); have n4_ := Aside0.mk (Kd.R_below (by (with_reducible repeat (first | apply Kd.R_alloc | apply Kd.R_drewN | apply Kd.R_drew)); exact HO243.out) hb); have n5_ := Aside0.mk (below_step (by repeat (first | (with_reducible first | exact HB.out | apply below_alloc | apply pw_below_drewN | apply below_drew1) | exact HB.out)) hb); clear HO_5; clear HO_10; clear HO_11; clear HO_60; clear HO243; clear HB; have HO_5 := n0_; have HO_10 := n1_; have HO_11 := n2_; have HO_60 := n3_; have HO243 := n4_; have HB := n5_; clear n0_ n1_ n2_ n3_ n4_ n5_; (try clear hb); (try clear hb2); (try clear hk); (try clear hi)))
                              go_ret
                              exact ⟨by first | rfl | (simp [errW_none, errW_some] <;> rfl) | (simp [*, errW_none, errW_some] <;> rfl), by repeat (first | (with_reducible first | exact HB.out | apply below_alloc | apply pw_below_drewN | apply below_drew1) | exact HB.out)⟩
                            · replace c57 := Bool.eq_false_iff.mpr c57
                              subst c57
                              have H1 : (some false) = some r := by rw [if_neg (show ¬ (false = true) by decide)] at H; exact H
                              clear H
                              have H := H1
                              clear H1
                              obtain rfl := Option.some.inj H
                              obtain ⟨Ao64, co64, eo64⟩ := Kd.R_slice HO_5.out
                              subst eo64
                              go_wp2_with (first | (go_at_call 16; (with_reducible refine (laws_each.calls k4 _ _ t212 t241 _ ?side1 ?side2 A55.out).mono ?_); (case side1 => repeat (first | exact (Kd.R_reads' HO_5.out).2.2 | (with_reducible refine Kd.C_alloc ?_ _) | (with_reducible refine Kd.C_drewN ?_ _) | (with_reducible refine Kd.C_drew ?_))); (case side2 => exact (Kd.R_reads' HO_5.out).2.1); rintro e w65 ⟨v242, rfl, ho0, hb⟩; have n0_ := Aside0.mk (Kd.R_below (by (with_reducible repeat (first | apply Kd.R_alloc | apply Kd.R_drewN | apply Kd.R_drew)); exact HO_5.out) hb); have n1_ := Aside0.mk (Kd.Q_elder' (by (with_reducible repeat (first | apply Kd.Q_alloc | apply Kd.Q_drewN | apply Kd.Q_drew)); exact HO_10.out) (Kd.R_base ho0) hb); have n2_ := Aside0.mk (Kd.R_elder' (by (with_reducible repeat (first | apply Kd.R_alloc | apply Kd.R_drewN | apply Kd.R_drew)); exact HO_11.out) (Kd.R_base ho0) hb); have n3_ := Aside0.mk (Kd.R_elder' (by (with_reducible repeat (first | apply Kd.R_alloc | apply Kd.R_drewN | apply Kd.R_drew)); exact HO_60.out) (Kd.R_base ho0) hb); have n4_ := Aside0.mk (Kd.R_lower (Kd.R_new' (Kd.R_new' (Kd.R_new' ho0 (Kd.Q_lt (by (with_reducible repeat (first | apply Kd.Q_alloc | apply Kd.Q_drewN | apply Kd.Q_drew)); exact HO_10.out))) (Kd.R_lt (by (with_reducible repeat (first | apply Kd.R_alloc | apply Kd.R_drewN | apply Kd.R_drew)); exact HO_11.out))) (Kd.R_lt (by (with_reducible repeat (first | apply Kd.R_alloc | apply Kd.R_drewN | apply Kd.R_drew)); exact HO_60.out))) (below_size (by repeat (first | (with_reducible first | exact HB.out | apply below_alloc | apply pw_below_drewN | apply below_drew1) | exact HB.out)))); have n5_ := Aside0.mk (below_step (by repeat (first | (with_reducible first | exact HB.out | apply below_alloc | apply pw_below_drewN | apply below_drew1) | exact HB.out)) hb); clear HO_5; clear HO_10; clear HO_11; clear HO_60; clear HB; have HO_5 := n0_; have HO_10 := n1_; have HO_11 := n2_; have HO_60 := n3_; have HO243 := n4_; have HB := n5_; clear n0_ n1_ n2_ n3_ n4_ n5_; (try clear hb); (try clear hb2); (try clear hk); (try clear hi); (try clear ho0); obtain ⟨Ao66, co66, eo66⟩ := Kd.R_slice HO243.out; subst eo66; obtain ⟨Ao67, co67, eo67⟩ := Kd.R_slice HO_11.out; subst eo67) | (go_at_call 18; (with_reducible refine (laws_sameInts.calls k4 _ _ t241 _ _ x11_4 false _ ?side1 ?side2 ?side3 ?side4 A56.out).mono ?_); (case side1 => repeat (first | exact (Kd.R_reads' HO243.out).2.2 | (with_reducible refine Kd.C_alloc ?_ _) | (with_reducible refine Kd.C_drewN ?_ _) | (with_reducible refine Kd.C_drew ?_))); (case side2 => exact (Kd.R_reads' HO243.out).2.1); (case side3 => repeat (first | exact (Kd.R_reads' HO_11.out).2.2 | (with_reducible refine Kd.C_alloc ?_ _) | (with_reducible refine Kd.C_drewN ?_ _) | (with_reducible refine Kd.C_drew ?_))); (case side4 => exact (Kd.R_reads' HO_11.out).2.1); rintro e w' ⟨rfl, ⟨nd, rfl⟩⟩))
                              go_ret
                              exact ⟨by first | rfl | (simp [errW_none, errW_some] <;> rfl) | (simp [*, errW_none, errW_some] <;> rfl), by repeat (first | (with_reducible first | exact HB.out | apply below_alloc | apply pw_below_drewN | apply below_drew1) | exact HB.out)⟩
                          · replace c54 := Bool.eq_false_iff.mpr c54
                            subst c54
                            have H1 : (some false) = some r := by rw [if_neg (show ¬ (false = true) by decide)] at H; exact H
                            clear H
                            have H := H1
                            clear H1
                            obtain rfl := Option.some.inj H
                            go_wp2
                            go_ret
                            exact ⟨by first | rfl | (simp [errW_none, errW_some] <;> rfl) | (simp [*, errW_none, errW_some] <;> rfl), by repeat (first | (with_reducible first | exact HB.out | apply below_alloc | apply pw_below_drewN | apply below_drew1) | exact HB.out)⟩
def laws_FnDelegateTypes.Pure : Prop := ∀ (l0 : List (S29)) (l1 : List (S27)), (l0.length ≤ 9223372036854775807 ∧ ∀ x ∈ l0, wf_S29 x) → (l1.length ≤ 9223372036854775807 ∧ ∀ x ∈ l1, wf_S27 x) → ∃ k, laws_FnDelegateTypes.f k l0 l1 = some true

end Go.Proofs.YtmldahejeobohaaDoor.M
