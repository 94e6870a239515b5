-- WRITTEN BY OUR myprint.py, a program of this session's over the kit's printer
import Derived.Test.YtchkijfnhhldfaaDoorRx0
import Derived.Test.YtchkijfnhhldfaaDoorRx2
import Derived.Test.YtchkijfnhhldfaaDoorRx4
import Derived.Test.YtchkijfnhhldfaaDoorRx7
namespace Go.Proofs.YtchkijfnhhldfaaDoor.R
open Go.RowKit Go.Proofs.YtchkijfnhhldfaaDoorW.PrintWords Go.Proofs.YtchkijfnhhldfaaDoorW.PrintLast Go.Proofs.YtchkijfnhhldfaaDoorW.PrintMore
attribute [local go_sem] max2_int min2_int max_two min_two max_three min_three max_four min_four   -- for this text's walks alone
set_option linter.unusedVariables false
set_option linter.unusedSimpArgs false

/-! ### laws_FnTypeRemap: function 3 -/
mutual
def laws_FnTypeRemap.j0 : Nat → List (S28) → List (S30) → Bool → Option (Bool)
  | 0, _, _, _ => none
  | k + 1, x0, x1, x28 => if x28 = true then (some true) else (if (x0.length : Int) > 10 then (laws_FnTypeRemap.j1 k x0 x1 true) else ((laws_small.f k x1).bind fun t188 => (laws_FnTypeRemap.j1 k x0 x1 (!t188))))
def laws_FnTypeRemap.j1 : Nat → List (S28) → List (S30) → Bool → Option (Bool)
  | 0, _, _, _ => none
  | k + 1, x0, x1, x36 => if x36 = true then (some true) else (laws_FnTypeRemap.l0 k x0 x1 x0 (x0.length : Int) 0)
def laws_FnTypeRemap.l0 : Nat → List (S28) → List (S30) → List (S28) → Int → Int → Option (Bool)
  | 0, _, _, _, _, _ => none
  | k + 1, x0, x1, x37, x38, x39 => if x39 < x38 then (if 0 ≤ x39 then (if x39 < (x37.length : Int) then (if (((rd_T28 x37 x39).f2).length : Int) < 1 then (laws_FnTypeRemap.j3 k x0 x1 x39 x37 x38 x39 true ((rd_T28 x37 x39).f0) ((rd_T28 x37 x39).f1) ((rd_T28 x37 x39).f2)) else (if (((rd_T28 x37 x39).f2).length : Int) > 10 then (laws_FnTypeRemap.j3 k x0 x1 x39 x37 x38 x39 true ((rd_T28 x37 x39).f0) ((rd_T28 x37 x39).f1) ((rd_T28 x37 x39).f2)) else (laws_FnTypeRemap.j3 k x0 x1 x39 x37 x38 x39 (((rd_T28 x37 x39).f1) == 0) ((rd_T28 x37 x39).f0) ((rd_T28 x37 x39).f1) ((rd_T28 x37 x39).f2)))) else (none)) else (none)) else (laws_FnTypeRemap.l4 k x0 x1 ([] : List (S30)) x1 (x1.length : Int) 0)
def laws_FnTypeRemap.j3 : Nat → List (S28) → List (S30) → Int → List (S28) → Int → Int → Bool → Int → Int → List ByteArray → Option (Bool)
  | 0, _, _, _, _, _, _, _, _, _, _ => none
  | k + 1, x0, x1, x5, x37, x38, x39, x58, x191000, x191001, x191002 => if x58 = true then (some true) else (laws_FnTypeRemap.l1 k x0 x1 x5 x37 x38 x39 x191002 (x191002.length : Int) 0 x191000 x191001 x191002)
def laws_FnTypeRemap.l1 : Nat → List (S28) → List (S30) → Int → List (S28) → Int → Int → List ByteArray → Int → Int → Int → Int → List ByteArray → Option (Bool)
  | 0, _, _, _, _, _, _, _, _, _, _, _, _ => none
  | k + 1, x0, x1, x5, x37, x38, x39, x60, x61, x62, x191000, x191001, x191002 => if x62 < x61 then (if 0 ≤ x62 then (if x62 < (x60.length : Int) then (if (rdOf ByteArray.empty x60 x62).toList = ([] : List UInt8) then (some true) else (if 0 ≤ (wrap64 (x5 + 1)) then (if (wrap64 (x5 + 1)) ≤ (x0.length : Int) then ((some (x0.take ((wrap64 (x5 + 1)) : Int).toNat : List (S28))).bind fun y192 => (laws_FnTypeRemap.l2 k x0 x1 x5 x62 (rdOf ByteArray.empty x60 x62) x37 x38 x39 x60 x61 x62 y192 (y192.length : Int) 0 x191000 x191001 x191002)) else (none)) else (none))) else (none)) else (none)) else (laws_FnTypeRemap.l0 k x0 x1 x37 x38 (wrap64 (x39 + 1)))
def laws_FnTypeRemap.l2 : Nat → List (S28) → List (S30) → Int → Int → ByteArray → List (S28) → Int → Int → List ByteArray → Int → Int → List (S28) → Int → Int → Int → Int → List ByteArray → Option (Bool)
  | 0, _, _, _, _, _, _, _, _, _, _, _, _, _, _, _, _, _ => none
  | k + 1, x0, x1, x5, x7, x8, x37, x38, x39, x60, x61, x62, x72, x73, x74, x191000, x191001, x191002 => if x74 < x73 then (if 0 ≤ x74 then (if x74 < (x72.length : Int) then (laws_FnTypeRemap.l3 k x0 x1 x5 x7 x8 x74 x37 x38 x39 x60 x61 x62 x72 x73 x74 ((rd_T28 x72 x74).f2) (((rd_T28 x72 x74).f2).length : Int) 0 x191000 x191001 x191002 ((rd_T28 x72 x74).f0) ((rd_T28 x72 x74).f1) ((rd_T28 x72 x74).f2)) else (none)) else (none)) else (laws_FnTypeRemap.l1 k x0 x1 x5 x37 x38 x39 x60 x61 (wrap64 (x62 + 1)) x191000 x191001 x191002)
def laws_FnTypeRemap.l3 : Nat → List (S28) → List (S30) → Int → Int → ByteArray → Int → List (S28) → Int → Int → List ByteArray → Int → Int → List (S28) → Int → Int → List ByteArray → Int → Int → Int → Int → List ByteArray → Int → Int → List ByteArray → Option (Bool)
  | 0, _, _, _, _, _, _, _, _, _, _, _, _, _, _, _, _, _, _, _, _, _, _, _, _ => none
  | k + 1, x0, x1, x5, x7, x8, x9, x37, x38, x39, x60, x61, x62, x72, x73, x74, x80, x81, x82, x191000, x191001, x191002, x198000, x198001, x198002 => if x82 < x81 then (if 0 ≤ x82 then (if x82 < (x80.length : Int) then (if x191000 = x198000 then (if (rdOf ByteArray.empty x80 x82).toList = x8.toList then (if x9 < x5 then (some true) else (if x82 < x7 then (some true) else (laws_FnTypeRemap.l3 k x0 x1 x5 x7 x8 x9 x37 x38 x39 x60 x61 x62 x72 x73 x74 x80 x81 (wrap64 (x82 + 1)) x191000 x191001 x191002 x198000 x198001 x198002))) else (laws_FnTypeRemap.l3 k x0 x1 x5 x7 x8 x9 x37 x38 x39 x60 x61 x62 x72 x73 x74 x80 x81 (wrap64 (x82 + 1)) x191000 x191001 x191002 x198000 x198001 x198002)) else (laws_FnTypeRemap.l3 k x0 x1 x5 x7 x8 x9 x37 x38 x39 x60 x61 x62 x72 x73 x74 x80 x81 (wrap64 (x82 + 1)) x191000 x191001 x191002 x198000 x198001 x198002)) else (none)) else (none)) else (laws_FnTypeRemap.l2 k x0 x1 x5 x7 x8 x37 x38 x39 x60 x61 x62 x72 x73 (wrap64 (x74 + 1)) x191000 x191001 x191002)
def laws_FnTypeRemap.l4 : Nat → List (S28) → List (S30) → List (S30) → List (S30) → Int → Int → Option (Bool)
  | 0, _, _, _, _, _, _ => none
  | k + 1, x0, x1, x13, x111, x112, x113 => if x113 < x112 then (if 0 ≤ x113 then (if x113 < (x111.length : Int) then (laws_FnTypeRemap.l5 k x0 x1 x13 ((rd_T30 x111 x113).f0) x111 x112 x113 x0 (x0.length : Int) 0 ((rd_T30 x111 x113).f0) ((rd_T30 x111 x113).f1)) else (none)) else (none)) else ((impl_TypeRemap.f x0 x1).bind fun t199 => ((laws_same.f k t199 x13).bind fun t202 => (if t202 = true then ((laws_waking.f k).bind fun t203 => (some t203)) else (some false))))
def laws_FnTypeRemap.l5 : Nat → List (S28) → List (S30) → List (S30) → Int → List (S30) → Int → Int → List (S28) → Int → Int → Int → ByteArray → Option (Bool)
  | 0, _, _, _, _, _, _, _, _, _, _, _, _ => none
  | k + 1, x0, x1, x13, x16, x111, x112, x113, x119, x120, x121, x206000, x206001 => if x121 < x120 then (if 0 ≤ x121 then (if x121 < (x119.length : Int) then (laws_FnTypeRemap.l6 k x0 x1 x13 x16 x111 x112 x113 x119 x120 x121 ((rd_T28 x119 x121).f2) (((rd_T28 x119 x121).f2).length : Int) 0 x206000 x206001 ((rd_T28 x119 x121).f0) ((rd_T28 x119 x121).f1) ((rd_T28 x119 x121).f2)) else (none)) else (none)) else (if x13.length < 5864062014805 then (laws_FnTypeRemap.l4 k x0 x1 (x13 ++ [(⟨x16, x206001⟩ : S30)]) x111 x112 (wrap64 (x113 + 1))) else (none))
def laws_FnTypeRemap.l6 : Nat → List (S28) → List (S30) → List (S30) → Int → List (S30) → Int → Int → List (S28) → Int → Int → List ByteArray → Int → Int → Int → ByteArray → Int → Int → List ByteArray → Option (Bool)
  | 0, _, _, _, _, _, _, _, _, _, _, _, _, _, _, _, _, _, _ => none
  | k + 1, x0, x1, x13, x16, x111, x112, x113, x119, x120, x121, x126, x127, x128, x206000, x206001, x211000, x211001, x211002 => if x128 < x127 then (if 0 ≤ x128 then (if x128 < (x126.length : Int) then (if x211000 = x206000 then (if (rdOf ByteArray.empty x126 x128).toList = x206001.toList then (laws_FnTypeRemap.l6 k x0 x1 x13 x211001 x111 x112 x113 x119 x120 x121 x126 x127 (wrap64 (x128 + 1)) x206000 x206001 x211000 x211001 x211002) else (laws_FnTypeRemap.l6 k x0 x1 x13 x16 x111 x112 x113 x119 x120 x121 x126 x127 (wrap64 (x128 + 1)) x206000 x206001 x211000 x211001 x211002)) else (laws_FnTypeRemap.l6 k x0 x1 x13 x16 x111 x112 x113 x119 x120 x121 x126 x127 (wrap64 (x128 + 1)) x206000 x206001 x211000 x211001 x211002)) else (none)) else (none)) else (laws_FnTypeRemap.l5 k x0 x1 x13 x16 x111 x112 x113 x119 x120 (wrap64 (x121 + 1)) x206000 x206001)
end
def laws_FnTypeRemap.f (k : Nat) (l0 : List (S28)) (l1 : List (S30)) : Option (Bool) := (laws_zzFits25.f k l0).bind fun t186 => (if t186 = true then ((laws_zzFits4.f k l1).bind fun t187 => (laws_FnTypeRemap.j0 k l0 l1 (!t187))) else (laws_FnTypeRemap.j0 k l0 l1 true))
theorem laws_FnTypeRemap.mono_l : ∀ k, (∀ y0 y1 y2, LeO (laws_FnTypeRemap.j0 k y0 y1 y2) (laws_FnTypeRemap.j0 (k + 1) y0 y1 y2)) ∧ (∀ y0 y1 y2, LeO (laws_FnTypeRemap.j1 k y0 y1 y2) (laws_FnTypeRemap.j1 (k + 1) y0 y1 y2)) ∧ (∀ y0 y1 y2 y3 y4, LeO (laws_FnTypeRemap.l0 k y0 y1 y2 y3 y4) (laws_FnTypeRemap.l0 (k + 1) y0 y1 y2 y3 y4)) ∧ (∀ y0 y1 y2 y3 y4 y5 y6 y7 y8 y9, LeO (laws_FnTypeRemap.j3 k y0 y1 y2 y3 y4 y5 y6 y7 y8 y9) (laws_FnTypeRemap.j3 (k + 1) y0 y1 y2 y3 y4 y5 y6 y7 y8 y9)) ∧ (∀ y0 y1 y2 y3 y4 y5 y6 y7 y8 y9 y10 y11, LeO (laws_FnTypeRemap.l1 k y0 y1 y2 y3 y4 y5 y6 y7 y8 y9 y10 y11) (laws_FnTypeRemap.l1 (k + 1) y0 y1 y2 y3 y4 y5 y6 y7 y8 y9 y10 y11)) ∧ (∀ y0 y1 y2 y3 y4 y5 y6 y7 y8 y9 y10 y11 y12 y13 y14 y15 y16, LeO (laws_FnTypeRemap.l2 k y0 y1 y2 y3 y4 y5 y6 y7 y8 y9 y10 y11 y12 y13 y14 y15 y16) (laws_FnTypeRemap.l2 (k + 1) y0 y1 y2 y3 y4 y5 y6 y7 y8 y9 y10 y11 y12 y13 y14 y15 y16)) ∧ (∀ y0 y1 y2 y3 y4 y5 y6 y7 y8 y9 y10 y11 y12 y13 y14 y15 y16 y17 y18 y19 y20 y21 y22 y23, LeO (laws_FnTypeRemap.l3 k y0 y1 y2 y3 y4 y5 y6 y7 y8 y9 y10 y11 y12 y13 y14 y15 y16 y17 y18 y19 y20 y21 y22 y23) (laws_FnTypeRemap.l3 (k + 1) y0 y1 y2 y3 y4 y5 y6 y7 y8 y9 y10 y11 y12 y13 y14 y15 y16 y17 y18 y19 y20 y21 y22 y23)) ∧ (∀ y0 y1 y2 y3 y4 y5, LeO (laws_FnTypeRemap.l4 k y0 y1 y2 y3 y4 y5) (laws_FnTypeRemap.l4 (k + 1) y0 y1 y2 y3 y4 y5)) ∧ (∀ y0 y1 y2 y3 y4 y5 y6 y7 y8 y9 y10 y11, LeO (laws_FnTypeRemap.l5 k y0 y1 y2 y3 y4 y5 y6 y7 y8 y9 y10 y11) (laws_FnTypeRemap.l5 (k + 1) y0 y1 y2 y3 y4 y5 y6 y7 y8 y9 y10 y11)) ∧ (∀ y0 y1 y2 y3 y4 y5 y6 y7 y8 y9 y10 y11 y12 y13 y14 y15 y16 y17, LeO (laws_FnTypeRemap.l6 k y0 y1 y2 y3 y4 y5 y6 y7 y8 y9 y10 y11 y12 y13 y14 y15 y16 y17) (laws_FnTypeRemap.l6 (k + 1) y0 y1 y2 y3 y4 y5 y6 y7 y8 y9 y10 y11 y12 y13 y14 y15 y16 y17))
  | 0 => ⟨fun _ _ _ r h => by simp [laws_FnTypeRemap.j0] at h, fun _ _ _ r h => by simp [laws_FnTypeRemap.j1] at h, fun _ _ _ _ _ r h => by simp [laws_FnTypeRemap.l0] at h, fun _ _ _ _ _ _ _ _ _ _ r h => by simp [laws_FnTypeRemap.j3] at h, fun _ _ _ _ _ _ _ _ _ _ _ _ r h => by simp [laws_FnTypeRemap.l1] at h, fun _ _ _ _ _ _ _ _ _ _ _ _ _ _ _ _ _ r h => by simp [laws_FnTypeRemap.l2] at h, fun _ _ _ _ _ _ _ _ _ _ _ _ _ _ _ _ _ _ _ _ _ _ _ _ r h => by simp [laws_FnTypeRemap.l3] at h, fun _ _ _ _ _ _ r h => by simp [laws_FnTypeRemap.l4] at h, fun _ _ _ _ _ _ _ _ _ _ _ _ r h => by simp [laws_FnTypeRemap.l5] at h, fun _ _ _ _ _ _ _ _ _ _ _ _ _ _ _ _ _ _ r h => by simp [laws_FnTypeRemap.l6] at h⟩
  | k + 1 => by
    obtain ⟨ih0, ih1, ih2, ih3, ih4, ih5, ih6, ih7, ih8, ih9⟩ := laws_FnTypeRemap.mono_l k
    refine ⟨?_, ?_, ?_, ?_, ?_, ?_, ?_, ?_, ?_, ?_⟩
    · intro y0 y1 y2
      unfold laws_FnTypeRemap.j0
      repeat' first
      | (with_reducible exact ih0 _ _ _)
      | (with_reducible exact ih1 _ _ _)
      | (with_reducible exact ih2 _ _ _ _ _)
      | (with_reducible exact ih3 _ _ _ _ _ _ _ _ _ _)
      | (with_reducible exact ih4 _ _ _ _ _ _ _ _ _ _ _ _)
      | (with_reducible exact ih5 _ _ _ _ _ _ _ _ _ _ _ _ _ _ _ _ _)
      | (with_reducible exact ih6 _ _ _ _ _ _ _ _ _ _ _ _ _ _ _ _ _ _ _ _ _ _ _ _)
      | (with_reducible exact ih7 _ _ _ _ _ _)
      | (with_reducible exact ih8 _ _ _ _ _ _ _ _ _ _ _ _)
      | (with_reducible exact ih9 _ _ _ _ _ _ _ _ _ _ _ _ _ _ _ _ _ _)
      | (with_reducible exact laws_same.mono _ _ _)
      | (with_reducible exact laws_small.mono _ _)
      | (with_reducible exact laws_waking.mono _)
      | (with_reducible exact laws_zzFits25.mono _ _)
      | (with_reducible exact laws_zzFits4.mono _ _)
      | (with_reducible exact LeO.refl _)
      | (with_reducible exact LeO.none _)
      | (with_reducible refine LeO.ite ?_ ?_)
      | (with_reducible refine LeO.bind ?_ (fun _ => ?_))
      | exact ih0 _ _ _
      | exact ih1 _ _ _
      | exact ih2 _ _ _ _ _
      | exact ih3 _ _ _ _ _ _ _ _ _ _
      | exact ih4 _ _ _ _ _ _ _ _ _ _ _ _
      | exact ih5 _ _ _ _ _ _ _ _ _ _ _ _ _ _ _ _ _
      | exact ih6 _ _ _ _ _ _ _ _ _ _ _ _ _ _ _ _ _ _ _ _ _ _ _ _
      | exact ih7 _ _ _ _ _ _
      | exact ih8 _ _ _ _ _ _ _ _ _ _ _ _
      | exact ih9 _ _ _ _ _ _ _ _ _ _ _ _ _ _ _ _ _ _
      | exact laws_same.mono _ _ _
      | exact laws_small.mono _ _
      | exact laws_waking.mono _
      | exact laws_zzFits25.mono _ _
      | exact laws_zzFits4.mono _ _
      | exact LeO.none _
      | refine LeO.ite ?_ ?_
      | refine LeO.bind ?_ (fun _ => ?_)
    · intro y0 y1 y2
      unfold laws_FnTypeRemap.j1
      repeat' first
      | (with_reducible exact ih0 _ _ _)
      | (with_reducible exact ih1 _ _ _)
      | (with_reducible exact ih2 _ _ _ _ _)
      | (with_reducible exact ih3 _ _ _ _ _ _ _ _ _ _)
      | (with_reducible exact ih4 _ _ _ _ _ _ _ _ _ _ _ _)
      | (with_reducible exact ih5 _ _ _ _ _ _ _ _ _ _ _ _ _ _ _ _ _)
      | (with_reducible exact ih6 _ _ _ _ _ _ _ _ _ _ _ _ _ _ _ _ _ _ _ _ _ _ _ _)
      | (with_reducible exact ih7 _ _ _ _ _ _)
      | (with_reducible exact ih8 _ _ _ _ _ _ _ _ _ _ _ _)
      | (with_reducible exact ih9 _ _ _ _ _ _ _ _ _ _ _ _ _ _ _ _ _ _)
      | (with_reducible exact laws_same.mono _ _ _)
      | (with_reducible exact laws_small.mono _ _)
      | (with_reducible exact laws_waking.mono _)
      | (with_reducible exact laws_zzFits25.mono _ _)
      | (with_reducible exact laws_zzFits4.mono _ _)
      | (with_reducible exact LeO.refl _)
      | (with_reducible exact LeO.none _)
      | (with_reducible refine LeO.ite ?_ ?_)
      | (with_reducible refine LeO.bind ?_ (fun _ => ?_))
      | exact ih0 _ _ _
      | exact ih1 _ _ _
      | exact ih2 _ _ _ _ _
      | exact ih3 _ _ _ _ _ _ _ _ _ _
      | exact ih4 _ _ _ _ _ _ _ _ _ _ _ _
      | exact ih5 _ _ _ _ _ _ _ _ _ _ _ _ _ _ _ _ _
      | exact ih6 _ _ _ _ _ _ _ _ _ _ _ _ _ _ _ _ _ _ _ _ _ _ _ _
      | exact ih7 _ _ _ _ _ _
      | exact ih8 _ _ _ _ _ _ _ _ _ _ _ _
      | exact ih9 _ _ _ _ _ _ _ _ _ _ _ _ _ _ _ _ _ _
      | exact laws_same.mono _ _ _
      | exact laws_small.mono _ _
      | exact laws_waking.mono _
      | exact laws_zzFits25.mono _ _
      | exact laws_zzFits4.mono _ _
      | exact LeO.none _
      | refine LeO.ite ?_ ?_
      | refine LeO.bind ?_ (fun _ => ?_)
    · intro y0 y1 y2 y3 y4
      unfold laws_FnTypeRemap.l0
      repeat' first
      | (with_reducible exact ih0 _ _ _)
      | (with_reducible exact ih1 _ _ _)
      | (with_reducible exact ih2 _ _ _ _ _)
      | (with_reducible exact ih3 _ _ _ _ _ _ _ _ _ _)
      | (with_reducible exact ih4 _ _ _ _ _ _ _ _ _ _ _ _)
      | (with_reducible exact ih5 _ _ _ _ _ _ _ _ _ _ _ _ _ _ _ _ _)
      | (with_reducible exact ih6 _ _ _ _ _ _ _ _ _ _ _ _ _ _ _ _ _ _ _ _ _ _ _ _)
      | (with_reducible exact ih7 _ _ _ _ _ _)
      | (with_reducible exact ih8 _ _ _ _ _ _ _ _ _ _ _ _)
      | (with_reducible exact ih9 _ _ _ _ _ _ _ _ _ _ _ _ _ _ _ _ _ _)
      | (with_reducible exact laws_same.mono _ _ _)
      | (with_reducible exact laws_small.mono _ _)
      | (with_reducible exact laws_waking.mono _)
      | (with_reducible exact laws_zzFits25.mono _ _)
      | (with_reducible exact laws_zzFits4.mono _ _)
      | (with_reducible exact LeO.refl _)
      | (with_reducible exact LeO.none _)
      | (with_reducible refine LeO.ite ?_ ?_)
      | (with_reducible refine LeO.bind ?_ (fun _ => ?_))
      | exact ih0 _ _ _
      | exact ih1 _ _ _
      | exact ih2 _ _ _ _ _
      | exact ih3 _ _ _ _ _ _ _ _ _ _
      | exact ih4 _ _ _ _ _ _ _ _ _ _ _ _
      | exact ih5 _ _ _ _ _ _ _ _ _ _ _ _ _ _ _ _ _
      | exact ih6 _ _ _ _ _ _ _ _ _ _ _ _ _ _ _ _ _ _ _ _ _ _ _ _
      | exact ih7 _ _ _ _ _ _
      | exact ih8 _ _ _ _ _ _ _ _ _ _ _ _
      | exact ih9 _ _ _ _ _ _ _ _ _ _ _ _ _ _ _ _ _ _
      | exact laws_same.mono _ _ _
      | exact laws_small.mono _ _
      | exact laws_waking.mono _
      | exact laws_zzFits25.mono _ _
      | exact laws_zzFits4.mono _ _
      | exact LeO.none _
      | refine LeO.ite ?_ ?_
      | refine LeO.bind ?_ (fun _ => ?_)
    · intro y0 y1 y2 y3 y4 y5 y6 y7 y8 y9
      unfold laws_FnTypeRemap.j3
      repeat' first
      | (with_reducible exact ih0 _ _ _)
      | (with_reducible exact ih1 _ _ _)
      | (with_reducible exact ih2 _ _ _ _ _)
      | (with_reducible exact ih3 _ _ _ _ _ _ _ _ _ _)
      | (with_reducible exact ih4 _ _ _ _ _ _ _ _ _ _ _ _)
      | (with_reducible exact ih5 _ _ _ _ _ _ _ _ _ _ _ _ _ _ _ _ _)
      | (with_reducible exact ih6 _ _ _ _ _ _ _ _ _ _ _ _ _ _ _ _ _ _ _ _ _ _ _ _)
      | (with_reducible exact ih7 _ _ _ _ _ _)
      | (with_reducible exact ih8 _ _ _ _ _ _ _ _ _ _ _ _)
      | (with_reducible exact ih9 _ _ _ _ _ _ _ _ _ _ _ _ _ _ _ _ _ _)
      | (with_reducible exact laws_same.mono _ _ _)
      | (with_reducible exact laws_small.mono _ _)
      | (with_reducible exact laws_waking.mono _)
      | (with_reducible exact laws_zzFits25.mono _ _)
      | (with_reducible exact laws_zzFits4.mono _ _)
      | (with_reducible exact LeO.refl _)
      | (with_reducible exact LeO.none _)
      | (with_reducible refine LeO.ite ?_ ?_)
      | (with_reducible refine LeO.bind ?_ (fun _ => ?_))
      | exact ih0 _ _ _
      | exact ih1 _ _ _
      | exact ih2 _ _ _ _ _
      | exact ih3 _ _ _ _ _ _ _ _ _ _
      | exact ih4 _ _ _ _ _ _ _ _ _ _ _ _
      | exact ih5 _ _ _ _ _ _ _ _ _ _ _ _ _ _ _ _ _
      | exact ih6 _ _ _ _ _ _ _ _ _ _ _ _ _ _ _ _ _ _ _ _ _ _ _ _
      | exact ih7 _ _ _ _ _ _
      | exact ih8 _ _ _ _ _ _ _ _ _ _ _ _
      | exact ih9 _ _ _ _ _ _ _ _ _ _ _ _ _ _ _ _ _ _
      | exact laws_same.mono _ _ _
      | exact laws_small.mono _ _
      | exact laws_waking.mono _
      | exact laws_zzFits25.mono _ _
      | exact laws_zzFits4.mono _ _
      | exact LeO.none _
      | refine LeO.ite ?_ ?_
      | refine LeO.bind ?_ (fun _ => ?_)
    · intro y0 y1 y2 y3 y4 y5 y6 y7 y8 y9 y10 y11
      unfold laws_FnTypeRemap.l1
      repeat' first
      | (with_reducible exact ih0 _ _ _)
      | (with_reducible exact ih1 _ _ _)
      | (with_reducible exact ih2 _ _ _ _ _)
      | (with_reducible exact ih3 _ _ _ _ _ _ _ _ _ _)
      | (with_reducible exact ih4 _ _ _ _ _ _ _ _ _ _ _ _)
      | (with_reducible exact ih5 _ _ _ _ _ _ _ _ _ _ _ _ _ _ _ _ _)
      | (with_reducible exact ih6 _ _ _ _ _ _ _ _ _ _ _ _ _ _ _ _ _ _ _ _ _ _ _ _)
      | (with_reducible exact ih7 _ _ _ _ _ _)
      | (with_reducible exact ih8 _ _ _ _ _ _ _ _ _ _ _ _)
      | (with_reducible exact ih9 _ _ _ _ _ _ _ _ _ _ _ _ _ _ _ _ _ _)
      | (with_reducible exact laws_same.mono _ _ _)
      | (with_reducible exact laws_small.mono _ _)
      | (with_reducible exact laws_waking.mono _)
      | (with_reducible exact laws_zzFits25.mono _ _)
      | (with_reducible exact laws_zzFits4.mono _ _)
      | (with_reducible exact LeO.refl _)
      | (with_reducible exact LeO.none _)
      | (with_reducible refine LeO.ite ?_ ?_)
      | (with_reducible refine LeO.bind ?_ (fun _ => ?_))
      | exact ih0 _ _ _
      | exact ih1 _ _ _
      | exact ih2 _ _ _ _ _
      | exact ih3 _ _ _ _ _ _ _ _ _ _
      | exact ih4 _ _ _ _ _ _ _ _ _ _ _ _
      | exact ih5 _ _ _ _ _ _ _ _ _ _ _ _ _ _ _ _ _
      | exact ih6 _ _ _ _ _ _ _ _ _ _ _ _ _ _ _ _ _ _ _ _ _ _ _ _
      | exact ih7 _ _ _ _ _ _
      | exact ih8 _ _ _ _ _ _ _ _ _ _ _ _
      | exact ih9 _ _ _ _ _ _ _ _ _ _ _ _ _ _ _ _ _ _
      | exact laws_same.mono _ _ _
      | exact laws_small.mono _ _
      | exact laws_waking.mono _
      | exact laws_zzFits25.mono _ _
      | exact laws_zzFits4.mono _ _
      | exact LeO.none _
      | refine LeO.ite ?_ ?_
      | refine LeO.bind ?_ (fun _ => ?_)
    · intro y0 y1 y2 y3 y4 y5 y6 y7 y8 y9 y10 y11 y12 y13 y14 y15 y16
      unfold laws_FnTypeRemap.l2
      repeat' first
      | (with_reducible exact ih0 _ _ _)
      | (with_reducible exact ih1 _ _ _)
      | (with_reducible exact ih2 _ _ _ _ _)
      | (with_reducible exact ih3 _ _ _ _ _ _ _ _ _ _)
      | (with_reducible exact ih4 _ _ _ _ _ _ _ _ _ _ _ _)
      | (with_reducible exact ih5 _ _ _ _ _ _ _ _ _ _ _ _ _ _ _ _ _)
      | (with_reducible exact ih6 _ _ _ _ _ _ _ _ _ _ _ _ _ _ _ _ _ _ _ _ _ _ _ _)
      | (with_reducible exact ih7 _ _ _ _ _ _)
      | (with_reducible exact ih8 _ _ _ _ _ _ _ _ _ _ _ _)
      | (with_reducible exact ih9 _ _ _ _ _ _ _ _ _ _ _ _ _ _ _ _ _ _)
      | (with_reducible exact laws_same.mono _ _ _)
      | (with_reducible exact laws_small.mono _ _)
      | (with_reducible exact laws_waking.mono _)
      | (with_reducible exact laws_zzFits25.mono _ _)
      | (with_reducible exact laws_zzFits4.mono _ _)
      | (with_reducible exact LeO.refl _)
      | (with_reducible exact LeO.none _)
      | (with_reducible refine LeO.ite ?_ ?_)
      | (with_reducible refine LeO.bind ?_ (fun _ => ?_))
      | exact ih0 _ _ _
      | exact ih1 _ _ _
      | exact ih2 _ _ _ _ _
      | exact ih3 _ _ _ _ _ _ _ _ _ _
      | exact ih4 _ _ _ _ _ _ _ _ _ _ _ _
      | exact ih5 _ _ _ _ _ _ _ _ _ _ _ _ _ _ _ _ _
      | exact ih6 _ _ _ _ _ _ _ _ _ _ _ _ _ _ _ _ _ _ _ _ _ _ _ _
      | exact ih7 _ _ _ _ _ _
      | exact ih8 _ _ _ _ _ _ _ _ _ _ _ _
      | exact ih9 _ _ _ _ _ _ _ _ _ _ _ _ _ _ _ _ _ _
      | exact laws_same.mono _ _ _
      | exact laws_small.mono _ _
      | exact laws_waking.mono _
      | exact laws_zzFits25.mono _ _
      | exact laws_zzFits4.mono _ _
      | exact LeO.none _
      | refine LeO.ite ?_ ?_
      | refine LeO.bind ?_ (fun _ => ?_)
    · intro y0 y1 y2 y3 y4 y5 y6 y7 y8 y9 y10 y11 y12 y13 y14 y15 y16 y17 y18 y19 y20 y21 y22 y23
      unfold laws_FnTypeRemap.l3
      repeat' first
      | (with_reducible exact ih0 _ _ _)
      | (with_reducible exact ih1 _ _ _)
      | (with_reducible exact ih2 _ _ _ _ _)
      | (with_reducible exact ih3 _ _ _ _ _ _ _ _ _ _)
      | (with_reducible exact ih4 _ _ _ _ _ _ _ _ _ _ _ _)
      | (with_reducible exact ih5 _ _ _ _ _ _ _ _ _ _ _ _ _ _ _ _ _)
      | (with_reducible exact ih6 _ _ _ _ _ _ _ _ _ _ _ _ _ _ _ _ _ _ _ _ _ _ _ _)
      | (with_reducible exact ih7 _ _ _ _ _ _)
      | (with_reducible exact ih8 _ _ _ _ _ _ _ _ _ _ _ _)
      | (with_reducible exact ih9 _ _ _ _ _ _ _ _ _ _ _ _ _ _ _ _ _ _)
      | (with_reducible exact laws_same.mono _ _ _)
      | (with_reducible exact laws_small.mono _ _)
      | (with_reducible exact laws_waking.mono _)
      | (with_reducible exact laws_zzFits25.mono _ _)
      | (with_reducible exact laws_zzFits4.mono _ _)
      | (with_reducible exact LeO.refl _)
      | (with_reducible exact LeO.none _)
      | (with_reducible refine LeO.ite ?_ ?_)
      | (with_reducible refine LeO.bind ?_ (fun _ => ?_))
      | exact ih0 _ _ _
      | exact ih1 _ _ _
      | exact ih2 _ _ _ _ _
      | exact ih3 _ _ _ _ _ _ _ _ _ _
      | exact ih4 _ _ _ _ _ _ _ _ _ _ _ _
      | exact ih5 _ _ _ _ _ _ _ _ _ _ _ _ _ _ _ _ _
      | exact ih6 _ _ _ _ _ _ _ _ _ _ _ _ _ _ _ _ _ _ _ _ _ _ _ _
      | exact ih7 _ _ _ _ _ _
      | exact ih8 _ _ _ _ _ _ _ _ _ _ _ _
      | exact ih9 _ _ _ _ _ _ _ _ _ _ _ _ _ _ _ _ _ _
      | exact laws_same.mono _ _ _
      | exact laws_small.mono _ _
      | exact laws_waking.mono _
      | exact laws_zzFits25.mono _ _
      | exact laws_zzFits4.mono _ _
      | exact LeO.none _
      | refine LeO.ite ?_ ?_
      | refine LeO.bind ?_ (fun _ => ?_)
    · intro y0 y1 y2 y3 y4 y5
      unfold laws_FnTypeRemap.l4
      repeat' first
      | (with_reducible exact ih0 _ _ _)
      | (with_reducible exact ih1 _ _ _)
      | (with_reducible exact ih2 _ _ _ _ _)
      | (with_reducible exact ih3 _ _ _ _ _ _ _ _ _ _)
      | (with_reducible exact ih4 _ _ _ _ _ _ _ _ _ _ _ _)
      | (with_reducible exact ih5 _ _ _ _ _ _ _ _ _ _ _ _ _ _ _ _ _)
      | (with_reducible exact ih6 _ _ _ _ _ _ _ _ _ _ _ _ _ _ _ _ _ _ _ _ _ _ _ _)
      | (with_reducible exact ih7 _ _ _ _ _ _)
      | (with_reducible exact ih8 _ _ _ _ _ _ _ _ _ _ _ _)
      | (with_reducible exact ih9 _ _ _ _ _ _ _ _ _ _ _ _ _ _ _ _ _ _)
      | (with_reducible exact laws_same.mono _ _ _)
      | (with_reducible exact laws_small.mono _ _)
      | (with_reducible exact laws_waking.mono _)
      | (with_reducible exact laws_zzFits25.mono _ _)
      | (with_reducible exact laws_zzFits4.mono _ _)
      | (with_reducible exact LeO.refl _)
      | (with_reducible exact LeO.none _)
      | (with_reducible refine LeO.ite ?_ ?_)
      | (with_reducible refine LeO.bind ?_ (fun _ => ?_))
      | exact ih0 _ _ _
      | exact ih1 _ _ _
      | exact ih2 _ _ _ _ _
      | exact ih3 _ _ _ _ _ _ _ _ _ _
      | exact ih4 _ _ _ _ _ _ _ _ _ _ _ _
      | exact ih5 _ _ _ _ _ _ _ _ _ _ _ _ _ _ _ _ _
      | exact ih6 _ _ _ _ _ _ _ _ _ _ _ _ _ _ _ _ _ _ _ _ _ _ _ _
      | exact ih7 _ _ _ _ _ _
      | exact ih8 _ _ _ _ _ _ _ _ _ _ _ _
      | exact ih9 _ _ _ _ _ _ _ _ _ _ _ _ _ _ _ _ _ _
      | exact laws_same.mono _ _ _
      | exact laws_small.mono _ _
      | exact laws_waking.mono _
      | exact laws_zzFits25.mono _ _
      | exact laws_zzFits4.mono _ _
      | exact LeO.none _
      | refine LeO.ite ?_ ?_
      | refine LeO.bind ?_ (fun _ => ?_)
    · intro y0 y1 y2 y3 y4 y5 y6 y7 y8 y9 y10 y11
      unfold laws_FnTypeRemap.l5
      repeat' first
      | (with_reducible exact ih0 _ _ _)
      | (with_reducible exact ih1 _ _ _)
      | (with_reducible exact ih2 _ _ _ _ _)
      | (with_reducible exact ih3 _ _ _ _ _ _ _ _ _ _)
      | (with_reducible exact ih4 _ _ _ _ _ _ _ _ _ _ _ _)
      | (with_reducible exact ih5 _ _ _ _ _ _ _ _ _ _ _ _ _ _ _ _ _)
      | (with_reducible exact ih6 _ _ _ _ _ _ _ _ _ _ _ _ _ _ _ _ _ _ _ _ _ _ _ _)
      | (with_reducible exact ih7 _ _ _ _ _ _)
      | (with_reducible exact ih8 _ _ _ _ _ _ _ _ _ _ _ _)
      | (with_reducible exact ih9 _ _ _ _ _ _ _ _ _ _ _ _ _ _ _ _ _ _)
      | (with_reducible exact laws_same.mono _ _ _)
      | (with_reducible exact laws_small.mono _ _)
      | (with_reducible exact laws_waking.mono _)
      | (with_reducible exact laws_zzFits25.mono _ _)
      | (with_reducible exact laws_zzFits4.mono _ _)
      | (with_reducible exact LeO.refl _)
      | (with_reducible exact LeO.none _)
      | (with_reducible refine LeO.ite ?_ ?_)
      | (with_reducible refine LeO.bind ?_ (fun _ => ?_))
      | exact ih0 _ _ _
      | exact ih1 _ _ _
      | exact ih2 _ _ _ _ _
      | exact ih3 _ _ _ _ _ _ _ _ _ _
      | exact ih4 _ _ _ _ _ _ _ _ _ _ _ _
      | exact ih5 _ _ _ _ _ _ _ _ _ _ _ _ _ _ _ _ _
      | exact ih6 _ _ _ _ _ _ _ _ _ _ _ _ _ _ _ _ _ _ _ _ _ _ _ _
      | exact ih7 _ _ _ _ _ _
      | exact ih8 _ _ _ _ _ _ _ _ _ _ _ _
      | exact ih9 _ _ _ _ _ _ _ _ _ _ _ _ _ _ _ _ _ _
      | exact laws_same.mono _ _ _
      | exact laws_small.mono _ _
      | exact laws_waking.mono _
      | exact laws_zzFits25.mono _ _
      | exact laws_zzFits4.mono _ _
      | exact LeO.none _
      | refine LeO.ite ?_ ?_
      | refine LeO.bind ?_ (fun _ => ?_)
    · intro y0 y1 y2 y3 y4 y5 y6 y7 y8 y9 y10 y11 y12 y13 y14 y15 y16 y17
      unfold laws_FnTypeRemap.l6
      repeat' first
      | (with_reducible exact ih0 _ _ _)
      | (with_reducible exact ih1 _ _ _)
      | (with_reducible exact ih2 _ _ _ _ _)
      | (with_reducible exact ih3 _ _ _ _ _ _ _ _ _ _)
      | (with_reducible exact ih4 _ _ _ _ _ _ _ _ _ _ _ _)
      | (with_reducible exact ih5 _ _ _ _ _ _ _ _ _ _ _ _ _ _ _ _ _)
      | (with_reducible exact ih6 _ _ _ _ _ _ _ _ _ _ _ _ _ _ _ _ _ _ _ _ _ _ _ _)
      | (with_reducible exact ih7 _ _ _ _ _ _)
      | (with_reducible exact ih8 _ _ _ _ _ _ _ _ _ _ _ _)
      | (with_reducible exact ih9 _ _ _ _ _ _ _ _ _ _ _ _ _ _ _ _ _ _)
      | (with_reducible exact laws_same.mono _ _ _)
      | (with_reducible exact laws_small.mono _ _)
      | (with_reducible exact laws_waking.mono _)
      | (with_reducible exact laws_zzFits25.mono _ _)
      | (with_reducible exact laws_zzFits4.mono _ _)
      | (with_reducible exact LeO.refl _)
      | (with_reducible exact LeO.none _)
      | (with_reducible refine LeO.ite ?_ ?_)
      | (with_reducible refine LeO.bind ?_ (fun _ => ?_))
      | exact ih0 _ _ _
      | exact ih1 _ _ _
      | exact ih2 _ _ _ _ _
      | exact ih3 _ _ _ _ _ _ _ _ _ _
      | exact ih4 _ _ _ _ _ _ _ _ _ _ _ _
      | exact ih5 _ _ _ _ _ _ _ _ _ _ _ _ _ _ _ _ _
      | exact ih6 _ _ _ _ _ _ _ _ _ _ _ _ _ _ _ _ _ _ _ _ _ _ _ _
      | exact ih7 _ _ _ _ _ _
      | exact ih8 _ _ _ _ _ _ _ _ _ _ _ _
      | exact ih9 _ _ _ _ _ _ _ _ _ _ _ _ _ _ _ _ _ _
      | exact laws_same.mono _ _ _
      | exact laws_small.mono _ _
      | exact laws_waking.mono _
      | exact laws_zzFits25.mono _ _
      | exact laws_zzFits4.mono _ _
      | exact LeO.none _
      | refine LeO.ite ?_ ?_
      | refine LeO.bind ?_ (fun _ => ?_)
theorem laws_FnTypeRemap.mono : ∀ a0 a1 k, LeO (laws_FnTypeRemap.f k a0 a1) (laws_FnTypeRemap.f (k + 1) a0 a1) := by
  intro a0 a1 k
  obtain ⟨ih0, ih1, ih2, ih3, ih4, ih5, ih6, ih7, ih8, ih9⟩ := laws_FnTypeRemap.mono_l k
  unfold laws_FnTypeRemap.f
  repeat' first
      | (with_reducible exact ih0 _ _ _)
      | (with_reducible exact ih1 _ _ _)
      | (with_reducible exact ih2 _ _ _ _ _)
      | (with_reducible exact ih3 _ _ _ _ _ _ _ _ _ _)
      | (with_reducible exact ih4 _ _ _ _ _ _ _ _ _ _ _ _)
      | (with_reducible exact ih5 _ _ _ _ _ _ _ _ _ _ _ _ _ _ _ _ _)
      | (with_reducible exact ih6 _ _ _ _ _ _ _ _ _ _ _ _ _ _ _ _ _ _ _ _ _ _ _ _)
      | (with_reducible exact ih7 _ _ _ _ _ _)
      | (with_reducible exact ih8 _ _ _ _ _ _ _ _ _ _ _ _)
      | (with_reducible exact ih9 _ _ _ _ _ _ _ _ _ _ _ _ _ _ _ _ _ _)
      | (with_reducible exact laws_same.mono _ _ _)
      | (with_reducible exact laws_small.mono _ _)
      | (with_reducible exact laws_waking.mono _)
      | (with_reducible exact laws_zzFits25.mono _ _)
      | (with_reducible exact laws_zzFits4.mono _ _)
      | (with_reducible exact LeO.refl _)
      | (with_reducible exact LeO.none _)
      | (with_reducible refine LeO.ite ?_ ?_)
      | (with_reducible refine LeO.bind ?_ (fun _ => ?_))
      | exact ih0 _ _ _
      | exact ih1 _ _ _
      | exact ih2 _ _ _ _ _
      | exact ih3 _ _ _ _ _ _ _ _ _ _
      | exact ih4 _ _ _ _ _ _ _ _ _ _ _ _
      | exact ih5 _ _ _ _ _ _ _ _ _ _ _ _ _ _ _ _ _
      | exact ih6 _ _ _ _ _ _ _ _ _ _ _ _ _ _ _ _ _ _ _ _ _ _ _ _
      | exact ih7 _ _ _ _ _ _
      | exact ih8 _ _ _ _ _ _ _ _ _ _ _ _
      | exact ih9 _ _ _ _ _ _ _ _ _ _ _ _ _ _ _ _ _ _
      | exact laws_same.mono _ _ _
      | exact laws_small.mono _ _
      | exact laws_waking.mono _
      | exact laws_zzFits25.mono _ _
      | exact laws_zzFits4.mono _ _
      | exact LeO.none _
      | refine LeO.ite ?_ ?_
      | refine LeO.bind ?_ (fun _ => ?_)
set_option maxHeartbeats 8000000 in
set_option maxRecDepth 100000 in
theorem laws_FnTypeRemap.calls (k : Nat) (A0 : Option Addr) (c0 : Nat) (l0 : List (S28)) (A1 : Option Addr) (c1 : Nat) (l1 : List (S30)) (r : Bool) (w : World) (hr0 : Kd.C k28 w A0 l0.length l0) (hc0 : l0.length ≤ c0) (hr1 : Kd.C k30 w A1 l1.length l1) (hc1 : l1.length ≤ c1) (hV : Go.Proofs.YtchkijfnhhldfaaDoorFmt.VarsOK w) (h : laws_FnTypeRemap.f k l0 l1 = some r) :
    Calls Tryd.prog 3 #[.slice A0 l0.length c0, .slice A1 l1.length c1] w fun e w' => e = .returned (.bool r) ∧ Below w.heap.size w w' := by
  have hu28 := Tryd.underlying28
  have hu30 := Tryd.underlying30
  have HR0 := Aside0.mk hr0
  have HC0 := Aside0.mk hc0
  clear hr0 hc0
  have HR1 := Aside0.mk hr1
  have HC1 := Aside0.mk hc1
  clear hr1 hc1
  have HB := Aside0.mk (Below.refl w.heap.size w)
  have HV := Aside0.mk hV
  clear hV
  have H : ((laws_zzFits25.f k l0).bind fun t186 => (if t186 = true then ((laws_zzFits4.f k l1).bind fun t187 => (laws_FnTypeRemap.j0 k l0 l1 (!t187))) else (laws_FnTypeRemap.j0 k l0 l1 true))) = some r := h
  clear h
  have HC3 := Aside0.mk H
  clear H
  go_enter Tryd.func3, Tryd.ntmps3
  go_upto_region 1 with (fail)
  go_cut [28] (fun v28 wc => ∃ (kq : Nat) (x28_2 : Bool), v28 = .bool x28_2 ∧ Aside0 (laws_FnTypeRemap.j0 kq l0 l1 x28_2 = some r) ∧ Aside0 (kq ≤ k) ∧ Aside0 (Below w.heap.size w wc))
  case first =>
    have H := HC3.out
    clear HC3
    replace H := Option.bind_eq_some_iff.mp H
    obtain ⟨t186, A40, H⟩ := H
    replace H : (if t186 = true then ((laws_zzFits4.f k l1).bind fun t187 => (laws_FnTypeRemap.j0 k l0 l1 (!t187))) else (laws_FnTypeRemap.j0 k l0 l1 true)) = some r := H
    have A4 := Aside0.mk A40
    clear A40
    by_cases c5 : t186 = true
    · subst c5
      have H1 : ((laws_zzFits4.f k l1).bind fun t187 => (laws_FnTypeRemap.j0 k l0 l1 (!t187))) = some r := by rw [if_pos rfl] at H; exact H
      clear H
      have H := H1
      clear H1
      replace H := Option.bind_eq_some_iff.mp H
      obtain ⟨t187, A60, H⟩ := H
      replace H : (laws_FnTypeRemap.j0 k l0 l1 (!t187)) = some r := H
      have A6 := Aside0.mk A60
      clear A60
      have H' := Aside0.mk H
      clear H
      go_wp2_with (first | ((with_reducible refine gate_callee (f := 4) rfl ?_); refine goesL_ (some 22) rfl rfl Tryd.func4 (by kernel_rfl) rfl #[.slice A0 l0.length c0] rfl (by (try simp only [List.map_toArray, List.map_cons, List.map_nil]); first | done | rfl | (simp only [List.length_drop, List.length_take]; rfl)) ?_; (with_reducible refine (laws_zzFits25.calls k _ _ l0 true _ ?side1 ?side2 A4.out).mono ?_); (case side1 => repeat (first | exact (Kd.C_below HR0.out HB.out) | (with_reducible refine Kd.C_alloc ?_ _) | (with_reducible refine Kd.C_drewN ?_ _) | (with_reducible refine Kd.C_drew ?_))); (case side2 => exact HC0.out); rintro e w7 ⟨rfl, hb⟩; refine ⟨_, rfl, ?_⟩; have n0_ := Aside0.mk (below_step (by repeat (first | (with_reducible first | exact HB.out | apply below_alloc | apply pw_below_drewN | apply below_drew1) | exact HB.out)) hb); clear HB; have HB := n0_; clear n0_; (try clear hb); (try clear hb2); (try clear hk); (try clear hi)) | (go_at_call 5; (with_reducible refine (laws_zzFits4.calls k _ _ l1 t187 _ ?side1 ?side2 A6.out).mono ?_); (case side1 => repeat (first | exact (Kd.C_below HR1.out HB.out) | (with_reducible refine Kd.C_alloc ?_ _) | (with_reducible refine Kd.C_drewN ?_ _) | (with_reducible refine Kd.C_drew ?_))); (case side2 => exact HC1.out); rintro e w8 ⟨rfl, hb⟩; have n0_ := Aside0.mk (below_step (by repeat (first | (with_reducible first | exact HB.out | apply below_alloc | apply pw_below_drewN | apply below_drew1) | exact HB.out)) hb); clear HB; have HB := n0_; clear n0_; (try clear hb); (try clear hb2); (try clear hk); (try clear hi)))
      go_meet
      case rel => exact ⟨_, (!t187), (by first | rfl | (simp; done) | (simp [*]; done)), H', ⟨by first | omega | exact Nat.le_refl _⟩, ⟨by repeat (first | (with_reducible first | exact HB.out | apply below_alloc | apply pw_below_drewN | apply below_drew1) | exact HB.out)⟩⟩
    · replace c5 := Bool.eq_false_iff.mpr c5
      subst c5
      have H1 : (laws_FnTypeRemap.j0 k l0 l1 true) = some r := by rw [if_neg (show ¬ (false = true) by decide)] at H; exact H
      clear H
      have H := H1
      clear H1
      have H' := Aside0.mk H
      clear H
      go_wp2_with (first | ((with_reducible refine gate_callee (f := 4) rfl ?_); refine goesL_ (some 22) rfl rfl Tryd.func4 (by kernel_rfl) rfl #[.slice A0 l0.length c0] rfl (by (try simp only [List.map_toArray, List.map_cons, List.map_nil]); first | done | rfl | (simp only [List.length_drop, List.length_take]; rfl)) ?_; (with_reducible refine (laws_zzFits25.calls k _ _ l0 false _ ?side1 ?side2 A4.out).mono ?_); (case side1 => repeat (first | exact (Kd.C_below HR0.out HB.out) | (with_reducible refine Kd.C_alloc ?_ _) | (with_reducible refine Kd.C_drewN ?_ _) | (with_reducible refine Kd.C_drew ?_))); (case side2 => exact HC0.out); rintro e w9 ⟨rfl, hb⟩; refine ⟨_, rfl, ?_⟩; have n0_ := Aside0.mk (below_step (by repeat (first | (with_reducible first | exact HB.out | apply below_alloc | apply pw_below_drewN | apply below_drew1) | exact HB.out)) hb); clear HB; have HB := n0_; clear n0_; (try clear hb); (try clear hb2); (try clear hk); (try clear hi)))
      go_meet
      case rel => exact ⟨_, (true), (by first | rfl | (simp; done) | (simp [*]; done)), H', ⟨by first | omega | exact Nat.le_refl _⟩, ⟨by repeat (first | (with_reducible first | exact HB.out | apply below_alloc | apply pw_below_drewN | apply below_drew1) | exact HB.out)⟩⟩
  case rest =>
    clear HC3
    try clear c1
    try clear p2
    try clear c3
    try clear c4
    try clear c5
    obtain ⟨kq, x28_2, rfl, HA, HJ2, HB⟩ := hcut
    cases kq with
    | zero => exact absurd HA.out (by simp [laws_FnTypeRemap.j0])
    | succ kj2 =>
      have H := HA.out
      clear HA
      simp only [laws_FnTypeRemap.j0] at H
      by_cases c10 : x28_2 = true
      · subst c10
        have H1 : (some true) = some r := by rw [if_pos rfl] at H; exact H
        clear H
        have H := H1
        clear H1
        obtain rfl := Option.some.inj H
        go_wp2
        go_ret
        exact ⟨by first | rfl | (simp [errW_none, errW_some] <;> rfl) | (simp [*, errW_none, errW_some] <;> rfl), by repeat (first | (with_reducible first | exact HB.out | apply below_alloc | apply pw_below_drewN | apply below_drew1) | exact HB.out)⟩
      · replace c10 := Bool.eq_false_iff.mpr c10
        subst c10
        have H1 : (if (l0.length : Int) > 10 then (laws_FnTypeRemap.j1 kj2 l0 l1 true) else ((laws_small.f kj2 l1).bind fun t188 => (laws_FnTypeRemap.j1 kj2 l0 l1 (!t188)))) = some r := by rw [if_neg (show ¬ (false = true) by decide)] at H; exact H
        clear H
        have H := H1
        clear H1
        have HC11 := Aside0.mk H
        clear H
        go_upto_region 3 with (fail)
        go_cut [36] (fun v36 wc => ∃ (kq : Nat) (x36_10 : Bool), v36 = .bool x36_10 ∧ Aside0 (laws_FnTypeRemap.j1 kq l0 l1 x36_10 = some r) ∧ Aside0 (kq ≤ kj2) ∧ Aside0 (Below w.heap.size w wc))
        case first =>
          have H := HC11.out
          clear HC11
          by_cases c12 : (l0.length : Int) > 10
          · rw [if_pos c12] at H
            have c12b0 : decide (10 < (l0.length : Int)) = true := decide_eq_true c12
            have c12b1 : decide (10 < l0.length) = true := decide_eq_true (by omega)
            clear c12
            (try (have c12b2 := c12b0; simp only [ByteArray.size_extract, Nat.min_self] at c12b2)); (first | rw [c12b0] | (simp only [i64_w, i32_w]; rw [c12b0]) | rw [c12b1] | skip)
            have H' := Aside0.mk H
            clear H
            go_wp2
            go_meet
            case rel => exact ⟨_, (true), (by first | rfl | (simp; done) | (simp [*]; done)), H', ⟨by have := HJ2.out; first | omega | exact Nat.le_refl _⟩, ⟨by repeat (first | (with_reducible first | exact HB.out | apply below_alloc | apply pw_below_drewN | apply below_drew1) | exact HB.out)⟩⟩
          · rw [if_neg c12] at H
            have c12b0 : decide (10 < (l0.length : Int)) = false := decide_eq_false c12
            have c12b1 : decide (10 < l0.length) = false := decide_eq_false (by omega)
            clear c12
            (try (have c12b2 := c12b0; simp only [ByteArray.size_extract, Nat.min_self] at c12b2)); (first | rw [c12b0] | (simp only [i64_w, i32_w]; rw [c12b0]) | rw [c12b1] | skip)
            replace H := Option.bind_eq_some_iff.mp H
            obtain ⟨t188, A130, H⟩ := H
            replace H : (laws_FnTypeRemap.j1 kj2 l0 l1 (!t188)) = some r := H
            have A13 := Aside0.mk A130
            clear A130
            have H' := Aside0.mk H
            clear H
            go_wp2_with (first | (go_at_call 6; (with_reducible refine (laws_small.calls kj2 _ _ l1 t188 _ ?side1 ?side2 A13.out).mono ?_); (case side1 => repeat (first | exact (Kd.C_below HR1.out HB.out) | (with_reducible refine Kd.C_alloc ?_ _) | (with_reducible refine Kd.C_drewN ?_ _) | (with_reducible refine Kd.C_drew ?_))); (case side2 => exact HC1.out); rintro e w14 ⟨rfl, hb⟩; have n0_ := Aside0.mk (below_step (by repeat (first | (with_reducible first | exact HB.out | apply below_alloc | apply pw_below_drewN | apply below_drew1) | exact HB.out)) hb); clear HB; have HB := n0_; clear n0_; (try clear hb); (try clear hb2); (try clear hk); (try clear hi)))
            go_meet
            case rel => exact ⟨_, (!t188), (by first | rfl | (simp; done) | (simp [*]; done)), H', ⟨by have := HJ2.out; first | omega | exact Nat.le_refl _⟩, ⟨by repeat (first | (with_reducible first | exact HB.out | apply below_alloc | apply pw_below_drewN | apply below_drew1) | exact HB.out)⟩⟩
        case rest =>
          clear HC11
          try clear c1
          try clear p2
          try clear c3
          try clear c4
          try clear c5
          try clear c10
          try clear c12
          try clear c12b0
          try clear c12b1
          try clear c12b2
          try clear p2
          obtain ⟨kq, x36_10, rfl, HA, HJ10, HB⟩ := hcut
          cases kq with
          | zero => exact absurd HA.out (by simp [laws_FnTypeRemap.j1])
          | succ kj10 =>
            have H := HA.out
            clear HA
            simp only [laws_FnTypeRemap.j1] at H
            by_cases c15 : x36_10 = true
            · subst c15
              have H1 : (some true) = some r := by rw [if_pos rfl] at H; exact H
              clear H
              have H := H1
              clear H1
              obtain rfl := Option.some.inj H
              go_wp2
              go_ret
              exact ⟨by first | rfl | (simp [errW_none, errW_some] <;> rfl) | (simp [*, errW_none, errW_some] <;> rfl), by repeat (first | (with_reducible first | exact HB.out | apply below_alloc | apply pw_below_drewN | apply below_drew1) | exact HB.out)⟩
            · replace c15 := Bool.eq_false_iff.mpr c15
              subst c15
              have H1 : (laws_FnTypeRemap.l0 kj10 l0 l1 l0 (l0.length : Int) 0) = some r := by rw [if_neg (show ¬ (false = true) by decide)] at H; exact H
              clear H
              have H := H1
              clear H1
              have H' := Aside0.mk H
              clear H
              go_wp2
              go_loopg [39] kj10 (fun kq v39 w' => ∃ (x39_3 : Int), v39 = .int .i64 x39_3 ∧ Aside0 (laws_FnTypeRemap.l0 kq l0 l1 l0 (l0.length : Int) x39_3 = some r) ∧ Aside0 (kq ≤ kj10) ∧ Aside0 (Below w.heap.size w w'))
              case atStart => exact ⟨(0), (by first | rfl | (simp; done) | (simp [*]; done)), H', ⟨Nat.le_refl _⟩, ⟨by repeat (first | (with_reducible first | exact HB.out | apply below_alloc | apply pw_below_drewN | apply below_drew1) | exact HB.out)⟩⟩
              case round =>
                clear H'
                try clear c1
                try clear p2
                try clear c3
                try clear c4
                try clear c5
                try clear c10
                try clear c12
                try clear c12b0
                try clear c12b1
                try clear c12b2
                try clear c15
                try clear p2
                obtain ⟨x39_3, rfl, HA, HK3, HB⟩ := hrel
                cases gk with
                | zero => exact absurd HA.out (by simp [laws_FnTypeRemap.l0])
                | succ k3 =>
                  have H := HA.out
                  clear HA
                  simp only [laws_FnTypeRemap.l0] at H
                  by_cases c16 : x39_3 < (l0.length : Int)
                  · rw [if_pos c16] at H
                    have c16b0 : decide (x39_3 < (l0.length : Int)) = true := decide_eq_true c16
                    clear c16
                    by_cases c17 : 0 ≤ x39_3
                    · rw [if_pos c17] at H
                      have c17b0 : decide (0 ≤ x39_3) = true := decide_eq_true c17
                      clear c17
                      by_cases c18 : x39_3 < (l0.length : Int)
                      · rw [if_pos c18] at H
                        have c18b0 : decide (x39_3 < (l0.length : Int)) = true := decide_eq_true c18
                        clear c18
                        have HC19 := Aside0.mk H
                        clear H
                        have p189 : 0 ≤ (x39_3 : Int) := of_decide_eq_true (by first | (with_reducible assumption) | assumption)
                        have q189 : x39_3 < (l0.length : Int) := of_decide_eq_true (by first | (with_reducible assumption) | assumption)
                        obtain ⟨ad189, A189_2, c189_2, e189, hx189_0, hx189_1, hx189_2, hl189_2, hi189_2⟩ := at_T28 HR0.out x39_3 p189 q189
                        cases e189
                        replace hx189_0 := (HB.out.cell (World.block_lt_of_cell? w _ hx189_0)).trans hx189_0
                        replace hx189_1 := (HB.out.cell (World.block_lt_of_cell? w _ hx189_1)).trans hx189_1
                        replace hx189_2 := (HB.out.cell (World.block_lt_of_cell? w _ hx189_2)).trans hx189_2
                        have HR189_2 := Aside0.mk hi189_2
                        have HC189_2 := Aside0.mk hl189_2
                        clear hi189_2 hl189_2
                        replace p189 := eq_true p189
                        replace q189 := eq_true q189
                        go_upto_region 8 with (first | ((with_reducible refine gate_dst (N := 6) rfl ?_); (try (refine gate_guard (by rfl) ?_; dsimp only)); refine box_event ?hg (N := 6) ?hd (cs := #[.int .i64 0, .int .i64 0, .slice none 0 0]) (t := 28) ?hr ?_; (case hd => rfl); (case hg => rfl); (case hr => first | (go_simp; done) | (go_simp; rfl)); intro gb190 hg w20 hbox hb; have n0_ := Aside0.mk (below_step (by repeat (first | (with_reducible first | exact HB.out | apply below_alloc | apply pw_below_drewN | apply below_drew1) | exact HB.out)) hb); have n1_ := Aside0.mk (hbox); have n2_ := Aside0.mk ((by rw [hg]; exact (below_size (by repeat (first | (with_reducible first | exact HB.out | apply below_alloc | apply pw_below_drewN | apply below_drew1) | exact HB.out))) : w.heap.size ≤ gb190)); have n3_ := Aside0.mk ((by rw [hg]; exact (below_size (by repeat (first | (with_reducible first | exact HB.out | apply below_alloc | apply pw_below_drewN | apply below_drew1) | exact HB.out))) : w.heap.size ≤ gb190)); clear HB; have HB := n0_; have BK190 := n1_; have GW190 := n2_; have GE190 := n3_; clear n0_ n1_ n2_ n3_; clear hb hbox hg; have hcz21_0 : w20.cell? ⟨gb190, 0, none⟩ = some (.int .i64 0) := (blk_cell BK190.out 0).trans rfl; have hcz21_1 : w20.cell? ⟨gb190, 1, none⟩ = some (.int .i64 0) := (blk_cell BK190.out 1).trans rfl; have hcz21_2 : w20.cell? ⟨gb190, 2, none⟩ = some (.slice none 0 0) := (blk_cell BK190.out 2).trans rfl; have hfz21_0 := blk_frozen BK190.out 0; have hfz21_1 := blk_frozen BK190.out 1; have hfz21_2 := blk_frozen BK190.out 2))
                        (try simp only [Act.put, List.setIfInBounds_toArray, List.set_cons_zero, List.set_cons_succ])
                        go_cut [58] (fun v58 wc => ∃ (kq : Nat) (x58_18 : Bool), v58 = .bool x58_18 ∧ Aside0 (laws_FnTypeRemap.j3 kq l0 l1 x39_3 l0 (l0.length : Int) x39_3 x58_18 ((rd_T28 l0 x39_3).f0) ((rd_T28 l0 x39_3).f1) ((rd_T28 l0 x39_3).f2) = some r) ∧ Aside0 (kq ≤ k3) ∧ Aside0 (wc.heap[gb190]? = some (.cells #[.int .i64 ((rd_T28 l0 x39_3).f0), .int .i64 ((rd_T28 l0 x39_3).f1), (.slice A189_2 ((rd_T28 l0 x39_3).f2).length c189_2)] 28 (0, 0))) ∧ Aside0 (Below w.heap.size w wc))
                        case first =>
                          have H := HC19.out
                          clear HC19
                          by_cases c22 : (((rd_T28 l0 x39_3).f2).length : Int) < 1
                          · rw [if_pos c22] at H
                            have c22b0 : decide ((((rd_T28 l0 x39_3).f2).length : Int) < 1) = true := decide_eq_true c22
                            have c22b1 : decide (((rd_T28 l0 x39_3).f2).length < 1) = true := decide_eq_true (by omega)
                            clear c22
                            (try (have c22b2 := c22b0; simp only [ByteArray.size_extract, Nat.min_self] at c22b2)); (first | rw [c22b0] | (simp only [i64_w, i32_w]; rw [c22b0]) | rw [c22b1] | skip)
                            have H' := Aside0.mk H
                            clear H
                            have hcz23_0 : w20.cell? ⟨gb190, 0, none⟩ = some (.int .i64 0) := (blk_cell BK190.out 0).trans rfl
                            have hcz23_1 : w20.cell? ⟨gb190, 1, none⟩ = some (.int .i64 0) := (blk_cell BK190.out 1).trans rfl
                            have hcz23_2 : w20.cell? ⟨gb190, 2, none⟩ = some (.slice none 0 0) := (blk_cell BK190.out 2).trans rfl
                            have hfz23_0 := blk_frozen BK190.out 0
                            have hfz23_1 := blk_frozen BK190.out 1
                            have hfz23_2 := blk_frozen BK190.out 2
                            go_wp2
                            go_meet
                            case rel => exact ⟨_, (true), (by first | rfl | (simp; done) | (simp [*]; done)), H', ⟨by have := HJ2.out; have := HJ10.out; have := HK3.out; first | omega | exact Nat.le_refl _⟩, ⟨by (with_reducible repeat (first | refine blk_drewN ?_ _ | refine blk_drew ?_ | refine blk_alloc ?_ _)); refine blk_put (cs := #[.int .i64 ((rd_T28 l0 x39_3).f0), .int .i64 ((rd_T28 l0 x39_3).f1), .slice none 0 0]) ?_ 2 _ rfl; (with_reducible repeat (first | refine blk_drewN ?_ _ | refine blk_drew ?_ | refine blk_alloc ?_ _)); refine blk_put (cs := #[.int .i64 ((rd_T28 l0 x39_3).f0), .int .i64 0, .slice none 0 0]) ?_ 1 _ rfl; (with_reducible repeat (first | refine blk_drewN ?_ _ | refine blk_drew ?_ | refine blk_alloc ?_ _)); refine blk_put (cs := #[.int .i64 0, .int .i64 0, .slice none 0 0]) ?_ 0 _ rfl; (with_reducible repeat (first | refine blk_drewN ?_ _ | refine blk_drew ?_ | refine blk_alloc ?_ _)); exact BK190.out⟩, ⟨by repeat (first | (with_reducible first | exact HB.out | apply below_alloc | apply pw_below_drewN | apply below_drew1 | refine below_set ?_ GE190.out) | exact HB.out)⟩⟩
                          · rw [if_neg c22] at H
                            have c22b0 : decide ((((rd_T28 l0 x39_3).f2).length : Int) < 1) = false := decide_eq_false c22
                            have c22b1 : decide (((rd_T28 l0 x39_3).f2).length < 1) = false := decide_eq_false (by omega)
                            clear c22
                            (try (have c22b2 := c22b0; simp only [ByteArray.size_extract, Nat.min_self] at c22b2)); (first | rw [c22b0] | (simp only [i64_w, i32_w]; rw [c22b0]) | rw [c22b1] | skip)
                            by_cases c24 : (((rd_T28 l0 x39_3).f2).length : Int) > 10
                            · rw [if_pos c24] at H
                              have c24b0 : decide (10 < (((rd_T28 l0 x39_3).f2).length : Int)) = true := decide_eq_true c24
                              have c24b1 : decide (10 < ((rd_T28 l0 x39_3).f2).length) = true := decide_eq_true (by omega)
                              clear c24
                              have H' := Aside0.mk H
                              clear H
                              have hcz25_0 : w20.cell? ⟨gb190, 0, none⟩ = some (.int .i64 0) := (blk_cell BK190.out 0).trans rfl
                              have hcz25_1 : w20.cell? ⟨gb190, 1, none⟩ = some (.int .i64 0) := (blk_cell BK190.out 1).trans rfl
                              have hcz25_2 : w20.cell? ⟨gb190, 2, none⟩ = some (.slice none 0 0) := (blk_cell BK190.out 2).trans rfl
                              have hfz25_0 := blk_frozen BK190.out 0
                              have hfz25_1 := blk_frozen BK190.out 1
                              have hfz25_2 := blk_frozen BK190.out 2
                              go_wp2
                              go_meet
                              case rel => exact ⟨_, (true), (by first | rfl | (simp; done) | (simp [*]; done)), H', ⟨by have := HJ2.out; have := HJ10.out; have := HK3.out; first | omega | exact Nat.le_refl _⟩, ⟨by (with_reducible repeat (first | refine blk_drewN ?_ _ | refine blk_drew ?_ | refine blk_alloc ?_ _)); refine blk_put (cs := #[.int .i64 ((rd_T28 l0 x39_3).f0), .int .i64 ((rd_T28 l0 x39_3).f1), .slice none 0 0]) ?_ 2 _ rfl; (with_reducible repeat (first | refine blk_drewN ?_ _ | refine blk_drew ?_ | refine blk_alloc ?_ _)); refine blk_put (cs := #[.int .i64 ((rd_T28 l0 x39_3).f0), .int .i64 0, .slice none 0 0]) ?_ 1 _ rfl; (with_reducible repeat (first | refine blk_drewN ?_ _ | refine blk_drew ?_ | refine blk_alloc ?_ _)); refine blk_put (cs := #[.int .i64 0, .int .i64 0, .slice none 0 0]) ?_ 0 _ rfl; (with_reducible repeat (first | refine blk_drewN ?_ _ | refine blk_drew ?_ | refine blk_alloc ?_ _)); exact BK190.out⟩, ⟨by repeat (first | (with_reducible first | exact HB.out | apply below_alloc | apply pw_below_drewN | apply below_drew1 | refine below_set ?_ GE190.out) | exact HB.out)⟩⟩
                            · rw [if_neg c24] at H
                              have c24b0 : decide (10 < (((rd_T28 l0 x39_3).f2).length : Int)) = false := decide_eq_false c24
                              have c24b1 : decide (10 < ((rd_T28 l0 x39_3).f2).length) = false := decide_eq_false (by omega)
                              clear c24
                              have H' := Aside0.mk H
                              clear H
                              have hcz26_0 : w20.cell? ⟨gb190, 0, none⟩ = some (.int .i64 0) := (blk_cell BK190.out 0).trans rfl
                              have hcz26_1 : w20.cell? ⟨gb190, 1, none⟩ = some (.int .i64 0) := (blk_cell BK190.out 1).trans rfl
                              have hcz26_2 : w20.cell? ⟨gb190, 2, none⟩ = some (.slice none 0 0) := (blk_cell BK190.out 2).trans rfl
                              have hfz26_0 := blk_frozen BK190.out 0
                              have hfz26_1 := blk_frozen BK190.out 1
                              have hfz26_2 := blk_frozen BK190.out 2
                              go_wp2
                              go_meet
                              case rel => exact ⟨_, ((((rd_T28 l0 x39_3).f1) == 0)), (by first | rfl | (simp; done) | (simp [*]; done)), H', ⟨by have := HJ2.out; have := HJ10.out; have := HK3.out; first | omega | exact Nat.le_refl _⟩, ⟨by (with_reducible repeat (first | refine blk_drewN ?_ _ | refine blk_drew ?_ | refine blk_alloc ?_ _)); refine blk_put (cs := #[.int .i64 ((rd_T28 l0 x39_3).f0), .int .i64 ((rd_T28 l0 x39_3).f1), .slice none 0 0]) ?_ 2 _ rfl; (with_reducible repeat (first | refine blk_drewN ?_ _ | refine blk_drew ?_ | refine blk_alloc ?_ _)); refine blk_put (cs := #[.int .i64 ((rd_T28 l0 x39_3).f0), .int .i64 0, .slice none 0 0]) ?_ 1 _ rfl; (with_reducible repeat (first | refine blk_drewN ?_ _ | refine blk_drew ?_ | refine blk_alloc ?_ _)); refine blk_put (cs := #[.int .i64 0, .int .i64 0, .slice none 0 0]) ?_ 0 _ rfl; (with_reducible repeat (first | refine blk_drewN ?_ _ | refine blk_drew ?_ | refine blk_alloc ?_ _)); exact BK190.out⟩, ⟨by repeat (first | (with_reducible first | exact HB.out | apply below_alloc | apply pw_below_drewN | apply below_drew1 | refine below_set ?_ GE190.out) | exact HB.out)⟩⟩
                        case rest =>
                          clear HC19
                          try clear c1
                          try clear p1
                          try clear q1
                          try clear hx1
                          try clear c2
                          try clear p2
                          try clear c3
                          try clear c4
                          try clear c5
                          try clear c10
                          try clear c12
                          try clear c12b0
                          try clear c12b1
                          try clear c12b2
                          try clear c15
                          try clear c16
                          try clear c16b0
                          try clear c17
                          try clear c17b0
                          try clear c18
                          try clear c18b0
                          try clear p18
                          try clear q18
                          try clear hx18
                          try clear c22
                          try clear c22b0
                          try clear c22b1
                          try clear c22b2
                          try clear c24
                          try clear c24b0
                          try clear c24b1
                          try clear hcz21_0
                          try clear hcz21_1
                          try clear hcz21_2
                          try clear hcz23_0
                          try clear hcz23_1
                          try clear hcz23_2
                          try clear hcz25_0
                          try clear hcz25_1
                          try clear hcz25_2
                          try clear hcz26_0
                          try clear hcz26_1
                          try clear hcz26_2
                          try clear hfz21_0
                          try clear hfz21_1
                          try clear hfz21_2
                          try clear hfz23_0
                          try clear hfz23_1
                          try clear hfz23_2
                          try clear hfz25_0
                          try clear hfz25_1
                          try clear hfz25_2
                          try clear hfz26_0
                          try clear hfz26_1
                          try clear hfz26_2
                          try clear hx189_0
                          try clear hx189_1
                          try clear hx189_2
                          try clear p189
                          try clear p2
                          try clear q189
                          obtain ⟨kq, x58_18, rfl, HA, HJ18, BK190, HB⟩ := hcut
                          cases kq with
                          | zero => exact absurd HA.out (by simp [laws_FnTypeRemap.j3])
                          | succ kj18 =>
                            have H := HA.out
                            clear HA
                            simp only [laws_FnTypeRemap.j3] at H
                            by_cases c27 : x58_18 = true
                            · subst c27
                              have H1 : (some true) = some r := by rw [if_pos rfl] at H; exact H
                              clear H
                              have H := H1
                              clear H1
                              obtain rfl := Option.some.inj H
                              go_wp2
                              go_ret
                              exact ⟨by first | rfl | (simp [errW_none, errW_some] <;> rfl) | (simp [*, errW_none, errW_some] <;> rfl), by repeat (first | (with_reducible first | exact HB.out | apply below_alloc | apply pw_below_drewN | apply below_drew1 | refine below_set ?_ GE190.out) | exact HB.out)⟩
                            · replace c27 := Bool.eq_false_iff.mpr c27
                              subst c27
                              have H1 : (laws_FnTypeRemap.l1 kj18 l0 l1 x39_3 l0 (l0.length : Int) x39_3 ((rd_T28 l0 x39_3).f2) (((rd_T28 l0 x39_3).f2).length : Int) 0 ((rd_T28 l0 x39_3).f0) ((rd_T28 l0 x39_3).f1) ((rd_T28 l0 x39_3).f2)) = some r := by rw [if_neg (show ¬ (false = true) by decide)] at H; exact H
                              clear H
                              have H := H1
                              clear H1
                              have H' := Aside0.mk H
                              clear H
                              have hcz28_0 : wc.cell? ⟨gb190, 0, none⟩ = some (.int .i64 ((rd_T28 l0 x39_3).f0)) := (blk_cell BK190.out 0).trans rfl
                              have hcz28_1 : wc.cell? ⟨gb190, 1, none⟩ = some (.int .i64 ((rd_T28 l0 x39_3).f1)) := (blk_cell BK190.out 1).trans rfl
                              have hcz28_2 : wc.cell? ⟨gb190, 2, none⟩ = some (.slice A189_2 ((rd_T28 l0 x39_3).f2).length c189_2) := (blk_cell BK190.out 2).trans rfl
                              have hfz28_0 := blk_frozen BK190.out 0
                              have hfz28_1 := blk_frozen BK190.out 1
                              have hfz28_2 := blk_frozen BK190.out 2
                              go_wp2
                              go_loopg [62] kj18 (fun kq v62 w' => ∃ (x62_5 : Int), v62 = .int .i64 x62_5 ∧ Aside0 (laws_FnTypeRemap.l1 kq l0 l1 x39_3 l0 (l0.length : Int) x39_3 ((rd_T28 l0 x39_3).f2) (((rd_T28 l0 x39_3).f2).length : Int) x62_5 ((rd_T28 l0 x39_3).f0) ((rd_T28 l0 x39_3).f1) ((rd_T28 l0 x39_3).f2) = some r) ∧ Aside0 (kq ≤ kj18) ∧ Aside0 (w'.heap[gb190]? = some (.cells #[.int .i64 ((rd_T28 l0 x39_3).f0), .int .i64 ((rd_T28 l0 x39_3).f1), (.slice A189_2 ((rd_T28 l0 x39_3).f2).length c189_2)] 28 (0, 0))) ∧ Aside0 (Below w.heap.size w w'))
                              case atStart => exact ⟨(0), (by first | rfl | (simp; done) | (simp [*]; done)), H', ⟨Nat.le_refl _⟩, ⟨by (with_reducible repeat (first | refine blk_drewN ?_ _ | refine blk_drew ?_ | refine blk_alloc ?_ _)); exact BK190.out⟩, ⟨by repeat (first | (with_reducible first | exact HB.out | apply below_alloc | apply pw_below_drewN | apply below_drew1 | refine below_set ?_ GE190.out) | exact HB.out)⟩⟩
                              case round =>
                                clear H'
                                try clear c1
                                try clear p1
                                try clear q1
                                try clear hx1
                                try clear c2
                                try clear p2
                                try clear c3
                                try clear c4
                                try clear c5
                                try clear c10
                                try clear c12
                                try clear c12b0
                                try clear c12b1
                                try clear c12b2
                                try clear c15
                                try clear c16
                                try clear c16b0
                                try clear c17
                                try clear c17b0
                                try clear c18
                                try clear c18b0
                                try clear p18
                                try clear q18
                                try clear hx18
                                try clear c22
                                try clear c22b0
                                try clear c22b1
                                try clear c22b2
                                try clear c24
                                try clear c24b0
                                try clear c24b1
                                try clear c27
                                try clear hcz21_0
                                try clear hcz21_1
                                try clear hcz21_2
                                try clear hcz23_0
                                try clear hcz23_1
                                try clear hcz23_2
                                try clear hcz25_0
                                try clear hcz25_1
                                try clear hcz25_2
                                try clear hcz26_0
                                try clear hcz26_1
                                try clear hcz26_2
                                try clear hcz28_0
                                try clear hcz28_1
                                try clear hcz28_2
                                try clear hfz21_0
                                try clear hfz21_1
                                try clear hfz21_2
                                try clear hfz23_0
                                try clear hfz23_1
                                try clear hfz23_2
                                try clear hfz25_0
                                try clear hfz25_1
                                try clear hfz25_2
                                try clear hfz26_0
                                try clear hfz26_1
                                try clear hfz26_2
                                try clear hfz28_0
                                try clear hfz28_1
                                try clear hfz28_2
                                try clear hx189_0
                                try clear hx189_1
                                try clear hx189_2
                                try clear p1
                                try clear p18
                                try clear p189
                                try clear p2
                                try clear q1
                                try clear q18
                                try clear q189
                                obtain ⟨x62_5, rfl, HA, HK5, BK190, HB⟩ := hrel
                                cases gk with
                                | zero => exact absurd HA.out (by simp [laws_FnTypeRemap.l1])
                                | succ k5 =>
                                  have H := HA.out
                                  clear HA
                                  simp only [laws_FnTypeRemap.l1] at H
                                  by_cases c29 : x62_5 < (((rd_T28 l0 x39_3).f2).length : Int)
                                  · rw [if_pos c29] at H
                                    have c29b0 : decide (x62_5 < (((rd_T28 l0 x39_3).f2).length : Int)) = true := decide_eq_true c29
                                    clear c29
                                    by_cases c30 : 0 ≤ x62_5
                                    · rw [if_pos c30] at H
                                      have c30b0 : decide (0 ≤ x62_5) = true := decide_eq_true c30
                                      clear c30
                                      by_cases c31 : x62_5 < (((rd_T28 l0 x39_3).f2).length : Int)
                                      · rw [if_pos c31] at H
                                        have c31b0 : decide (x62_5 < (((rd_T28 l0 x39_3).f2).length : Int)) = true := decide_eq_true c31
                                        clear c31
                                        by_cases c32 : (rdOf ByteArray.empty ((rd_T28 l0 x39_3).f2) x62_5).toList = ([] : List UInt8)
                                        · rw [if_pos c32] at H
                                          have c32b0 : ((rdOf ByteArray.empty ((rd_T28 l0 x39_3).f2) x62_5).toList == ([] : List UInt8)) = true := beq_iff_eq.mpr c32
                                          have c32b1 : ((rdOf ByteArray.empty ((rd_T28 l0 x39_3).f2) x62_5).toList != ([] : List UInt8)) = false := bne_eq_false_iff_eq.mpr c32
                                          clear c32
                                          obtain rfl := Option.some.inj H
                                          have p191 : 0 ≤ (x62_5 : Int) := of_decide_eq_true (by first | (with_reducible assumption) | assumption)
                                          have q191 : x62_5 < (((rd_T28 l0 x39_3).f2).length : Int) := of_decide_eq_true (by first | (with_reducible assumption) | assumption)
                                          obtain ⟨ad191, e191, hx191_0⟩ := Kd.at_string HR189_2.out x62_5 p191 q191
                                          cases e191
                                          replace hx191_0 := (HB.out.cell (World.block_lt_of_cell? w _ hx191_0)).trans hx191_0
                                          replace p191 := eq_true p191
                                          replace q191 := eq_true q191
                                          go_wp2
                                          go_ret
                                          exact ⟨by first | rfl | (simp [errW_none, errW_some] <;> rfl) | (simp [*, errW_none, errW_some] <;> rfl), by repeat (first | (with_reducible first | exact HB.out | apply below_alloc | apply pw_below_drewN | apply below_drew1 | refine below_set ?_ GE190.out) | exact HB.out)⟩
                                        · rw [if_neg c32] at H
                                          have c32b0 : ((rdOf ByteArray.empty ((rd_T28 l0 x39_3).f2) x62_5).toList == ([] : List UInt8)) = false := beq_eq_false_iff_ne.mpr c32
                                          have c32b1 : ((rdOf ByteArray.empty ((rd_T28 l0 x39_3).f2) x62_5).toList != ([] : List UInt8)) = true := bne_iff_ne.mpr c32
                                          obtain ⟨ji33, hji33⟩ : ∃ j_ : Int, (wrap64 (x39_3 + 1)) = j_ := ⟨_, rfl⟩
                                          replace H : (if 0 ≤ (ji33) then (if (ji33) ≤ (l0.length : Int) then ((some (l0.take ((ji33) : Int).toNat : List (S28))).bind fun y192 => (laws_FnTypeRemap.l2 k5 l0 l1 x39_3 x62_5 (rdOf ByteArray.empty ((rd_T28 l0 x39_3).f2) x62_5) l0 (l0.length : Int) x39_3 ((rd_T28 l0 x39_3).f2) (((rd_T28 l0 x39_3).f2).length : Int) x62_5 y192 (y192.length : Int) 0 ((rd_T28 l0 x39_3).f0) ((rd_T28 l0 x39_3).f1) ((rd_T28 l0 x39_3).f2))) else (none)) else (none)) = some r := by first | (rw [hji33] at H; exact H) | (simp only [hji33] at H ⊢; exact H)
                                          have hji33w : (IntKind.i64.wrap (x39_3 + 1)) = ji33 := (i64_w _).trans hji33
                                          by_cases c34 : 0 ≤ (ji33)
                                          · rw [if_pos c34] at H
                                            have c34b0 := eq_true c34
                                            have c34b1 : decide (0 ≤ (ji33)) = true := decide_eq_true c34
                                            clear c34
                                            by_cases c35 : (ji33) ≤ (l0.length : Int)
                                            · rw [if_pos c35] at H
                                              have c35b0 := eq_true c35
                                              have c35b1 : decide ((ji33) ≤ (l0.length : Int)) = true := decide_eq_true c35
                                              clear c35
                                              obtain ⟨y192, hy192⟩ : ∃ y_ : List (S28), y_ = (l0.take ((ji33) : Int).toNat) := ⟨_, rfl⟩
                                              replace H : (laws_FnTypeRemap.l2 k5 l0 l1 x39_3 x62_5 (rdOf ByteArray.empty ((rd_T28 l0 x39_3).f2) x62_5) l0 (l0.length : Int) x39_3 ((rd_T28 l0 x39_3).f2) (((rd_T28 l0 x39_3).f2).length : Int) x62_5 y192 (y192.length : Int) 0 ((rd_T28 l0 x39_3).f0) ((rd_T28 l0 x39_3).f1) ((rd_T28 l0 x39_3).f2)) = some r := by first | (rw [hy192]; with_reducible exact H) | (have H2_ := (Option.bind_some _ _).symm.trans H; rw [hy192]; with_reducible exact H2_) | (have H2_ := (Option.bind_some _ _).symm.trans H; with_reducible exact H2_) | with_reducible exact H | (rw [hy192]; exact H) | exact H
                                              have Ny192 := Aside0.mk hy192
                                              clear hy192
                                              have H' := Aside0.mk H
                                              clear H
                                              have p191 : 0 ≤ (x62_5 : Int) := of_decide_eq_true (by first | (with_reducible assumption) | assumption)
                                              have q191 : x62_5 < (((rd_T28 l0 x39_3).f2).length : Int) := of_decide_eq_true (by first | (with_reducible assumption) | assumption)
                                              obtain ⟨ad191, e191, hx191_0⟩ := Kd.at_string HR189_2.out x62_5 p191 q191
                                              cases e191
                                              replace hx191_0 := (HB.out.cell (World.block_lt_of_cell? w _ hx191_0)).trans hx191_0
                                              replace p191 := eq_true p191
                                              replace q191 := eq_true q191
                                              have q36 : ((ji33) : Int) ≤ ((l0.length : Int) : Int) := of_decide_eq_true (by first | (with_reducible assumption) | assumption)
                                              obtain ⟨i036, hi036, _, hsz36, _⟩ := info_parts info28
                                              have hroom36 : l0.length ≤ c0 := HC0.out
                                              have hC36 : Kd.C k28 _ (some ad189) l0.length l0 := HR0.out
                                              have hcut36 := cut_to (P := Tryd.prog) 22 28 .i64 Tryd.underlying22 hi036 (some ad189) l0.length c0 (ji33) (of_decide_eq_true (by first | (with_reducible assumption) | assumption)) q36 hroom36
                                              have hr36 := Kd.C_take (m := ((ji33) : Int).toNat) hC36 (by omega)
                                              have hy36 : y192.length = ((ji33) : Int).toNat := (by rw [Ny192.out, List.length_take]; omega)
                                              rw [← Ny192.out] at hr36
                                              rw [← hy36] at hcut36
                                              have HR195 := Aside0.mk hr36
                                              have HC195 := Aside0.mk (show y192.length ≤ c0 from by omega)
                                              clear hr36 hC36 hroom36 hi036 hsz36
                                              have KY36 := Aside0.mk hy36
                                              clear hy36
                                              replace q36 := eq_true q36
                                              go_wp2
                                              go_loopg [74] k5 (fun kq v74 w' => ∃ (x74_6 : Int), v74 = .int .i64 x74_6 ∧ Aside0 (laws_FnTypeRemap.l2 kq l0 l1 x39_3 x62_5 (rdOf ByteArray.empty ((rd_T28 l0 x39_3).f2) x62_5) l0 (l0.length : Int) x39_3 ((rd_T28 l0 x39_3).f2) (((rd_T28 l0 x39_3).f2).length : Int) x62_5 y192 (y192.length : Int) x74_6 ((rd_T28 l0 x39_3).f0) ((rd_T28 l0 x39_3).f1) ((rd_T28 l0 x39_3).f2) = some r) ∧ Aside0 (kq ≤ k5) ∧ Aside0 (w'.heap[gb190]? = some (.cells #[.int .i64 ((rd_T28 l0 x39_3).f0), .int .i64 ((rd_T28 l0 x39_3).f1), (.slice (some ad191) ((rd_T28 l0 x39_3).f2).length c189_2)] 28 (0, 0))) ∧ Aside0 (Below w.heap.size w w'))
                                              case atStart => exact ⟨(0), (by first | rfl | (simp; done) | (simp [*]; done)), H', ⟨Nat.le_refl _⟩, ⟨by (with_reducible repeat (first | refine blk_drewN ?_ _ | refine blk_drew ?_ | refine blk_alloc ?_ _)); exact BK190.out⟩, ⟨by repeat (first | (with_reducible first | exact HB.out | apply below_alloc | apply pw_below_drewN | apply below_drew1 | refine below_set ?_ GE190.out) | exact HB.out)⟩⟩
                                              case round =>
                                                clear H'
                                                try clear c1
                                                try clear p1
                                                try clear q1
                                                try clear hx1
                                                try clear c2
                                                try clear p2
                                                try clear c3
                                                try clear q3
                                                try clear c4
                                                try clear c5
                                                try clear p6
                                                try clear c10
                                                try clear c12
                                                try clear c12b0
                                                try clear c12b1
                                                try clear c12b2
                                                try clear c15
                                                try clear c16
                                                try clear c16b0
                                                try clear c17
                                                try clear c17b0
                                                try clear c18
                                                try clear c18b0
                                                try clear p18
                                                try clear q18
                                                try clear hx18
                                                try clear p19
                                                try clear q19
                                                try clear hx19
                                                try clear c22
                                                try clear c22b0
                                                try clear c22b1
                                                try clear c22b2
                                                try clear c24
                                                try clear c24b0
                                                try clear c24b1
                                                try clear c27
                                                try clear c29
                                                try clear c29b0
                                                try clear c30
                                                try clear c30b0
                                                try clear c31
                                                try clear c31b0
                                                try clear c32
                                                try clear c32b0
                                                try clear c32b1
                                                try clear c34
                                                try clear c34b0
                                                try clear c34b1
                                                try clear c35
                                                try clear c35b0
                                                try clear c35b1
                                                try clear q36
                                                try clear hcz21_0
                                                try clear hcz21_1
                                                try clear hcz21_2
                                                try clear hcz23_0
                                                try clear hcz23_1
                                                try clear hcz23_2
                                                try clear hcz25_0
                                                try clear hcz25_1
                                                try clear hcz25_2
                                                try clear hcz26_0
                                                try clear hcz26_1
                                                try clear hcz26_2
                                                try clear hcz28_0
                                                try clear hcz28_1
                                                try clear hcz28_2
                                                try clear hfz21_0
                                                try clear hfz21_1
                                                try clear hfz21_2
                                                try clear hfz23_0
                                                try clear hfz23_1
                                                try clear hfz23_2
                                                try clear hfz25_0
                                                try clear hfz25_1
                                                try clear hfz25_2
                                                try clear hfz26_0
                                                try clear hfz26_1
                                                try clear hfz26_2
                                                try clear hfz28_0
                                                try clear hfz28_1
                                                try clear hfz28_2
                                                try clear hx189_0
                                                try clear hx189_1
                                                try clear hx189_2
                                                try clear hx191_0
                                                try clear p1
                                                try clear p18
                                                try clear p189
                                                try clear p191
                                                try clear p2
                                                try clear q1
                                                try clear q18
                                                try clear q189
                                                try clear q191
                                                try clear q36
                                                obtain ⟨x74_6, rfl, HA, HK6, BK190, HB⟩ := hrel
                                                cases gk with
                                                | zero => exact absurd HA.out (by simp [laws_FnTypeRemap.l2])
                                                | succ k6 =>
                                                  have H := HA.out
                                                  clear HA
                                                  simp only [laws_FnTypeRemap.l2] at H
                                                  by_cases c37 : x74_6 < (y192.length : Int)
                                                  · rw [if_pos c37] at H
                                                    have c37b0 : decide (x74_6 < (y192.length : Int)) = true := decide_eq_true c37
                                                    clear c37
                                                    by_cases c38 : 0 ≤ x74_6
                                                    · rw [if_pos c38] at H
                                                      have c38b0 : decide (0 ≤ x74_6) = true := decide_eq_true c38
                                                      clear c38
                                                      by_cases c39 : x74_6 < (y192.length : Int)
                                                      · rw [if_pos c39] at H
                                                        have c39b0 : decide (x74_6 < (y192.length : Int)) = true := decide_eq_true c39
                                                        clear c39
                                                        have H' := Aside0.mk H
                                                        clear H
                                                        have p196 : 0 ≤ (x74_6 : Int) := of_decide_eq_true (by first | (with_reducible assumption) | assumption)
                                                        have q196 : x74_6 < (y192.length : Int) := of_decide_eq_true (by first | (with_reducible assumption) | assumption)
                                                        obtain ⟨ad196, A196_2, c196_2, e196, hx196_0, hx196_1, hx196_2, hl196_2, hi196_2⟩ := at_T28 HR195.out x74_6 p196 q196
                                                        obtain rfl : ad189 = ad196 := (by injection e196)
                                                        replace hx196_0 := (HB.out.cell (World.block_lt_of_cell? w _ hx196_0)).trans hx196_0
                                                        replace hx196_1 := (HB.out.cell (World.block_lt_of_cell? w _ hx196_1)).trans hx196_1
                                                        replace hx196_2 := (HB.out.cell (World.block_lt_of_cell? w _ hx196_2)).trans hx196_2
                                                        have HR196_2 := Aside0.mk hi196_2
                                                        have HC196_2 := Aside0.mk hl196_2
                                                        clear hi196_2 hl196_2
                                                        replace p196 := eq_true p196
                                                        replace q196 := eq_true q196
                                                        go_wp2_with (first | ((with_reducible refine gate_dst (N := 10) rfl ?_); (try (refine gate_guard (by rfl) ?_; dsimp only)); refine box_event ?hg (N := 10) ?hd (cs := #[.int .i64 0, .int .i64 0, .slice none 0 0]) (t := 28) ?hr ?_; (case hd => rfl); (case hg => rfl); (case hr => first | (go_simp; done) | (go_simp; rfl)); intro gb197 hg w40 hbox hb; have n0_ := Aside0.mk (blk_below (g := gb190) (o := .cells #[.int .i64 ((rd_T28 l0 x39_3).f0), .int .i64 ((rd_T28 l0 x39_3).f1), .slice (some ad191) ((rd_T28 l0 x39_3).f2).length c189_2] 28 (0, 0)) (by (with_reducible repeat (first | refine blk_drewN ?_ _ | refine blk_drew ?_ | refine blk_alloc ?_ _)); exact BK190.out) hb); have n1_ := Aside0.mk (below_step (by repeat (first | (with_reducible first | exact HB.out | apply below_alloc | apply pw_below_drewN | apply below_drew1 | refine below_set ?_ GE190.out) | exact HB.out)) hb); have n2_ := Aside0.mk (hbox); have n3_ := Aside0.mk ((by rw [hg]; exact (below_size (by repeat (first | (with_reducible first | exact HB.out | apply below_alloc | apply pw_below_drewN | apply below_drew1 | refine below_set ?_ GE190.out) | exact HB.out))) : w.heap.size ≤ gb197)); have n4_ := Aside0.mk ((by rw [hg]; exact (below_size (by repeat (first | (with_reducible first | exact HB.out | apply below_alloc | apply pw_below_drewN | apply below_drew1 | refine below_set ?_ GE190.out) | exact HB.out))) : w.heap.size ≤ gb197)); have n5_ := Aside0.mk ((by rw [hg]; exact Nat.ne_of_lt (blk_lt (g := gb190) (o := .cells #[.int .i64 ((rd_T28 l0 x39_3).f0), .int .i64 ((rd_T28 l0 x39_3).f1), .slice (some ad191) ((rd_T28 l0 x39_3).f2).length c189_2] 28 (0, 0)) (by (with_reducible repeat (first | refine blk_drewN ?_ _ | refine blk_drew ?_ | refine blk_alloc ?_ _)); exact BK190.out)) : gb190 ≠ gb197)); have n6_ := Aside0.mk ((by rw [hg]; exact Nat.ne_of_gt (blk_lt (g := gb190) (o := .cells #[.int .i64 ((rd_T28 l0 x39_3).f0), .int .i64 ((rd_T28 l0 x39_3).f1), .slice (some ad191) ((rd_T28 l0 x39_3).f2).length c189_2] 28 (0, 0)) (by (with_reducible repeat (first | refine blk_drewN ?_ _ | refine blk_drew ?_ | refine blk_alloc ?_ _)); exact BK190.out)) : gb197 ≠ gb190)); clear BK190; clear HB; have BK190 := n0_; have HB := n1_; have BK197 := n2_; have GW197 := n3_; have GE197 := n4_; have NB190_197 := n5_; have NB197_190 := n6_; clear n0_ n1_ n2_ n3_ n4_ n5_ n6_; clear hb hbox hg; have hnb41 := NB197_190.out; have hnc41 := NB190_197.out; have hcz42_0 : w40.cell? ⟨gb197, 0, none⟩ = some (.int .i64 0) := (blk_cell BK197.out 0).trans rfl; have hcz42_1 : w40.cell? ⟨gb197, 1, none⟩ = some (.int .i64 0) := (blk_cell BK197.out 1).trans rfl; have hcz42_2 : w40.cell? ⟨gb197, 2, none⟩ = some (.slice none 0 0) := (blk_cell BK197.out 2).trans rfl; have hfz42_0 := blk_frozen BK197.out 0; have hfz42_1 := blk_frozen BK197.out 1; have hfz42_2 := blk_frozen BK197.out 2))
                                                        go_loopg [82] k6 (fun kq v82 w' => ∃ (x82_7 : Int), v82 = .int .i64 x82_7 ∧ Aside0 (laws_FnTypeRemap.l3 kq l0 l1 x39_3 x62_5 (rdOf ByteArray.empty ((rd_T28 l0 x39_3).f2) x62_5) x74_6 l0 (l0.length : Int) x39_3 ((rd_T28 l0 x39_3).f2) (((rd_T28 l0 x39_3).f2).length : Int) x62_5 y192 (y192.length : Int) x74_6 ((rd_T28 y192 x74_6).f2) (((rd_T28 y192 x74_6).f2).length : Int) x82_7 ((rd_T28 l0 x39_3).f0) ((rd_T28 l0 x39_3).f1) ((rd_T28 l0 x39_3).f2) ((rd_T28 y192 x74_6).f0) ((rd_T28 y192 x74_6).f1) ((rd_T28 y192 x74_6).f2) = some r) ∧ Aside0 (kq ≤ k6) ∧ Aside0 (w'.heap[gb190]? = some (.cells #[.int .i64 ((rd_T28 l0 x39_3).f0), .int .i64 ((rd_T28 l0 x39_3).f1), (.slice (some ad191) ((rd_T28 l0 x39_3).f2).length c189_2)] 28 (0, 0))) ∧ Aside0 (w'.heap[gb197]? = some (.cells #[.int .i64 ((rd_T28 y192 x74_6).f0), .int .i64 ((rd_T28 y192 x74_6).f1), (.slice A196_2 ((rd_T28 y192 x74_6).f2).length c196_2)] 28 (0, 0))) ∧ Aside0 (Below w.heap.size w w'))
                                                        case atStart => exact ⟨(0), (by first | rfl | (simp; done) | (simp [*]; done)), H', ⟨Nat.le_refl _⟩, ⟨by (with_reducible repeat (first | refine blk_drewN ?_ _ | refine blk_drew ?_ | refine blk_alloc ?_ _)); refine blk_far ?_ NB190_197.out _; (with_reducible repeat (first | refine blk_drewN ?_ _ | refine blk_drew ?_ | refine blk_alloc ?_ _)); refine blk_far ?_ NB190_197.out _; (with_reducible repeat (first | refine blk_drewN ?_ _ | refine blk_drew ?_ | refine blk_alloc ?_ _)); refine blk_far ?_ NB190_197.out _; (with_reducible repeat (first | refine blk_drewN ?_ _ | refine blk_drew ?_ | refine blk_alloc ?_ _)); exact BK190.out⟩, ⟨by (with_reducible repeat (first | refine blk_drewN ?_ _ | refine blk_drew ?_ | refine blk_alloc ?_ _)); refine blk_put (cs := #[.int .i64 ((rd_T28 y192 x74_6).f0), .int .i64 ((rd_T28 y192 x74_6).f1), .slice none 0 0]) ?_ 2 _ rfl; (with_reducible repeat (first | refine blk_drewN ?_ _ | refine blk_drew ?_ | refine blk_alloc ?_ _)); refine blk_put (cs := #[.int .i64 ((rd_T28 y192 x74_6).f0), .int .i64 0, .slice none 0 0]) ?_ 1 _ rfl; (with_reducible repeat (first | refine blk_drewN ?_ _ | refine blk_drew ?_ | refine blk_alloc ?_ _)); refine blk_put (cs := #[.int .i64 0, .int .i64 0, .slice none 0 0]) ?_ 0 _ rfl; (with_reducible repeat (first | refine blk_drewN ?_ _ | refine blk_drew ?_ | refine blk_alloc ?_ _)); exact BK197.out⟩, ⟨by repeat (first | (with_reducible first | exact HB.out | apply below_alloc | apply pw_below_drewN | apply below_drew1 | refine below_set ?_ GE190.out | refine below_set ?_ GE197.out) | exact HB.out)⟩⟩
                                                        case round =>
                                                          clear H'
                                                          try clear c1
                                                          try clear p1
                                                          try clear q1
                                                          try clear hx1
                                                          try clear c2
                                                          try clear p2
                                                          try clear c3
                                                          try clear q3
                                                          try clear c4
                                                          try clear c5
                                                          try clear p6
                                                          try clear c10
                                                          try clear c12
                                                          try clear c12b0
                                                          try clear c12b1
                                                          try clear c12b2
                                                          try clear c15
                                                          try clear c16
                                                          try clear c16b0
                                                          try clear c17
                                                          try clear c17b0
                                                          try clear c18
                                                          try clear c18b0
                                                          try clear p18
                                                          try clear q18
                                                          try clear hx18
                                                          try clear c19
                                                          try clear p19
                                                          try clear q19
                                                          try clear hx19
                                                          try clear c22
                                                          try clear c22b0
                                                          try clear c22b1
                                                          try clear c22b2
                                                          try clear c24
                                                          try clear c24b0
                                                          try clear c24b1
                                                          try clear c27
                                                          try clear c29
                                                          try clear c29b0
                                                          try clear c30
                                                          try clear c30b0
                                                          try clear c31
                                                          try clear c31b0
                                                          try clear c32
                                                          try clear c32b0
                                                          try clear c32b1
                                                          try clear c34
                                                          try clear c34b0
                                                          try clear c34b1
                                                          try clear c35
                                                          try clear c35b0
                                                          try clear c35b1
                                                          try clear q36
                                                          try clear c37
                                                          try clear c37b0
                                                          try clear c38
                                                          try clear c38b0
                                                          try clear c39
                                                          try clear c39b0
                                                          try clear c41
                                                          try clear hcz21_0
                                                          try clear hcz21_1
                                                          try clear hcz21_2
                                                          try clear hcz23_0
                                                          try clear hcz23_1
                                                          try clear hcz23_2
                                                          try clear hcz25_0
                                                          try clear hcz25_1
                                                          try clear hcz25_2
                                                          try clear hcz26_0
                                                          try clear hcz26_1
                                                          try clear hcz26_2
                                                          try clear hcz28_0
                                                          try clear hcz28_1
                                                          try clear hcz28_2
                                                          try clear hcz42_0
                                                          try clear hcz42_1
                                                          try clear hcz42_2
                                                          try clear hfz21_0
                                                          try clear hfz21_1
                                                          try clear hfz21_2
                                                          try clear hfz23_0
                                                          try clear hfz23_1
                                                          try clear hfz23_2
                                                          try clear hfz25_0
                                                          try clear hfz25_1
                                                          try clear hfz25_2
                                                          try clear hfz26_0
                                                          try clear hfz26_1
                                                          try clear hfz26_2
                                                          try clear hfz28_0
                                                          try clear hfz28_1
                                                          try clear hfz28_2
                                                          try clear hfz42_0
                                                          try clear hfz42_1
                                                          try clear hfz42_2
                                                          try clear hx189_0
                                                          try clear hx189_1
                                                          try clear hx189_2
                                                          try clear hx191_0
                                                          try clear hx196_0
                                                          try clear hx196_1
                                                          try clear hx196_2
                                                          try clear p1
                                                          try clear p18
                                                          try clear p189
                                                          try clear p19
                                                          try clear p191
                                                          try clear p196
                                                          try clear p2
                                                          try clear p6
                                                          try clear q1
                                                          try clear q18
                                                          try clear q189
                                                          try clear q19
                                                          try clear q191
                                                          try clear q196
                                                          try clear q3
                                                          try clear q36
                                                          obtain ⟨x82_7, rfl, HA, HK7, BK190, BK197, HB⟩ := hrel
                                                          cases gk with
                                                          | zero => exact absurd HA.out (by simp [laws_FnTypeRemap.l3])
                                                          | succ k7 =>
                                                            have H := HA.out
                                                            clear HA
                                                            simp only [laws_FnTypeRemap.l3] at H
                                                            by_cases c43 : x82_7 < (((rd_T28 y192 x74_6).f2).length : Int)
                                                            · rw [if_pos c43] at H
                                                              have c43b0 : decide (x82_7 < (((rd_T28 y192 x74_6).f2).length : Int)) = true := decide_eq_true c43
                                                              clear c43
                                                              by_cases c44 : 0 ≤ x82_7
                                                              · rw [if_pos c44] at H
                                                                have c44b0 : decide (0 ≤ x82_7) = true := decide_eq_true c44
                                                                clear c44
                                                                by_cases c45 : x82_7 < (((rd_T28 y192 x74_6).f2).length : Int)
                                                                · rw [if_pos c45] at H
                                                                  have c45b0 : decide (x82_7 < (((rd_T28 y192 x74_6).f2).length : Int)) = true := decide_eq_true c45
                                                                  clear c45
                                                                  by_cases c46 : ((rd_T28 l0 x39_3).f0) = ((rd_T28 y192 x74_6).f0)
                                                                  · rw [if_pos c46] at H
                                                                    have c46b0 : (((rd_T28 l0 x39_3).f0) == ((rd_T28 y192 x74_6).f0)) = true := beq_iff_eq.mpr c46
                                                                    have c46b1 : (((rd_T28 l0 x39_3).f0) != ((rd_T28 y192 x74_6).f0)) = false := bne_eq_false_iff_eq.mpr c46
                                                                    clear c46
                                                                    by_cases c47 : (rdOf ByteArray.empty ((rd_T28 y192 x74_6).f2) x82_7).toList = (rdOf ByteArray.empty ((rd_T28 l0 x39_3).f2) x62_5).toList
                                                                    · rw [if_pos c47] at H
                                                                      have c47b0 : ((rdOf ByteArray.empty ((rd_T28 y192 x74_6).f2) x82_7).toList == (rdOf ByteArray.empty ((rd_T28 l0 x39_3).f2) x62_5).toList) = true := beq_iff_eq.mpr c47
                                                                      have c47b1 : ((rdOf ByteArray.empty ((rd_T28 y192 x74_6).f2) x82_7).toList != (rdOf ByteArray.empty ((rd_T28 l0 x39_3).f2) x62_5).toList) = false := bne_eq_false_iff_eq.mpr c47
                                                                      clear c47
                                                                      by_cases c48 : x74_6 < x39_3
                                                                      · rw [if_pos c48] at H
                                                                        have c48b0 : decide (x74_6 < x39_3) = true := decide_eq_true c48
                                                                        clear c48
                                                                        obtain rfl := Option.some.inj H
                                                                        have p198 : 0 ≤ (x82_7 : Int) := of_decide_eq_true (by first | (with_reducible assumption) | assumption)
                                                                        have q198 : x82_7 < (((rd_T28 y192 x74_6).f2).length : Int) := of_decide_eq_true (by first | (with_reducible assumption) | assumption)
                                                                        obtain ⟨ad198, e198, hx198_0⟩ := Kd.at_string HR196_2.out x82_7 p198 q198
                                                                        cases e198
                                                                        replace hx198_0 := (HB.out.cell (World.block_lt_of_cell? w _ hx198_0)).trans hx198_0
                                                                        replace p198 := eq_true p198
                                                                        replace q198 := eq_true q198
                                                                        have hnb49 := NB190_197.out
                                                                        have hnc49 := NB197_190.out
                                                                        have hcz50_0 : wr.cell? ⟨gb190, 0, none⟩ = some (.int .i64 ((rd_T28 l0 x39_3).f0)) := (blk_cell BK190.out 0).trans rfl
                                                                        have hcz50_1 : wr.cell? ⟨gb190, 1, none⟩ = some (.int .i64 ((rd_T28 l0 x39_3).f1)) := (blk_cell BK190.out 1).trans rfl
                                                                        have hcz50_2 : wr.cell? ⟨gb190, 2, none⟩ = some (.slice (some ad191) ((rd_T28 l0 x39_3).f2).length c189_2) := (blk_cell BK190.out 2).trans rfl
                                                                        have hfz50_0 := blk_frozen BK190.out 0
                                                                        have hfz50_1 := blk_frozen BK190.out 1
                                                                        have hfz50_2 := blk_frozen BK190.out 2
                                                                        have hcz51_0 : wr.cell? ⟨gb197, 0, none⟩ = some (.int .i64 ((rd_T28 y192 x74_6).f0)) := (blk_cell BK197.out 0).trans rfl
                                                                        have hcz51_1 : wr.cell? ⟨gb197, 1, none⟩ = some (.int .i64 ((rd_T28 y192 x74_6).f1)) := (blk_cell BK197.out 1).trans rfl
                                                                        have hcz51_2 : wr.cell? ⟨gb197, 2, none⟩ = some (.slice (some ad198) ((rd_T28 y192 x74_6).f2).length c196_2) := (blk_cell BK197.out 2).trans rfl
                                                                        have hfz51_0 := blk_frozen BK197.out 0
                                                                        have hfz51_1 := blk_frozen BK197.out 1
                                                                        have hfz51_2 := blk_frozen BK197.out 2
                                                                        go_wp2
                                                                        go_ret
                                                                        exact ⟨by first | rfl | (simp [errW_none, errW_some] <;> rfl) | (simp only [← hji33]; first | rfl | (simp [errW_none, errW_some] <;> rfl)) | (simp [*, errW_none, errW_some] <;> rfl), by repeat (first | (with_reducible first | exact HB.out | apply below_alloc | apply pw_below_drewN | apply below_drew1 | refine below_set ?_ GE190.out | refine below_set ?_ GE197.out) | exact HB.out)⟩
                                                                      · rw [if_neg c48] at H
                                                                        have c48b0 : decide (x74_6 < x39_3) = false := decide_eq_false c48
                                                                        clear c48
                                                                        by_cases c52 : x82_7 < x62_5
                                                                        · rw [if_pos c52] at H
                                                                          have c52b0 : decide (x82_7 < x62_5) = true := decide_eq_true c52
                                                                          clear c52
                                                                          obtain rfl := Option.some.inj H
                                                                          have p198 : 0 ≤ (x82_7 : Int) := of_decide_eq_true (by first | (with_reducible assumption) | assumption)
                                                                          have q198 : x82_7 < (((rd_T28 y192 x74_6).f2).length : Int) := of_decide_eq_true (by first | (with_reducible assumption) | assumption)
                                                                          obtain ⟨ad198, e198, hx198_0⟩ := Kd.at_string HR196_2.out x82_7 p198 q198
                                                                          cases e198
                                                                          replace hx198_0 := (HB.out.cell (World.block_lt_of_cell? w _ hx198_0)).trans hx198_0
                                                                          replace p198 := eq_true p198
                                                                          replace q198 := eq_true q198
                                                                          have hnb53 := NB190_197.out
                                                                          have hnc53 := NB197_190.out
                                                                          have hcz54_0 : wr.cell? ⟨gb190, 0, none⟩ = some (.int .i64 ((rd_T28 l0 x39_3).f0)) := (blk_cell BK190.out 0).trans rfl
                                                                          have hcz54_1 : wr.cell? ⟨gb190, 1, none⟩ = some (.int .i64 ((rd_T28 l0 x39_3).f1)) := (blk_cell BK190.out 1).trans rfl
                                                                          have hcz54_2 : wr.cell? ⟨gb190, 2, none⟩ = some (.slice (some ad191) ((rd_T28 l0 x39_3).f2).length c189_2) := (blk_cell BK190.out 2).trans rfl
                                                                          have hfz54_0 := blk_frozen BK190.out 0
                                                                          have hfz54_1 := blk_frozen BK190.out 1
                                                                          have hfz54_2 := blk_frozen BK190.out 2
                                                                          have hcz55_0 : wr.cell? ⟨gb197, 0, none⟩ = some (.int .i64 ((rd_T28 y192 x74_6).f0)) := (blk_cell BK197.out 0).trans rfl
                                                                          have hcz55_1 : wr.cell? ⟨gb197, 1, none⟩ = some (.int .i64 ((rd_T28 y192 x74_6).f1)) := (blk_cell BK197.out 1).trans rfl
                                                                          have hcz55_2 : wr.cell? ⟨gb197, 2, none⟩ = some (.slice (some ad198) ((rd_T28 y192 x74_6).f2).length c196_2) := (blk_cell BK197.out 2).trans rfl
                                                                          have hfz55_0 := blk_frozen BK197.out 0
                                                                          have hfz55_1 := blk_frozen BK197.out 1
                                                                          have hfz55_2 := blk_frozen BK197.out 2
                                                                          go_wp2
                                                                          go_ret
                                                                          exact ⟨by first | rfl | (simp [errW_none, errW_some] <;> rfl) | (simp only [← hji33]; first | rfl | (simp [errW_none, errW_some] <;> rfl)) | (simp [*, errW_none, errW_some] <;> rfl), by repeat (first | (with_reducible first | exact HB.out | apply below_alloc | apply pw_below_drewN | apply below_drew1 | refine below_set ?_ GE190.out | refine below_set ?_ GE197.out) | exact HB.out)⟩
                                                                        · rw [if_neg c52] at H
                                                                          have c52b0 : decide (x82_7 < x62_5) = false := decide_eq_false c52
                                                                          clear c52
                                                                          have H' := Aside0.mk H
                                                                          clear H
                                                                          have p198 : 0 ≤ (x82_7 : Int) := of_decide_eq_true (by first | (with_reducible assumption) | assumption)
                                                                          have q198 : x82_7 < (((rd_T28 y192 x74_6).f2).length : Int) := of_decide_eq_true (by first | (with_reducible assumption) | assumption)
                                                                          obtain ⟨ad198, e198, hx198_0⟩ := Kd.at_string HR196_2.out x82_7 p198 q198
                                                                          cases e198
                                                                          replace hx198_0 := (HB.out.cell (World.block_lt_of_cell? w _ hx198_0)).trans hx198_0
                                                                          replace p198 := eq_true p198
                                                                          replace q198 := eq_true q198
                                                                          have hnb56 := NB190_197.out
                                                                          have hnc56 := NB197_190.out
                                                                          have hcz57_0 : wr.cell? ⟨gb190, 0, none⟩ = some (.int .i64 ((rd_T28 l0 x39_3).f0)) := (blk_cell BK190.out 0).trans rfl
                                                                          have hcz57_1 : wr.cell? ⟨gb190, 1, none⟩ = some (.int .i64 ((rd_T28 l0 x39_3).f1)) := (blk_cell BK190.out 1).trans rfl
                                                                          have hcz57_2 : wr.cell? ⟨gb190, 2, none⟩ = some (.slice (some ad191) ((rd_T28 l0 x39_3).f2).length c189_2) := (blk_cell BK190.out 2).trans rfl
                                                                          have hfz57_0 := blk_frozen BK190.out 0
                                                                          have hfz57_1 := blk_frozen BK190.out 1
                                                                          have hfz57_2 := blk_frozen BK190.out 2
                                                                          have hcz58_0 : wr.cell? ⟨gb197, 0, none⟩ = some (.int .i64 ((rd_T28 y192 x74_6).f0)) := (blk_cell BK197.out 0).trans rfl
                                                                          have hcz58_1 : wr.cell? ⟨gb197, 1, none⟩ = some (.int .i64 ((rd_T28 y192 x74_6).f1)) := (blk_cell BK197.out 1).trans rfl
                                                                          have hcz58_2 : wr.cell? ⟨gb197, 2, none⟩ = some (.slice (some ad198) ((rd_T28 y192 x74_6).f2).length c196_2) := (blk_cell BK197.out 2).trans rfl
                                                                          have hfz58_0 := blk_frozen BK197.out 0
                                                                          have hfz58_1 := blk_frozen BK197.out 1
                                                                          have hfz58_2 := blk_frozen BK197.out 2
                                                                          go_wp2
                                                                          go_roundg k7
                                                                          case measure => have := HJ2.out; have := HJ10.out; have := HK3.out; have := HJ18.out; have := HK5.out; have := HK6.out; have := HK7.out; omega
                                                                          case rel => exact ⟨(wrap64 (x82_7 + 1)), (by first | rfl | (simp; done) | (simp [*]; done)), H', ⟨by have := HJ2.out; have := HJ10.out; have := HK3.out; have := HJ18.out; have := HK5.out; have := HK6.out; have := HK7.out; omega⟩, ⟨by (with_reducible repeat (first | refine blk_drewN ?_ _ | refine blk_drew ?_ | refine blk_alloc ?_ _)); exact BK190.out⟩, ⟨by (with_reducible repeat (first | refine blk_drewN ?_ _ | refine blk_drew ?_ | refine blk_alloc ?_ _)); exact BK197.out⟩, ⟨by repeat (first | (with_reducible first | exact HB.out | apply below_alloc | apply pw_below_drewN | apply below_drew1 | refine below_set ?_ GE190.out | refine below_set ?_ GE197.out) | exact HB.out)⟩⟩
                                                                    · rw [if_neg c47] at H
                                                                      have c47b0 : ((rdOf ByteArray.empty ((rd_T28 y192 x74_6).f2) x82_7).toList == (rdOf ByteArray.empty ((rd_T28 l0 x39_3).f2) x62_5).toList) = false := beq_eq_false_iff_ne.mpr c47
                                                                      have c47b1 : ((rdOf ByteArray.empty ((rd_T28 y192 x74_6).f2) x82_7).toList != (rdOf ByteArray.empty ((rd_T28 l0 x39_3).f2) x62_5).toList) = true := bne_iff_ne.mpr c47
                                                                      have H' := Aside0.mk H
                                                                      clear H
                                                                      have p198 : 0 ≤ (x82_7 : Int) := of_decide_eq_true (by first | (with_reducible assumption) | assumption)
                                                                      have q198 : x82_7 < (((rd_T28 y192 x74_6).f2).length : Int) := of_decide_eq_true (by first | (with_reducible assumption) | assumption)
                                                                      obtain ⟨ad198, e198, hx198_0⟩ := Kd.at_string HR196_2.out x82_7 p198 q198
                                                                      cases e198
                                                                      replace hx198_0 := (HB.out.cell (World.block_lt_of_cell? w _ hx198_0)).trans hx198_0
                                                                      replace p198 := eq_true p198
                                                                      replace q198 := eq_true q198
                                                                      have hnb59 := NB190_197.out
                                                                      have hnc59 := NB197_190.out
                                                                      have hcz60_0 : wr.cell? ⟨gb190, 0, none⟩ = some (.int .i64 ((rd_T28 l0 x39_3).f0)) := (blk_cell BK190.out 0).trans rfl
                                                                      have hcz60_1 : wr.cell? ⟨gb190, 1, none⟩ = some (.int .i64 ((rd_T28 l0 x39_3).f1)) := (blk_cell BK190.out 1).trans rfl
                                                                      have hcz60_2 : wr.cell? ⟨gb190, 2, none⟩ = some (.slice (some ad191) ((rd_T28 l0 x39_3).f2).length c189_2) := (blk_cell BK190.out 2).trans rfl
                                                                      have hfz60_0 := blk_frozen BK190.out 0
                                                                      have hfz60_1 := blk_frozen BK190.out 1
                                                                      have hfz60_2 := blk_frozen BK190.out 2
                                                                      have hcz61_0 : wr.cell? ⟨gb197, 0, none⟩ = some (.int .i64 ((rd_T28 y192 x74_6).f0)) := (blk_cell BK197.out 0).trans rfl
                                                                      have hcz61_1 : wr.cell? ⟨gb197, 1, none⟩ = some (.int .i64 ((rd_T28 y192 x74_6).f1)) := (blk_cell BK197.out 1).trans rfl
                                                                      have hcz61_2 : wr.cell? ⟨gb197, 2, none⟩ = some (.slice (some ad198) ((rd_T28 y192 x74_6).f2).length c196_2) := (blk_cell BK197.out 2).trans rfl
                                                                      have hfz61_0 := blk_frozen BK197.out 0
                                                                      have hfz61_1 := blk_frozen BK197.out 1
                                                                      have hfz61_2 := blk_frozen BK197.out 2
                                                                      go_wp2
                                                                      go_roundg k7
                                                                      case measure => have := HJ2.out; have := HJ10.out; have := HK3.out; have := HJ18.out; have := HK5.out; have := HK6.out; have := HK7.out; omega
                                                                      case rel => exact ⟨(wrap64 (x82_7 + 1)), (by first | rfl | (simp; done) | (simp [*]; done)), H', ⟨by have := HJ2.out; have := HJ10.out; have := HK3.out; have := HJ18.out; have := HK5.out; have := HK6.out; have := HK7.out; omega⟩, ⟨by (with_reducible repeat (first | refine blk_drewN ?_ _ | refine blk_drew ?_ | refine blk_alloc ?_ _)); exact BK190.out⟩, ⟨by (with_reducible repeat (first | refine blk_drewN ?_ _ | refine blk_drew ?_ | refine blk_alloc ?_ _)); exact BK197.out⟩, ⟨by repeat (first | (with_reducible first | exact HB.out | apply below_alloc | apply pw_below_drewN | apply below_drew1 | refine below_set ?_ GE190.out | refine below_set ?_ GE197.out) | exact HB.out)⟩⟩
                                                                  · rw [if_neg c46] at H
                                                                    have c46b0 : (((rd_T28 l0 x39_3).f0) == ((rd_T28 y192 x74_6).f0)) = false := beq_eq_false_iff_ne.mpr c46
                                                                    have c46b1 : (((rd_T28 l0 x39_3).f0) != ((rd_T28 y192 x74_6).f0)) = true := bne_iff_ne.mpr c46
                                                                    have H' := Aside0.mk H
                                                                    clear H
                                                                    have p198 : 0 ≤ (x82_7 : Int) := of_decide_eq_true (by first | (with_reducible assumption) | assumption)
                                                                    have q198 : x82_7 < (((rd_T28 y192 x74_6).f2).length : Int) := of_decide_eq_true (by first | (with_reducible assumption) | assumption)
                                                                    obtain ⟨ad198, e198, hx198_0⟩ := Kd.at_string HR196_2.out x82_7 p198 q198
                                                                    cases e198
                                                                    replace hx198_0 := (HB.out.cell (World.block_lt_of_cell? w _ hx198_0)).trans hx198_0
                                                                    replace p198 := eq_true p198
                                                                    replace q198 := eq_true q198
                                                                    have hnb62 := NB190_197.out
                                                                    have hnc62 := NB197_190.out
                                                                    have hcz63_0 : wr.cell? ⟨gb190, 0, none⟩ = some (.int .i64 ((rd_T28 l0 x39_3).f0)) := (blk_cell BK190.out 0).trans rfl
                                                                    have hcz63_1 : wr.cell? ⟨gb190, 1, none⟩ = some (.int .i64 ((rd_T28 l0 x39_3).f1)) := (blk_cell BK190.out 1).trans rfl
                                                                    have hcz63_2 : wr.cell? ⟨gb190, 2, none⟩ = some (.slice (some ad191) ((rd_T28 l0 x39_3).f2).length c189_2) := (blk_cell BK190.out 2).trans rfl
                                                                    have hfz63_0 := blk_frozen BK190.out 0
                                                                    have hfz63_1 := blk_frozen BK190.out 1
                                                                    have hfz63_2 := blk_frozen BK190.out 2
                                                                    have hcz64_0 : wr.cell? ⟨gb197, 0, none⟩ = some (.int .i64 ((rd_T28 y192 x74_6).f0)) := (blk_cell BK197.out 0).trans rfl
                                                                    have hcz64_1 : wr.cell? ⟨gb197, 1, none⟩ = some (.int .i64 ((rd_T28 y192 x74_6).f1)) := (blk_cell BK197.out 1).trans rfl
                                                                    have hcz64_2 : wr.cell? ⟨gb197, 2, none⟩ = some (.slice (some ad198) ((rd_T28 y192 x74_6).f2).length c196_2) := (blk_cell BK197.out 2).trans rfl
                                                                    have hfz64_0 := blk_frozen BK197.out 0
                                                                    have hfz64_1 := blk_frozen BK197.out 1
                                                                    have hfz64_2 := blk_frozen BK197.out 2
                                                                    go_wp2
                                                                    go_roundg k7
                                                                    case measure => have := HJ2.out; have := HJ10.out; have := HK3.out; have := HJ18.out; have := HK5.out; have := HK6.out; have := HK7.out; omega
                                                                    case rel => exact ⟨(wrap64 (x82_7 + 1)), (by first | rfl | (simp; done) | (simp [*]; done)), H', ⟨by have := HJ2.out; have := HJ10.out; have := HK3.out; have := HJ18.out; have := HK5.out; have := HK6.out; have := HK7.out; omega⟩, ⟨by (with_reducible repeat (first | refine blk_drewN ?_ _ | refine blk_drew ?_ | refine blk_alloc ?_ _)); exact BK190.out⟩, ⟨by (with_reducible repeat (first | refine blk_drewN ?_ _ | refine blk_drew ?_ | refine blk_alloc ?_ _)); exact BK197.out⟩, ⟨by repeat (first | (with_reducible first | exact HB.out | apply below_alloc | apply pw_below_drewN | apply below_drew1 | refine below_set ?_ GE190.out | refine below_set ?_ GE197.out) | exact HB.out)⟩⟩
                                                                · rw [if_neg c45] at H
                                                                  exact absurd H (by simp)
                                                              · rw [if_neg c44] at H
                                                                exact absurd H (by simp)
                                                            · rw [if_neg c43] at H
                                                              have c43b0 : decide (x82_7 < (((rd_T28 y192 x74_6).f2).length : Int)) = false := decide_eq_false c43
                                                              clear c43
                                                              have H' := Aside0.mk H
                                                              clear H
                                                              go_wp2
                                                              go_roundg k7
                                                              case measure => have := HJ2.out; have := HJ10.out; have := HK3.out; have := HJ18.out; have := HK5.out; have := HK6.out; have := HK7.out; omega
                                                              case rel => exact ⟨(wrap64 (x74_6 + 1)), (by first | rfl | (simp; done) | (simp [*]; done)), H', ⟨by have := HJ2.out; have := HJ10.out; have := HK3.out; have := HJ18.out; have := HK5.out; have := HK6.out; have := HK7.out; omega⟩, ⟨by (with_reducible repeat (first | refine blk_drewN ?_ _ | refine blk_drew ?_ | refine blk_alloc ?_ _)); exact BK190.out⟩, ⟨by repeat (first | (with_reducible first | exact HB.out | apply below_alloc | apply pw_below_drewN | apply below_drew1 | refine below_set ?_ GE190.out | refine below_set ?_ GE197.out) | exact HB.out)⟩⟩
                                                      · rw [if_neg c39] at H
                                                        exact absurd H (by simp)
                                                    · rw [if_neg c38] at H
                                                      exact absurd H (by simp)
                                                  · rw [if_neg c37] at H
                                                    have c37b0 : decide (x74_6 < (y192.length : Int)) = false := decide_eq_false c37
                                                    clear c37
                                                    have H' := Aside0.mk H
                                                    clear H
                                                    go_wp2
                                                    go_roundg k6
                                                    case measure => have := HJ2.out; have := HJ10.out; have := HK3.out; have := HJ18.out; have := HK5.out; have := HK6.out; omega
                                                    case rel => exact ⟨(wrap64 (x62_5 + 1)), (by first | rfl | (simp; done) | (simp [*]; done)), H', ⟨by have := HJ2.out; have := HJ10.out; have := HK3.out; have := HJ18.out; have := HK5.out; have := HK6.out; omega⟩, ⟨by (with_reducible repeat (first | refine blk_drewN ?_ _ | refine blk_drew ?_ | refine blk_alloc ?_ _)); exact BK190.out⟩, ⟨by repeat (first | (with_reducible first | exact HB.out | apply below_alloc | apply pw_below_drewN | apply below_drew1 | refine below_set ?_ GE190.out) | exact HB.out)⟩⟩
                                            · rw [if_neg c35] at H
                                              exact absurd H (by simp)
                                          · rw [if_neg c34] at H
                                            exact absurd H (by simp)
                                      · rw [if_neg c31] at H
                                        exact absurd H (by simp)
                                    · rw [if_neg c30] at H
                                      exact absurd H (by simp)
                                  · rw [if_neg c29] at H
                                    have c29b0 : decide (x62_5 < (((rd_T28 l0 x39_3).f2).length : Int)) = false := decide_eq_false c29
                                    clear c29
                                    have H' := Aside0.mk H
                                    clear H
                                    go_wp2
                                    go_roundg k5
                                    case measure => have := HJ2.out; have := HJ10.out; have := HK3.out; have := HJ18.out; have := HK5.out; omega
                                    case rel => exact ⟨(wrap64 (x39_3 + 1)), (by first | rfl | (simp; done) | (simp [*]; done)), H', ⟨by have := HJ2.out; have := HJ10.out; have := HK3.out; have := HJ18.out; have := HK5.out; omega⟩, ⟨by repeat (first | (with_reducible first | exact HB.out | apply below_alloc | apply pw_below_drewN | apply below_drew1 | refine below_set ?_ GE190.out) | exact HB.out)⟩⟩
                      · rw [if_neg c18] at H
                        exact absurd H (by simp)
                    · rw [if_neg c17] at H
                      exact absurd H (by simp)
                  · rw [if_neg c16] at H
                    have c16b0 : decide (x39_3 < (l0.length : Int)) = false := decide_eq_false c16
                    clear c16
                    have H' := Aside0.mk H
                    clear H
                    go_wp2
                    go_loopg [13, 113] k3 (fun kq v13 v113 w' => ∃ (x13_4 : List (S30)) (x113_4 : Int), v113 = .int .i64 x113_4 ∧ Aside0 (laws_FnTypeRemap.l4 kq l0 l1 x13_4 l1 (l1.length : Int) x113_4 = some r) ∧ Aside0 (kq ≤ k3) ∧ Aside0 (Kd.R k30 30 w' w.heap.size (fun _ => True) v13 x13_4) ∧ Aside0 (Below w.heap.size w w'))
                    case atStart => exact ⟨(([] : List (S30))), (0), (by first | rfl | (simp; done) | (simp [*]; done)), H', ⟨Nat.le_refl _⟩, ⟨by first | exact Kd.R_nil _ _ _ _ _ | exact Kd.N_nil _ _ _ _ _ | exact Kd.V_nil _ _ _ _ _ | exact Kd.Q_nil _ _ _ _ _ | exact Kd.S_nil _ _ _ _ _⟩, ⟨by repeat (first | (with_reducible first | exact HB.out | apply below_alloc | apply pw_below_drewN | apply below_drew1) | exact HB.out)⟩⟩
                    case round =>
                      clear H'
                      try clear c1
                      try clear p1
                      try clear q1
                      try clear hx1
                      try clear c2
                      try clear p2
                      try clear c3
                      try clear q3
                      try clear c4
                      try clear c5
                      try clear c6
                      try clear p6
                      try clear c10
                      try clear c12
                      try clear c12b0
                      try clear c12b1
                      try clear c12b2
                      try clear c15
                      try clear c16
                      try clear c16b0
                      try clear c17
                      try clear c17b0
                      try clear c18
                      try clear c18b0
                      try clear p18
                      try clear q18
                      try clear hx18
                      try clear c19
                      try clear p19
                      try clear q19
                      try clear hx19
                      try clear c22
                      try clear c22b0
                      try clear c22b1
                      try clear c22b2
                      try clear c24
                      try clear c24b0
                      try clear c24b1
                      try clear c27
                      try clear c29
                      try clear c29b0
                      try clear c30
                      try clear c30b0
                      try clear c31
                      try clear c31b0
                      try clear c32
                      try clear c32b0
                      try clear c32b1
                      try clear c34
                      try clear c34b0
                      try clear c34b1
                      try clear c35
                      try clear c35b0
                      try clear c35b1
                      try clear q36
                      try clear c37
                      try clear c37b0
                      try clear c38
                      try clear c38b0
                      try clear c39
                      try clear c39b0
                      try clear c41
                      try clear c43
                      try clear c43b0
                      try clear c44
                      try clear c44b0
                      try clear c45
                      try clear c45b0
                      try clear c46
                      try clear c46b0
                      try clear c46b1
                      try clear c47
                      try clear c47b0
                      try clear c47b1
                      try clear c48
                      try clear c48b0
                      try clear c49
                      try clear c52
                      try clear c52b0
                      try clear c53
                      try clear c56
                      try clear c59
                      try clear c62
                      try clear p64
                      try clear hcz21_0
                      try clear hcz21_1
                      try clear hcz21_2
                      try clear hcz23_0
                      try clear hcz23_1
                      try clear hcz23_2
                      try clear hcz25_0
                      try clear hcz25_1
                      try clear hcz25_2
                      try clear hcz26_0
                      try clear hcz26_1
                      try clear hcz26_2
                      try clear hcz28_0
                      try clear hcz28_1
                      try clear hcz28_2
                      try clear hcz42_0
                      try clear hcz42_1
                      try clear hcz42_2
                      try clear hcz50_0
                      try clear hcz50_1
                      try clear hcz50_2
                      try clear hcz51_0
                      try clear hcz51_1
                      try clear hcz51_2
                      try clear hcz54_0
                      try clear hcz54_1
                      try clear hcz54_2
                      try clear hcz55_0
                      try clear hcz55_1
                      try clear hcz55_2
                      try clear hcz57_0
                      try clear hcz57_1
                      try clear hcz57_2
                      try clear hcz58_0
                      try clear hcz58_1
                      try clear hcz58_2
                      try clear hcz60_0
                      try clear hcz60_1
                      try clear hcz60_2
                      try clear hcz61_0
                      try clear hcz61_1
                      try clear hcz61_2
                      try clear hcz63_0
                      try clear hcz63_1
                      try clear hcz63_2
                      try clear hcz64_0
                      try clear hcz64_1
                      try clear hcz64_2
                      try clear hfz21_0
                      try clear hfz21_1
                      try clear hfz21_2
                      try clear hfz23_0
                      try clear hfz23_1
                      try clear hfz23_2
                      try clear hfz25_0
                      try clear hfz25_1
                      try clear hfz25_2
                      try clear hfz26_0
                      try clear hfz26_1
                      try clear hfz26_2
                      try clear hfz28_0
                      try clear hfz28_1
                      try clear hfz28_2
                      try clear hfz42_0
                      try clear hfz42_1
                      try clear hfz42_2
                      try clear hfz50_0
                      try clear hfz50_1
                      try clear hfz50_2
                      try clear hfz51_0
                      try clear hfz51_1
                      try clear hfz51_2
                      try clear hfz54_0
                      try clear hfz54_1
                      try clear hfz54_2
                      try clear hfz55_0
                      try clear hfz55_1
                      try clear hfz55_2
                      try clear hfz57_0
                      try clear hfz57_1
                      try clear hfz57_2
                      try clear hfz58_0
                      try clear hfz58_1
                      try clear hfz58_2
                      try clear hfz60_0
                      try clear hfz60_1
                      try clear hfz60_2
                      try clear hfz61_0
                      try clear hfz61_1
                      try clear hfz61_2
                      try clear hfz63_0
                      try clear hfz63_1
                      try clear hfz63_2
                      try clear hfz64_0
                      try clear hfz64_1
                      try clear hfz64_2
                      try clear hx189_0
                      try clear hx189_1
                      try clear hx189_2
                      try clear hx191_0
                      try clear hx196_0
                      try clear hx196_1
                      try clear hx196_2
                      try clear hx198_0
                      try clear p1
                      try clear p18
                      try clear p189
                      try clear p19
                      try clear p191
                      try clear p196
                      try clear p198
                      try clear p2
                      try clear p6
                      try clear q1
                      try clear q18
                      try clear q189
                      try clear q19
                      try clear q191
                      try clear q196
                      try clear q198
                      try clear q3
                      try clear q36
                      obtain ⟨x13_4, x113_4, rfl, HA, HK4, HO_13, HB⟩ := hrel
                      cases gk with
                      | zero => exact absurd HA.out (by simp [laws_FnTypeRemap.l4])
                      | succ k4 =>
                        have H := HA.out
                        clear HA
                        simp only [laws_FnTypeRemap.l4] at H
                        by_cases c65 : x113_4 < (l1.length : Int)
                        · rw [if_pos c65] at H
                          have c65b0 : decide (x113_4 < (l1.length : Int)) = true := decide_eq_true c65
                          clear c65
                          by_cases c66 : 0 ≤ x113_4
                          · rw [if_pos c66] at H
                            have c66b0 : decide (0 ≤ x113_4) = true := decide_eq_true c66
                            clear c66
                            by_cases c67 : x113_4 < (l1.length : Int)
                            · rw [if_pos c67] at H
                              have c67b0 : decide (x113_4 < (l1.length : Int)) = true := decide_eq_true c67
                              clear c67
                              have H' := Aside0.mk H
                              clear H
                              have p204 : 0 ≤ (x113_4 : Int) := of_decide_eq_true (by first | (with_reducible assumption) | assumption)
                              have q204 : x113_4 < (l1.length : Int) := of_decide_eq_true (by first | (with_reducible assumption) | assumption)
                              obtain ⟨ad204, e204, hx204_0, hx204_1⟩ := at_T30 HR1.out x113_4 p204 q204
                              cases e204
                              replace hx204_0 := (HB.out.cell (World.block_lt_of_cell? w _ hx204_0)).trans hx204_0
                              replace hx204_1 := (HB.out.cell (World.block_lt_of_cell? w _ hx204_1)).trans hx204_1
                              replace p204 := eq_true p204
                              replace q204 := eq_true q204
                              go_wp2_with (first | ((with_reducible refine gate_dst (N := 15) rfl ?_); (try (refine gate_guard (by rfl) ?_; dsimp only)); refine box_event ?hg (N := 15) ?hd (cs := #[.int .i64 0, .string (⟨#[]⟩ : ByteArray)]) (t := 30) ?hr ?_; (case hd => rfl); (case hg => rfl); (case hr => first | (go_simp; done) | (go_simp; rfl)); intro gb205 hg w68 hbox hb; have n0_ := Aside0.mk (Kd.R_below (Kd.R_elderB (by (with_reducible repeat (first | apply Kd.R_alloc | apply Kd.R_drewN | apply Kd.R_drew)); exact HO_13.out) gb205 (Nat.le_of_eq hg.symm)) hb); have n1_ := Aside0.mk (below_step (by repeat (first | (with_reducible first | exact HB.out | apply below_alloc | apply pw_below_drewN | apply below_drew1) | exact HB.out)) hb); have n2_ := Aside0.mk (hbox); have n3_ := Aside0.mk ((by rw [hg]; exact (below_size (by repeat (first | (with_reducible first | exact HB.out | apply below_alloc | apply pw_below_drewN | apply below_drew1) | exact HB.out))) : w.heap.size ≤ gb205)); have n4_ := Aside0.mk ((by rw [hg]; exact (below_size (by repeat (first | (with_reducible first | exact HB.out | apply below_alloc | apply pw_below_drewN | apply below_drew1) | exact HB.out))) : w.heap.size ≤ gb205)); clear HO_13; clear HB; have HO_13 := n0_; have HB := n1_; have BK205 := n2_; have GW205 := n3_; have GE205 := n4_; clear n0_ n1_ n2_ n3_ n4_; clear hb hbox hg; have hcz69_0 : w68.cell? ⟨gb205, 0, none⟩ = some (.int .i64 0) := (blk_cell BK205.out 0).trans rfl; have hcz69_1 : w68.cell? ⟨gb205, 1, none⟩ = some (.string (⟨#[]⟩ : ByteArray)) := (blk_cell BK205.out 1).trans rfl; have hfz69_0 := blk_frozen BK205.out 0; have hfz69_1 := blk_frozen BK205.out 1))
                              go_loopg [16, 121] k4 (fun kq v16 v121 w' => ∃ (x16_5 : Int) (x121_5 : Int), v16 = .int .i64 x16_5 ∧ v121 = .int .i64 x121_5 ∧ Aside0 (laws_FnTypeRemap.l5 kq l0 l1 x13_4 x16_5 l1 (l1.length : Int) x113_4 l0 (l0.length : Int) x121_5 ((rd_T30 l1 x113_4).f0) ((rd_T30 l1 x113_4).f1) = some r) ∧ Aside0 (kq ≤ k4) ∧ Aside0 (Kd.R k30 30 w' w.heap.size (fun k_ => k_ ≠ gb205) u13 x13_4) ∧ Aside0 (w'.heap[gb205]? = some (.cells #[.int .i64 ((rd_T30 l1 x113_4).f0), .string ((rd_T30 l1 x113_4).f1)] 30 (0, 0))) ∧ Aside0 (Below w.heap.size w w'))
                              case atStart => exact ⟨((rd_T30 l1 x113_4).f0), (0), (by first | rfl | (simp; done) | (simp [*]; done)), (by first | rfl | (simp; done) | (simp [*]; done)), H', ⟨Nat.le_refl _⟩, ⟨by (with_reducible repeat (first | apply Kd.R_alloc | apply Kd.R_drewN | apply Kd.R_drew)); exact Kd.R_mono (Kd.R_far (p := ⟨gb205, 1, none⟩) (Kd.R_far (p := ⟨gb205, 0, none⟩) (Kd.R_mono HO_13.out (fun k_ hk => (⟨hk, hk.2⟩ : _ ∧ k_ ≠ gb205))) (fun _ hk => hk.2) (.int .i64 ((rd_T30 l1 x113_4).f0))) (fun _ hk => hk.2) (.string ((rd_T30 l1 x113_4).f1))) (fun _ hk => hk.1.2)⟩, ⟨by (with_reducible repeat (first | refine blk_drewN ?_ _ | refine blk_drew ?_ | refine blk_alloc ?_ _)); refine blk_put (cs := #[.int .i64 ((rd_T30 l1 x113_4).f0), .string (⟨#[]⟩ : ByteArray)]) ?_ 1 _ rfl; (with_reducible repeat (first | refine blk_drewN ?_ _ | refine blk_drew ?_ | refine blk_alloc ?_ _)); refine blk_put (cs := #[.int .i64 0, .string (⟨#[]⟩ : ByteArray)]) ?_ 0 _ rfl; (with_reducible repeat (first | refine blk_drewN ?_ _ | refine blk_drew ?_ | refine blk_alloc ?_ _)); exact BK205.out⟩, ⟨by repeat (first | (with_reducible first | exact HB.out | apply below_alloc | apply pw_below_drewN | apply below_drew1 | refine below_set ?_ GE205.out) | exact HB.out)⟩⟩
                              case round =>
                                clear H'
                                try clear c1
                                try clear p1
                                try clear q1
                                try clear hx1
                                try clear c2
                                try clear p2
                                try clear q2
                                try clear hx2
                                try clear c3
                                try clear q3
                                try clear c4
                                try clear c5
                                try clear c6
                                try clear p6
                                try clear c10
                                try clear c12
                                try clear c12b0
                                try clear c12b1
                                try clear c12b2
                                try clear c15
                                try clear c16
                                try clear c16b0
                                try clear c17
                                try clear c17b0
                                try clear c18
                                try clear c18b0
                                try clear p18
                                try clear q18
                                try clear hx18
                                try clear c19
                                try clear p19
                                try clear q19
                                try clear hx19
                                try clear p20
                                try clear q20
                                try clear hx20
                                try clear c22
                                try clear c22b0
                                try clear c22b1
                                try clear c22b2
                                try clear c24
                                try clear c24b0
                                try clear c24b1
                                try clear c27
                                try clear c29
                                try clear c29b0
                                try clear c30
                                try clear c30b0
                                try clear c31
                                try clear c31b0
                                try clear c32
                                try clear c32b0
                                try clear c32b1
                                try clear c34
                                try clear c34b0
                                try clear c34b1
                                try clear c35
                                try clear c35b0
                                try clear c35b1
                                try clear q36
                                try clear c37
                                try clear c37b0
                                try clear c38
                                try clear c38b0
                                try clear c39
                                try clear c39b0
                                try clear c41
                                try clear c43
                                try clear c43b0
                                try clear c44
                                try clear c44b0
                                try clear c45
                                try clear c45b0
                                try clear c46
                                try clear c46b0
                                try clear c46b1
                                try clear c47
                                try clear c47b0
                                try clear c47b1
                                try clear c48
                                try clear c48b0
                                try clear c49
                                try clear c52
                                try clear c52b0
                                try clear c53
                                try clear c56
                                try clear c59
                                try clear c62
                                try clear p64
                                try clear c65
                                try clear c65b0
                                try clear c66
                                try clear c66b0
                                try clear c67
                                try clear c67b0
                                try clear hcz21_0
                                try clear hcz21_1
                                try clear hcz21_2
                                try clear hcz23_0
                                try clear hcz23_1
                                try clear hcz23_2
                                try clear hcz25_0
                                try clear hcz25_1
                                try clear hcz25_2
                                try clear hcz26_0
                                try clear hcz26_1
                                try clear hcz26_2
                                try clear hcz28_0
                                try clear hcz28_1
                                try clear hcz28_2
                                try clear hcz42_0
                                try clear hcz42_1
                                try clear hcz42_2
                                try clear hcz50_0
                                try clear hcz50_1
                                try clear hcz50_2
                                try clear hcz51_0
                                try clear hcz51_1
                                try clear hcz51_2
                                try clear hcz54_0
                                try clear hcz54_1
                                try clear hcz54_2
                                try clear hcz55_0
                                try clear hcz55_1
                                try clear hcz55_2
                                try clear hcz57_0
                                try clear hcz57_1
                                try clear hcz57_2
                                try clear hcz58_0
                                try clear hcz58_1
                                try clear hcz58_2
                                try clear hcz60_0
                                try clear hcz60_1
                                try clear hcz60_2
                                try clear hcz61_0
                                try clear hcz61_1
                                try clear hcz61_2
                                try clear hcz63_0
                                try clear hcz63_1
                                try clear hcz63_2
                                try clear hcz64_0
                                try clear hcz64_1
                                try clear hcz64_2
                                try clear hcz69_0
                                try clear hcz69_1
                                try clear hfz21_0
                                try clear hfz21_1
                                try clear hfz21_2
                                try clear hfz23_0
                                try clear hfz23_1
                                try clear hfz23_2
                                try clear hfz25_0
                                try clear hfz25_1
                                try clear hfz25_2
                                try clear hfz26_0
                                try clear hfz26_1
                                try clear hfz26_2
                                try clear hfz28_0
                                try clear hfz28_1
                                try clear hfz28_2
                                try clear hfz42_0
                                try clear hfz42_1
                                try clear hfz42_2
                                try clear hfz50_0
                                try clear hfz50_1
                                try clear hfz50_2
                                try clear hfz51_0
                                try clear hfz51_1
                                try clear hfz51_2
                                try clear hfz54_0
                                try clear hfz54_1
                                try clear hfz54_2
                                try clear hfz55_0
                                try clear hfz55_1
                                try clear hfz55_2
                                try clear hfz57_0
                                try clear hfz57_1
                                try clear hfz57_2
                                try clear hfz58_0
                                try clear hfz58_1
                                try clear hfz58_2
                                try clear hfz60_0
                                try clear hfz60_1
                                try clear hfz60_2
                                try clear hfz61_0
                                try clear hfz61_1
                                try clear hfz61_2
                                try clear hfz63_0
                                try clear hfz63_1
                                try clear hfz63_2
                                try clear hfz64_0
                                try clear hfz64_1
                                try clear hfz64_2
                                try clear hfz69_0
                                try clear hfz69_1
                                try clear hx189_0
                                try clear hx189_1
                                try clear hx189_2
                                try clear hx191_0
                                try clear hx196_0
                                try clear hx196_1
                                try clear hx196_2
                                try clear hx198_0
                                try clear hx204_0
                                try clear hx204_1
                                try clear p1
                                try clear p18
                                try clear p189
                                try clear p19
                                try clear p191
                                try clear p196
                                try clear p198
                                try clear p2
                                try clear p204
                                try clear p6
                                try clear p64
                                try clear q1
                                try clear q18
                                try clear q189
                                try clear q19
                                try clear q191
                                try clear q196
                                try clear q198
                                try clear q204
                                try clear q3
                                try clear q36
                                obtain ⟨x16_5, x121_5, rfl, rfl, HA, HK5, HO_13, BK205, HB⟩ := hrel
                                cases gk with
                                | zero => exact absurd HA.out (by simp [laws_FnTypeRemap.l5])
                                | succ k5 =>
                                  have H := HA.out
                                  clear HA
                                  simp only [laws_FnTypeRemap.l5] at H
                                  by_cases c70 : x121_5 < (l0.length : Int)
                                  · rw [if_pos c70] at H
                                    have c70b0 : decide (x121_5 < (l0.length : Int)) = true := decide_eq_true c70
                                    clear c70
                                    by_cases c71 : 0 ≤ x121_5
                                    · rw [if_pos c71] at H
                                      have c71b0 : decide (0 ≤ x121_5) = true := decide_eq_true c71
                                      clear c71
                                      by_cases c72 : x121_5 < (l0.length : Int)
                                      · rw [if_pos c72] at H
                                        have c72b0 : decide (x121_5 < (l0.length : Int)) = true := decide_eq_true c72
                                        clear c72
                                        have H' := Aside0.mk H
                                        clear H
                                        have p209 : 0 ≤ (x121_5 : Int) := of_decide_eq_true (by first | (with_reducible assumption) | assumption)
                                        have q209 : x121_5 < (l0.length : Int) := of_decide_eq_true (by first | (with_reducible assumption) | assumption)
                                        obtain ⟨ad209, A209_2, c209_2, e209, hx209_0, hx209_1, hx209_2, hl209_2, hi209_2⟩ := at_T28 HR0.out x121_5 p209 q209
                                        cases e209
                                        replace hx209_0 := (HB.out.cell (World.block_lt_of_cell? w _ hx209_0)).trans hx209_0
                                        replace hx209_1 := (HB.out.cell (World.block_lt_of_cell? w _ hx209_1)).trans hx209_1
                                        replace hx209_2 := (HB.out.cell (World.block_lt_of_cell? w _ hx209_2)).trans hx209_2
                                        have HR209_2 := Aside0.mk hi209_2
                                        have HC209_2 := Aside0.mk hl209_2
                                        clear hi209_2 hl209_2
                                        replace p209 := eq_true p209
                                        replace q209 := eq_true q209
                                        go_wp2_with (first | ((with_reducible refine gate_dst (N := 18) rfl ?_); (try (refine gate_guard (by rfl) ?_; dsimp only)); refine box_event ?hg (N := 18) ?hd (cs := #[.int .i64 0, .int .i64 0, .slice none 0 0]) (t := 28) ?hr ?_; (case hd => rfl); (case hg => rfl); (case hr => first | (go_simp; done) | (go_simp; rfl)); intro gb210 hg w73 hbox hb; have n0_ := Aside0.mk (Kd.R_below (by (with_reducible repeat (first | apply Kd.R_alloc | apply Kd.R_drewN | apply Kd.R_drew)); exact HO_13.out) hb); have n1_ := Aside0.mk (blk_below (g := gb205) (o := .cells #[.int .i64 ((rd_T30 l1 x113_4).f0), .string ((rd_T30 l1 x113_4).f1)] 30 (0, 0)) (by (with_reducible repeat (first | refine blk_drewN ?_ _ | refine blk_drew ?_ | refine blk_alloc ?_ _)); exact BK205.out) hb); have n2_ := Aside0.mk (below_step (by repeat (first | (with_reducible first | exact HB.out | apply below_alloc | apply pw_below_drewN | apply below_drew1 | refine below_set ?_ GE205.out) | exact HB.out)) hb); have n3_ := Aside0.mk (hbox); have n4_ := Aside0.mk ((by rw [hg]; exact (below_size (by repeat (first | (with_reducible first | exact HB.out | apply below_alloc | apply pw_below_drewN | apply below_drew1 | refine below_set ?_ GE205.out) | exact HB.out))) : w.heap.size ≤ gb210)); have n5_ := Aside0.mk ((by rw [hg]; exact (below_size (by repeat (first | (with_reducible first | exact HB.out | apply below_alloc | apply pw_below_drewN | apply below_drew1 | refine below_set ?_ GE205.out) | exact HB.out))) : w.heap.size ≤ gb210)); have n6_ := Aside0.mk ((by rw [hg]; exact Nat.ne_of_lt (blk_lt (g := gb205) (o := .cells #[.int .i64 ((rd_T30 l1 x113_4).f0), .string ((rd_T30 l1 x113_4).f1)] 30 (0, 0)) (by (with_reducible repeat (first | refine blk_drewN ?_ _ | refine blk_drew ?_ | refine blk_alloc ?_ _)); exact BK205.out)) : gb205 ≠ gb210)); have n7_ := Aside0.mk ((by rw [hg]; exact Nat.ne_of_gt (blk_lt (g := gb205) (o := .cells #[.int .i64 ((rd_T30 l1 x113_4).f0), .string ((rd_T30 l1 x113_4).f1)] 30 (0, 0)) (by (with_reducible repeat (first | refine blk_drewN ?_ _ | refine blk_drew ?_ | refine blk_alloc ?_ _)); exact BK205.out)) : gb210 ≠ gb205)); clear HO_13; clear BK205; clear HB; have HO_13 := n0_; have BK205 := n1_; have HB := n2_; have BK210 := n3_; have GW210 := n4_; have GE210 := n5_; have NB205_210 := n6_; have NB210_205 := n7_; clear n0_ n1_ n2_ n3_ n4_ n5_ n6_ n7_; clear hb hbox hg; have hnb74 := NB210_205.out; have hnc74 := NB205_210.out; have hcz75_0 : w73.cell? ⟨gb210, 0, none⟩ = some (.int .i64 0) := (blk_cell BK210.out 0).trans rfl; have hcz75_1 : w73.cell? ⟨gb210, 1, none⟩ = some (.int .i64 0) := (blk_cell BK210.out 1).trans rfl; have hcz75_2 : w73.cell? ⟨gb210, 2, none⟩ = some (.slice none 0 0) := (blk_cell BK210.out 2).trans rfl; have hfz75_0 := blk_frozen BK210.out 0; have hfz75_1 := blk_frozen BK210.out 1; have hfz75_2 := blk_frozen BK210.out 2))
                                        go_loopg [16, 128] k5 (fun kq v16 v128 w' => ∃ (x16_6 : Int) (x128_6 : Int), v16 = .int .i64 x16_6 ∧ v128 = .int .i64 x128_6 ∧ Aside0 (laws_FnTypeRemap.l6 kq l0 l1 x13_4 x16_6 l1 (l1.length : Int) x113_4 l0 (l0.length : Int) x121_5 ((rd_T28 l0 x121_5).f2) (((rd_T28 l0 x121_5).f2).length : Int) x128_6 ((rd_T30 l1 x113_4).f0) ((rd_T30 l1 x113_4).f1) ((rd_T28 l0 x121_5).f0) ((rd_T28 l0 x121_5).f1) ((rd_T28 l0 x121_5).f2) = some r) ∧ Aside0 (kq ≤ k5) ∧ Aside0 (Kd.R k30 30 w' w.heap.size (fun k_ => k_ ≠ gb205) u13 x13_4) ∧ Aside0 (w'.heap[gb205]? = some (.cells #[.int .i64 ((rd_T30 l1 x113_4).f0), .string ((rd_T30 l1 x113_4).f1)] 30 (0, 0))) ∧ Aside0 (w'.heap[gb210]? = some (.cells #[.int .i64 ((rd_T28 l0 x121_5).f0), .int .i64 ((rd_T28 l0 x121_5).f1), (.slice A209_2 ((rd_T28 l0 x121_5).f2).length c209_2)] 28 (0, 0))) ∧ Aside0 (Below w.heap.size w w'))
                                        case atStart => exact ⟨(x16_5), (0), (by first | rfl | (simp; done) | (simp [*]; done)), (by first | rfl | (simp; done) | (simp [*]; done)), H', ⟨Nat.le_refl _⟩, ⟨by (with_reducible repeat (first | apply Kd.R_alloc | apply Kd.R_drewN | apply Kd.R_drew)); exact Kd.R_mono (Kd.R_far (p := ⟨gb210, 2, none⟩) (Kd.R_far (p := ⟨gb210, 1, none⟩) (Kd.R_far (p := ⟨gb210, 0, none⟩) (Kd.R_types HO_13.out BK210.out (by decide)) (fun _ hk => hk.2) (.int .i64 ((rd_T28 l0 x121_5).f0))) (fun _ hk => hk.2) (.int .i64 ((rd_T28 l0 x121_5).f1))) (fun _ hk => hk.2) (.slice A209_2 ((rd_T28 l0 x121_5).f2).length c209_2)) (fun _ hk => hk.1)⟩, ⟨by (with_reducible repeat (first | refine blk_drewN ?_ _ | refine blk_drew ?_ | refine blk_alloc ?_ _)); refine blk_far ?_ NB205_210.out _; (with_reducible repeat (first | refine blk_drewN ?_ _ | refine blk_drew ?_ | refine blk_alloc ?_ _)); refine blk_far ?_ NB205_210.out _; (with_reducible repeat (first | refine blk_drewN ?_ _ | refine blk_drew ?_ | refine blk_alloc ?_ _)); refine blk_far ?_ NB205_210.out _; (with_reducible repeat (first | refine blk_drewN ?_ _ | refine blk_drew ?_ | refine blk_alloc ?_ _)); exact BK205.out⟩, ⟨by (with_reducible repeat (first | refine blk_drewN ?_ _ | refine blk_drew ?_ | refine blk_alloc ?_ _)); refine blk_put (cs := #[.int .i64 ((rd_T28 l0 x121_5).f0), .int .i64 ((rd_T28 l0 x121_5).f1), .slice none 0 0]) ?_ 2 _ rfl; (with_reducible repeat (first | refine blk_drewN ?_ _ | refine blk_drew ?_ | refine blk_alloc ?_ _)); refine blk_put (cs := #[.int .i64 ((rd_T28 l0 x121_5).f0), .int .i64 0, .slice none 0 0]) ?_ 1 _ rfl; (with_reducible repeat (first | refine blk_drewN ?_ _ | refine blk_drew ?_ | refine blk_alloc ?_ _)); refine blk_put (cs := #[.int .i64 0, .int .i64 0, .slice none 0 0]) ?_ 0 _ rfl; (with_reducible repeat (first | refine blk_drewN ?_ _ | refine blk_drew ?_ | refine blk_alloc ?_ _)); exact BK210.out⟩, ⟨by repeat (first | (with_reducible first | exact HB.out | apply below_alloc | apply pw_below_drewN | apply below_drew1 | refine below_set ?_ GE205.out | refine below_set ?_ GE210.out) | exact HB.out)⟩⟩
                                        case round =>
                                          clear H'
                                          try clear c1
                                          try clear p1
                                          try clear q1
                                          try clear hx1
                                          try clear c2
                                          try clear p2
                                          try clear q2
                                          try clear hx2
                                          try clear c3
                                          try clear q3
                                          try clear c4
                                          try clear c5
                                          try clear c6
                                          try clear p6
                                          try clear c7
                                          try clear c10
                                          try clear c12
                                          try clear c12b0
                                          try clear c12b1
                                          try clear c12b2
                                          try clear c15
                                          try clear c16
                                          try clear c16b0
                                          try clear c17
                                          try clear c17b0
                                          try clear c18
                                          try clear c18b0
                                          try clear p18
                                          try clear q18
                                          try clear hx18
                                          try clear c19
                                          try clear p19
                                          try clear q19
                                          try clear hx19
                                          try clear c20
                                          try clear p20
                                          try clear q20
                                          try clear hx20
                                          try clear c22
                                          try clear c22b0
                                          try clear c22b1
                                          try clear c22b2
                                          try clear c24
                                          try clear c24b0
                                          try clear c24b1
                                          try clear c27
                                          try clear c29
                                          try clear c29b0
                                          try clear c30
                                          try clear c30b0
                                          try clear c31
                                          try clear c31b0
                                          try clear c32
                                          try clear c32b0
                                          try clear c32b1
                                          try clear c34
                                          try clear c34b0
                                          try clear c34b1
                                          try clear c35
                                          try clear c35b0
                                          try clear c35b1
                                          try clear q36
                                          try clear c37
                                          try clear c37b0
                                          try clear c38
                                          try clear c38b0
                                          try clear c39
                                          try clear c39b0
                                          try clear c41
                                          try clear c43
                                          try clear c43b0
                                          try clear c44
                                          try clear c44b0
                                          try clear c45
                                          try clear c45b0
                                          try clear c46
                                          try clear c46b0
                                          try clear c46b1
                                          try clear c47
                                          try clear c47b0
                                          try clear c47b1
                                          try clear c48
                                          try clear c48b0
                                          try clear c49
                                          try clear c52
                                          try clear c52b0
                                          try clear c53
                                          try clear c56
                                          try clear c59
                                          try clear c62
                                          try clear p64
                                          try clear c65
                                          try clear c65b0
                                          try clear c66
                                          try clear c66b0
                                          try clear c67
                                          try clear c67b0
                                          try clear c70
                                          try clear c70b0
                                          try clear c71
                                          try clear c71b0
                                          try clear c72
                                          try clear c72b0
                                          try clear c74
                                          try clear hcz21_0
                                          try clear hcz21_1
                                          try clear hcz21_2
                                          try clear hcz23_0
                                          try clear hcz23_1
                                          try clear hcz23_2
                                          try clear hcz25_0
                                          try clear hcz25_1
                                          try clear hcz25_2
                                          try clear hcz26_0
                                          try clear hcz26_1
                                          try clear hcz26_2
                                          try clear hcz28_0
                                          try clear hcz28_1
                                          try clear hcz28_2
                                          try clear hcz42_0
                                          try clear hcz42_1
                                          try clear hcz42_2
                                          try clear hcz50_0
                                          try clear hcz50_1
                                          try clear hcz50_2
                                          try clear hcz51_0
                                          try clear hcz51_1
                                          try clear hcz51_2
                                          try clear hcz54_0
                                          try clear hcz54_1
                                          try clear hcz54_2
                                          try clear hcz55_0
                                          try clear hcz55_1
                                          try clear hcz55_2
                                          try clear hcz57_0
                                          try clear hcz57_1
                                          try clear hcz57_2
                                          try clear hcz58_0
                                          try clear hcz58_1
                                          try clear hcz58_2
                                          try clear hcz60_0
                                          try clear hcz60_1
                                          try clear hcz60_2
                                          try clear hcz61_0
                                          try clear hcz61_1
                                          try clear hcz61_2
                                          try clear hcz63_0
                                          try clear hcz63_1
                                          try clear hcz63_2
                                          try clear hcz64_0
                                          try clear hcz64_1
                                          try clear hcz64_2
                                          try clear hcz69_0
                                          try clear hcz69_1
                                          try clear hcz75_0
                                          try clear hcz75_1
                                          try clear hcz75_2
                                          try clear hfz21_0
                                          try clear hfz21_1
                                          try clear hfz21_2
                                          try clear hfz23_0
                                          try clear hfz23_1
                                          try clear hfz23_2
                                          try clear hfz25_0
                                          try clear hfz25_1
                                          try clear hfz25_2
                                          try clear hfz26_0
                                          try clear hfz26_1
                                          try clear hfz26_2
                                          try clear hfz28_0
                                          try clear hfz28_1
                                          try clear hfz28_2
                                          try clear hfz42_0
                                          try clear hfz42_1
                                          try clear hfz42_2
                                          try clear hfz50_0
                                          try clear hfz50_1
                                          try clear hfz50_2
                                          try clear hfz51_0
                                          try clear hfz51_1
                                          try clear hfz51_2
                                          try clear hfz54_0
                                          try clear hfz54_1
                                          try clear hfz54_2
                                          try clear hfz55_0
                                          try clear hfz55_1
                                          try clear hfz55_2
                                          try clear hfz57_0
                                          try clear hfz57_1
                                          try clear hfz57_2
                                          try clear hfz58_0
                                          try clear hfz58_1
                                          try clear hfz58_2
                                          try clear hfz60_0
                                          try clear hfz60_1
                                          try clear hfz60_2
                                          try clear hfz61_0
                                          try clear hfz61_1
                                          try clear hfz61_2
                                          try clear hfz63_0
                                          try clear hfz63_1
                                          try clear hfz63_2
                                          try clear hfz64_0
                                          try clear hfz64_1
                                          try clear hfz64_2
                                          try clear hfz69_0
                                          try clear hfz69_1
                                          try clear hfz75_0
                                          try clear hfz75_1
                                          try clear hfz75_2
                                          try clear hx189_0
                                          try clear hx189_1
                                          try clear hx189_2
                                          try clear hx191_0
                                          try clear hx196_0
                                          try clear hx196_1
                                          try clear hx196_2
                                          try clear hx198_0
                                          try clear hx204_0
                                          try clear hx204_1
                                          try clear hx209_0
                                          try clear hx209_1
                                          try clear hx209_2
                                          try clear p1
                                          try clear p18
                                          try clear p189
                                          try clear p19
                                          try clear p191
                                          try clear p196
                                          try clear p198
                                          try clear p2
                                          try clear p20
                                          try clear p204
                                          try clear p209
                                          try clear p6
                                          try clear p64
                                          try clear q1
                                          try clear q18
                                          try clear q189
                                          try clear q19
                                          try clear q191
                                          try clear q196
                                          try clear q198
                                          try clear q2
                                          try clear q20
                                          try clear q204
                                          try clear q209
                                          try clear q3
                                          try clear q36
                                          obtain ⟨x16_6, x128_6, rfl, rfl, HA, HK6, HO_13, BK205, BK210, HB⟩ := hrel
                                          cases gk with
                                          | zero => exact absurd HA.out (by simp [laws_FnTypeRemap.l6])
                                          | succ k6 =>
                                            have H := HA.out
                                            clear HA
                                            simp only [laws_FnTypeRemap.l6] at H
                                            by_cases c76 : x128_6 < (((rd_T28 l0 x121_5).f2).length : Int)
                                            · rw [if_pos c76] at H
                                              have c76b0 : decide (x128_6 < (((rd_T28 l0 x121_5).f2).length : Int)) = true := decide_eq_true c76
                                              clear c76
                                              by_cases c77 : 0 ≤ x128_6
                                              · rw [if_pos c77] at H
                                                have c77b0 : decide (0 ≤ x128_6) = true := decide_eq_true c77
                                                clear c77
                                                by_cases c78 : x128_6 < (((rd_T28 l0 x121_5).f2).length : Int)
                                                · rw [if_pos c78] at H
                                                  have c78b0 : decide (x128_6 < (((rd_T28 l0 x121_5).f2).length : Int)) = true := decide_eq_true c78
                                                  clear c78
                                                  by_cases c79 : ((rd_T28 l0 x121_5).f0) = ((rd_T30 l1 x113_4).f0)
                                                  · rw [if_pos c79] at H
                                                    have c79b0 : (((rd_T28 l0 x121_5).f0) == ((rd_T30 l1 x113_4).f0)) = true := beq_iff_eq.mpr c79
                                                    have c79b1 : (((rd_T28 l0 x121_5).f0) != ((rd_T30 l1 x113_4).f0)) = false := bne_eq_false_iff_eq.mpr c79
                                                    clear c79
                                                    by_cases c80 : (rdOf ByteArray.empty ((rd_T28 l0 x121_5).f2) x128_6).toList = ((rd_T30 l1 x113_4).f1).toList
                                                    · rw [if_pos c80] at H
                                                      have c80b0 : ((rdOf ByteArray.empty ((rd_T28 l0 x121_5).f2) x128_6).toList == ((rd_T30 l1 x113_4).f1).toList) = true := beq_iff_eq.mpr c80
                                                      have c80b1 : ((rdOf ByteArray.empty ((rd_T28 l0 x121_5).f2) x128_6).toList != ((rd_T30 l1 x113_4).f1).toList) = false := bne_eq_false_iff_eq.mpr c80
                                                      clear c80
                                                      have H' := Aside0.mk H
                                                      clear H
                                                      have p211 : 0 ≤ (x128_6 : Int) := of_decide_eq_true (by first | (with_reducible assumption) | assumption)
                                                      have q211 : x128_6 < (((rd_T28 l0 x121_5).f2).length : Int) := of_decide_eq_true (by first | (with_reducible assumption) | assumption)
                                                      obtain ⟨ad211, e211, hx211_0⟩ := Kd.at_string HR209_2.out x128_6 p211 q211
                                                      cases e211
                                                      replace hx211_0 := (HB.out.cell (World.block_lt_of_cell? w _ hx211_0)).trans hx211_0
                                                      replace p211 := eq_true p211
                                                      replace q211 := eq_true q211
                                                      have hnb81 := NB210_205.out
                                                      have hnc81 := NB205_210.out
                                                      have hcz82_0 : wr.cell? ⟨gb210, 0, none⟩ = some (.int .i64 ((rd_T28 l0 x121_5).f0)) := (blk_cell BK210.out 0).trans rfl
                                                      have hcz82_1 : wr.cell? ⟨gb210, 1, none⟩ = some (.int .i64 ((rd_T28 l0 x121_5).f1)) := (blk_cell BK210.out 1).trans rfl
                                                      have hcz82_2 : wr.cell? ⟨gb210, 2, none⟩ = some (.slice (some ad211) ((rd_T28 l0 x121_5).f2).length c209_2) := (blk_cell BK210.out 2).trans rfl
                                                      have hfz82_0 := blk_frozen BK210.out 0
                                                      have hfz82_1 := blk_frozen BK210.out 1
                                                      have hfz82_2 := blk_frozen BK210.out 2
                                                      have hcz83_0 : wr.cell? ⟨gb205, 0, none⟩ = some (.int .i64 ((rd_T30 l1 x113_4).f0)) := (blk_cell BK205.out 0).trans rfl
                                                      have hcz83_1 : wr.cell? ⟨gb205, 1, none⟩ = some (.string ((rd_T30 l1 x113_4).f1)) := (blk_cell BK205.out 1).trans rfl
                                                      have hfz83_0 := blk_frozen BK205.out 0
                                                      have hfz83_1 := blk_frozen BK205.out 1
                                                      go_wp2
                                                      go_roundg k6
                                                      case measure => have := HJ2.out; have := HJ10.out; have := HK3.out; have := HK4.out; have := HK5.out; have := HK6.out; omega
                                                      case rel => exact ⟨(((rd_T28 l0 x121_5).f1)), (wrap64 (x128_6 + 1)), (by first | rfl | (simp; done) | (simp [*]; done)), (by first | rfl | (simp; done) | (simp [*]; done)), H', ⟨by have := HJ2.out; have := HJ10.out; have := HK3.out; have := HK4.out; have := HK5.out; have := HK6.out; omega⟩, ⟨by (with_reducible repeat (first | apply Kd.R_alloc | apply Kd.R_drewN | apply Kd.R_drew)); exact HO_13.out⟩, ⟨by (with_reducible repeat (first | refine blk_drewN ?_ _ | refine blk_drew ?_ | refine blk_alloc ?_ _)); exact BK205.out⟩, ⟨by (with_reducible repeat (first | refine blk_drewN ?_ _ | refine blk_drew ?_ | refine blk_alloc ?_ _)); exact BK210.out⟩, ⟨by repeat (first | (with_reducible first | exact HB.out | apply below_alloc | apply pw_below_drewN | apply below_drew1 | refine below_set ?_ GE205.out | refine below_set ?_ GE210.out) | exact HB.out)⟩⟩
                                                    · rw [if_neg c80] at H
                                                      have c80b0 : ((rdOf ByteArray.empty ((rd_T28 l0 x121_5).f2) x128_6).toList == ((rd_T30 l1 x113_4).f1).toList) = false := beq_eq_false_iff_ne.mpr c80
                                                      have c80b1 : ((rdOf ByteArray.empty ((rd_T28 l0 x121_5).f2) x128_6).toList != ((rd_T30 l1 x113_4).f1).toList) = true := bne_iff_ne.mpr c80
                                                      have H' := Aside0.mk H
                                                      clear H
                                                      have p211 : 0 ≤ (x128_6 : Int) := of_decide_eq_true (by first | (with_reducible assumption) | assumption)
                                                      have q211 : x128_6 < (((rd_T28 l0 x121_5).f2).length : Int) := of_decide_eq_true (by first | (with_reducible assumption) | assumption)
                                                      obtain ⟨ad211, e211, hx211_0⟩ := Kd.at_string HR209_2.out x128_6 p211 q211
                                                      cases e211
                                                      replace hx211_0 := (HB.out.cell (World.block_lt_of_cell? w _ hx211_0)).trans hx211_0
                                                      replace p211 := eq_true p211
                                                      replace q211 := eq_true q211
                                                      have hnb84 := NB210_205.out
                                                      have hnc84 := NB205_210.out
                                                      have hcz85_0 : wr.cell? ⟨gb210, 0, none⟩ = some (.int .i64 ((rd_T28 l0 x121_5).f0)) := (blk_cell BK210.out 0).trans rfl
                                                      have hcz85_1 : wr.cell? ⟨gb210, 1, none⟩ = some (.int .i64 ((rd_T28 l0 x121_5).f1)) := (blk_cell BK210.out 1).trans rfl
                                                      have hcz85_2 : wr.cell? ⟨gb210, 2, none⟩ = some (.slice (some ad211) ((rd_T28 l0 x121_5).f2).length c209_2) := (blk_cell BK210.out 2).trans rfl
                                                      have hfz85_0 := blk_frozen BK210.out 0
                                                      have hfz85_1 := blk_frozen BK210.out 1
                                                      have hfz85_2 := blk_frozen BK210.out 2
                                                      have hcz86_0 : wr.cell? ⟨gb205, 0, none⟩ = some (.int .i64 ((rd_T30 l1 x113_4).f0)) := (blk_cell BK205.out 0).trans rfl
                                                      have hcz86_1 : wr.cell? ⟨gb205, 1, none⟩ = some (.string ((rd_T30 l1 x113_4).f1)) := (blk_cell BK205.out 1).trans rfl
                                                      have hfz86_0 := blk_frozen BK205.out 0
                                                      have hfz86_1 := blk_frozen BK205.out 1
                                                      go_wp2
                                                      go_roundg k6
                                                      case measure => have := HJ2.out; have := HJ10.out; have := HK3.out; have := HK4.out; have := HK5.out; have := HK6.out; omega
                                                      case rel => exact ⟨(x16_6), (wrap64 (x128_6 + 1)), (by first | rfl | (simp; done) | (simp [*]; done)), (by first | rfl | (simp; done) | (simp [*]; done)), H', ⟨by have := HJ2.out; have := HJ10.out; have := HK3.out; have := HK4.out; have := HK5.out; have := HK6.out; omega⟩, ⟨by (with_reducible repeat (first | apply Kd.R_alloc | apply Kd.R_drewN | apply Kd.R_drew)); exact HO_13.out⟩, ⟨by (with_reducible repeat (first | refine blk_drewN ?_ _ | refine blk_drew ?_ | refine blk_alloc ?_ _)); exact BK205.out⟩, ⟨by (with_reducible repeat (first | refine blk_drewN ?_ _ | refine blk_drew ?_ | refine blk_alloc ?_ _)); exact BK210.out⟩, ⟨by repeat (first | (with_reducible first | exact HB.out | apply below_alloc | apply pw_below_drewN | apply below_drew1 | refine below_set ?_ GE205.out | refine below_set ?_ GE210.out) | exact HB.out)⟩⟩
                                                  · rw [if_neg c79] at H
                                                    have c79b0 : (((rd_T28 l0 x121_5).f0) == ((rd_T30 l1 x113_4).f0)) = false := beq_eq_false_iff_ne.mpr c79
                                                    have c79b1 : (((rd_T28 l0 x121_5).f0) != ((rd_T30 l1 x113_4).f0)) = true := bne_iff_ne.mpr c79
                                                    have H' := Aside0.mk H
                                                    clear H
                                                    have p211 : 0 ≤ (x128_6 : Int) := of_decide_eq_true (by first | (with_reducible assumption) | assumption)
                                                    have q211 : x128_6 < (((rd_T28 l0 x121_5).f2).length : Int) := of_decide_eq_true (by first | (with_reducible assumption) | assumption)
                                                    obtain ⟨ad211, e211, hx211_0⟩ := Kd.at_string HR209_2.out x128_6 p211 q211
                                                    cases e211
                                                    replace hx211_0 := (HB.out.cell (World.block_lt_of_cell? w _ hx211_0)).trans hx211_0
                                                    replace p211 := eq_true p211
                                                    replace q211 := eq_true q211
                                                    have hnb87 := NB210_205.out
                                                    have hnc87 := NB205_210.out
                                                    have hcz88_0 : wr.cell? ⟨gb210, 0, none⟩ = some (.int .i64 ((rd_T28 l0 x121_5).f0)) := (blk_cell BK210.out 0).trans rfl
                                                    have hcz88_1 : wr.cell? ⟨gb210, 1, none⟩ = some (.int .i64 ((rd_T28 l0 x121_5).f1)) := (blk_cell BK210.out 1).trans rfl
                                                    have hcz88_2 : wr.cell? ⟨gb210, 2, none⟩ = some (.slice (some ad211) ((rd_T28 l0 x121_5).f2).length c209_2) := (blk_cell BK210.out 2).trans rfl
                                                    have hfz88_0 := blk_frozen BK210.out 0
                                                    have hfz88_1 := blk_frozen BK210.out 1
                                                    have hfz88_2 := blk_frozen BK210.out 2
                                                    have hcz89_0 : wr.cell? ⟨gb205, 0, none⟩ = some (.int .i64 ((rd_T30 l1 x113_4).f0)) := (blk_cell BK205.out 0).trans rfl
                                                    have hcz89_1 : wr.cell? ⟨gb205, 1, none⟩ = some (.string ((rd_T30 l1 x113_4).f1)) := (blk_cell BK205.out 1).trans rfl
                                                    have hfz89_0 := blk_frozen BK205.out 0
                                                    have hfz89_1 := blk_frozen BK205.out 1
                                                    go_wp2
                                                    go_roundg k6
                                                    case measure => have := HJ2.out; have := HJ10.out; have := HK3.out; have := HK4.out; have := HK5.out; have := HK6.out; omega
                                                    case rel => exact ⟨(x16_6), (wrap64 (x128_6 + 1)), (by first | rfl | (simp; done) | (simp [*]; done)), (by first | rfl | (simp; done) | (simp [*]; done)), H', ⟨by have := HJ2.out; have := HJ10.out; have := HK3.out; have := HK4.out; have := HK5.out; have := HK6.out; omega⟩, ⟨by (with_reducible repeat (first | apply Kd.R_alloc | apply Kd.R_drewN | apply Kd.R_drew)); exact HO_13.out⟩, ⟨by (with_reducible repeat (first | refine blk_drewN ?_ _ | refine blk_drew ?_ | refine blk_alloc ?_ _)); exact BK205.out⟩, ⟨by (with_reducible repeat (first | refine blk_drewN ?_ _ | refine blk_drew ?_ | refine blk_alloc ?_ _)); exact BK210.out⟩, ⟨by repeat (first | (with_reducible first | exact HB.out | apply below_alloc | apply pw_below_drewN | apply below_drew1 | refine below_set ?_ GE205.out | refine below_set ?_ GE210.out) | exact HB.out)⟩⟩
                                                · rw [if_neg c78] at H
                                                  exact absurd H (by simp)
                                              · rw [if_neg c77] at H
                                                exact absurd H (by simp)
                                            · rw [if_neg c76] at H
                                              have c76b0 : decide (x128_6 < (((rd_T28 l0 x121_5).f2).length : Int)) = false := decide_eq_false c76
                                              clear c76
                                              have H' := Aside0.mk H
                                              clear H
                                              go_wp2
                                              go_roundg k6
                                              case measure => have := HJ2.out; have := HJ10.out; have := HK3.out; have := HK4.out; have := HK5.out; have := HK6.out; omega
                                              case rel => exact ⟨(x16_6), (wrap64 (x121_5 + 1)), (by first | rfl | (simp; done) | (simp [*]; done)), (by first | rfl | (simp; done) | (simp [*]; done)), H', ⟨by have := HJ2.out; have := HJ10.out; have := HK3.out; have := HK4.out; have := HK5.out; have := HK6.out; omega⟩, ⟨by (with_reducible repeat (first | apply Kd.R_alloc | apply Kd.R_drewN | apply Kd.R_drew)); exact HO_13.out⟩, ⟨by (with_reducible repeat (first | refine blk_drewN ?_ _ | refine blk_drew ?_ | refine blk_alloc ?_ _)); exact BK205.out⟩, ⟨by repeat (first | (with_reducible first | exact HB.out | apply below_alloc | apply pw_below_drewN | apply below_drew1 | refine below_set ?_ GE205.out | refine below_set ?_ GE210.out) | exact HB.out)⟩⟩
                                      · rw [if_neg c72] at H
                                        exact absurd H (by simp)
                                    · rw [if_neg c71] at H
                                      exact absurd H (by simp)
                                  · rw [if_neg c70] at H
                                    have c70b0 : decide (x121_5 < (l0.length : Int)) = false := decide_eq_false c70
                                    clear c70
                                    by_cases c90 : x13_4.length < 5864062014805
                                    · rw [if_pos c90] at H
                                      have LMc90 := Aside0.mk c90
                                      clear c90
                                      obtain ⟨y206, hy206⟩ : ∃ y_ : List (S30), y_ = (x13_4 ++ [(⟨x16_5, ((rd_T30 l1 x113_4).f1)⟩ : S30)]) := ⟨_, rfl⟩
                                      replace H : (laws_FnTypeRemap.l4 k5 l0 l1 y206 l1 (l1.length : Int) (wrap64 (x113_4 + 1))) = some r := by first | (rw [hy206]; with_reducible exact H) | (have H2_ := (Option.bind_some _ _).symm.trans H; rw [hy206]; with_reducible exact H2_) | (have H2_ := (Option.bind_some _ _).symm.trans H; with_reducible exact H2_) | with_reducible exact H | (rw [hy206]; exact H) | exact H
                                      have Ny206 := Aside0.mk hy206
                                      clear hy206
                                      have H' := Aside0.mk H
                                      clear H
                                      have hcz91_0 : wr.cell? ⟨gb205, 0, none⟩ = some (.int .i64 ((rd_T30 l1 x113_4).f0)) := (blk_cell BK205.out 0).trans rfl
                                      have hcz91_1 : wr.cell? ⟨gb205, 1, none⟩ = some (.string ((rd_T30 l1 x113_4).f1)) := (blk_cell BK205.out 1).trans rfl
                                      have hfz91_0 := blk_frozen BK205.out 0
                                      have hfz91_1 := blk_frozen BK205.out 1
                                      go_wp2_with (first | ((with_reducible refine gate_builtin (b := .append) (xs := #[.tmp 147, .tmp 152]) rfl ?_); (try (refine gate_guard (by rfl) ?_; dsimp only)); at_builtin; refine Kd.R_append k30 (w0 := w) w.heap.size rfl (.tmp 147) (.tmp 152) 23 30 (.agg #[(.int .i64 0), (.string ⟨#[]⟩)]) 24 rfl Tryd.underlying23 info30 rfl (by decide) (by omega) u13 x13_4 (⟨x16_5, ((rd_T30 l1 x113_4).f1)⟩ : S30) [.int .i64 x16_5, .string ((rd_T30 l1 x113_4).f1)] (fun k_ => k_ ≠ gb205) (fun _ => False) rfl rfl ?aP (fun _ hk => hk.elim) ?aF ?aO ?aB ?aS ?aL ?_; (case aP => exact k30_mkM _ _ _ (⟨x16_5, ((rd_T30 l1 x113_4).f1)⟩ : S30)); (case aB => exact (by repeat (first | (with_reducible first | exact HB.out | apply below_alloc | apply pw_below_drewN | apply below_drew1 | refine below_set ?_ GE205.out) | exact HB.out))); (case aF => exact (fun k_ hk => Kd.freshB (g := gb205) (o := .cells #[.int .i64 ((rd_T30 l1 x113_4).f0), .string ((rd_T30 l1 x113_4).f1)] 30 (0, 0)) (by (with_reducible repeat (first | refine blk_drewN ?_ _ | refine blk_drew ?_ | refine blk_alloc ?_ _)); exact BK205.out) k_ hk)); (case aO => exact (by (with_reducible repeat (first | apply Kd.R_alloc | apply Kd.R_drewN | apply Kd.R_drew)); exact HO_13.out)); (case aS => exact (below_size (by repeat (first | (with_reducible first | exact HB.out | apply below_alloc | apply pw_below_drewN | apply below_drew1 | refine below_set ?_ GE205.out) | exact HB.out)))); (case aL => have := LMc90.out; omega); intro v207 w92 ho hb hg hat; rw [← Ny206.out] at ho; have n0_ := Aside0.mk (blk_grown (g := gb205) (o := .cells #[.int .i64 ((rd_T30 l1 x113_4).f0), .string ((rd_T30 l1 x113_4).f1)] 30 (0, 0)) (by (with_reducible repeat (first | refine blk_drewN ?_ _ | refine blk_drew ?_ | refine blk_alloc ?_ _)); exact BK205.out) hg (Kd.R_away HO_13.out (fun _ hk => hk))); have n1_ := Aside0.mk (hb); have n2_ := Aside0.mk (ho); clear BK205; clear HB; clear HO_13; have BK205 := n0_; have HB := n1_; have HO208 := n2_; clear n0_ n1_ n2_; clear ho hb hg hat))
                                      go_roundg k5
                                      case measure => have := HJ2.out; have := HJ10.out; have := HK3.out; have := HK4.out; have := HK5.out; omega
                                      case rel => exact ⟨(y206), (wrap64 (x113_4 + 1)), (by first | rfl | (simp; done) | (simp [*]; done)), H', ⟨by have := HJ2.out; have := HJ10.out; have := HK3.out; have := HK4.out; have := HK5.out; omega⟩, ⟨by (with_reducible repeat (first | apply Kd.R_alloc | apply Kd.R_drewN | apply Kd.R_drew)); exact Kd.R_mono HO208.out (fun _ hk => trivial)⟩, ⟨by repeat (first | (with_reducible first | exact HB.out | apply below_alloc | apply pw_below_drewN | apply below_drew1 | refine below_set ?_ GE205.out) | exact HB.out)⟩⟩
                                    · rw [if_neg c90] at H
                                      exact absurd H (by simp)
                            · rw [if_neg c67] at H
                              exact absurd H (by simp)
                          · rw [if_neg c66] at H
                            exact absurd H (by simp)
                        · rw [if_neg c65] at H
                          have c65b0 : decide (x113_4 < (l1.length : Int)) = false := decide_eq_false c65
                          clear c65
                          replace H := Option.bind_eq_some_iff.mp H
                          obtain ⟨t199, A930, H⟩ := H
                          replace H : ((laws_same.f k4 t199 x13_4).bind fun t202 => (if t202 = true then ((laws_waking.f k4).bind fun t203 => (some t203)) else (some false))) = some r := H
                          have A93 := Aside0.mk A930
                          clear A930
                          replace H := Option.bind_eq_some_iff.mp H
                          obtain ⟨t202, A940, H⟩ := H
                          replace H : (if t202 = true then ((laws_waking.f k4).bind fun t203 => (some t203)) else (some false)) = some r := H
                          have A94 := Aside0.mk A940
                          clear A940
                          by_cases c95 : t202 = true
                          · subst c95
                            have H1 : ((laws_waking.f k4).bind fun t203 => (some t203)) = some r := by rw [if_pos rfl] at H; exact H
                            clear H
                            have H := H1
                            clear H1
                            replace H := Option.bind_eq_some_iff.mp H
                            obtain ⟨t203, A960, H⟩ := H
                            replace H : (some t203) = some r := H
                            have A96 := Aside0.mk A960
                            clear A960
                            obtain rfl := Option.some.inj H
                            go_wp2_with (first | ((with_reducible refine gate_callee (f := 8) rfl ?_); refine goesL_ (some 157) rfl rfl Tryd.func8 (by kernel_rfl) rfl #[.slice A0 l0.length c0, .slice A1 l1.length c1] rfl (by (try simp only [List.map_toArray, List.map_cons, List.map_nil]); first | done | rfl | (simp only [List.length_drop, List.length_take]; rfl)) ?_; (with_reducible refine (impl_TypeRemap.calls _ _ l0 _ _ l1 t199 _ ?side1 ?side2 ?side3 ?side4 ?side5 A93.out).mono ?_); (case side1 => repeat (first | exact (Kd.C_below HR0.out HB.out) | (with_reducible refine Kd.C_alloc ?_ _) | (with_reducible refine Kd.C_drewN ?_ _) | (with_reducible refine Kd.C_drew ?_))); (case side2 => exact HC0.out); (case side3 => repeat (first | exact (Kd.C_below HR1.out HB.out) | (with_reducible refine Kd.C_alloc ?_ _) | (with_reducible refine Kd.C_drewN ?_ _) | (with_reducible refine Kd.C_drew ?_))); (case side4 => exact HC1.out); (case side5 => exact Go.Proofs.YtchkijfnhhldfaaDoorFmt.VarsOK.below HV.out (by repeat (first | (with_reducible first | exact HB.out | apply below_alloc | apply pw_below_drewN | apply below_drew1) | exact HB.out))); rintro e w97 ⟨v200, rfl, ho0, hb⟩; refine ⟨_, rfl, ?_⟩; have n0_ := Aside0.mk (Kd.R_elder' (by (with_reducible repeat (first | apply Kd.R_alloc | apply Kd.R_drewN | apply Kd.R_drew)); exact HO_13.out) (Kd.R_base ho0) hb); have n1_ := Aside0.mk (Kd.R_lower (Kd.R_new' ho0 (Kd.R_lt (by (with_reducible repeat (first | apply Kd.R_alloc | apply Kd.R_drewN | apply Kd.R_drew)); exact HO_13.out))) (below_size (by repeat (first | (with_reducible first | exact HB.out | apply below_alloc | apply pw_below_drewN | apply below_drew1) | exact HB.out)))); have n2_ := Aside0.mk (below_step (by repeat (first | (with_reducible first | exact HB.out | apply below_alloc | apply pw_below_drewN | apply below_drew1) | exact HB.out)) hb); clear HO_13; clear HB; have HO_13 := n0_; have HO201 := n1_; have HB := n2_; clear n0_ n1_ n2_; (try clear hb); (try clear hb2); (try clear hk); (try clear hi); (try clear ho0); obtain ⟨Ao98, co98, eo98⟩ := Kd.R_slice HO201.out; subst eo98; obtain ⟨Ao99, co99, eo99⟩ := Kd.R_slice HO_13.out; subst eo99) | ((with_reducible refine gate_callee (f := 7) rfl ?_); refine goesL_ (some 159) rfl rfl Tryd.func7 (by kernel_rfl) rfl #[.slice Ao98 t199.length co98, .slice Ao99 x13_4.length co99] rfl (by (try simp only [List.map_toArray, List.map_cons, List.map_nil]); first | done | rfl | (simp only [List.length_drop, List.length_take]; rfl)) ?_; (with_reducible refine (laws_same.calls k4 _ _ t199 _ _ x13_4 true _ ?side1 ?side2 ?side3 ?side4 A94.out).mono ?_); (case side1 => repeat (first | exact (Kd.R_reads' HO201.out).2.2 | (with_reducible refine Kd.C_alloc ?_ _) | (with_reducible refine Kd.C_drewN ?_ _) | (with_reducible refine Kd.C_drew ?_))); (case side2 => exact (Kd.R_reads' HO201.out).2.1); (case side3 => repeat (first | exact (Kd.R_reads' HO_13.out).2.2 | (with_reducible refine Kd.C_alloc ?_ _) | (with_reducible refine Kd.C_drewN ?_ _) | (with_reducible refine Kd.C_drew ?_))); (case side4 => exact (Kd.R_reads' HO_13.out).2.1); rintro e w' ⟨rfl, ⟨nd, rfl⟩⟩; refine ⟨_, rfl, ?_⟩) | (go_at_call 9; (with_reducible refine (laws_waking.calls k4  t203 _ A96.out).mono ?_); rintro e w100 ⟨rfl, hb⟩; have n0_ := Aside0.mk (Kd.R_below (by (with_reducible repeat (first | apply Kd.R_alloc | apply Kd.R_drewN | apply Kd.R_drew)); exact HO_13.out) hb); have n1_ := Aside0.mk (Kd.R_below (by (with_reducible repeat (first | apply Kd.R_alloc | apply Kd.R_drewN | apply Kd.R_drew)); exact HO201.out) hb); have n2_ := Aside0.mk (below_step (by repeat (first | (with_reducible first | exact HB.out | apply below_alloc | apply pw_below_drewN | apply below_drew1) | exact HB.out)) hb); clear HO_13; clear HO201; clear HB; have HO_13 := n0_; have HO201 := n1_; have HB := n2_; clear n0_ n1_ n2_; (try clear hb); (try clear hb2); (try clear hk); (try clear hi)))
                            go_ret
                            exact ⟨by first | rfl | (simp [errW_none, errW_some] <;> rfl) | (simp [*, errW_none, errW_some] <;> rfl), by repeat (first | (with_reducible first | exact HB.out | apply below_alloc | apply pw_below_drewN | apply below_drew1) | exact HB.out)⟩
                          · replace c95 := Bool.eq_false_iff.mpr c95
                            subst c95
                            have H1 : (some false) = some r := by rw [if_neg (show ¬ (false = true) by decide)] at H; exact H
                            clear H
                            have H := H1
                            clear H1
                            obtain rfl := Option.some.inj H
                            go_wp2_with (first | ((with_reducible refine gate_callee (f := 8) rfl ?_); refine goesL_ (some 157) rfl rfl Tryd.func8 (by kernel_rfl) rfl #[.slice A0 l0.length c0, .slice A1 l1.length c1] rfl (by (try simp only [List.map_toArray, List.map_cons, List.map_nil]); first | done | rfl | (simp only [List.length_drop, List.length_take]; rfl)) ?_; (with_reducible refine (impl_TypeRemap.calls _ _ l0 _ _ l1 t199 _ ?side1 ?side2 ?side3 ?side4 ?side5 A93.out).mono ?_); (case side1 => repeat (first | exact (Kd.C_below HR0.out HB.out) | (with_reducible refine Kd.C_alloc ?_ _) | (with_reducible refine Kd.C_drewN ?_ _) | (with_reducible refine Kd.C_drew ?_))); (case side2 => exact HC0.out); (case side3 => repeat (first | exact (Kd.C_below HR1.out HB.out) | (with_reducible refine Kd.C_alloc ?_ _) | (with_reducible refine Kd.C_drewN ?_ _) | (with_reducible refine Kd.C_drew ?_))); (case side4 => exact HC1.out); (case side5 => exact Go.Proofs.YtchkijfnhhldfaaDoorFmt.VarsOK.below HV.out (by repeat (first | (with_reducible first | exact HB.out | apply below_alloc | apply pw_below_drewN | apply below_drew1) | exact HB.out))); rintro e w101 ⟨v200, rfl, ho0, hb⟩; refine ⟨_, rfl, ?_⟩; have n0_ := Aside0.mk (Kd.R_elder' (by (with_reducible repeat (first | apply Kd.R_alloc | apply Kd.R_drewN | apply Kd.R_drew)); exact HO_13.out) (Kd.R_base ho0) hb); have n1_ := Aside0.mk (Kd.R_lower (Kd.R_new' ho0 (Kd.R_lt (by (with_reducible repeat (first | apply Kd.R_alloc | apply Kd.R_drewN | apply Kd.R_drew)); exact HO_13.out))) (below_size (by repeat (first | (with_reducible first | exact HB.out | apply below_alloc | apply pw_below_drewN | apply below_drew1) | exact HB.out)))); have n2_ := Aside0.mk (below_step (by repeat (first | (with_reducible first | exact HB.out | apply below_alloc | apply pw_below_drewN | apply below_drew1) | exact HB.out)) hb); clear HO_13; clear HB; have HO_13 := n0_; have HO201 := n1_; have HB := n2_; clear n0_ n1_ n2_; (try clear hb); (try clear hb2); (try clear hk); (try clear hi); (try clear ho0); obtain ⟨Ao102, co102, eo102⟩ := Kd.R_slice HO201.out; subst eo102; obtain ⟨Ao103, co103, eo103⟩ := Kd.R_slice HO_13.out; subst eo103) | ((with_reducible refine gate_callee (f := 7) rfl ?_); refine goesL_ (some 159) rfl rfl Tryd.func7 (by kernel_rfl) rfl #[.slice Ao102 t199.length co102, .slice Ao103 x13_4.length co103] rfl (by (try simp only [List.map_toArray, List.map_cons, List.map_nil]); first | done | rfl | (simp only [List.length_drop, List.length_take]; rfl)) ?_; (with_reducible refine (laws_same.calls k4 _ _ t199 _ _ x13_4 false _ ?side1 ?side2 ?side3 ?side4 A94.out).mono ?_); (case side1 => repeat (first | exact (Kd.R_reads' HO201.out).2.2 | (with_reducible refine Kd.C_alloc ?_ _) | (with_reducible refine Kd.C_drewN ?_ _) | (with_reducible refine Kd.C_drew ?_))); (case side2 => exact (Kd.R_reads' HO201.out).2.1); (case side3 => repeat (first | exact (Kd.R_reads' HO_13.out).2.2 | (with_reducible refine Kd.C_alloc ?_ _) | (with_reducible refine Kd.C_drewN ?_ _) | (with_reducible refine Kd.C_drew ?_))); (case side4 => exact (Kd.R_reads' HO_13.out).2.1); rintro e w' ⟨rfl, ⟨nd, rfl⟩⟩; refine ⟨_, rfl, ?_⟩))
                            go_ret
                            exact ⟨by first | rfl | (simp [errW_none, errW_some] <;> rfl) | (simp [*, errW_none, errW_some] <;> rfl), by repeat (first | (with_reducible first | exact HB.out | apply below_alloc | apply pw_below_drewN | apply below_drew1) | exact HB.out)⟩
def wf_S28 (x : S28) : Prop := (IntKind.i64.min ≤ x.f0 ∧ x.f0 ≤ IntKind.i64.max) ∧ (IntKind.i64.min ≤ x.f1 ∧ x.f1 ≤ IntKind.i64.max) ∧ (x.f2.length ≤ 9223372036854775807 ∧ ∀ y ∈ x.f2, y.size ≤ maxLen)
def wf_S30 (x : S30) : Prop := (IntKind.i64.min ≤ x.f0 ∧ x.f0 ≤ IntKind.i64.max) ∧ (x.f1.size ≤ maxLen)
def laws_FnTypeRemap.Pure : Prop := ∀ (l0 : List (S28)) (l1 : List (S30)), (l0.length ≤ 9223372036854775807 ∧ ∀ x ∈ l0, wf_S28 x) → (l1.length ≤ 9223372036854775807 ∧ ∀ x ∈ l1, wf_S30 x) → ∃ k, laws_FnTypeRemap.f k l0 l1 = some true

end Go.Proofs.YtchkijfnhhldfaaDoor.R
