-- WRITTEN BY OUR myprint.py, a program of this session's over the kit's printer
import Derived.Test.YtifhhejohdmiaaaDoorGx0
import Derived.Test.YtifhhejohdmiaaaDoorGx2
namespace Go.Proofs.YtifhhejohdmiaaaDoor.G
open Go.RowKit Go.Proofs.YtifhhejohdmiaaaDoorW.PrintWords Go.Proofs.YtifhhejohdmiaaaDoorW.PrintLast Go.Proofs.YtifhhejohdmiaaaDoorW.PrintMore
attribute [local go_sem] max2_int min2_int max_two min_two max_three min_three max_four min_four   -- for this text's walks alone
set_option linter.unusedVariables false
set_option linter.unusedSimpArgs false

/-! ### chroma_StyleEntry_String: function 38 -/
mutual
def chroma_StyleEntry_String.j0 : Nat → List ByteArray → Int → Int → Int → Int → Int → Int → Bool → Option (ByteArray)
  | 0, _, _, _, _, _, _, _, _ => none
  | k + 1, x3, x111000, x111001, x111002, x111003, x111004, x111005, x111006 => if x111004 = 0 then (chroma_StyleEntry_String.j1 k x3 x111000 x111001 x111002 x111003 x111004 x111005 x111006) else ((chroma_Trilean_Prefix.f x111004 (⟨#[105, 116, 97, 108, 105, 99]⟩ : ByteArray)).bind fun t118 => (if x3.length < 8796093022208 then (chroma_StyleEntry_String.j1 k (x3 ++ [t118]) x111000 x111001 x111002 x111003 x111004 x111005 x111006) else (none)))
def chroma_StyleEntry_String.j1 : Nat → List ByteArray → Int → Int → Int → Int → Int → Int → Bool → Option (ByteArray)
  | 0, _, _, _, _, _, _, _, _ => none
  | k + 1, x3, x111000, x111001, x111002, x111003, x111004, x111005, x111006 => if x111005 = 0 then (chroma_StyleEntry_String.j2 k x3 x111000 x111001 x111002 x111003 x111004 x111005 x111006) else ((chroma_Trilean_Prefix.f x111005 (⟨#[117, 110, 100, 101, 114, 108, 105, 110, 101]⟩ : ByteArray)).bind fun t122 => (if x3.length < 8796093022208 then (chroma_StyleEntry_String.j2 k (x3 ++ [t122]) x111000 x111001 x111002 x111003 x111004 x111005 x111006) else (none)))
def chroma_StyleEntry_String.j2 : Nat → List ByteArray → Int → Int → Int → Int → Int → Int → Bool → Option (ByteArray)
  | 0, _, _, _, _, _, _, _, _ => none
  | k + 1, x3, x111000, x111001, x111002, x111003, x111004, x111005, x111006 => if x111006 = true then (if x3.length < 8796093022208 then (chroma_StyleEntry_String.j3 k (x3 ++ [(⟨#[110, 111, 105, 110, 104, 101, 114, 105, 116]⟩ : ByteArray)]) x111000 x111001 x111002 x111003 x111004 x111005 x111006) else (none)) else (chroma_StyleEntry_String.j3 k x3 x111000 x111001 x111002 x111003 x111004 x111005 x111006)
def chroma_StyleEntry_String.j3 : Nat → List ByteArray → Int → Int → Int → Int → Int → Int → Bool → Option (ByteArray)
  | 0, _, _, _, _, _, _, _, _ => none
  | k + 1, x3, x111000, x111001, x111002, x111003, x111004, x111005, x111006 => (chroma_Colour_IsSet.f x111000).bind fun t129 => (if t129 = true then ((chroma_Colour_String.f x111000).bind fun t130 => (if x3.length < 8796093022208 then (chroma_StyleEntry_String.j4 k (x3 ++ [t130]) x111000 x111001 x111002 x111003 x111004 x111005 x111006) else (none))) else (chroma_StyleEntry_String.j4 k x3 x111000 x111001 x111002 x111003 x111004 x111005 x111006))
def chroma_StyleEntry_String.j4 : Nat → List ByteArray → Int → Int → Int → Int → Int → Int → Bool → Option (ByteArray)
  | 0, _, _, _, _, _, _, _, _ => none
  | k + 1, x3, x111000, x111001, x111002, x111003, x111004, x111005, x111006 => (chroma_Colour_IsSet.f x111001).bind fun t134 => (if t134 = true then ((chroma_Colour_String.f x111001).bind fun t135 => (if 3 + t135.size ≤ 9223372036854775807 then (if x3.length < 8796093022208 then (chroma_StyleEntry_String.j5 k (x3 ++ [(⟨#[98, 103, 58]⟩ : ByteArray) ++ t135]) x111000 x111001 x111002 x111003 x111004 x111005 x111006) else (none)) else (none))) else (chroma_StyleEntry_String.j5 k x3 x111000 x111001 x111002 x111003 x111004 x111005 x111006))
def chroma_StyleEntry_String.j5 : Nat → List ByteArray → Int → Int → Int → Int → Int → Int → Bool → Option (ByteArray)
  | 0, _, _, _, _, _, _, _, _ => none
  | k + 1, x3, x111000, x111001, x111002, x111003, x111004, x111005, x111006 => (chroma_Colour_IsSet.f x111002).bind fun t139 => (if t139 = true then ((chroma_Colour_String.f x111002).bind fun t140 => (if 7 + t140.size ≤ 9223372036854775807 then (if x3.length < 8796093022208 then ((strings_Join.f (x3 ++ [(⟨#[98, 111, 114, 100, 101, 114, 58]⟩ : ByteArray) ++ t140]) (⟨#[32]⟩ : ByteArray)).bind fun t144 => (some t144)) else (none)) else (none))) else ((strings_Join.f x3 (⟨#[32]⟩ : ByteArray)).bind fun t145 => (some t145)))
end
def chroma_StyleEntry_String.f (k : Nat) (a0_0 : Int) (a0_1 : Int) (a0_2 : Int) (a0_3 : Int) (a0_4 : Int) (a0_5 : Int) (a0_6 : Bool) : Option (ByteArray) := (some (([] : List ByteArray) : List ByteArray)).bind fun y111 => (if a0_3 = 0 then (chroma_StyleEntry_String.j0 k y111 a0_0 a0_1 a0_2 a0_3 a0_4 a0_5 a0_6) else ((chroma_Trilean_Prefix.f a0_3 (⟨#[98, 111, 108, 100]⟩ : ByteArray)).bind fun t114 => (if y111.length < 8796093022208 then (chroma_StyleEntry_String.j0 k (y111 ++ [t114]) a0_0 a0_1 a0_2 a0_3 a0_4 a0_5 a0_6) else (none))))
theorem chroma_StyleEntry_String.mono_l : ∀ k, (∀ y0 y1 y2 y3 y4 y5 y6 y7, LeO (chroma_StyleEntry_String.j0 k y0 y1 y2 y3 y4 y5 y6 y7) (chroma_StyleEntry_String.j0 (k + 1) y0 y1 y2 y3 y4 y5 y6 y7)) ∧ (∀ y0 y1 y2 y3 y4 y5 y6 y7, LeO (chroma_StyleEntry_String.j1 k y0 y1 y2 y3 y4 y5 y6 y7) (chroma_StyleEntry_String.j1 (k + 1) y0 y1 y2 y3 y4 y5 y6 y7)) ∧ (∀ y0 y1 y2 y3 y4 y5 y6 y7, LeO (chroma_StyleEntry_String.j2 k y0 y1 y2 y3 y4 y5 y6 y7) (chroma_StyleEntry_String.j2 (k + 1) y0 y1 y2 y3 y4 y5 y6 y7)) ∧ (∀ y0 y1 y2 y3 y4 y5 y6 y7, LeO (chroma_StyleEntry_String.j3 k y0 y1 y2 y3 y4 y5 y6 y7) (chroma_StyleEntry_String.j3 (k + 1) y0 y1 y2 y3 y4 y5 y6 y7)) ∧ (∀ y0 y1 y2 y3 y4 y5 y6 y7, LeO (chroma_StyleEntry_String.j4 k y0 y1 y2 y3 y4 y5 y6 y7) (chroma_StyleEntry_String.j4 (k + 1) y0 y1 y2 y3 y4 y5 y6 y7)) ∧ (∀ y0 y1 y2 y3 y4 y5 y6 y7, LeO (chroma_StyleEntry_String.j5 k y0 y1 y2 y3 y4 y5 y6 y7) (chroma_StyleEntry_String.j5 (k + 1) y0 y1 y2 y3 y4 y5 y6 y7))
  | 0 => ⟨fun _ _ _ _ _ _ _ _ r h => by simp [chroma_StyleEntry_String.j0] at h, fun _ _ _ _ _ _ _ _ r h => by simp [chroma_StyleEntry_String.j1] at h, fun _ _ _ _ _ _ _ _ r h => by simp [chroma_StyleEntry_String.j2] at h, fun _ _ _ _ _ _ _ _ r h => by simp [chroma_StyleEntry_String.j3] at h, fun _ _ _ _ _ _ _ _ r h => by simp [chroma_StyleEntry_String.j4] at h, fun _ _ _ _ _ _ _ _ r h => by simp [chroma_StyleEntry_String.j5] at h⟩
  | k + 1 => by
    obtain ⟨ih0, ih1, ih2, ih3, ih4, ih5⟩ := chroma_StyleEntry_String.mono_l k
    refine ⟨?_, ?_, ?_, ?_, ?_, ?_⟩
    · intro y0 y1 y2 y3 y4 y5 y6 y7
      unfold chroma_StyleEntry_String.j0
      repeat' first
      | (with_reducible exact ih0 _ _ _ _ _ _ _ _)
      | (with_reducible exact ih1 _ _ _ _ _ _ _ _)
      | (with_reducible exact ih2 _ _ _ _ _ _ _ _)
      | (with_reducible exact ih3 _ _ _ _ _ _ _ _)
      | (with_reducible exact ih4 _ _ _ _ _ _ _ _)
      | (with_reducible exact ih5 _ _ _ _ _ _ _ _)
      | (with_reducible exact LeO.refl _)
      | (with_reducible exact LeO.none _)
      | (with_reducible refine LeO.ite ?_ ?_)
      | (with_reducible refine LeO.bind ?_ (fun _ => ?_))
      | exact ih0 _ _ _ _ _ _ _ _
      | exact ih1 _ _ _ _ _ _ _ _
      | exact ih2 _ _ _ _ _ _ _ _
      | exact ih3 _ _ _ _ _ _ _ _
      | exact ih4 _ _ _ _ _ _ _ _
      | exact ih5 _ _ _ _ _ _ _ _
      | exact LeO.none _
      | refine LeO.ite ?_ ?_
      | refine LeO.bind ?_ (fun _ => ?_)
    · intro y0 y1 y2 y3 y4 y5 y6 y7
      unfold chroma_StyleEntry_String.j1
      repeat' first
      | (with_reducible exact ih0 _ _ _ _ _ _ _ _)
      | (with_reducible exact ih1 _ _ _ _ _ _ _ _)
      | (with_reducible exact ih2 _ _ _ _ _ _ _ _)
      | (with_reducible exact ih3 _ _ _ _ _ _ _ _)
      | (with_reducible exact ih4 _ _ _ _ _ _ _ _)
      | (with_reducible exact ih5 _ _ _ _ _ _ _ _)
      | (with_reducible exact LeO.refl _)
      | (with_reducible exact LeO.none _)
      | (with_reducible refine LeO.ite ?_ ?_)
      | (with_reducible refine LeO.bind ?_ (fun _ => ?_))
      | exact ih0 _ _ _ _ _ _ _ _
      | exact ih1 _ _ _ _ _ _ _ _
      | exact ih2 _ _ _ _ _ _ _ _
      | exact ih3 _ _ _ _ _ _ _ _
      | exact ih4 _ _ _ _ _ _ _ _
      | exact ih5 _ _ _ _ _ _ _ _
      | exact LeO.none _
      | refine LeO.ite ?_ ?_
      | refine LeO.bind ?_ (fun _ => ?_)
    · intro y0 y1 y2 y3 y4 y5 y6 y7
      unfold chroma_StyleEntry_String.j2
      repeat' first
      | (with_reducible exact ih0 _ _ _ _ _ _ _ _)
      | (with_reducible exact ih1 _ _ _ _ _ _ _ _)
      | (with_reducible exact ih2 _ _ _ _ _ _ _ _)
      | (with_reducible exact ih3 _ _ _ _ _ _ _ _)
      | (with_reducible exact ih4 _ _ _ _ _ _ _ _)
      | (with_reducible exact ih5 _ _ _ _ _ _ _ _)
      | (with_reducible exact LeO.refl _)
      | (with_reducible exact LeO.none _)
      | (with_reducible refine LeO.ite ?_ ?_)
      | (with_reducible refine LeO.bind ?_ (fun _ => ?_))
      | exact ih0 _ _ _ _ _ _ _ _
      | exact ih1 _ _ _ _ _ _ _ _
      | exact ih2 _ _ _ _ _ _ _ _
      | exact ih3 _ _ _ _ _ _ _ _
      | exact ih4 _ _ _ _ _ _ _ _
      | exact ih5 _ _ _ _ _ _ _ _
      | exact LeO.none _
      | refine LeO.ite ?_ ?_
      | refine LeO.bind ?_ (fun _ => ?_)
    · intro y0 y1 y2 y3 y4 y5 y6 y7
      unfold chroma_StyleEntry_String.j3
      repeat' first
      | (with_reducible exact ih0 _ _ _ _ _ _ _ _)
      | (with_reducible exact ih1 _ _ _ _ _ _ _ _)
      | (with_reducible exact ih2 _ _ _ _ _ _ _ _)
      | (with_reducible exact ih3 _ _ _ _ _ _ _ _)
      | (with_reducible exact ih4 _ _ _ _ _ _ _ _)
      | (with_reducible exact ih5 _ _ _ _ _ _ _ _)
      | (with_reducible exact LeO.refl _)
      | (with_reducible exact LeO.none _)
      | (with_reducible refine LeO.ite ?_ ?_)
      | (with_reducible refine LeO.bind ?_ (fun _ => ?_))
      | exact ih0 _ _ _ _ _ _ _ _
      | exact ih1 _ _ _ _ _ _ _ _
      | exact ih2 _ _ _ _ _ _ _ _
      | exact ih3 _ _ _ _ _ _ _ _
      | exact ih4 _ _ _ _ _ _ _ _
      | exact ih5 _ _ _ _ _ _ _ _
      | exact LeO.none _
      | refine LeO.ite ?_ ?_
      | refine LeO.bind ?_ (fun _ => ?_)
    · intro y0 y1 y2 y3 y4 y5 y6 y7
      unfold chroma_StyleEntry_String.j4
      repeat' first
      | (with_reducible exact ih0 _ _ _ _ _ _ _ _)
      | (with_reducible exact ih1 _ _ _ _ _ _ _ _)
      | (with_reducible exact ih2 _ _ _ _ _ _ _ _)
      | (with_reducible exact ih3 _ _ _ _ _ _ _ _)
      | (with_reducible exact ih4 _ _ _ _ _ _ _ _)
      | (with_reducible exact ih5 _ _ _ _ _ _ _ _)
      | (with_reducible exact LeO.refl _)
      | (with_reducible exact LeO.none _)
      | (with_reducible refine LeO.ite ?_ ?_)
      | (with_reducible refine LeO.bind ?_ (fun _ => ?_))
      | exact ih0 _ _ _ _ _ _ _ _
      | exact ih1 _ _ _ _ _ _ _ _
      | exact ih2 _ _ _ _ _ _ _ _
      | exact ih3 _ _ _ _ _ _ _ _
      | exact ih4 _ _ _ _ _ _ _ _
      | exact ih5 _ _ _ _ _ _ _ _
      | exact LeO.none _
      | refine LeO.ite ?_ ?_
      | refine LeO.bind ?_ (fun _ => ?_)
    · intro y0 y1 y2 y3 y4 y5 y6 y7
      unfold chroma_StyleEntry_String.j5
      repeat' first
      | (with_reducible exact ih0 _ _ _ _ _ _ _ _)
      | (with_reducible exact ih1 _ _ _ _ _ _ _ _)
      | (with_reducible exact ih2 _ _ _ _ _ _ _ _)
      | (with_reducible exact ih3 _ _ _ _ _ _ _ _)
      | (with_reducible exact ih4 _ _ _ _ _ _ _ _)
      | (with_reducible exact ih5 _ _ _ _ _ _ _ _)
      | (with_reducible exact LeO.refl _)
      | (with_reducible exact LeO.none _)
      | (with_reducible refine LeO.ite ?_ ?_)
      | (with_reducible refine LeO.bind ?_ (fun _ => ?_))
      | exact ih0 _ _ _ _ _ _ _ _
      | exact ih1 _ _ _ _ _ _ _ _
      | exact ih2 _ _ _ _ _ _ _ _
      | exact ih3 _ _ _ _ _ _ _ _
      | exact ih4 _ _ _ _ _ _ _ _
      | exact ih5 _ _ _ _ _ _ _ _
      | exact LeO.none _
      | refine LeO.ite ?_ ?_
      | refine LeO.bind ?_ (fun _ => ?_)
theorem chroma_StyleEntry_String.mono : ∀ a0 a1 a2 a3 a4 a5 a6 k, LeO (chroma_StyleEntry_String.f k a0 a1 a2 a3 a4 a5 a6) (chroma_StyleEntry_String.f (k + 1) a0 a1 a2 a3 a4 a5 a6) := by
  intro a0 a1 a2 a3 a4 a5 a6 k
  obtain ⟨ih0, ih1, ih2, ih3, ih4, ih5⟩ := chroma_StyleEntry_String.mono_l k
  unfold chroma_StyleEntry_String.f
  repeat' first
      | (with_reducible exact ih0 _ _ _ _ _ _ _ _)
      | (with_reducible exact ih1 _ _ _ _ _ _ _ _)
      | (with_reducible exact ih2 _ _ _ _ _ _ _ _)
      | (with_reducible exact ih3 _ _ _ _ _ _ _ _)
      | (with_reducible exact ih4 _ _ _ _ _ _ _ _)
      | (with_reducible exact ih5 _ _ _ _ _ _ _ _)
      | (with_reducible exact LeO.refl _)
      | (with_reducible exact LeO.none _)
      | (with_reducible refine LeO.ite ?_ ?_)
      | (with_reducible refine LeO.bind ?_ (fun _ => ?_))
      | exact ih0 _ _ _ _ _ _ _ _
      | exact ih1 _ _ _ _ _ _ _ _
      | exact ih2 _ _ _ _ _ _ _ _
      | exact ih3 _ _ _ _ _ _ _ _
      | exact ih4 _ _ _ _ _ _ _ _
      | exact ih5 _ _ _ _ _ _ _ _
      | exact LeO.none _
      | refine LeO.ite ?_ ?_
      | refine LeO.bind ?_ (fun _ => ?_)
set_option maxHeartbeats 8000000 in
set_option maxRecDepth 100000 in
theorem chroma_StyleEntry_String.calls (k : Nat) (a0_0 : Int) (a0_1 : Int) (a0_2 : Int) (a0_3 : Int) (a0_4 : Int) (a0_5 : Int) (a0_6 : Bool) (r : ByteArray) (w : World) (hV : Go.Proofs.YtifhhejohdmiaaaDoorFmt.VarsOK w) (h : chroma_StyleEntry_String.f k a0_0 a0_1 a0_2 a0_3 a0_4 a0_5 a0_6 = some r) :
    Calls Tryd.prog 38 #[.agg #[.int .i32 a0_0, .int .i32 a0_1, .int .i32 a0_2, .int .u8 a0_3, .int .u8 a0_4, .int .u8 a0_5, .bool a0_6]] w fun e w' => e = .returned (.string r) ∧ Below w.heap.size w w' := by
  have hu57 := Tryd.underlying57
  have HB := Aside0.mk (Below.refl w.heap.size w)
  have HV := Aside0.mk hV
  clear hV
  have H : ((some (([] : List ByteArray) : List ByteArray)).bind fun y111 => (if a0_3 = 0 then (chroma_StyleEntry_String.j0 k y111 a0_0 a0_1 a0_2 a0_3 a0_4 a0_5 a0_6) else ((chroma_Trilean_Prefix.f a0_3 (⟨#[98, 111, 108, 100]⟩ : ByteArray)).bind fun t114 => (if y111.length < 8796093022208 then (chroma_StyleEntry_String.j0 k (y111 ++ [t114]) a0_0 a0_1 a0_2 a0_3 a0_4 a0_5 a0_6) else (none))))) = some r := h
  clear h
  obtain ⟨y111, hy111⟩ : ∃ y_ : List ByteArray, y_ = (([] : List ByteArray)) := ⟨_, rfl⟩
  replace H : (if a0_3 = 0 then (chroma_StyleEntry_String.j0 k y111 a0_0 a0_1 a0_2 a0_3 a0_4 a0_5 a0_6) else ((chroma_Trilean_Prefix.f a0_3 (⟨#[98, 111, 108, 100]⟩ : ByteArray)).bind fun t114 => (if y111.length < 8796093022208 then (chroma_StyleEntry_String.j0 k (y111 ++ [t114]) a0_0 a0_1 a0_2 a0_3 a0_4 a0_5 a0_6) else (none)))) = some r := by first | (rw [hy111]; with_reducible exact H) | (have H2_ := (Option.bind_some _ _).symm.trans H; rw [hy111]; with_reducible exact H2_) | (have H2_ := (Option.bind_some _ _).symm.trans H; with_reducible exact H2_) | with_reducible exact H | (rw [hy111]; exact H) | exact H
  have Ny111 := Aside0.mk hy111
  clear hy111
  have HC2 := Aside0.mk H
  clear H
  go_enter Tryd.func38, Tryd.ntmps38
  go_upto_if 7 with (first | ((with_reducible refine gate_dst (N := 1) rfl ?_); refine box_event ?hg (N := 1) ?hd (cs := #[.int .i32 a0_0, .int .i32 a0_1, .int .i32 a0_2, .int .u8 a0_3, .int .u8 a0_4, .int .u8 a0_5, .bool a0_6]) (t := 57) ?hr ?_; (case hd => rfl); (case hg => rfl); (case hr => first | (go_simp; done) | (go_simp; rfl)); intro gb110 hg w3 hbox hb; have n0_ := Aside0.mk (below_step (by repeat (first | (with_reducible first | exact HB.out | apply below_alloc | apply pw_below_drewN | apply below_drew1) | exact HB.out)) hb); have n1_ := Aside0.mk (hbox); have n2_ := Aside0.mk ((by rw [hg]; exact (below_size (by repeat (first | (with_reducible first | exact HB.out | apply below_alloc | apply pw_below_drewN | apply below_drew1) | exact HB.out))) : w.heap.size ≤ gb110)); have n3_ := Aside0.mk ((by rw [hg]; exact (below_size (by repeat (first | (with_reducible first | exact HB.out | apply below_alloc | apply pw_below_drewN | apply below_drew1) | exact HB.out))) : w.heap.size ≤ gb110)); clear HB; have HB := n0_; have BK110 := n1_; have GW110 := n2_; have GE110 := n3_; clear n0_ n1_ n2_ n3_; clear hb hbox hg) | ((with_reducible refine gate_dst (N := 4) rfl ?_); refine Kd.R_lit Kd.string _ 9 ?hg (N := 4) ?hd (xs := ([] : List ByteArray)) (inner := []) (ok := fun _ => True) (okp := fun _ => True) ?hr ?hp (fun _ hk => hk) trivial (Below.refl _ _) (Nat.le_refl _) (by simp) ?_; (case hd => rfl); (case hg => rfl); (case hr => first | (go_simp; done) | (go_simp; rfl)); (case hp => exact (Reps.none _ _)); intro v112 w4 ho5 hb hg_ hnew_; clear hg_ hnew_; (first | rw [← Ny111.out] at ho5 | (simp only [Int.reduceToNat] at ho5; rw [← Ny111.out] at ho5)); have n0_ := Aside0.mk (Kd.R_lower ho5 (below_size (by repeat (first | (with_reducible first | exact HB.out | apply below_alloc | apply pw_below_drewN | apply below_drew1 | refine below_set ?_ GE110.out) | exact HB.out)))); have n1_ := Aside0.mk (blk_below (g := gb110) (o := .cells #[.int .i32 a0_0, .int .i32 a0_1, .int .i32 a0_2, .int .u8 a0_3, .int .u8 a0_4, .int .u8 a0_5, .bool a0_6] 57 (0, 0)) (by (with_reducible repeat (first | refine blk_drewN ?_ _ | refine blk_drew ?_ | refine blk_alloc ?_ _)); exact BK110.out) hb); have n2_ := Aside0.mk (below_step (by repeat (first | (with_reducible first | exact HB.out | apply below_alloc | apply pw_below_drewN | apply below_drew1 | refine below_set ?_ GE110.out) | exact HB.out)) hb); clear BK110; clear HB; have HO113 := n0_; have BK110 := n1_; have HB := n2_; clear n0_ n1_ n2_; clear hb ho5; have hcz6_0 : w4.cell? ⟨gb110, 0, none⟩ = some (.int .i32 a0_0) := (blk_cell BK110.out 0).trans rfl; have hcz6_1 : w4.cell? ⟨gb110, 1, none⟩ = some (.int .i32 a0_1) := (blk_cell BK110.out 1).trans rfl; have hcz6_2 : w4.cell? ⟨gb110, 2, none⟩ = some (.int .i32 a0_2) := (blk_cell BK110.out 2).trans rfl; have hcz6_3 : w4.cell? ⟨gb110, 3, none⟩ = some (.int .u8 a0_3) := (blk_cell BK110.out 3).trans rfl; have hcz6_4 : w4.cell? ⟨gb110, 4, none⟩ = some (.int .u8 a0_4) := (blk_cell BK110.out 4).trans rfl; have hcz6_5 : w4.cell? ⟨gb110, 5, none⟩ = some (.int .u8 a0_5) := (blk_cell BK110.out 5).trans rfl; have hcz6_6 : w4.cell? ⟨gb110, 6, none⟩ = some (.bool a0_6) := (blk_cell BK110.out 6).trans rfl; have hfz6_0 := blk_frozen BK110.out 0; have hfz6_1 := blk_frozen BK110.out 1; have hfz6_2 := blk_frozen BK110.out 2; have hfz6_3 := blk_frozen BK110.out 3; have hfz6_4 := blk_frozen BK110.out 4; have hfz6_5 := blk_frozen BK110.out 5; have hfz6_6 := blk_frozen BK110.out 6))
  (try simp only [Act.put, List.setIfInBounds_toArray, List.set_cons_zero, List.set_cons_succ])
  go_cut [3] (fun v3 wc => ∃ (kq : Nat) (x3_1 : List ByteArray), Aside0 (chroma_StyleEntry_String.j0 kq x3_1 a0_0 a0_1 a0_2 a0_3 a0_4 a0_5 a0_6 = some r) ∧ Aside0 (kq ≤ k) ∧ Aside0 (Kd.R Kd.string 9 wc w.heap.size (fun _ => True) v3 x3_1) ∧ Aside0 (wc.heap[gb110]? = some (.cells #[.int .i32 a0_0, .int .i32 a0_1, .int .i32 a0_2, .int .u8 a0_3, .int .u8 a0_4, .int .u8 a0_5, .bool a0_6] 57 (0, 0))) ∧ Aside0 (Below w.heap.size w wc))
  case first =>
    have H := HC2.out
    clear HC2
    by_cases c7 : a0_3 = 0
    · rw [if_pos c7] at H
      have c7b0 : (a0_3 == 0) = true := beq_iff_eq.mpr c7
      have c7b1 : (a0_3 != 0) = false := bne_eq_false_iff_eq.mpr c7
      clear c7
      (try (have c7b2 := c7b0; simp only [ByteArray.size_extract, Nat.min_self] at c7b2)); (first | rw [c7b0] | (simp only [i64_w, i32_w]; rw [c7b0]) | rw [c7b1] | skip)
      have H' := Aside0.mk H
      clear H
      go_wp2
      go_meet
      case rel => exact ⟨_, (y111), H', ⟨by first | omega | exact Nat.le_refl _⟩, ⟨by (with_reducible repeat (first | apply Kd.R_alloc | apply Kd.R_drewN | apply Kd.R_drew)); exact HO113.out⟩, ⟨by (with_reducible repeat (first | refine blk_drewN ?_ _ | refine blk_drew ?_ | refine blk_alloc ?_ _)); exact BK110.out⟩, ⟨by repeat (first | (with_reducible first | exact HB.out | apply below_alloc | apply pw_below_drewN | apply below_drew1 | refine below_set ?_ GE110.out) | exact HB.out)⟩⟩
    · rw [if_neg c7] at H
      have c7b0 : (a0_3 == 0) = false := beq_eq_false_iff_ne.mpr c7
      have c7b1 : (a0_3 != 0) = true := bne_iff_ne.mpr c7
      (try (have c7b2 := c7b0; simp only [ByteArray.size_extract, Nat.min_self] at c7b2)); (first | rw [c7b0] | (simp only [i64_w, i32_w]; rw [c7b0]) | rw [c7b1] | skip)
      replace H := Option.bind_eq_some_iff.mp H
      obtain ⟨t114, A80, H⟩ := H
      replace H : (if y111.length < 8796093022208 then (chroma_StyleEntry_String.j0 k (y111 ++ [t114]) a0_0 a0_1 a0_2 a0_3 a0_4 a0_5 a0_6) else (none)) = some r := H
      have A8 := Aside0.mk A80
      clear A80
      by_cases c9 : y111.length < 8796093022208
      · rw [if_pos c9] at H
        have LMc9 := Aside0.mk c9
        clear c9
        obtain ⟨y115, hy115⟩ : ∃ y_ : List ByteArray, y_ = (y111 ++ [t114]) := ⟨_, rfl⟩
        replace H : (chroma_StyleEntry_String.j0 k y115 a0_0 a0_1 a0_2 a0_3 a0_4 a0_5 a0_6) = some r := by first | (rw [hy115]; with_reducible exact H) | (have H2_ := (Option.bind_some _ _).symm.trans H; rw [hy115]; with_reducible exact H2_) | (have H2_ := (Option.bind_some _ _).symm.trans H; with_reducible exact H2_) | with_reducible exact H | (rw [hy115]; exact H) | exact H
        have Ny115 := Aside0.mk hy115
        clear hy115
        have H' := Aside0.mk H
        clear H
        have hcz10_0 : w4.cell? ⟨gb110, 0, none⟩ = some (.int .i32 a0_0) := (blk_cell BK110.out 0).trans rfl
        have hcz10_1 : w4.cell? ⟨gb110, 1, none⟩ = some (.int .i32 a0_1) := (blk_cell BK110.out 1).trans rfl
        have hcz10_2 : w4.cell? ⟨gb110, 2, none⟩ = some (.int .i32 a0_2) := (blk_cell BK110.out 2).trans rfl
        have hcz10_3 : w4.cell? ⟨gb110, 3, none⟩ = some (.int .u8 a0_3) := (blk_cell BK110.out 3).trans rfl
        have hcz10_4 : w4.cell? ⟨gb110, 4, none⟩ = some (.int .u8 a0_4) := (blk_cell BK110.out 4).trans rfl
        have hcz10_5 : w4.cell? ⟨gb110, 5, none⟩ = some (.int .u8 a0_5) := (blk_cell BK110.out 5).trans rfl
        have hcz10_6 : w4.cell? ⟨gb110, 6, none⟩ = some (.bool a0_6) := (blk_cell BK110.out 6).trans rfl
        have hfz10_0 := blk_frozen BK110.out 0
        have hfz10_1 := blk_frozen BK110.out 1
        have hfz10_2 := blk_frozen BK110.out 2
        have hfz10_3 := blk_frozen BK110.out 3
        have hfz10_4 := blk_frozen BK110.out 4
        have hfz10_5 := blk_frozen BK110.out 5
        have hfz10_6 := blk_frozen BK110.out 6
        go_wp2_with (first | ((with_reducible refine gate_callee (f := 51) rfl ?_); refine goesL_ (some 11) rfl rfl Tryd.func51 (by kernel_rfl) rfl #[.int .u8 a0_3, .string (⟨#[98, 111, 108, 100]⟩ : ByteArray)] rfl (by (try simp only [List.map_toArray, List.map_cons, List.map_nil]); first | done | rfl | (simp only [List.length_drop, List.length_take]; rfl)) ?_; (with_reducible refine (chroma_Trilean_Prefix.calls a0_3 (⟨#[98, 111, 108, 100]⟩ : ByteArray) t114 _ A8.out).mono ?_); rintro e w' ⟨rfl, ⟨nd, rfl⟩⟩; refine ⟨_, rfl, ?_⟩) | ((with_reducible refine gate_builtin (b := .append) (xs := #[.tmp 8, .tmp 12]) rfl ?_); at_builtin; refine Kd.R_append Kd.string (w0 := w) w.heap.size rfl (.tmp 8) (.tmp 12) 60 9 (.string ⟨#[]⟩) 16 rfl Tryd.underlying60 info9 rfl (by decide) (by omega) v112 y111 t114 [.string t114] (fun _ => True) (fun _ => False) rfl rfl ?aP (fun _ hk => hk.elim) ?aF ?aO ?aB ?aS ?aL ?_; (case aP => exact rfl); (case aB => exact (by repeat (first | (with_reducible first | exact HB.out | apply below_alloc | apply pw_below_drewN | apply below_drew1 | refine below_set ?_ GE110.out) | exact HB.out))); (case aF => exact (fun _ _ => trivial)); (case aO => exact (by (with_reducible repeat (first | apply Kd.R_alloc | apply Kd.R_drewN | apply Kd.R_drew)); exact HO113.out)); (case aS => exact (below_size (by repeat (first | (with_reducible first | exact HB.out | apply below_alloc | apply pw_below_drewN | apply below_drew1 | refine below_set ?_ GE110.out) | exact HB.out)))); (case aL => have := LMc9.out; omega); intro v116 w11 ho hb hg hat; rw [← Ny115.out] at ho; have n0_ := Aside0.mk (blk_grown (g := gb110) (o := .cells #[.int .i32 a0_0, .int .i32 a0_1, .int .i32 a0_2, .int .u8 a0_3, .int .u8 a0_4, .int .u8 a0_5, .bool a0_6] 57 (0, 0)) (by (with_reducible repeat (first | refine blk_drewN ?_ _ | refine blk_drew ?_ | refine blk_alloc ?_ _)); exact BK110.out) hg (Kd.R_ne HO113.out BK110.out (by decide))); have n1_ := Aside0.mk (hb); have n2_ := Aside0.mk (ho); clear BK110; clear HB; clear HO113; have BK110 := n0_; have HB := n1_; have HO117 := n2_; clear n0_ n1_ n2_; clear ho hb hg hat))
        go_meet
        case rel => exact ⟨_, (y115), H', ⟨by first | omega | exact Nat.le_refl _⟩, ⟨by (with_reducible repeat (first | apply Kd.R_alloc | apply Kd.R_drewN | apply Kd.R_drew)); exact HO117.out⟩, ⟨by (with_reducible repeat (first | refine blk_drewN ?_ _ | refine blk_drew ?_ | refine blk_alloc ?_ _)); exact BK110.out⟩, ⟨by repeat (first | (with_reducible first | exact HB.out | apply below_alloc | apply pw_below_drewN | apply below_drew1 | refine below_set ?_ GE110.out) | exact HB.out)⟩⟩
      · rw [if_neg c9] at H
        exact absurd H (by simp)
  case rest =>
    clear HC2
    try clear p2
    try clear c3
    try clear c5
    try clear c7
    try clear c7b0
    try clear c7b1
    try clear c7b2
    try clear c9
    try clear hcz10_0
    try clear hcz10_1
    try clear hcz10_2
    try clear hcz10_3
    try clear hcz10_4
    try clear hcz10_5
    try clear hcz10_6
    try clear hcz6_0
    try clear hcz6_1
    try clear hcz6_2
    try clear hcz6_3
    try clear hcz6_4
    try clear hcz6_5
    try clear hcz6_6
    try clear hfz10_0
    try clear hfz10_1
    try clear hfz10_2
    try clear hfz10_3
    try clear hfz10_4
    try clear hfz10_5
    try clear hfz10_6
    try clear hfz6_0
    try clear hfz6_1
    try clear hfz6_2
    try clear hfz6_3
    try clear hfz6_4
    try clear hfz6_5
    try clear hfz6_6
    obtain ⟨kq, x3_1, HA, HJ1, HO_3, BK110, HB⟩ := hcut
    cases kq with
    | zero => exact absurd HA.out (by simp [chroma_StyleEntry_String.j0])
    | succ kj1 =>
      have H := HA.out
      clear HA
      simp only [chroma_StyleEntry_String.j0] at H
      have HC12 := Aside0.mk H
      clear H
      have hcz13_0 : wc.cell? ⟨gb110, 0, none⟩ = some (.int .i32 a0_0) := (blk_cell BK110.out 0).trans rfl
      have hcz13_1 : wc.cell? ⟨gb110, 1, none⟩ = some (.int .i32 a0_1) := (blk_cell BK110.out 1).trans rfl
      have hcz13_2 : wc.cell? ⟨gb110, 2, none⟩ = some (.int .i32 a0_2) := (blk_cell BK110.out 2).trans rfl
      have hcz13_3 : wc.cell? ⟨gb110, 3, none⟩ = some (.int .u8 a0_3) := (blk_cell BK110.out 3).trans rfl
      have hcz13_4 : wc.cell? ⟨gb110, 4, none⟩ = some (.int .u8 a0_4) := (blk_cell BK110.out 4).trans rfl
      have hcz13_5 : wc.cell? ⟨gb110, 5, none⟩ = some (.int .u8 a0_5) := (blk_cell BK110.out 5).trans rfl
      have hcz13_6 : wc.cell? ⟨gb110, 6, none⟩ = some (.bool a0_6) := (blk_cell BK110.out 6).trans rfl
      have hfz13_0 := blk_frozen BK110.out 0
      have hfz13_1 := blk_frozen BK110.out 1
      have hfz13_2 := blk_frozen BK110.out 2
      have hfz13_3 := blk_frozen BK110.out 3
      have hfz13_4 := blk_frozen BK110.out 4
      have hfz13_5 := blk_frozen BK110.out 5
      have hfz13_6 := blk_frozen BK110.out 6
      go_upto_if 16 with (fail)
      go_cut [3] (fun v3 wc => ∃ (kq : Nat) (x3_11 : List ByteArray), Aside0 (chroma_StyleEntry_String.j1 kq x3_11 a0_0 a0_1 a0_2 a0_3 a0_4 a0_5 a0_6 = some r) ∧ Aside0 (kq ≤ kj1) ∧ Aside0 (Kd.R Kd.string 9 wc w.heap.size (fun _ => True) v3 x3_11) ∧ Aside0 (wc.heap[gb110]? = some (.cells #[.int .i32 a0_0, .int .i32 a0_1, .int .i32 a0_2, .int .u8 a0_3, .int .u8 a0_4, .int .u8 a0_5, .bool a0_6] 57 (0, 0))) ∧ Aside0 (Below w.heap.size w wc))
      case first =>
        have H := HC12.out
        clear HC12
        by_cases c14 : a0_4 = 0
        · rw [if_pos c14] at H
          have c14b0 : (a0_4 == 0) = true := beq_iff_eq.mpr c14
          have c14b1 : (a0_4 != 0) = false := bne_eq_false_iff_eq.mpr c14
          clear c14
          (try (have c14b2 := c14b0; simp only [ByteArray.size_extract, Nat.min_self] at c14b2)); (first | rw [c14b0] | (simp only [i64_w, i32_w]; rw [c14b0]) | rw [c14b1] | skip)
          have H' := Aside0.mk H
          clear H
          go_wp2
          go_meet
          case rel => exact ⟨_, (x3_1), H', ⟨by have := HJ1.out; first | omega | exact Nat.le_refl _⟩, ⟨by (with_reducible repeat (first | apply Kd.R_alloc | apply Kd.R_drewN | apply Kd.R_drew)); exact HO_3.out⟩, ⟨by (with_reducible repeat (first | refine blk_drewN ?_ _ | refine blk_drew ?_ | refine blk_alloc ?_ _)); exact BK110.out⟩, ⟨by repeat (first | (with_reducible first | exact HB.out | apply below_alloc | apply pw_below_drewN | apply below_drew1 | refine below_set ?_ GE110.out) | exact HB.out)⟩⟩
        · rw [if_neg c14] at H
          have c14b0 : (a0_4 == 0) = false := beq_eq_false_iff_ne.mpr c14
          have c14b1 : (a0_4 != 0) = true := bne_iff_ne.mpr c14
          (try (have c14b2 := c14b0; simp only [ByteArray.size_extract, Nat.min_self] at c14b2)); (first | rw [c14b0] | (simp only [i64_w, i32_w]; rw [c14b0]) | rw [c14b1] | skip)
          replace H := Option.bind_eq_some_iff.mp H
          obtain ⟨t118, A150, H⟩ := H
          replace H : (if x3_1.length < 8796093022208 then (chroma_StyleEntry_String.j1 kj1 (x3_1 ++ [t118]) a0_0 a0_1 a0_2 a0_3 a0_4 a0_5 a0_6) else (none)) = some r := H
          have A15 := Aside0.mk A150
          clear A150
          by_cases c16 : x3_1.length < 8796093022208
          · rw [if_pos c16] at H
            have LMc16 := Aside0.mk c16
            clear c16
            obtain ⟨y119, hy119⟩ : ∃ y_ : List ByteArray, y_ = (x3_1 ++ [t118]) := ⟨_, rfl⟩
            replace H : (chroma_StyleEntry_String.j1 kj1 y119 a0_0 a0_1 a0_2 a0_3 a0_4 a0_5 a0_6) = some r := by first | (rw [hy119]; with_reducible exact H) | (have H2_ := (Option.bind_some _ _).symm.trans H; rw [hy119]; with_reducible exact H2_) | (have H2_ := (Option.bind_some _ _).symm.trans H; with_reducible exact H2_) | with_reducible exact H | (rw [hy119]; exact H) | exact H
            have Ny119 := Aside0.mk hy119
            clear hy119
            have H' := Aside0.mk H
            clear H
            have hcz17_0 : wc.cell? ⟨gb110, 0, none⟩ = some (.int .i32 a0_0) := (blk_cell BK110.out 0).trans rfl
            have hcz17_1 : wc.cell? ⟨gb110, 1, none⟩ = some (.int .i32 a0_1) := (blk_cell BK110.out 1).trans rfl
            have hcz17_2 : wc.cell? ⟨gb110, 2, none⟩ = some (.int .i32 a0_2) := (blk_cell BK110.out 2).trans rfl
            have hcz17_3 : wc.cell? ⟨gb110, 3, none⟩ = some (.int .u8 a0_3) := (blk_cell BK110.out 3).trans rfl
            have hcz17_4 : wc.cell? ⟨gb110, 4, none⟩ = some (.int .u8 a0_4) := (blk_cell BK110.out 4).trans rfl
            have hcz17_5 : wc.cell? ⟨gb110, 5, none⟩ = some (.int .u8 a0_5) := (blk_cell BK110.out 5).trans rfl
            have hcz17_6 : wc.cell? ⟨gb110, 6, none⟩ = some (.bool a0_6) := (blk_cell BK110.out 6).trans rfl
            have hfz17_0 := blk_frozen BK110.out 0
            have hfz17_1 := blk_frozen BK110.out 1
            have hfz17_2 := blk_frozen BK110.out 2
            have hfz17_3 := blk_frozen BK110.out 3
            have hfz17_4 := blk_frozen BK110.out 4
            have hfz17_5 := blk_frozen BK110.out 5
            have hfz17_6 := blk_frozen BK110.out 6
            go_wp2_with (first | ((with_reducible refine gate_callee (f := 51) rfl ?_); refine goesL_ (some 20) rfl rfl Tryd.func51 (by kernel_rfl) rfl #[.int .u8 a0_4, .string (⟨#[105, 116, 97, 108, 105, 99]⟩ : ByteArray)] rfl (by (try simp only [List.map_toArray, List.map_cons, List.map_nil]); first | done | rfl | (simp only [List.length_drop, List.length_take]; rfl)) ?_; (with_reducible refine (chroma_Trilean_Prefix.calls a0_4 (⟨#[105, 116, 97, 108, 105, 99]⟩ : ByteArray) t118 _ A15.out).mono ?_); rintro e w' ⟨rfl, ⟨nd, rfl⟩⟩; refine ⟨_, rfl, ?_⟩) | ((with_reducible refine gate_builtin (b := .append) (xs := #[.tmp 17, .tmp 21]) rfl ?_); at_builtin; refine Kd.R_append Kd.string (w0 := w) w.heap.size rfl (.tmp 17) (.tmp 21) 60 9 (.string ⟨#[]⟩) 16 rfl Tryd.underlying60 info9 rfl (by decide) (by omega) u3 x3_1 t118 [.string t118] (fun _ => True) (fun _ => False) rfl rfl ?aP (fun _ hk => hk.elim) ?aF ?aO ?aB ?aS ?aL ?_; (case aP => exact rfl); (case aB => exact (by repeat (first | (with_reducible first | exact HB.out | apply below_alloc | apply pw_below_drewN | apply below_drew1 | refine below_set ?_ GE110.out) | exact HB.out))); (case aF => exact (fun _ _ => trivial)); (case aO => exact (by (with_reducible repeat (first | apply Kd.R_alloc | apply Kd.R_drewN | apply Kd.R_drew)); exact HO_3.out)); (case aS => exact (below_size (by repeat (first | (with_reducible first | exact HB.out | apply below_alloc | apply pw_below_drewN | apply below_drew1 | refine below_set ?_ GE110.out) | exact HB.out)))); (case aL => have := LMc16.out; omega); intro v120 w18 ho hb hg hat; rw [← Ny119.out] at ho; have n0_ := Aside0.mk (blk_grown (g := gb110) (o := .cells #[.int .i32 a0_0, .int .i32 a0_1, .int .i32 a0_2, .int .u8 a0_3, .int .u8 a0_4, .int .u8 a0_5, .bool a0_6] 57 (0, 0)) (by (with_reducible repeat (first | refine blk_drewN ?_ _ | refine blk_drew ?_ | refine blk_alloc ?_ _)); exact BK110.out) hg (Kd.R_ne HO_3.out BK110.out (by decide))); have n1_ := Aside0.mk (hb); have n2_ := Aside0.mk (ho); clear BK110; clear HB; clear HO_3; have BK110 := n0_; have HB := n1_; have HO121 := n2_; clear n0_ n1_ n2_; clear ho hb hg hat))
            go_meet
            case rel => exact ⟨_, (y119), H', ⟨by have := HJ1.out; first | omega | exact Nat.le_refl _⟩, ⟨by (with_reducible repeat (first | apply Kd.R_alloc | apply Kd.R_drewN | apply Kd.R_drew)); exact HO121.out⟩, ⟨by (with_reducible repeat (first | refine blk_drewN ?_ _ | refine blk_drew ?_ | refine blk_alloc ?_ _)); exact BK110.out⟩, ⟨by repeat (first | (with_reducible first | exact HB.out | apply below_alloc | apply pw_below_drewN | apply below_drew1 | refine below_set ?_ GE110.out) | exact HB.out)⟩⟩
          · rw [if_neg c16] at H
            exact absurd H (by simp)
      case rest =>
        clear HC12
        try clear c1
        try clear p2
        try clear c3
        try clear c5
        try clear c7
        try clear c7b0
        try clear c7b1
        try clear c7b2
        try clear c9
        try clear c14
        try clear c14b0
        try clear c14b1
        try clear c14b2
        try clear c16
        try clear hcz10_0
        try clear hcz10_1
        try clear hcz10_2
        try clear hcz10_3
        try clear hcz10_4
        try clear hcz10_5
        try clear hcz10_6
        try clear hcz13_0
        try clear hcz13_1
        try clear hcz13_2
        try clear hcz13_3
        try clear hcz13_4
        try clear hcz13_5
        try clear hcz13_6
        try clear hcz17_0
        try clear hcz17_1
        try clear hcz17_2
        try clear hcz17_3
        try clear hcz17_4
        try clear hcz17_5
        try clear hcz17_6
        try clear hcz6_0
        try clear hcz6_1
        try clear hcz6_2
        try clear hcz6_3
        try clear hcz6_4
        try clear hcz6_5
        try clear hcz6_6
        try clear hfz10_0
        try clear hfz10_1
        try clear hfz10_2
        try clear hfz10_3
        try clear hfz10_4
        try clear hfz10_5
        try clear hfz10_6
        try clear hfz13_0
        try clear hfz13_1
        try clear hfz13_2
        try clear hfz13_3
        try clear hfz13_4
        try clear hfz13_5
        try clear hfz13_6
        try clear hfz17_0
        try clear hfz17_1
        try clear hfz17_2
        try clear hfz17_3
        try clear hfz17_4
        try clear hfz17_5
        try clear hfz17_6
        try clear hfz6_0
        try clear hfz6_1
        try clear hfz6_2
        try clear hfz6_3
        try clear hfz6_4
        try clear hfz6_5
        try clear hfz6_6
        try clear p2
        obtain ⟨kq, x3_11, HA, HJ11, HO_3, BK110, HB⟩ := hcut
        cases kq with
        | zero => exact absurd HA.out (by simp [chroma_StyleEntry_String.j1])
        | succ kj11 =>
          have H := HA.out
          clear HA
          simp only [chroma_StyleEntry_String.j1] at H
          have HC19 := Aside0.mk H
          clear H
          have hcz20_0 : wc.cell? ⟨gb110, 0, none⟩ = some (.int .i32 a0_0) := (blk_cell BK110.out 0).trans rfl
          have hcz20_1 : wc.cell? ⟨gb110, 1, none⟩ = some (.int .i32 a0_1) := (blk_cell BK110.out 1).trans rfl
          have hcz20_2 : wc.cell? ⟨gb110, 2, none⟩ = some (.int .i32 a0_2) := (blk_cell BK110.out 2).trans rfl
          have hcz20_3 : wc.cell? ⟨gb110, 3, none⟩ = some (.int .u8 a0_3) := (blk_cell BK110.out 3).trans rfl
          have hcz20_4 : wc.cell? ⟨gb110, 4, none⟩ = some (.int .u8 a0_4) := (blk_cell BK110.out 4).trans rfl
          have hcz20_5 : wc.cell? ⟨gb110, 5, none⟩ = some (.int .u8 a0_5) := (blk_cell BK110.out 5).trans rfl
          have hcz20_6 : wc.cell? ⟨gb110, 6, none⟩ = some (.bool a0_6) := (blk_cell BK110.out 6).trans rfl
          have hfz20_0 := blk_frozen BK110.out 0
          have hfz20_1 := blk_frozen BK110.out 1
          have hfz20_2 := blk_frozen BK110.out 2
          have hfz20_3 := blk_frozen BK110.out 3
          have hfz20_4 := blk_frozen BK110.out 4
          have hfz20_5 := blk_frozen BK110.out 5
          have hfz20_6 := blk_frozen BK110.out 6
          go_upto_if 25 with (fail)
          go_cut [3] (fun v3 wc => ∃ (kq : Nat) (x3_18 : List ByteArray), Aside0 (chroma_StyleEntry_String.j2 kq x3_18 a0_0 a0_1 a0_2 a0_3 a0_4 a0_5 a0_6 = some r) ∧ Aside0 (kq ≤ kj11) ∧ Aside0 (Kd.R Kd.string 9 wc w.heap.size (fun _ => True) v3 x3_18) ∧ Aside0 (wc.heap[gb110]? = some (.cells #[.int .i32 a0_0, .int .i32 a0_1, .int .i32 a0_2, .int .u8 a0_3, .int .u8 a0_4, .int .u8 a0_5, .bool a0_6] 57 (0, 0))) ∧ Aside0 (Below w.heap.size w wc))
          case first =>
            have H := HC19.out
            clear HC19
            by_cases c21 : a0_5 = 0
            · rw [if_pos c21] at H
              have c21b0 : (a0_5 == 0) = true := beq_iff_eq.mpr c21
              have c21b1 : (a0_5 != 0) = false := bne_eq_false_iff_eq.mpr c21
              clear c21
              (try (have c21b2 := c21b0; simp only [ByteArray.size_extract, Nat.min_self] at c21b2)); (first | rw [c21b0] | (simp only [i64_w, i32_w]; rw [c21b0]) | rw [c21b1] | skip)
              have H' := Aside0.mk H
              clear H
              go_wp2
              go_meet
              case rel => exact ⟨_, (x3_11), H', ⟨by have := HJ1.out; have := HJ11.out; first | omega | exact Nat.le_refl _⟩, ⟨by (with_reducible repeat (first | apply Kd.R_alloc | apply Kd.R_drewN | apply Kd.R_drew)); exact HO_3.out⟩, ⟨by (with_reducible repeat (first | refine blk_drewN ?_ _ | refine blk_drew ?_ | refine blk_alloc ?_ _)); exact BK110.out⟩, ⟨by repeat (first | (with_reducible first | exact HB.out | apply below_alloc | apply pw_below_drewN | apply below_drew1 | refine below_set ?_ GE110.out) | exact HB.out)⟩⟩
            · rw [if_neg c21] at H
              have c21b0 : (a0_5 == 0) = false := beq_eq_false_iff_ne.mpr c21
              have c21b1 : (a0_5 != 0) = true := bne_iff_ne.mpr c21
              (try (have c21b2 := c21b0; simp only [ByteArray.size_extract, Nat.min_self] at c21b2)); (first | rw [c21b0] | (simp only [i64_w, i32_w]; rw [c21b0]) | rw [c21b1] | skip)
              replace H := Option.bind_eq_some_iff.mp H
              obtain ⟨t122, A220, H⟩ := H
              replace H : (if x3_11.length < 8796093022208 then (chroma_StyleEntry_String.j2 kj11 (x3_11 ++ [t122]) a0_0 a0_1 a0_2 a0_3 a0_4 a0_5 a0_6) else (none)) = some r := H
              have A22 := Aside0.mk A220
              clear A220
              by_cases c23 : x3_11.length < 8796093022208
              · rw [if_pos c23] at H
                have LMc23 := Aside0.mk c23
                clear c23
                obtain ⟨y123, hy123⟩ : ∃ y_ : List ByteArray, y_ = (x3_11 ++ [t122]) := ⟨_, rfl⟩
                replace H : (chroma_StyleEntry_String.j2 kj11 y123 a0_0 a0_1 a0_2 a0_3 a0_4 a0_5 a0_6) = some r := by first | (rw [hy123]; with_reducible exact H) | (have H2_ := (Option.bind_some _ _).symm.trans H; rw [hy123]; with_reducible exact H2_) | (have H2_ := (Option.bind_some _ _).symm.trans H; with_reducible exact H2_) | with_reducible exact H | (rw [hy123]; exact H) | exact H
                have Ny123 := Aside0.mk hy123
                clear hy123
                have H' := Aside0.mk H
                clear H
                have hcz24_0 : wc.cell? ⟨gb110, 0, none⟩ = some (.int .i32 a0_0) := (blk_cell BK110.out 0).trans rfl
                have hcz24_1 : wc.cell? ⟨gb110, 1, none⟩ = some (.int .i32 a0_1) := (blk_cell BK110.out 1).trans rfl
                have hcz24_2 : wc.cell? ⟨gb110, 2, none⟩ = some (.int .i32 a0_2) := (blk_cell BK110.out 2).trans rfl
                have hcz24_3 : wc.cell? ⟨gb110, 3, none⟩ = some (.int .u8 a0_3) := (blk_cell BK110.out 3).trans rfl
                have hcz24_4 : wc.cell? ⟨gb110, 4, none⟩ = some (.int .u8 a0_4) := (blk_cell BK110.out 4).trans rfl
                have hcz24_5 : wc.cell? ⟨gb110, 5, none⟩ = some (.int .u8 a0_5) := (blk_cell BK110.out 5).trans rfl
                have hcz24_6 : wc.cell? ⟨gb110, 6, none⟩ = some (.bool a0_6) := (blk_cell BK110.out 6).trans rfl
                have hfz24_0 := blk_frozen BK110.out 0
                have hfz24_1 := blk_frozen BK110.out 1
                have hfz24_2 := blk_frozen BK110.out 2
                have hfz24_3 := blk_frozen BK110.out 3
                have hfz24_4 := blk_frozen BK110.out 4
                have hfz24_5 := blk_frozen BK110.out 5
                have hfz24_6 := blk_frozen BK110.out 6
                go_wp2_with (first | ((with_reducible refine gate_callee (f := 51) rfl ?_); refine goesL_ (some 29) rfl rfl Tryd.func51 (by kernel_rfl) rfl #[.int .u8 a0_5, .string (⟨#[117, 110, 100, 101, 114, 108, 105, 110, 101]⟩ : ByteArray)] rfl (by (try simp only [List.map_toArray, List.map_cons, List.map_nil]); first | done | rfl | (simp only [List.length_drop, List.length_take]; rfl)) ?_; (with_reducible refine (chroma_Trilean_Prefix.calls a0_5 (⟨#[117, 110, 100, 101, 114, 108, 105, 110, 101]⟩ : ByteArray) t122 _ A22.out).mono ?_); rintro e w' ⟨rfl, ⟨nd, rfl⟩⟩; refine ⟨_, rfl, ?_⟩) | ((with_reducible refine gate_builtin (b := .append) (xs := #[.tmp 26, .tmp 30]) rfl ?_); at_builtin; refine Kd.R_append Kd.string (w0 := w) w.heap.size rfl (.tmp 26) (.tmp 30) 60 9 (.string ⟨#[]⟩) 16 rfl Tryd.underlying60 info9 rfl (by decide) (by omega) u3 x3_11 t122 [.string t122] (fun _ => True) (fun _ => False) rfl rfl ?aP (fun _ hk => hk.elim) ?aF ?aO ?aB ?aS ?aL ?_; (case aP => exact rfl); (case aB => exact (by repeat (first | (with_reducible first | exact HB.out | apply below_alloc | apply pw_below_drewN | apply below_drew1 | refine below_set ?_ GE110.out) | exact HB.out))); (case aF => exact (fun _ _ => trivial)); (case aO => exact (by (with_reducible repeat (first | apply Kd.R_alloc | apply Kd.R_drewN | apply Kd.R_drew)); exact HO_3.out)); (case aS => exact (below_size (by repeat (first | (with_reducible first | exact HB.out | apply below_alloc | apply pw_below_drewN | apply below_drew1 | refine below_set ?_ GE110.out) | exact HB.out)))); (case aL => have := LMc23.out; omega); intro v124 w25 ho hb hg hat; rw [← Ny123.out] at ho; have n0_ := Aside0.mk (blk_grown (g := gb110) (o := .cells #[.int .i32 a0_0, .int .i32 a0_1, .int .i32 a0_2, .int .u8 a0_3, .int .u8 a0_4, .int .u8 a0_5, .bool a0_6] 57 (0, 0)) (by (with_reducible repeat (first | refine blk_drewN ?_ _ | refine blk_drew ?_ | refine blk_alloc ?_ _)); exact BK110.out) hg (Kd.R_ne HO_3.out BK110.out (by decide))); have n1_ := Aside0.mk (hb); have n2_ := Aside0.mk (ho); clear BK110; clear HB; clear HO_3; have BK110 := n0_; have HB := n1_; have HO125 := n2_; clear n0_ n1_ n2_; clear ho hb hg hat))
                go_meet
                case rel => exact ⟨_, (y123), H', ⟨by have := HJ1.out; have := HJ11.out; first | omega | exact Nat.le_refl _⟩, ⟨by (with_reducible repeat (first | apply Kd.R_alloc | apply Kd.R_drewN | apply Kd.R_drew)); exact HO125.out⟩, ⟨by (with_reducible repeat (first | refine blk_drewN ?_ _ | refine blk_drew ?_ | refine blk_alloc ?_ _)); exact BK110.out⟩, ⟨by repeat (first | (with_reducible first | exact HB.out | apply below_alloc | apply pw_below_drewN | apply below_drew1 | refine below_set ?_ GE110.out) | exact HB.out)⟩⟩
              · rw [if_neg c23] at H
                exact absurd H (by simp)
          case rest =>
            clear HC19
            try clear c1
            try clear c2
            try clear p2
            try clear c3
            try clear c5
            try clear c7
            try clear c7b0
            try clear c7b1
            try clear c7b2
            try clear c9
            try clear c14
            try clear c14b0
            try clear c14b1
            try clear c14b2
            try clear c16
            try clear c21
            try clear c21b0
            try clear c21b1
            try clear c21b2
            try clear c23
            try clear hcz10_0
            try clear hcz10_1
            try clear hcz10_2
            try clear hcz10_3
            try clear hcz10_4
            try clear hcz10_5
            try clear hcz10_6
            try clear hcz13_0
            try clear hcz13_1
            try clear hcz13_2
            try clear hcz13_3
            try clear hcz13_4
            try clear hcz13_5
            try clear hcz13_6
            try clear hcz17_0
            try clear hcz17_1
            try clear hcz17_2
            try clear hcz17_3
            try clear hcz17_4
            try clear hcz17_5
            try clear hcz17_6
            try clear hcz20_0
            try clear hcz20_1
            try clear hcz20_2
            try clear hcz20_3
            try clear hcz20_4
            try clear hcz20_5
            try clear hcz20_6
            try clear hcz24_0
            try clear hcz24_1
            try clear hcz24_2
            try clear hcz24_3
            try clear hcz24_4
            try clear hcz24_5
            try clear hcz24_6
            try clear hcz6_0
            try clear hcz6_1
            try clear hcz6_2
            try clear hcz6_3
            try clear hcz6_4
            try clear hcz6_5
            try clear hcz6_6
            try clear hfz10_0
            try clear hfz10_1
            try clear hfz10_2
            try clear hfz10_3
            try clear hfz10_4
            try clear hfz10_5
            try clear hfz10_6
            try clear hfz13_0
            try clear hfz13_1
            try clear hfz13_2
            try clear hfz13_3
            try clear hfz13_4
            try clear hfz13_5
            try clear hfz13_6
            try clear hfz17_0
            try clear hfz17_1
            try clear hfz17_2
            try clear hfz17_3
            try clear hfz17_4
            try clear hfz17_5
            try clear hfz17_6
            try clear hfz20_0
            try clear hfz20_1
            try clear hfz20_2
            try clear hfz20_3
            try clear hfz20_4
            try clear hfz20_5
            try clear hfz20_6
            try clear hfz24_0
            try clear hfz24_1
            try clear hfz24_2
            try clear hfz24_3
            try clear hfz24_4
            try clear hfz24_5
            try clear hfz24_6
            try clear hfz6_0
            try clear hfz6_1
            try clear hfz6_2
            try clear hfz6_3
            try clear hfz6_4
            try clear hfz6_5
            try clear hfz6_6
            try clear p2
            obtain ⟨kq, x3_18, HA, HJ18, HO_3, BK110, HB⟩ := hcut
            cases kq with
            | zero => exact absurd HA.out (by simp [chroma_StyleEntry_String.j2])
            | succ kj18 =>
              have H := HA.out
              clear HA
              simp only [chroma_StyleEntry_String.j2] at H
              have HC26 := Aside0.mk H
              clear H
              have hcz27_0 : wc.cell? ⟨gb110, 0, none⟩ = some (.int .i32 a0_0) := (blk_cell BK110.out 0).trans rfl
              have hcz27_1 : wc.cell? ⟨gb110, 1, none⟩ = some (.int .i32 a0_1) := (blk_cell BK110.out 1).trans rfl
              have hcz27_2 : wc.cell? ⟨gb110, 2, none⟩ = some (.int .i32 a0_2) := (blk_cell BK110.out 2).trans rfl
              have hcz27_3 : wc.cell? ⟨gb110, 3, none⟩ = some (.int .u8 a0_3) := (blk_cell BK110.out 3).trans rfl
              have hcz27_4 : wc.cell? ⟨gb110, 4, none⟩ = some (.int .u8 a0_4) := (blk_cell BK110.out 4).trans rfl
              have hcz27_5 : wc.cell? ⟨gb110, 5, none⟩ = some (.int .u8 a0_5) := (blk_cell BK110.out 5).trans rfl
              have hcz27_6 : wc.cell? ⟨gb110, 6, none⟩ = some (.bool a0_6) := (blk_cell BK110.out 6).trans rfl
              have hfz27_0 := blk_frozen BK110.out 0
              have hfz27_1 := blk_frozen BK110.out 1
              have hfz27_2 := blk_frozen BK110.out 2
              have hfz27_3 := blk_frozen BK110.out 3
              have hfz27_4 := blk_frozen BK110.out 4
              have hfz27_5 := blk_frozen BK110.out 5
              have hfz27_6 := blk_frozen BK110.out 6
              go_upto_if 33 with (fail)
              go_cut [3] (fun v3 wc => ∃ (kq : Nat) (x3_25 : List ByteArray), Aside0 (chroma_StyleEntry_String.j3 kq x3_25 a0_0 a0_1 a0_2 a0_3 a0_4 a0_5 a0_6 = some r) ∧ Aside0 (kq ≤ kj18) ∧ Aside0 (Kd.R Kd.string 9 wc w.heap.size (fun _ => True) v3 x3_25) ∧ Aside0 (wc.heap[gb110]? = some (.cells #[.int .i32 a0_0, .int .i32 a0_1, .int .i32 a0_2, .int .u8 a0_3, .int .u8 a0_4, .int .u8 a0_5, .bool a0_6] 57 (0, 0))) ∧ Aside0 (Below w.heap.size w wc))
              case first =>
                have H := HC26.out
                clear HC26
                by_cases c28 : a0_6 = true
                · subst c28
                  have H1 : (if x3_18.length < 8796093022208 then (chroma_StyleEntry_String.j3 kj18 (x3_18 ++ [(⟨#[110, 111, 105, 110, 104, 101, 114, 105, 116]⟩ : ByteArray)]) a0_0 a0_1 a0_2 a0_3 a0_4 a0_5 true) else (none)) = some r := by rw [if_pos rfl] at H; exact H
                  clear H
                  have H := H1
                  clear H1
                  by_cases c29 : x3_18.length < 8796093022208
                  · rw [if_pos c29] at H
                    have LMc29 := Aside0.mk c29
                    clear c29
                    obtain ⟨y126, hy126⟩ : ∃ y_ : List ByteArray, y_ = (x3_18 ++ [(⟨#[110, 111, 105, 110, 104, 101, 114, 105, 116]⟩ : ByteArray)]) := ⟨_, rfl⟩
                    replace H : (chroma_StyleEntry_String.j3 kj18 y126 a0_0 a0_1 a0_2 a0_3 a0_4 a0_5 true) = some r := by first | (rw [hy126]; with_reducible exact H) | (have H2_ := (Option.bind_some _ _).symm.trans H; rw [hy126]; with_reducible exact H2_) | (have H2_ := (Option.bind_some _ _).symm.trans H; with_reducible exact H2_) | with_reducible exact H | (rw [hy126]; exact H) | exact H
                    have Ny126 := Aside0.mk hy126
                    clear hy126
                    have H' := Aside0.mk H
                    clear H
                    go_wp2_with (first | ((with_reducible refine gate_builtin (b := .append) (xs := #[.tmp 34, .tmp 35]) rfl ?_); at_builtin; refine Kd.R_append Kd.string (w0 := w) w.heap.size rfl (.tmp 34) (.tmp 35) 60 9 (.string ⟨#[]⟩) 16 rfl Tryd.underlying60 info9 rfl (by decide) (by omega) u3 x3_18 (⟨#[110, 111, 105, 110, 104, 101, 114, 105, 116]⟩ : ByteArray) [.string (⟨#[110, 111, 105, 110, 104, 101, 114, 105, 116]⟩ : ByteArray)] (fun _ => True) (fun _ => False) rfl rfl ?aP (fun _ hk => hk.elim) ?aF ?aO ?aB ?aS ?aL ?_; (case aP => exact rfl); (case aB => exact (by repeat (first | (with_reducible first | exact HB.out | apply below_alloc | apply pw_below_drewN | apply below_drew1 | refine below_set ?_ GE110.out) | exact HB.out))); (case aF => exact (fun _ _ => trivial)); (case aO => exact (by (with_reducible repeat (first | apply Kd.R_alloc | apply Kd.R_drewN | apply Kd.R_drew)); exact HO_3.out)); (case aS => exact (below_size (by repeat (first | (with_reducible first | exact HB.out | apply below_alloc | apply pw_below_drewN | apply below_drew1 | refine below_set ?_ GE110.out) | exact HB.out)))); (case aL => have := LMc29.out; omega); intro v127 w30 ho hb hg hat; rw [← Ny126.out] at ho; have n0_ := Aside0.mk (blk_grown (g := gb110) (o := .cells #[.int .i32 a0_0, .int .i32 a0_1, .int .i32 a0_2, .int .u8 a0_3, .int .u8 a0_4, .int .u8 a0_5, .bool true] 57 (0, 0)) (by (with_reducible repeat (first | refine blk_drewN ?_ _ | refine blk_drew ?_ | refine blk_alloc ?_ _)); exact BK110.out) hg (Kd.R_ne HO_3.out BK110.out (by decide))); have n1_ := Aside0.mk (hb); have n2_ := Aside0.mk (ho); clear BK110; clear HB; clear HO_3; have BK110 := n0_; have HB := n1_; have HO128 := n2_; clear n0_ n1_ n2_; clear ho hb hg hat))
                    go_meet
                    case rel => exact ⟨_, (y126), H', ⟨by have := HJ1.out; have := HJ11.out; have := HJ18.out; first | omega | exact Nat.le_refl _⟩, ⟨by (with_reducible repeat (first | apply Kd.R_alloc | apply Kd.R_drewN | apply Kd.R_drew)); exact HO128.out⟩, ⟨by (with_reducible repeat (first | refine blk_drewN ?_ _ | refine blk_drew ?_ | refine blk_alloc ?_ _)); exact BK110.out⟩, ⟨by repeat (first | (with_reducible first | exact HB.out | apply below_alloc | apply pw_below_drewN | apply below_drew1 | refine below_set ?_ GE110.out) | exact HB.out)⟩⟩
                  · rw [if_neg c29] at H
                    exact absurd H (by simp)
                · replace c28 := Bool.eq_false_iff.mpr c28
                  subst c28
                  have H1 : (chroma_StyleEntry_String.j3 kj18 x3_18 a0_0 a0_1 a0_2 a0_3 a0_4 a0_5 false) = some r := by rw [if_neg (show ¬ (false = true) by decide)] at H; exact H
                  clear H
                  have H := H1
                  clear H1
                  have H' := Aside0.mk H
                  clear H
                  go_wp2
                  go_meet
                  case rel => exact ⟨_, (x3_18), H', ⟨by have := HJ1.out; have := HJ11.out; have := HJ18.out; first | omega | exact Nat.le_refl _⟩, ⟨by (with_reducible repeat (first | apply Kd.R_alloc | apply Kd.R_drewN | apply Kd.R_drew)); exact HO_3.out⟩, ⟨by (with_reducible repeat (first | refine blk_drewN ?_ _ | refine blk_drew ?_ | refine blk_alloc ?_ _)); exact BK110.out⟩, ⟨by repeat (first | (with_reducible first | exact HB.out | apply below_alloc | apply pw_below_drewN | apply below_drew1 | refine below_set ?_ GE110.out) | exact HB.out)⟩⟩
              case rest =>
                clear HC26
                try clear c1
                try clear c2
                try clear p2
                try clear c3
                try clear c5
                try clear c7
                try clear c7b0
                try clear c7b1
                try clear c7b2
                try clear c9
                try clear c14
                try clear c14b0
                try clear c14b1
                try clear c14b2
                try clear c16
                try clear c21
                try clear c21b0
                try clear c21b1
                try clear c21b2
                try clear c23
                try clear c28
                try clear c29
                try clear hcz10_0
                try clear hcz10_1
                try clear hcz10_2
                try clear hcz10_3
                try clear hcz10_4
                try clear hcz10_5
                try clear hcz10_6
                try clear hcz13_0
                try clear hcz13_1
                try clear hcz13_2
                try clear hcz13_3
                try clear hcz13_4
                try clear hcz13_5
                try clear hcz13_6
                try clear hcz17_0
                try clear hcz17_1
                try clear hcz17_2
                try clear hcz17_3
                try clear hcz17_4
                try clear hcz17_5
                try clear hcz17_6
                try clear hcz20_0
                try clear hcz20_1
                try clear hcz20_2
                try clear hcz20_3
                try clear hcz20_4
                try clear hcz20_5
                try clear hcz20_6
                try clear hcz24_0
                try clear hcz24_1
                try clear hcz24_2
                try clear hcz24_3
                try clear hcz24_4
                try clear hcz24_5
                try clear hcz24_6
                try clear hcz27_0
                try clear hcz27_1
                try clear hcz27_2
                try clear hcz27_3
                try clear hcz27_4
                try clear hcz27_5
                try clear hcz27_6
                try clear hcz6_0
                try clear hcz6_1
                try clear hcz6_2
                try clear hcz6_3
                try clear hcz6_4
                try clear hcz6_5
                try clear hcz6_6
                try clear hfz10_0
                try clear hfz10_1
                try clear hfz10_2
                try clear hfz10_3
                try clear hfz10_4
                try clear hfz10_5
                try clear hfz10_6
                try clear hfz13_0
                try clear hfz13_1
                try clear hfz13_2
                try clear hfz13_3
                try clear hfz13_4
                try clear hfz13_5
                try clear hfz13_6
                try clear hfz17_0
                try clear hfz17_1
                try clear hfz17_2
                try clear hfz17_3
                try clear hfz17_4
                try clear hfz17_5
                try clear hfz17_6
                try clear hfz20_0
                try clear hfz20_1
                try clear hfz20_2
                try clear hfz20_3
                try clear hfz20_4
                try clear hfz20_5
                try clear hfz20_6
                try clear hfz24_0
                try clear hfz24_1
                try clear hfz24_2
                try clear hfz24_3
                try clear hfz24_4
                try clear hfz24_5
                try clear hfz24_6
                try clear hfz27_0
                try clear hfz27_1
                try clear hfz27_2
                try clear hfz27_3
                try clear hfz27_4
                try clear hfz27_5
                try clear hfz27_6
                try clear hfz6_0
                try clear hfz6_1
                try clear hfz6_2
                try clear hfz6_3
                try clear hfz6_4
                try clear hfz6_5
                try clear hfz6_6
                try clear p2
                obtain ⟨kq, x3_25, HA, HJ25, HO_3, BK110, HB⟩ := hcut
                cases kq with
                | zero => exact absurd HA.out (by simp [chroma_StyleEntry_String.j3])
                | succ kj25 =>
                  have H := HA.out
                  clear HA
                  simp only [chroma_StyleEntry_String.j3] at H
                  replace H := Option.bind_eq_some_iff.mp H
                  obtain ⟨t129, A310, H⟩ := H
                  replace H : (if t129 = true then ((chroma_Colour_String.f a0_0).bind fun t130 => (if x3_25.length < 8796093022208 then (chroma_StyleEntry_String.j4 kj25 (x3_25 ++ [t130]) a0_0 a0_1 a0_2 a0_3 a0_4 a0_5 a0_6) else (none))) else (chroma_StyleEntry_String.j4 kj25 x3_25 a0_0 a0_1 a0_2 a0_3 a0_4 a0_5 a0_6)) = some r := H
                  have A31 := Aside0.mk A310
                  clear A310
                  have HC32 := Aside0.mk H
                  clear H
                  have hcz33_0 : wc.cell? ⟨gb110, 0, none⟩ = some (.int .i32 a0_0) := (blk_cell BK110.out 0).trans rfl
                  have hcz33_1 : wc.cell? ⟨gb110, 1, none⟩ = some (.int .i32 a0_1) := (blk_cell BK110.out 1).trans rfl
                  have hcz33_2 : wc.cell? ⟨gb110, 2, none⟩ = some (.int .i32 a0_2) := (blk_cell BK110.out 2).trans rfl
                  have hcz33_3 : wc.cell? ⟨gb110, 3, none⟩ = some (.int .u8 a0_3) := (blk_cell BK110.out 3).trans rfl
                  have hcz33_4 : wc.cell? ⟨gb110, 4, none⟩ = some (.int .u8 a0_4) := (blk_cell BK110.out 4).trans rfl
                  have hcz33_5 : wc.cell? ⟨gb110, 5, none⟩ = some (.int .u8 a0_5) := (blk_cell BK110.out 5).trans rfl
                  have hcz33_6 : wc.cell? ⟨gb110, 6, none⟩ = some (.bool a0_6) := (blk_cell BK110.out 6).trans rfl
                  have hfz33_0 := blk_frozen BK110.out 0
                  have hfz33_1 := blk_frozen BK110.out 1
                  have hfz33_2 := blk_frozen BK110.out 2
                  have hfz33_3 := blk_frozen BK110.out 3
                  have hfz33_4 := blk_frozen BK110.out 4
                  have hfz33_5 := blk_frozen BK110.out 5
                  have hfz33_6 := blk_frozen BK110.out 6
                  go_upto_if 39 with (first | ((with_reducible refine gate_callee (f := 48) rfl ?_); refine goesL_ (some 39) rfl rfl Tryd.func48 (by kernel_rfl) rfl #[.int .i32 a0_0] rfl (by (try simp only [List.map_toArray, List.map_cons, List.map_nil]); first | done | rfl | (simp only [List.length_drop, List.length_take]; rfl)) ?_; (with_reducible refine (chroma_Colour_IsSet.calls a0_0 t129 _ A31.out).mono ?_); rintro e w' ⟨rfl, ⟨nd, rfl⟩⟩; refine ⟨_, rfl, ?_⟩))
                  (try simp only [Act.put, List.setIfInBounds_toArray, List.set_cons_zero, List.set_cons_succ])
                  go_cut [3] (fun v3 wc => ∃ (kq : Nat) (x3_31 : List ByteArray), Aside0 (chroma_StyleEntry_String.j4 kq x3_31 a0_0 a0_1 a0_2 a0_3 a0_4 a0_5 a0_6 = some r) ∧ Aside0 (kq ≤ kj25) ∧ Aside0 (Kd.R Kd.string 9 wc w.heap.size (fun _ => True) v3 x3_31) ∧ Aside0 (wc.heap[gb110]? = some (.cells #[.int .i32 a0_0, .int .i32 a0_1, .int .i32 a0_2, .int .u8 a0_3, .int .u8 a0_4, .int .u8 a0_5, .bool a0_6] 57 (0, 0))) ∧ Aside0 (Below w.heap.size w wc))
                  case first =>
                    have H := HC32.out
                    clear HC32
                    by_cases c34 : t129 = true
                    · subst c34
                      have H1 : ((chroma_Colour_String.f a0_0).bind fun t130 => (if x3_25.length < 8796093022208 then (chroma_StyleEntry_String.j4 kj25 (x3_25 ++ [t130]) a0_0 a0_1 a0_2 a0_3 a0_4 a0_5 a0_6) else (none))) = some r := by rw [if_pos rfl] at H; exact H
                      clear H
                      have H := H1
                      clear H1
                      replace H := Option.bind_eq_some_iff.mp H
                      obtain ⟨t130, A350, H⟩ := H
                      replace H : (if x3_25.length < 8796093022208 then (chroma_StyleEntry_String.j4 kj25 (x3_25 ++ [t130]) a0_0 a0_1 a0_2 a0_3 a0_4 a0_5 a0_6) else (none)) = some r := H
                      have A35 := Aside0.mk A350
                      clear A350
                      by_cases c36 : x3_25.length < 8796093022208
                      · rw [if_pos c36] at H
                        have LMc36 := Aside0.mk c36
                        clear c36
                        obtain ⟨y131, hy131⟩ : ∃ y_ : List ByteArray, y_ = (x3_25 ++ [t130]) := ⟨_, rfl⟩
                        replace H : (chroma_StyleEntry_String.j4 kj25 y131 a0_0 a0_1 a0_2 a0_3 a0_4 a0_5 a0_6) = some r := by first | (rw [hy131]; with_reducible exact H) | (have H2_ := (Option.bind_some _ _).symm.trans H; rw [hy131]; with_reducible exact H2_) | (have H2_ := (Option.bind_some _ _).symm.trans H; with_reducible exact H2_) | with_reducible exact H | (rw [hy131]; exact H) | exact H
                        have Ny131 := Aside0.mk hy131
                        clear hy131
                        have H' := Aside0.mk H
                        clear H
                        have hcz37_0 : wc.cell? ⟨gb110, 0, none⟩ = some (.int .i32 a0_0) := (blk_cell BK110.out 0).trans rfl
                        have hcz37_1 : wc.cell? ⟨gb110, 1, none⟩ = some (.int .i32 a0_1) := (blk_cell BK110.out 1).trans rfl
                        have hcz37_2 : wc.cell? ⟨gb110, 2, none⟩ = some (.int .i32 a0_2) := (blk_cell BK110.out 2).trans rfl
                        have hcz37_3 : wc.cell? ⟨gb110, 3, none⟩ = some (.int .u8 a0_3) := (blk_cell BK110.out 3).trans rfl
                        have hcz37_4 : wc.cell? ⟨gb110, 4, none⟩ = some (.int .u8 a0_4) := (blk_cell BK110.out 4).trans rfl
                        have hcz37_5 : wc.cell? ⟨gb110, 5, none⟩ = some (.int .u8 a0_5) := (blk_cell BK110.out 5).trans rfl
                        have hcz37_6 : wc.cell? ⟨gb110, 6, none⟩ = some (.bool a0_6) := (blk_cell BK110.out 6).trans rfl
                        have hfz37_0 := blk_frozen BK110.out 0
                        have hfz37_1 := blk_frozen BK110.out 1
                        have hfz37_2 := blk_frozen BK110.out 2
                        have hfz37_3 := blk_frozen BK110.out 3
                        have hfz37_4 := blk_frozen BK110.out 4
                        have hfz37_5 := blk_frozen BK110.out 5
                        have hfz37_6 := blk_frozen BK110.out 6
                        go_wp2_with (first | ((with_reducible refine gate_callee (f := 42) rfl ?_); refine goesL_ (some 43) rfl rfl Tryd.func42 (by kernel_rfl) rfl #[.int .i32 a0_0] rfl (by (try simp only [List.map_toArray, List.map_cons, List.map_nil]); first | done | rfl | (simp only [List.length_drop, List.length_take]; rfl)) ?_; (with_reducible refine (chroma_Colour_String.calls a0_0 t130 _ ?side1 A35.out).mono ?_); (case side1 => exact Go.Proofs.YtifhhejohdmiaaaDoorFmt.VarsOK.below HV.out (by repeat (first | (with_reducible first | exact HB.out | apply below_alloc | apply pw_below_drewN | apply below_drew1 | refine below_set ?_ GE110.out) | exact HB.out))); rintro e w38 ⟨rfl, hb⟩; refine ⟨_, rfl, ?_⟩; have n0_ := Aside0.mk (Kd.R_below (by (with_reducible repeat (first | apply Kd.R_alloc | apply Kd.R_drewN | apply Kd.R_drew)); exact HO_3.out) hb); have n1_ := Aside0.mk (blk_below (g := gb110) (o := .cells #[.int .i32 a0_0, .int .i32 a0_1, .int .i32 a0_2, .int .u8 a0_3, .int .u8 a0_4, .int .u8 a0_5, .bool a0_6] 57 (0, 0)) (by (with_reducible repeat (first | refine blk_drewN ?_ _ | refine blk_drew ?_ | refine blk_alloc ?_ _)); exact BK110.out) hb); have n2_ := Aside0.mk (below_step (by repeat (first | (with_reducible first | exact HB.out | apply below_alloc | apply pw_below_drewN | apply below_drew1 | refine below_set ?_ GE110.out) | exact HB.out)) hb); clear HO_3; clear BK110; clear HB; have HO_3 := n0_; have BK110 := n1_; have HB := n2_; clear n0_ n1_ n2_; (try clear hb); (try clear hb2); (try clear hk); (try clear hi)) | ((with_reducible refine gate_builtin (b := .append) (xs := #[.tmp 40, .tmp 44]) rfl ?_); at_builtin; refine Kd.R_append Kd.string (w0 := w) w.heap.size rfl (.tmp 40) (.tmp 44) 60 9 (.string ⟨#[]⟩) 16 rfl Tryd.underlying60 info9 rfl (by decide) (by omega) u3 x3_25 t130 [.string t130] (fun _ => True) (fun _ => False) rfl rfl ?aP (fun _ hk => hk.elim) ?aF ?aO ?aB ?aS ?aL ?_; (case aP => exact rfl); (case aB => exact (by repeat (first | (with_reducible first | exact HB.out | apply below_alloc | apply pw_below_drewN | apply below_drew1 | refine below_set ?_ GE110.out) | exact HB.out))); (case aF => exact (fun _ _ => trivial)); (case aO => exact (by (with_reducible repeat (first | apply Kd.R_alloc | apply Kd.R_drewN | apply Kd.R_drew)); exact HO_3.out)); (case aS => exact (below_size (by repeat (first | (with_reducible first | exact HB.out | apply below_alloc | apply pw_below_drewN | apply below_drew1 | refine below_set ?_ GE110.out) | exact HB.out)))); (case aL => have := LMc36.out; omega); intro v132 w39 ho hb hg hat; rw [← Ny131.out] at ho; have n0_ := Aside0.mk (blk_grown (g := gb110) (o := .cells #[.int .i32 a0_0, .int .i32 a0_1, .int .i32 a0_2, .int .u8 a0_3, .int .u8 a0_4, .int .u8 a0_5, .bool a0_6] 57 (0, 0)) (by (with_reducible repeat (first | refine blk_drewN ?_ _ | refine blk_drew ?_ | refine blk_alloc ?_ _)); exact BK110.out) hg (Kd.R_ne HO_3.out BK110.out (by decide))); have n1_ := Aside0.mk (hb); have n2_ := Aside0.mk (ho); clear BK110; clear HB; clear HO_3; have BK110 := n0_; have HB := n1_; have HO133 := n2_; clear n0_ n1_ n2_; clear ho hb hg hat))
                        go_meet
                        case rel => exact ⟨_, (y131), H', ⟨by have := HJ1.out; have := HJ11.out; have := HJ18.out; have := HJ25.out; first | omega | exact Nat.le_refl _⟩, ⟨by (with_reducible repeat (first | apply Kd.R_alloc | apply Kd.R_drewN | apply Kd.R_drew)); exact HO133.out⟩, ⟨by (with_reducible repeat (first | refine blk_drewN ?_ _ | refine blk_drew ?_ | refine blk_alloc ?_ _)); exact BK110.out⟩, ⟨by repeat (first | (with_reducible first | exact HB.out | apply below_alloc | apply pw_below_drewN | apply below_drew1 | refine below_set ?_ GE110.out) | exact HB.out)⟩⟩
                      · rw [if_neg c36] at H
                        exact absurd H (by simp)
                    · replace c34 := Bool.eq_false_iff.mpr c34
                      subst c34
                      have H1 : (chroma_StyleEntry_String.j4 kj25 x3_25 a0_0 a0_1 a0_2 a0_3 a0_4 a0_5 a0_6) = some r := by rw [if_neg (show ¬ (false = true) by decide)] at H; exact H
                      clear H
                      have H := H1
                      clear H1
                      have H' := Aside0.mk H
                      clear H
                      go_wp2
                      go_meet
                      case rel => exact ⟨_, (x3_25), H', ⟨by have := HJ1.out; have := HJ11.out; have := HJ18.out; have := HJ25.out; first | omega | exact Nat.le_refl _⟩, ⟨by (with_reducible repeat (first | apply Kd.R_alloc | apply Kd.R_drewN | apply Kd.R_drew)); exact HO_3.out⟩, ⟨by (with_reducible repeat (first | refine blk_drewN ?_ _ | refine blk_drew ?_ | refine blk_alloc ?_ _)); exact BK110.out⟩, ⟨by repeat (first | (with_reducible first | exact HB.out | apply below_alloc | apply pw_below_drewN | apply below_drew1 | refine below_set ?_ GE110.out) | exact HB.out)⟩⟩
                  case rest =>
                    clear HC32
                    try clear c1
                    try clear c2
                    try clear p2
                    try clear c3
                    try clear c4
                    try clear c5
                    try clear c7
                    try clear c7b0
                    try clear c7b1
                    try clear c7b2
                    try clear c9
                    try clear c14
                    try clear c14b0
                    try clear c14b1
                    try clear c14b2
                    try clear c16
                    try clear c21
                    try clear c21b0
                    try clear c21b1
                    try clear c21b2
                    try clear c23
                    try clear c28
                    try clear c29
                    try clear c34
                    try clear c36
                    try clear hcz10_0
                    try clear hcz10_1
                    try clear hcz10_2
                    try clear hcz10_3
                    try clear hcz10_4
                    try clear hcz10_5
                    try clear hcz10_6
                    try clear hcz13_0
                    try clear hcz13_1
                    try clear hcz13_2
                    try clear hcz13_3
                    try clear hcz13_4
                    try clear hcz13_5
                    try clear hcz13_6
                    try clear hcz17_0
                    try clear hcz17_1
                    try clear hcz17_2
                    try clear hcz17_3
                    try clear hcz17_4
                    try clear hcz17_5
                    try clear hcz17_6
                    try clear hcz20_0
                    try clear hcz20_1
                    try clear hcz20_2
                    try clear hcz20_3
                    try clear hcz20_4
                    try clear hcz20_5
                    try clear hcz20_6
                    try clear hcz24_0
                    try clear hcz24_1
                    try clear hcz24_2
                    try clear hcz24_3
                    try clear hcz24_4
                    try clear hcz24_5
                    try clear hcz24_6
                    try clear hcz27_0
                    try clear hcz27_1
                    try clear hcz27_2
                    try clear hcz27_3
                    try clear hcz27_4
                    try clear hcz27_5
                    try clear hcz27_6
                    try clear hcz33_0
                    try clear hcz33_1
                    try clear hcz33_2
                    try clear hcz33_3
                    try clear hcz33_4
                    try clear hcz33_5
                    try clear hcz33_6
                    try clear hcz37_0
                    try clear hcz37_1
                    try clear hcz37_2
                    try clear hcz37_3
                    try clear hcz37_4
                    try clear hcz37_5
                    try clear hcz37_6
                    try clear hcz6_0
                    try clear hcz6_1
                    try clear hcz6_2
                    try clear hcz6_3
                    try clear hcz6_4
                    try clear hcz6_5
                    try clear hcz6_6
                    try clear hfz10_0
                    try clear hfz10_1
                    try clear hfz10_2
                    try clear hfz10_3
                    try clear hfz10_4
                    try clear hfz10_5
                    try clear hfz10_6
                    try clear hfz13_0
                    try clear hfz13_1
                    try clear hfz13_2
                    try clear hfz13_3
                    try clear hfz13_4
                    try clear hfz13_5
                    try clear hfz13_6
                    try clear hfz17_0
                    try clear hfz17_1
                    try clear hfz17_2
                    try clear hfz17_3
                    try clear hfz17_4
                    try clear hfz17_5
                    try clear hfz17_6
                    try clear hfz20_0
                    try clear hfz20_1
                    try clear hfz20_2
                    try clear hfz20_3
                    try clear hfz20_4
                    try clear hfz20_5
                    try clear hfz20_6
                    try clear hfz24_0
                    try clear hfz24_1
                    try clear hfz24_2
                    try clear hfz24_3
                    try clear hfz24_4
                    try clear hfz24_5
                    try clear hfz24_6
                    try clear hfz27_0
                    try clear hfz27_1
                    try clear hfz27_2
                    try clear hfz27_3
                    try clear hfz27_4
                    try clear hfz27_5
                    try clear hfz27_6
                    try clear hfz33_0
                    try clear hfz33_1
                    try clear hfz33_2
                    try clear hfz33_3
                    try clear hfz33_4
                    try clear hfz33_5
                    try clear hfz33_6
                    try clear hfz37_0
                    try clear hfz37_1
                    try clear hfz37_2
                    try clear hfz37_3
                    try clear hfz37_4
                    try clear hfz37_5
                    try clear hfz37_6
                    try clear hfz6_0
                    try clear hfz6_1
                    try clear hfz6_2
                    try clear hfz6_3
                    try clear hfz6_4
                    try clear hfz6_5
                    try clear hfz6_6
                    try clear p2
                    obtain ⟨kq, x3_31, HA, HJ31, HO_3, BK110, HB⟩ := hcut
                    cases kq with
                    | zero => exact absurd HA.out (by simp [chroma_StyleEntry_String.j4])
                    | succ kj31 =>
                      have H := HA.out
                      clear HA
                      simp only [chroma_StyleEntry_String.j4] at H
                      replace H := Option.bind_eq_some_iff.mp H
                      obtain ⟨t134, A400, H⟩ := H
                      replace H : (if t134 = true then ((chroma_Colour_String.f a0_1).bind fun t135 => (if 3 + t135.size ≤ 9223372036854775807 then (if x3_31.length < 8796093022208 then (chroma_StyleEntry_String.j5 kj31 (x3_31 ++ [(⟨#[98, 103, 58]⟩ : ByteArray) ++ t135]) a0_0 a0_1 a0_2 a0_3 a0_4 a0_5 a0_6) else (none)) else (none))) else (chroma_StyleEntry_String.j5 kj31 x3_31 a0_0 a0_1 a0_2 a0_3 a0_4 a0_5 a0_6)) = some r := H
                      have A40 := Aside0.mk A400
                      clear A400
                      have HC41 := Aside0.mk H
                      clear H
                      have hcz42_0 : wc.cell? ⟨gb110, 0, none⟩ = some (.int .i32 a0_0) := (blk_cell BK110.out 0).trans rfl
                      have hcz42_1 : wc.cell? ⟨gb110, 1, none⟩ = some (.int .i32 a0_1) := (blk_cell BK110.out 1).trans rfl
                      have hcz42_2 : wc.cell? ⟨gb110, 2, none⟩ = some (.int .i32 a0_2) := (blk_cell BK110.out 2).trans rfl
                      have hcz42_3 : wc.cell? ⟨gb110, 3, none⟩ = some (.int .u8 a0_3) := (blk_cell BK110.out 3).trans rfl
                      have hcz42_4 : wc.cell? ⟨gb110, 4, none⟩ = some (.int .u8 a0_4) := (blk_cell BK110.out 4).trans rfl
                      have hcz42_5 : wc.cell? ⟨gb110, 5, none⟩ = some (.int .u8 a0_5) := (blk_cell BK110.out 5).trans rfl
                      have hcz42_6 : wc.cell? ⟨gb110, 6, none⟩ = some (.bool a0_6) := (blk_cell BK110.out 6).trans rfl
                      have hfz42_0 := blk_frozen BK110.out 0
                      have hfz42_1 := blk_frozen BK110.out 1
                      have hfz42_2 := blk_frozen BK110.out 2
                      have hfz42_3 := blk_frozen BK110.out 3
                      have hfz42_4 := blk_frozen BK110.out 4
                      have hfz42_5 := blk_frozen BK110.out 5
                      have hfz42_6 := blk_frozen BK110.out 6
                      go_upto_if 48 with (first | ((with_reducible refine gate_callee (f := 48) rfl ?_); refine goesL_ (some 48) rfl rfl Tryd.func48 (by kernel_rfl) rfl #[.int .i32 a0_1] rfl (by (try simp only [List.map_toArray, List.map_cons, List.map_nil]); first | done | rfl | (simp only [List.length_drop, List.length_take]; rfl)) ?_; (with_reducible refine (chroma_Colour_IsSet.calls a0_1 t134 _ A40.out).mono ?_); rintro e w' ⟨rfl, ⟨nd, rfl⟩⟩; refine ⟨_, rfl, ?_⟩))
                      (try simp only [Act.put, List.setIfInBounds_toArray, List.set_cons_zero, List.set_cons_succ])
                      go_cut [3] (fun v3 wc => ∃ (kq : Nat) (x3_40 : List ByteArray), Aside0 (chroma_StyleEntry_String.j5 kq x3_40 a0_0 a0_1 a0_2 a0_3 a0_4 a0_5 a0_6 = some r) ∧ Aside0 (kq ≤ kj31) ∧ Aside0 (Kd.R Kd.string 9 wc w.heap.size (fun _ => True) v3 x3_40) ∧ Aside0 (wc.heap[gb110]? = some (.cells #[.int .i32 a0_0, .int .i32 a0_1, .int .i32 a0_2, .int .u8 a0_3, .int .u8 a0_4, .int .u8 a0_5, .bool a0_6] 57 (0, 0))) ∧ Aside0 (Below w.heap.size w wc))
                      case first =>
                        have H := HC41.out
                        clear HC41
                        by_cases c43 : t134 = true
                        · subst c43
                          have H1 : ((chroma_Colour_String.f a0_1).bind fun t135 => (if 3 + t135.size ≤ 9223372036854775807 then (if x3_31.length < 8796093022208 then (chroma_StyleEntry_String.j5 kj31 (x3_31 ++ [(⟨#[98, 103, 58]⟩ : ByteArray) ++ t135]) a0_0 a0_1 a0_2 a0_3 a0_4 a0_5 a0_6) else (none)) else (none))) = some r := by rw [if_pos rfl] at H; exact H
                          clear H
                          have H := H1
                          clear H1
                          replace H := Option.bind_eq_some_iff.mp H
                          obtain ⟨t135, A440, H⟩ := H
                          replace H : (if 3 + t135.size ≤ 9223372036854775807 then (if x3_31.length < 8796093022208 then (chroma_StyleEntry_String.j5 kj31 (x3_31 ++ [(⟨#[98, 103, 58]⟩ : ByteArray) ++ t135]) a0_0 a0_1 a0_2 a0_3 a0_4 a0_5 a0_6) else (none)) else (none)) = some r := H
                          have A44 := Aside0.mk A440
                          clear A440
                          by_cases c45 : 3 + t135.size ≤ 9223372036854775807
                          · rw [if_pos c45] at H
                            have c45b0 := eq_true c45
                            have c45b1 : decide (3 + t135.size ≤ 9223372036854775807) = true := decide_eq_true c45
                            try have c45b2 : (9223372036854775807 < 3 + t135.size) = False := eq_false (Nat.not_lt.2 c45)
                            by_cases c46 : x3_31.length < 8796093022208
                            · rw [if_pos c46] at H
                              have LMc46 := Aside0.mk c46
                              clear c46
                              obtain ⟨y136, hy136⟩ : ∃ y_ : List ByteArray, y_ = (x3_31 ++ [(⟨#[98, 103, 58]⟩ : ByteArray) ++ t135]) := ⟨_, rfl⟩
                              replace H : (chroma_StyleEntry_String.j5 kj31 y136 a0_0 a0_1 a0_2 a0_3 a0_4 a0_5 a0_6) = some r := by first | (rw [hy136]; with_reducible exact H) | (have H2_ := (Option.bind_some _ _).symm.trans H; rw [hy136]; with_reducible exact H2_) | (have H2_ := (Option.bind_some _ _).symm.trans H; with_reducible exact H2_) | with_reducible exact H | (rw [hy136]; exact H) | exact H
                              have Ny136 := Aside0.mk hy136
                              clear hy136
                              have H' := Aside0.mk H
                              clear H
                              have hcz47_0 : wc.cell? ⟨gb110, 0, none⟩ = some (.int .i32 a0_0) := (blk_cell BK110.out 0).trans rfl
                              have hcz47_1 : wc.cell? ⟨gb110, 1, none⟩ = some (.int .i32 a0_1) := (blk_cell BK110.out 1).trans rfl
                              have hcz47_2 : wc.cell? ⟨gb110, 2, none⟩ = some (.int .i32 a0_2) := (blk_cell BK110.out 2).trans rfl
                              have hcz47_3 : wc.cell? ⟨gb110, 3, none⟩ = some (.int .u8 a0_3) := (blk_cell BK110.out 3).trans rfl
                              have hcz47_4 : wc.cell? ⟨gb110, 4, none⟩ = some (.int .u8 a0_4) := (blk_cell BK110.out 4).trans rfl
                              have hcz47_5 : wc.cell? ⟨gb110, 5, none⟩ = some (.int .u8 a0_5) := (blk_cell BK110.out 5).trans rfl
                              have hcz47_6 : wc.cell? ⟨gb110, 6, none⟩ = some (.bool a0_6) := (blk_cell BK110.out 6).trans rfl
                              have hfz47_0 := blk_frozen BK110.out 0
                              have hfz47_1 := blk_frozen BK110.out 1
                              have hfz47_2 := blk_frozen BK110.out 2
                              have hfz47_3 := blk_frozen BK110.out 3
                              have hfz47_4 := blk_frozen BK110.out 4
                              have hfz47_5 := blk_frozen BK110.out 5
                              have hfz47_6 := blk_frozen BK110.out 6
                              go_wp2_with (first | ((with_reducible refine gate_callee (f := 42) rfl ?_); refine goesL_ (some 52) rfl rfl Tryd.func42 (by kernel_rfl) rfl #[.int .i32 a0_1] rfl (by (try simp only [List.map_toArray, List.map_cons, List.map_nil]); first | done | rfl | (simp only [List.length_drop, List.length_take]; rfl)) ?_; (with_reducible refine (chroma_Colour_String.calls a0_1 t135 _ ?side1 A44.out).mono ?_); (case side1 => exact Go.Proofs.YtifhhejohdmiaaaDoorFmt.VarsOK.below HV.out (by repeat (first | (with_reducible first | exact HB.out | apply below_alloc | apply pw_below_drewN | apply below_drew1 | refine below_set ?_ GE110.out) | exact HB.out))); rintro e w48 ⟨rfl, hb⟩; refine ⟨_, rfl, ?_⟩; have n0_ := Aside0.mk (Kd.R_below (by (with_reducible repeat (first | apply Kd.R_alloc | apply Kd.R_drewN | apply Kd.R_drew)); exact HO_3.out) hb); have n1_ := Aside0.mk (blk_below (g := gb110) (o := .cells #[.int .i32 a0_0, .int .i32 a0_1, .int .i32 a0_2, .int .u8 a0_3, .int .u8 a0_4, .int .u8 a0_5, .bool a0_6] 57 (0, 0)) (by (with_reducible repeat (first | refine blk_drewN ?_ _ | refine blk_drew ?_ | refine blk_alloc ?_ _)); exact BK110.out) hb); have n2_ := Aside0.mk (below_step (by repeat (first | (with_reducible first | exact HB.out | apply below_alloc | apply pw_below_drewN | apply below_drew1 | refine below_set ?_ GE110.out) | exact HB.out)) hb); clear HO_3; clear BK110; clear HB; have HO_3 := n0_; have BK110 := n1_; have HB := n2_; clear n0_ n1_ n2_; (try clear hb); (try clear hb2); (try clear hk); (try clear hi)) | ((with_reducible refine gate_builtin (b := .append) (xs := #[.tmp 49, .tmp 54]) rfl ?_); at_builtin; refine Kd.R_append Kd.string (w0 := w) w.heap.size rfl (.tmp 49) (.tmp 54) 60 9 (.string ⟨#[]⟩) 16 rfl Tryd.underlying60 info9 rfl (by decide) (by omega) u3 x3_31 ((⟨#[98, 103, 58]⟩ : ByteArray) ++ t135) [.string ((⟨#[98, 103, 58]⟩ : ByteArray) ++ t135)] (fun _ => True) (fun _ => False) rfl rfl ?aP (fun _ hk => hk.elim) ?aF ?aO ?aB ?aS ?aL ?_; (case aP => exact rfl); (case aB => exact (by repeat (first | (with_reducible first | exact HB.out | apply below_alloc | apply pw_below_drewN | apply below_drew1 | refine below_set ?_ GE110.out) | exact HB.out))); (case aF => exact (fun _ _ => trivial)); (case aO => exact (by (with_reducible repeat (first | apply Kd.R_alloc | apply Kd.R_drewN | apply Kd.R_drew)); exact HO_3.out)); (case aS => exact (below_size (by repeat (first | (with_reducible first | exact HB.out | apply below_alloc | apply pw_below_drewN | apply below_drew1 | refine below_set ?_ GE110.out) | exact HB.out)))); (case aL => have := LMc46.out; omega); intro v137 w49 ho hb hg hat; rw [← Ny136.out] at ho; have n0_ := Aside0.mk (blk_grown (g := gb110) (o := .cells #[.int .i32 a0_0, .int .i32 a0_1, .int .i32 a0_2, .int .u8 a0_3, .int .u8 a0_4, .int .u8 a0_5, .bool a0_6] 57 (0, 0)) (by (with_reducible repeat (first | refine blk_drewN ?_ _ | refine blk_drew ?_ | refine blk_alloc ?_ _)); exact BK110.out) hg (Kd.R_ne HO_3.out BK110.out (by decide))); have n1_ := Aside0.mk (hb); have n2_ := Aside0.mk (ho); clear BK110; clear HB; clear HO_3; have BK110 := n0_; have HB := n1_; have HO138 := n2_; clear n0_ n1_ n2_; clear ho hb hg hat))
                              go_meet
                              case rel => exact ⟨_, (y136), H', ⟨by have := HJ1.out; have := HJ11.out; have := HJ18.out; have := HJ25.out; have := HJ31.out; first | omega | exact Nat.le_refl _⟩, ⟨by (with_reducible repeat (first | apply Kd.R_alloc | apply Kd.R_drewN | apply Kd.R_drew)); exact HO138.out⟩, ⟨by (with_reducible repeat (first | refine blk_drewN ?_ _ | refine blk_drew ?_ | refine blk_alloc ?_ _)); exact BK110.out⟩, ⟨by repeat (first | (with_reducible first | exact HB.out | apply below_alloc | apply pw_below_drewN | apply below_drew1 | refine below_set ?_ GE110.out) | exact HB.out)⟩⟩
                            · rw [if_neg c46] at H
                              exact absurd H (by simp)
                          · rw [if_neg c45] at H
                            exact absurd H (by simp)
                        · replace c43 := Bool.eq_false_iff.mpr c43
                          subst c43
                          have H1 : (chroma_StyleEntry_String.j5 kj31 x3_31 a0_0 a0_1 a0_2 a0_3 a0_4 a0_5 a0_6) = some r := by rw [if_neg (show ¬ (false = true) by decide)] at H; exact H
                          clear H
                          have H := H1
                          clear H1
                          have H' := Aside0.mk H
                          clear H
                          go_wp2
                          go_meet
                          case rel => exact ⟨_, (x3_31), H', ⟨by have := HJ1.out; have := HJ11.out; have := HJ18.out; have := HJ25.out; have := HJ31.out; first | omega | exact Nat.le_refl _⟩, ⟨by (with_reducible repeat (first | apply Kd.R_alloc | apply Kd.R_drewN | apply Kd.R_drew)); exact HO_3.out⟩, ⟨by (with_reducible repeat (first | refine blk_drewN ?_ _ | refine blk_drew ?_ | refine blk_alloc ?_ _)); exact BK110.out⟩, ⟨by repeat (first | (with_reducible first | exact HB.out | apply below_alloc | apply pw_below_drewN | apply below_drew1 | refine below_set ?_ GE110.out) | exact HB.out)⟩⟩
                      case rest =>
                        clear HC41
                        try clear c1
                        try clear c2
                        try clear p2
                        try clear c3
                        try clear c4
                        try clear c5
                        try clear c7
                        try clear c7b0
                        try clear c7b1
                        try clear c7b2
                        try clear c9
                        try clear c14
                        try clear c14b0
                        try clear c14b1
                        try clear c14b2
                        try clear c16
                        try clear c21
                        try clear c21b0
                        try clear c21b1
                        try clear c21b2
                        try clear c23
                        try clear c28
                        try clear c29
                        try clear c34
                        try clear c36
                        try clear c42
                        try clear c43
                        try clear c45
                        try clear c45b0
                        try clear c45b1
                        try clear c45b2
                        try clear c46
                        try clear c48
                        try clear hcz10_0
                        try clear hcz10_1
                        try clear hcz10_2
                        try clear hcz10_3
                        try clear hcz10_4
                        try clear hcz10_5
                        try clear hcz10_6
                        try clear hcz13_0
                        try clear hcz13_1
                        try clear hcz13_2
                        try clear hcz13_3
                        try clear hcz13_4
                        try clear hcz13_5
                        try clear hcz13_6
                        try clear hcz17_0
                        try clear hcz17_1
                        try clear hcz17_2
                        try clear hcz17_3
                        try clear hcz17_4
                        try clear hcz17_5
                        try clear hcz17_6
                        try clear hcz20_0
                        try clear hcz20_1
                        try clear hcz20_2
                        try clear hcz20_3
                        try clear hcz20_4
                        try clear hcz20_5
                        try clear hcz20_6
                        try clear hcz24_0
                        try clear hcz24_1
                        try clear hcz24_2
                        try clear hcz24_3
                        try clear hcz24_4
                        try clear hcz24_5
                        try clear hcz24_6
                        try clear hcz27_0
                        try clear hcz27_1
                        try clear hcz27_2
                        try clear hcz27_3
                        try clear hcz27_4
                        try clear hcz27_5
                        try clear hcz27_6
                        try clear hcz33_0
                        try clear hcz33_1
                        try clear hcz33_2
                        try clear hcz33_3
                        try clear hcz33_4
                        try clear hcz33_5
                        try clear hcz33_6
                        try clear hcz37_0
                        try clear hcz37_1
                        try clear hcz37_2
                        try clear hcz37_3
                        try clear hcz37_4
                        try clear hcz37_5
                        try clear hcz37_6
                        try clear hcz42_0
                        try clear hcz42_1
                        try clear hcz42_2
                        try clear hcz42_3
                        try clear hcz42_4
                        try clear hcz42_5
                        try clear hcz42_6
                        try clear hcz47_0
                        try clear hcz47_1
                        try clear hcz47_2
                        try clear hcz47_3
                        try clear hcz47_4
                        try clear hcz47_5
                        try clear hcz47_6
                        try clear hcz6_0
                        try clear hcz6_1
                        try clear hcz6_2
                        try clear hcz6_3
                        try clear hcz6_4
                        try clear hcz6_5
                        try clear hcz6_6
                        try clear hfz10_0
                        try clear hfz10_1
                        try clear hfz10_2
                        try clear hfz10_3
                        try clear hfz10_4
                        try clear hfz10_5
                        try clear hfz10_6
                        try clear hfz13_0
                        try clear hfz13_1
                        try clear hfz13_2
                        try clear hfz13_3
                        try clear hfz13_4
                        try clear hfz13_5
                        try clear hfz13_6
                        try clear hfz17_0
                        try clear hfz17_1
                        try clear hfz17_2
                        try clear hfz17_3
                        try clear hfz17_4
                        try clear hfz17_5
                        try clear hfz17_6
                        try clear hfz20_0
                        try clear hfz20_1
                        try clear hfz20_2
                        try clear hfz20_3
                        try clear hfz20_4
                        try clear hfz20_5
                        try clear hfz20_6
                        try clear hfz24_0
                        try clear hfz24_1
                        try clear hfz24_2
                        try clear hfz24_3
                        try clear hfz24_4
                        try clear hfz24_5
                        try clear hfz24_6
                        try clear hfz27_0
                        try clear hfz27_1
                        try clear hfz27_2
                        try clear hfz27_3
                        try clear hfz27_4
                        try clear hfz27_5
                        try clear hfz27_6
                        try clear hfz33_0
                        try clear hfz33_1
                        try clear hfz33_2
                        try clear hfz33_3
                        try clear hfz33_4
                        try clear hfz33_5
                        try clear hfz33_6
                        try clear hfz37_0
                        try clear hfz37_1
                        try clear hfz37_2
                        try clear hfz37_3
                        try clear hfz37_4
                        try clear hfz37_5
                        try clear hfz37_6
                        try clear hfz42_0
                        try clear hfz42_1
                        try clear hfz42_2
                        try clear hfz42_3
                        try clear hfz42_4
                        try clear hfz42_5
                        try clear hfz42_6
                        try clear hfz47_0
                        try clear hfz47_1
                        try clear hfz47_2
                        try clear hfz47_3
                        try clear hfz47_4
                        try clear hfz47_5
                        try clear hfz47_6
                        try clear hfz6_0
                        try clear hfz6_1
                        try clear hfz6_2
                        try clear hfz6_3
                        try clear hfz6_4
                        try clear hfz6_5
                        try clear hfz6_6
                        try clear p2
                        obtain ⟨kq, x3_40, HA, HJ40, HO_3, BK110, HB⟩ := hcut
                        cases kq with
                        | zero => exact absurd HA.out (by simp [chroma_StyleEntry_String.j5])
                        | succ kj40 =>
                          have H := HA.out
                          clear HA
                          simp only [chroma_StyleEntry_String.j5] at H
                          replace H := Option.bind_eq_some_iff.mp H
                          obtain ⟨t139, A500, H⟩ := H
                          replace H : (if t139 = true then ((chroma_Colour_String.f a0_2).bind fun t140 => (if 7 + t140.size ≤ 9223372036854775807 then (if x3_40.length < 8796093022208 then ((strings_Join.f (x3_40 ++ [(⟨#[98, 111, 114, 100, 101, 114, 58]⟩ : ByteArray) ++ t140]) (⟨#[32]⟩ : ByteArray)).bind fun t144 => (some t144)) else (none)) else (none))) else ((strings_Join.f x3_40 (⟨#[32]⟩ : ByteArray)).bind fun t145 => (some t145))) = some r := H
                          have A50 := Aside0.mk A500
                          clear A500
                          by_cases c51 : t139 = true
                          · subst c51
                            have H1 : ((chroma_Colour_String.f a0_2).bind fun t140 => (if 7 + t140.size ≤ 9223372036854775807 then (if x3_40.length < 8796093022208 then ((strings_Join.f (x3_40 ++ [(⟨#[98, 111, 114, 100, 101, 114, 58]⟩ : ByteArray) ++ t140]) (⟨#[32]⟩ : ByteArray)).bind fun t144 => (some t144)) else (none)) else (none))) = some r := by rw [if_pos rfl] at H; exact H
                            clear H
                            have H := H1
                            clear H1
                            replace H := Option.bind_eq_some_iff.mp H
                            obtain ⟨t140, A520, H⟩ := H
                            replace H : (if 7 + t140.size ≤ 9223372036854775807 then (if x3_40.length < 8796093022208 then ((strings_Join.f (x3_40 ++ [(⟨#[98, 111, 114, 100, 101, 114, 58]⟩ : ByteArray) ++ t140]) (⟨#[32]⟩ : ByteArray)).bind fun t144 => (some t144)) else (none)) else (none)) = some r := H
                            have A52 := Aside0.mk A520
                            clear A520
                            by_cases c53 : 7 + t140.size ≤ 9223372036854775807
                            · rw [if_pos c53] at H
                              have c53b0 := eq_true c53
                              have c53b1 : decide (7 + t140.size ≤ 9223372036854775807) = true := decide_eq_true c53
                              try have c53b2 : (9223372036854775807 < 7 + t140.size) = False := eq_false (Nat.not_lt.2 c53)
                              by_cases c54 : x3_40.length < 8796093022208
                              · rw [if_pos c54] at H
                                have LMc54 := Aside0.mk c54
                                clear c54
                                obtain ⟨y141, hy141⟩ : ∃ y_ : List ByteArray, y_ = (x3_40 ++ [(⟨#[98, 111, 114, 100, 101, 114, 58]⟩ : ByteArray) ++ t140]) := ⟨_, rfl⟩
                                replace H : ((strings_Join.f y141 (⟨#[32]⟩ : ByteArray)).bind fun t144 => (some t144)) = some r := by first | (rw [hy141]; with_reducible exact H) | (have H2_ := (Option.bind_some _ _).symm.trans H; rw [hy141]; with_reducible exact H2_) | (have H2_ := (Option.bind_some _ _).symm.trans H; with_reducible exact H2_) | with_reducible exact H | (rw [hy141]; exact H) | exact H
                                have Ny141 := Aside0.mk hy141
                                clear hy141
                                replace H := Option.bind_eq_some_iff.mp H
                                obtain ⟨t144, A550, H⟩ := H
                                replace H : (some t144) = some r := H
                                have A55 := Aside0.mk A550
                                clear A550
                                obtain rfl := Option.some.inj H
                                have hcz56_0 : wc.cell? ⟨gb110, 0, none⟩ = some (.int .i32 a0_0) := (blk_cell BK110.out 0).trans rfl
                                have hcz56_1 : wc.cell? ⟨gb110, 1, none⟩ = some (.int .i32 a0_1) := (blk_cell BK110.out 1).trans rfl
                                have hcz56_2 : wc.cell? ⟨gb110, 2, none⟩ = some (.int .i32 a0_2) := (blk_cell BK110.out 2).trans rfl
                                have hcz56_3 : wc.cell? ⟨gb110, 3, none⟩ = some (.int .u8 a0_3) := (blk_cell BK110.out 3).trans rfl
                                have hcz56_4 : wc.cell? ⟨gb110, 4, none⟩ = some (.int .u8 a0_4) := (blk_cell BK110.out 4).trans rfl
                                have hcz56_5 : wc.cell? ⟨gb110, 5, none⟩ = some (.int .u8 a0_5) := (blk_cell BK110.out 5).trans rfl
                                have hcz56_6 : wc.cell? ⟨gb110, 6, none⟩ = some (.bool a0_6) := (blk_cell BK110.out 6).trans rfl
                                have hfz56_0 := blk_frozen BK110.out 0
                                have hfz56_1 := blk_frozen BK110.out 1
                                have hfz56_2 := blk_frozen BK110.out 2
                                have hfz56_3 := blk_frozen BK110.out 3
                                have hfz56_4 := blk_frozen BK110.out 4
                                have hfz56_5 := blk_frozen BK110.out 5
                                have hfz56_6 := blk_frozen BK110.out 6
                                go_wp2_with (first | ((with_reducible refine gate_callee (f := 48) rfl ?_); refine goesL_ (some 58) rfl rfl Tryd.func48 (by kernel_rfl) rfl #[.int .i32 a0_2] rfl (by (try simp only [List.map_toArray, List.map_cons, List.map_nil]); first | done | rfl | (simp only [List.length_drop, List.length_take]; rfl)) ?_; (with_reducible refine (chroma_Colour_IsSet.calls a0_2 true _ A50.out).mono ?_); rintro e w' ⟨rfl, ⟨nd, rfl⟩⟩; refine ⟨_, rfl, ?_⟩) | ((with_reducible refine gate_callee (f := 42) rfl ?_); refine goesL_ (some 62) rfl rfl Tryd.func42 (by kernel_rfl) rfl #[.int .i32 a0_2] rfl (by (try simp only [List.map_toArray, List.map_cons, List.map_nil]); first | done | rfl | (simp only [List.length_drop, List.length_take]; rfl)) ?_; (with_reducible refine (chroma_Colour_String.calls a0_2 t140 _ ?side1 A52.out).mono ?_); (case side1 => exact Go.Proofs.YtifhhejohdmiaaaDoorFmt.VarsOK.below HV.out (by repeat (first | (with_reducible first | exact HB.out | apply below_alloc | apply pw_below_drewN | apply below_drew1 | refine below_set ?_ GE110.out) | exact HB.out))); rintro e w57 ⟨rfl, hb⟩; refine ⟨_, rfl, ?_⟩; have n0_ := Aside0.mk (Kd.R_below (by (with_reducible repeat (first | apply Kd.R_alloc | apply Kd.R_drewN | apply Kd.R_drew)); exact HO_3.out) hb); have n1_ := Aside0.mk (blk_below (g := gb110) (o := .cells #[.int .i32 a0_0, .int .i32 a0_1, .int .i32 a0_2, .int .u8 a0_3, .int .u8 a0_4, .int .u8 a0_5, .bool a0_6] 57 (0, 0)) (by (with_reducible repeat (first | refine blk_drewN ?_ _ | refine blk_drew ?_ | refine blk_alloc ?_ _)); exact BK110.out) hb); have n2_ := Aside0.mk (below_step (by repeat (first | (with_reducible first | exact HB.out | apply below_alloc | apply pw_below_drewN | apply below_drew1 | refine below_set ?_ GE110.out) | exact HB.out)) hb); clear HO_3; clear BK110; clear HB; have HO_3 := n0_; have BK110 := n1_; have HB := n2_; clear n0_ n1_ n2_; (try clear hb); (try clear hb2); (try clear hk); (try clear hi)) | ((with_reducible refine gate_builtin (b := .append) (xs := #[.tmp 59, .tmp 64]) rfl ?_); at_builtin; refine Kd.R_append Kd.string (w0 := w) w.heap.size rfl (.tmp 59) (.tmp 64) 60 9 (.string ⟨#[]⟩) 16 rfl Tryd.underlying60 info9 rfl (by decide) (by omega) u3 x3_40 ((⟨#[98, 111, 114, 100, 101, 114, 58]⟩ : ByteArray) ++ t140) [.string ((⟨#[98, 111, 114, 100, 101, 114, 58]⟩ : ByteArray) ++ t140)] (fun _ => True) (fun _ => False) rfl rfl ?aP (fun _ hk => hk.elim) ?aF ?aO ?aB ?aS ?aL ?_; (case aP => exact rfl); (case aB => exact (by repeat (first | (with_reducible first | exact HB.out | apply below_alloc | apply pw_below_drewN | apply below_drew1 | refine below_set ?_ GE110.out) | exact HB.out))); (case aF => exact (fun _ _ => trivial)); (case aO => exact (by (with_reducible repeat (first | apply Kd.R_alloc | apply Kd.R_drewN | apply Kd.R_drew)); exact HO_3.out)); (case aS => exact (below_size (by repeat (first | (with_reducible first | exact HB.out | apply below_alloc | apply pw_below_drewN | apply below_drew1 | refine below_set ?_ GE110.out) | exact HB.out)))); (case aL => have := LMc54.out; omega); intro v142 w58 ho hb hg hat; rw [← Ny141.out] at ho; have n0_ := Aside0.mk (blk_grown (g := gb110) (o := .cells #[.int .i32 a0_0, .int .i32 a0_1, .int .i32 a0_2, .int .u8 a0_3, .int .u8 a0_4, .int .u8 a0_5, .bool a0_6] 57 (0, 0)) (by (with_reducible repeat (first | refine blk_drewN ?_ _ | refine blk_drew ?_ | refine blk_alloc ?_ _)); exact BK110.out) hg (Kd.R_ne HO_3.out BK110.out (by decide))); have n1_ := Aside0.mk (hb); have n2_ := Aside0.mk (ho); clear BK110; clear HB; clear HO_3; have BK110 := n0_; have HB := n1_; have HO143 := n2_; clear n0_ n1_ n2_; clear ho hb hg hat; obtain ⟨Ao59, co59, eo59⟩ := Kd.R_slice HO143.out; subst eo59) | ((with_reducible refine gate_callee (f := 52) rfl ?_); refine goesL_ (some 67) rfl rfl Tryd.func52 (by kernel_rfl) rfl #[.slice Ao59 y141.length co59, .string (⟨#[32]⟩ : ByteArray)] rfl (by (try simp only [List.map_toArray, List.map_cons, List.map_nil]); first | done | rfl | (simp only [List.length_drop, List.length_take]; rfl)) ?_; (with_reducible refine (strings_Join.calls _ _ y141 (⟨#[32]⟩ : ByteArray) t144 _ ?side1 ?side2 A55.out).mono ?_); (case side1 => repeat (first | exact (Kd.R_reads' HO143.out).2.2 | (with_reducible refine Kd.C_alloc ?_ _) | (with_reducible refine Kd.C_drewN ?_ _) | (with_reducible refine Kd.C_drew ?_))); (case side2 => exact (Kd.R_reads' HO143.out).2.1); rintro e w60 ⟨rfl, hb⟩; refine ⟨_, rfl, ?_⟩; have n0_ := Aside0.mk (Kd.R_below (by (with_reducible repeat (first | apply Kd.R_alloc | apply Kd.R_drewN | apply Kd.R_drew)); exact HO143.out) hb); have n1_ := Aside0.mk (blk_below (g := gb110) (o := .cells #[.int .i32 a0_0, .int .i32 a0_1, .int .i32 a0_2, .int .u8 a0_3, .int .u8 a0_4, .int .u8 a0_5, .bool a0_6] 57 (0, 0)) (by (with_reducible repeat (first | refine blk_drewN ?_ _ | refine blk_drew ?_ | refine blk_alloc ?_ _)); exact BK110.out) hb); have n2_ := Aside0.mk (below_step (by repeat (first | (with_reducible first | exact HB.out | apply below_alloc | apply pw_below_drewN | apply below_drew1 | refine below_set ?_ GE110.out) | exact HB.out)) hb); clear HO143; clear BK110; clear HB; have HO143 := n0_; have BK110 := n1_; have HB := n2_; clear n0_ n1_ n2_; (try clear hb); (try clear hb2); (try clear hk); (try clear hi)))
                                go_ret
                                exact ⟨by first | rfl | (simp [errW_none, errW_some] <;> rfl) | (simp [*, errW_none, errW_some] <;> rfl), by repeat (first | (with_reducible first | exact HB.out | apply below_alloc | apply pw_below_drewN | apply below_drew1 | refine below_set ?_ GE110.out) | exact HB.out)⟩
                              · rw [if_neg c54] at H
                                exact absurd H (by simp)
                            · rw [if_neg c53] at H
                              exact absurd H (by simp)
                          · replace c51 := Bool.eq_false_iff.mpr c51
                            subst c51
                            have H1 : ((strings_Join.f x3_40 (⟨#[32]⟩ : ByteArray)).bind fun t145 => (some t145)) = some r := by rw [if_neg (show ¬ (false = true) by decide)] at H; exact H
                            clear H
                            have H := H1
                            clear H1
                            replace H := Option.bind_eq_some_iff.mp H
                            obtain ⟨t145, A610, H⟩ := H
                            replace H : (some t145) = some r := H
                            have A61 := Aside0.mk A610
                            clear A610
                            obtain rfl := Option.some.inj H
                            have hcz62_0 : wc.cell? ⟨gb110, 0, none⟩ = some (.int .i32 a0_0) := (blk_cell BK110.out 0).trans rfl
                            have hcz62_1 : wc.cell? ⟨gb110, 1, none⟩ = some (.int .i32 a0_1) := (blk_cell BK110.out 1).trans rfl
                            have hcz62_2 : wc.cell? ⟨gb110, 2, none⟩ = some (.int .i32 a0_2) := (blk_cell BK110.out 2).trans rfl
                            have hcz62_3 : wc.cell? ⟨gb110, 3, none⟩ = some (.int .u8 a0_3) := (blk_cell BK110.out 3).trans rfl
                            have hcz62_4 : wc.cell? ⟨gb110, 4, none⟩ = some (.int .u8 a0_4) := (blk_cell BK110.out 4).trans rfl
                            have hcz62_5 : wc.cell? ⟨gb110, 5, none⟩ = some (.int .u8 a0_5) := (blk_cell BK110.out 5).trans rfl
                            have hcz62_6 : wc.cell? ⟨gb110, 6, none⟩ = some (.bool a0_6) := (blk_cell BK110.out 6).trans rfl
                            have hfz62_0 := blk_frozen BK110.out 0
                            have hfz62_1 := blk_frozen BK110.out 1
                            have hfz62_2 := blk_frozen BK110.out 2
                            have hfz62_3 := blk_frozen BK110.out 3
                            have hfz62_4 := blk_frozen BK110.out 4
                            have hfz62_5 := blk_frozen BK110.out 5
                            have hfz62_6 := blk_frozen BK110.out 6
                            go_wp2_with (first | ((with_reducible refine gate_callee (f := 48) rfl ?_); refine goesL_ (some 58) rfl rfl Tryd.func48 (by kernel_rfl) rfl #[.int .i32 a0_2] rfl (by (try simp only [List.map_toArray, List.map_cons, List.map_nil]); first | done | rfl | (simp only [List.length_drop, List.length_take]; rfl)) ?_; (with_reducible refine (chroma_Colour_IsSet.calls a0_2 false _ A50.out).mono ?_); rintro e w' ⟨rfl, ⟨nd, rfl⟩⟩; refine ⟨_, rfl, ?_⟩; obtain ⟨Ao63, co63, eo63⟩ := Kd.R_slice HO_3.out; subst eo63) | ((with_reducible refine gate_callee (f := 52) rfl ?_); refine goesL_ (some 67) rfl rfl Tryd.func52 (by kernel_rfl) rfl #[.slice Ao63 x3_40.length co63, .string (⟨#[32]⟩ : ByteArray)] rfl (by (try simp only [List.map_toArray, List.map_cons, List.map_nil]); first | done | rfl | (simp only [List.length_drop, List.length_take]; rfl)) ?_; (with_reducible refine (strings_Join.calls _ _ x3_40 (⟨#[32]⟩ : ByteArray) t145 _ ?side1 ?side2 A61.out).mono ?_); (case side1 => repeat (first | exact (Kd.R_reads' HO_3.out).2.2 | (with_reducible refine Kd.C_alloc ?_ _) | (with_reducible refine Kd.C_drewN ?_ _) | (with_reducible refine Kd.C_drew ?_))); (case side2 => exact (Kd.R_reads' HO_3.out).2.1); rintro e w64 ⟨rfl, hb⟩; refine ⟨_, rfl, ?_⟩; have n0_ := Aside0.mk (Kd.R_below (by (with_reducible repeat (first | apply Kd.R_alloc | apply Kd.R_drewN | apply Kd.R_drew)); exact HO_3.out) hb); have n1_ := Aside0.mk (blk_below (g := gb110) (o := .cells #[.int .i32 a0_0, .int .i32 a0_1, .int .i32 a0_2, .int .u8 a0_3, .int .u8 a0_4, .int .u8 a0_5, .bool a0_6] 57 (0, 0)) (by (with_reducible repeat (first | refine blk_drewN ?_ _ | refine blk_drew ?_ | refine blk_alloc ?_ _)); exact BK110.out) hb); have n2_ := Aside0.mk (below_step (by repeat (first | (with_reducible first | exact HB.out | apply below_alloc | apply pw_below_drewN | apply below_drew1 | refine below_set ?_ GE110.out) | exact HB.out)) hb); clear HO_3; clear BK110; clear HB; have HO_3 := n0_; have BK110 := n1_; have HB := n2_; clear n0_ n1_ n2_; (try clear hb); (try clear hb2); (try clear hk); (try clear hi)))
                            go_ret
                            exact ⟨by first | rfl | (simp [errW_none, errW_some] <;> rfl) | (simp [*, errW_none, errW_some] <;> rfl), by repeat (first | (with_reducible first | exact HB.out | apply below_alloc | apply pw_below_drewN | apply below_drew1 | refine below_set ?_ GE110.out) | exact HB.out)⟩

end Go.Proofs.YtifhhejohdmiaaaDoor.G
