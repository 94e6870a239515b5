-- WRITTEN BY OUR myprint.py, a program of this session's over the kit's printer
import Derived.Test.YtifhhejohdmiaaaDoorYx0
import Derived.Test.YtifhhejohdmiaaaDoorYx1
import Derived.Test.YtifhhejohdmiaaaDoorYx2
import Derived.Test.YtifhhejohdmiaaaDoorYx3
namespace Go.Proofs.YtifhhejohdmiaaaDoor.Y
open Go.RowKit Go.Proofs.YtifhhejohdmiaaaDoorW.PrintWords Go.Proofs.YtifhhejohdmiaaaDoorW.PrintLast Go.Proofs.YtifhhejohdmiaaaDoorW.PrintMore
attribute [local go_sem] max2_int min2_int max_two min_two max_three min_three max_four min_four   -- for this text's walks alone
set_option linter.unusedVariables false
set_option linter.unusedSimpArgs false

attribute [local go_sem high] eqA23
/-! ### impl_EntryString: function 23 -/
def impl_EntryString.f (k : Nat) (a0_0 : Int) (a0_1 : Int) (a0_2 : Int) (a0_3 : Int) (a0_4 : Int) (a0_5 : Int) (a0_6 : Bool) : Option (ByteArray) := (impl_entered.f a0_0 a0_1 a0_2 a0_3 a0_4 a0_5 a0_6).bind fun bt147 => ((chroma_StyleEntry_String.f k bt147.1 bt147.2.1 bt147.2.2.1 bt147.2.2.2.1 bt147.2.2.2.2.1 bt147.2.2.2.2.2.1 bt147.2.2.2.2.2.2).bind fun t154 => (some t154))
theorem impl_EntryString.mono : ∀ a0 a1 a2 a3 a4 a5 a6 k, LeO (impl_EntryString.f k a0 a1 a2 a3 a4 a5 a6) (impl_EntryString.f (k + 1) a0 a1 a2 a3 a4 a5 a6) := by
  intro a0 a1 a2 a3 a4 a5 a6 k
  unfold impl_EntryString.f
  repeat' first
      | (with_reducible exact chroma_StyleEntry_String.mono _ _ _ _ _ _ _ _)
      | (with_reducible exact LeO.refl _)
      | (with_reducible exact LeO.none _)
      | (with_reducible refine LeO.ite ?_ ?_)
      | (with_reducible refine LeO.bind ?_ (fun _ => ?_))
      | exact chroma_StyleEntry_String.mono _ _ _ _ _ _ _ _
      | exact LeO.none _
      | refine LeO.ite ?_ ?_
      | refine LeO.bind ?_ (fun _ => ?_)
set_option maxHeartbeats 8000000 in
set_option maxRecDepth 100000 in
theorem impl_EntryString.calls (k : Nat) (a0_0 : Int) (a0_1 : Int) (a0_2 : Int) (a0_3 : Int) (a0_4 : Int) (a0_5 : Int) (a0_6 : Bool) (r : ByteArray) (w : World) (hV : Go.Proofs.YtifhhejohdmiaaaDoorFmt.VarsOK w) (h : impl_EntryString.f k a0_0 a0_1 a0_2 a0_3 a0_4 a0_5 a0_6 = some r) :
    Calls Tryd.prog 23 #[.agg #[.int .i32 a0_0, .int .i32 a0_1, .int .i32 a0_2, .int .u8 a0_3, .int .u8 a0_4, .int .u8 a0_5, .bool a0_6]] w fun e w' => e = .returned (.string r) ∧ Below w.heap.size w w' := by
  have hu23 := Tryd.underlying23
  have HB := Aside0.mk (Below.refl w.heap.size w)
  have HV := Aside0.mk hV
  clear hV
  have H : ((impl_entered.f a0_0 a0_1 a0_2 a0_3 a0_4 a0_5 a0_6).bind fun bt147 => ((chroma_StyleEntry_String.f k bt147.1 bt147.2.1 bt147.2.2.1 bt147.2.2.2.1 bt147.2.2.2.2.1 bt147.2.2.2.2.2.1 bt147.2.2.2.2.2.2).bind fun t154 => (some t154))) = some r := h
  clear h
  replace H := Option.bind_eq_some_iff.mp H
  obtain ⟨⟨t147, t148, t149, t150, t151, t152, t153⟩, A20, H⟩ := H
  replace H : ((chroma_StyleEntry_String.f k t147 t148 t149 t150 t151 t152 t153).bind fun t154 => (some t154)) = some r := H
  have A2 := Aside0.mk A20
  clear A20
  replace H := Option.bind_eq_some_iff.mp H
  obtain ⟨t154, A30, H⟩ := H
  replace H : (some t154) = some r := H
  have A3 := Aside0.mk A30
  clear A30
  obtain rfl := Option.some.inj H
  go_enter Tryd.func23, Tryd.ntmps23
  go_wp2_with (first | ((with_reducible refine gate_dst (N := 1) rfl ?_); refine box_event ?hg (N := 1) ?hd (cs := #[.int .i32 a0_0, .int .i32 a0_1, .int .i32 a0_2, .int .u8 a0_3, .int .u8 a0_4, .int .u8 a0_5, .bool a0_6]) (t := 23) ?hr ?_; (case hd => rfl); (case hg => rfl); (case hr => first | (go_simp; done) | (go_simp; rfl)); intro gb146 hg w4 hbox hb; have n0_ := Aside0.mk (below_step (by repeat (first | (with_reducible first | exact HB.out | apply below_alloc | apply pw_below_drewN | apply below_drew1) | exact HB.out)) hb); have n1_ := Aside0.mk (hbox); have n2_ := Aside0.mk ((by rw [hg]; exact (below_size (by repeat (first | (with_reducible first | exact HB.out | apply below_alloc | apply pw_below_drewN | apply below_drew1) | exact HB.out))) : w.heap.size ≤ gb146)); have n3_ := Aside0.mk ((by rw [hg]; exact (below_size (by repeat (first | (with_reducible first | exact HB.out | apply below_alloc | apply pw_below_drewN | apply below_drew1) | exact HB.out))) : w.heap.size ≤ gb146)); clear HB; have HB := n0_; have BK146 := n1_; have GW146 := n2_; have GE146 := n3_; clear n0_ n1_ n2_ n3_; clear hb hbox hg; have hcz5_0 : w4.cell? ⟨gb146, 0, none⟩ = some (.int .i32 a0_0) := (blk_cell BK146.out 0).trans rfl; have hcz5_1 : w4.cell? ⟨gb146, 1, none⟩ = some (.int .i32 a0_1) := (blk_cell BK146.out 1).trans rfl; have hcz5_2 : w4.cell? ⟨gb146, 2, none⟩ = some (.int .i32 a0_2) := (blk_cell BK146.out 2).trans rfl; have hcz5_3 : w4.cell? ⟨gb146, 3, none⟩ = some (.int .u8 a0_3) := (blk_cell BK146.out 3).trans rfl; have hcz5_4 : w4.cell? ⟨gb146, 4, none⟩ = some (.int .u8 a0_4) := (blk_cell BK146.out 4).trans rfl; have hcz5_5 : w4.cell? ⟨gb146, 5, none⟩ = some (.int .u8 a0_5) := (blk_cell BK146.out 5).trans rfl; have hcz5_6 : w4.cell? ⟨gb146, 6, none⟩ = some (.bool a0_6) := (blk_cell BK146.out 6).trans rfl; have hfz5_0 := blk_frozen BK146.out 0; have hfz5_1 := blk_frozen BK146.out 1; have hfz5_2 := blk_frozen BK146.out 2; have hfz5_3 := blk_frozen BK146.out 3; have hfz5_4 := blk_frozen BK146.out 4; have hfz5_5 := blk_frozen BK146.out 5; have hfz5_6 := blk_frozen BK146.out 6) | ((with_reducible refine gate_callee (f := 27) rfl ?_); refine goesL_ (some 4) rfl rfl Tryd.func27 (by kernel_rfl) rfl #[.agg #[.int .i32 a0_0, .int .i32 a0_1, .int .i32 a0_2, .int .u8 a0_3, .int .u8 a0_4, .int .u8 a0_5, .bool a0_6]] rfl (by (try simp only [List.map_toArray, List.map_cons, List.map_nil]); first | done | rfl | (simp only [List.length_drop, List.length_take]; rfl)) ?_; (with_reducible refine (impl_entered.calls a0_0 a0_1 a0_2 a0_3 a0_4 a0_5 a0_6 t147 t148 t149 t150 t151 t152 t153 _ A2.out).mono ?_); rintro e w6 ⟨rfl, hb⟩; refine ⟨_, rfl, ?_⟩; have n0_ := Aside0.mk (blk_below (g := gb146) (o := .cells #[.int .i32 a0_0, .int .i32 a0_1, .int .i32 a0_2, .int .u8 a0_3, .int .u8 a0_4, .int .u8 a0_5, .bool a0_6] 23 (0, 0)) (by (with_reducible repeat (first | refine blk_drewN ?_ _ | refine blk_drew ?_ | refine blk_alloc ?_ _)); exact BK146.out) hb); have n1_ := Aside0.mk (below_step (by repeat (first | (with_reducible first | exact HB.out | apply below_alloc | apply pw_below_drewN | apply below_drew1 | refine below_set ?_ GE146.out) | exact HB.out)) hb); clear BK146; clear HB; have BK146 := n0_; have HB := n1_; clear n0_ n1_; (try clear hb); (try clear hb2); (try clear hk); (try clear hi)) | ((with_reducible refine gate_callee (f := 38) rfl ?_); refine goesL_ (some 5) rfl rfl Tryd.func38 (by kernel_rfl) rfl #[.agg #[.int .i32 t147, .int .i32 t148, .int .i32 t149, .int .u8 t150, .int .u8 t151, .int .u8 t152, .bool t153]] rfl (by (try simp only [List.map_toArray, List.map_cons, List.map_nil]); first | done | rfl | (simp only [List.length_drop, List.length_take]; rfl)) ?_; (with_reducible refine (chroma_StyleEntry_String.calls k t147 t148 t149 t150 t151 t152 t153 t154 _ ?side1 A3.out).mono ?_); (case side1 => exact Go.Proofs.YtifhhejohdmiaaaDoorFmt.VarsOK.below HV.out (by repeat (first | (with_reducible first | exact HB.out | apply below_alloc | apply pw_below_drewN | apply below_drew1 | refine below_set ?_ GE146.out) | exact HB.out))); rintro e w7 ⟨rfl, hb⟩; refine ⟨_, rfl, ?_⟩; have n0_ := Aside0.mk (blk_below (g := gb146) (o := .cells #[.int .i32 a0_0, .int .i32 a0_1, .int .i32 a0_2, .int .u8 a0_3, .int .u8 a0_4, .int .u8 a0_5, .bool a0_6] 23 (0, 0)) (by (with_reducible repeat (first | refine blk_drewN ?_ _ | refine blk_drew ?_ | refine blk_alloc ?_ _)); exact BK146.out) hb); have n1_ := Aside0.mk (below_step (by repeat (first | (with_reducible first | exact HB.out | apply below_alloc | apply pw_below_drewN | apply below_drew1 | refine below_set ?_ GE146.out) | exact HB.out)) hb); clear BK146; clear HB; have BK146 := n0_; have HB := n1_; clear n0_ n1_; (try clear hb); (try clear hb2); (try clear hk); (try clear hi)))
  go_ret
  exact ⟨by first | rfl | (simp [errW_none, errW_some] <;> rfl) | (simp [*, errW_none, errW_some] <;> rfl), by repeat (first | (with_reducible first | exact HB.out | apply below_alloc | apply pw_below_drewN | apply below_drew1 | refine below_set ?_ GE146.out) | exact HB.out)⟩

/-! ### laws_FnEntryTwice: function 9 -/
def laws_FnEntryTwice.j0 : Nat → Bool → Int → Int → Int → Int → Int → Int → Bool → Option (Bool)
  | 0, _, _, _, _, _, _, _, _ => none
  | k + 1, x25, x164000, x164001, x164002, x164003, x164004, x164005, x164006 => if x25 = true then ((laws_styled.f).bind fun t165 => (some t165)) else ((impl_EntryString.f k x164000 x164001 x164002 x164003 x164004 x164005 x164006).bind fun t166 => ((impl_EntryParse.f t166).bind fun bt167 => (if bt167.2.2.2.2.2.2.2 = true then (if (bt167.1 == x164000 && (bt167.2.1 == x164001 && (bt167.2.2.1 == x164002 && (bt167.2.2.2.1 == x164003 && (bt167.2.2.2.2.1 == x164004 && (bt167.2.2.2.2.2.1 == x164005 && (bt167.2.2.2.2.2.2.1 == x164006))))))) = true then ((impl_EntryString.f k bt167.1 bt167.2.1 bt167.2.2.1 bt167.2.2.2.1 bt167.2.2.2.2.1 bt167.2.2.2.2.2.1 bt167.2.2.2.2.2.2.1).bind fun t176 => (if t176.toList = t166.toList then ((laws_styled.f).bind fun t177 => (some t177)) else (some false))) else (some false)) else (some false))))
def laws_FnEntryTwice.f (k : Nat) (a0 : ByteArray) : Option (Bool) := if (a0.size : Int) > 2147483647 then (some true) else (if (a0.size : Int) > 200 then (some true) else ((impl_EntryParse.f a0).bind fun bt155 => (if bt155.2.2.2.2.2.2.2 = true then ((laws_usual.f k bt155.1 bt155.2.1 bt155.2.2.1 bt155.2.2.2.1 bt155.2.2.2.2.1 bt155.2.2.2.2.2.1 bt155.2.2.2.2.2.2.1).bind fun t164 => (laws_FnEntryTwice.j0 k (!t164) bt155.1 bt155.2.1 bt155.2.2.1 bt155.2.2.2.1 bt155.2.2.2.2.1 bt155.2.2.2.2.2.1 bt155.2.2.2.2.2.2.1)) else (laws_FnEntryTwice.j0 k true bt155.1 bt155.2.1 bt155.2.2.1 bt155.2.2.2.1 bt155.2.2.2.2.1 bt155.2.2.2.2.2.1 bt155.2.2.2.2.2.2.1))))
theorem laws_FnEntryTwice.mono_l : ∀ k, (∀ y0 y1 y2 y3 y4 y5 y6 y7, LeO (laws_FnEntryTwice.j0 k y0 y1 y2 y3 y4 y5 y6 y7) (laws_FnEntryTwice.j0 (k + 1) y0 y1 y2 y3 y4 y5 y6 y7))
  | 0 => fun _ _ _ _ _ _ _ _ r h => by simp [laws_FnEntryTwice.j0] at h
  | k + 1 => by
    have ih0 := laws_FnEntryTwice.mono_l k
    · intro y0 y1 y2 y3 y4 y5 y6 y7
      unfold laws_FnEntryTwice.j0
      repeat' first
      | (with_reducible exact ih0 _ _ _ _ _ _ _ _)
      | (with_reducible exact impl_EntryString.mono _ _ _ _ _ _ _ _)
      | (with_reducible exact laws_usual.mono _ _ _ _ _ _ _ _)
      | (with_reducible exact LeO.refl _)
      | (with_reducible exact LeO.none _)
      | (with_reducible refine LeO.ite ?_ ?_)
      | (with_reducible refine LeO.bind ?_ (fun _ => ?_))
      | exact ih0 _ _ _ _ _ _ _ _
      | exact impl_EntryString.mono _ _ _ _ _ _ _ _
      | exact laws_usual.mono _ _ _ _ _ _ _ _
      | exact LeO.none _
      | refine LeO.ite ?_ ?_
      | refine LeO.bind ?_ (fun _ => ?_)
theorem laws_FnEntryTwice.mono : ∀ a0 k, LeO (laws_FnEntryTwice.f k a0) (laws_FnEntryTwice.f (k + 1) a0) := by
  intro a0 k
  have ih0 := laws_FnEntryTwice.mono_l k
  unfold laws_FnEntryTwice.f
  repeat' first
      | (with_reducible exact ih0 _ _ _ _ _ _ _ _)
      | (with_reducible exact impl_EntryString.mono _ _ _ _ _ _ _ _)
      | (with_reducible exact laws_usual.mono _ _ _ _ _ _ _ _)
      | (with_reducible exact LeO.refl _)
      | (with_reducible exact LeO.none _)
      | (with_reducible refine LeO.ite ?_ ?_)
      | (with_reducible refine LeO.bind ?_ (fun _ => ?_))
      | exact ih0 _ _ _ _ _ _ _ _
      | exact impl_EntryString.mono _ _ _ _ _ _ _ _
      | exact laws_usual.mono _ _ _ _ _ _ _ _
      | exact LeO.none _
      | refine LeO.ite ?_ ?_
      | refine LeO.bind ?_ (fun _ => ?_)
set_option maxHeartbeats 8000000 in
set_option maxRecDepth 100000 in
theorem laws_FnEntryTwice.calls (k : Nat) (a0 : ByteArray) (r : Bool) (hrT : Aside0 (r = true)) (w : World) (hV : Go.Proofs.YtifhhejohdmiaaaDoorFmt.VarsOK w) (h : laws_FnEntryTwice.f k a0 = some r) :
    Calls Tryd.prog 9 #[.string a0] w fun e w' => e = .returned (.bool r) ∧ Below w.heap.size w w' := by
  have hu23 := Tryd.underlying23
  have HB := Aside0.mk (Below.refl w.heap.size w)
  have HV := Aside0.mk hV
  clear hV
  have H : (if (a0.size : Int) > 2147483647 then (some true) else (if (a0.size : Int) > 200 then (some true) else ((impl_EntryParse.f a0).bind fun bt155 => (if bt155.2.2.2.2.2.2.2 = true then ((laws_usual.f k bt155.1 bt155.2.1 bt155.2.2.1 bt155.2.2.2.1 bt155.2.2.2.2.1 bt155.2.2.2.2.2.1 bt155.2.2.2.2.2.2.1).bind fun t164 => (laws_FnEntryTwice.j0 k (!t164) bt155.1 bt155.2.1 bt155.2.2.1 bt155.2.2.2.1 bt155.2.2.2.2.1 bt155.2.2.2.2.2.1 bt155.2.2.2.2.2.2.1)) else (laws_FnEntryTwice.j0 k true bt155.1 bt155.2.1 bt155.2.2.1 bt155.2.2.2.1 bt155.2.2.2.2.1 bt155.2.2.2.2.2.1 bt155.2.2.2.2.2.2.1))))) = some r := h
  clear h
  by_cases c2 : (a0.size : Int) > 2147483647
  · rw [if_pos c2] at H
    have c2b0 : decide (2147483647 < (a0.size : Int)) = true := decide_eq_true c2
    have c2b1 : decide (2147483647 < a0.size) = true := decide_eq_true (by omega)
    clear c2
    obtain rfl := Option.some.inj H
    go_enter Tryd.func9, Tryd.ntmps9
    go_wp2
    go_ret
    exact ⟨by first | rfl | (simp [errW_none, errW_some] <;> rfl) | (simp [*, errW_none, errW_some] <;> rfl), by repeat (first | (with_reducible first | exact HB.out | apply below_alloc | apply pw_below_drewN | apply below_drew1) | exact HB.out)⟩
  · rw [if_neg c2] at H
    have c2b0 : decide (2147483647 < (a0.size : Int)) = false := decide_eq_false c2
    have c2b1 : decide (2147483647 < a0.size) = false := decide_eq_false (by omega)
    clear c2
    by_cases c3 : (a0.size : Int) > 200
    · rw [if_pos c3] at H
      have c3b0 : decide (200 < (a0.size : Int)) = true := decide_eq_true c3
      have c3b1 : decide (200 < a0.size) = true := decide_eq_true (by omega)
      clear c3
      obtain rfl := Option.some.inj H
      go_enter Tryd.func9, Tryd.ntmps9
      go_wp2
      go_ret
      exact ⟨by first | rfl | (simp [errW_none, errW_some] <;> rfl) | (simp [*, errW_none, errW_some] <;> rfl), by repeat (first | (with_reducible first | exact HB.out | apply below_alloc | apply pw_below_drewN | apply below_drew1) | exact HB.out)⟩
    · rw [if_neg c3] at H
      have c3b0 : decide (200 < (a0.size : Int)) = false := decide_eq_false c3
      have c3b1 : decide (200 < a0.size) = false := decide_eq_false (by omega)
      clear c3
      replace H := Option.bind_eq_some_iff.mp H
      obtain ⟨⟨t155, t156, t157, t158, t159, t160, t161, t162⟩, A40, H⟩ := H
      replace H : (if t162 = true then ((laws_usual.f k t155 t156 t157 t158 t159 t160 t161).bind fun t164 => (laws_FnEntryTwice.j0 k (!t164) t155 t156 t157 t158 t159 t160 t161)) else (laws_FnEntryTwice.j0 k true t155 t156 t157 t158 t159 t160 t161)) = some r := H
      have A4 := Aside0.mk A40
      clear A40
      have HC5 := Aside0.mk H
      clear H
      go_enter Tryd.func9, Tryd.ntmps9
      go_upto_region 6 with (first | ((with_reducible refine gate_callee (f := 15) rfl ?_); refine goesL_ (some 16) rfl rfl Tryd.func15 (by kernel_rfl) rfl #[.string a0] rfl (by (try simp only [List.map_toArray, List.map_cons, List.map_nil]); first | done | rfl | (simp only [List.length_drop, List.length_take]; rfl)) ?_; (with_reducible refine (impl_EntryParse.calls a0 t155 t156 t157 t158 t159 t160 t161 t162 _ ?side1 A4.out).mono ?_); (case side1 => exact Go.Proofs.YtifhhejohdmiaaaDoorFmt.VarsOK.below HV.out (by repeat (first | (with_reducible first | exact HB.out | apply below_alloc | apply pw_below_drewN | apply below_drew1) | exact HB.out))); rintro e w6 ⟨rfl, hb⟩; refine ⟨_, rfl, ?_⟩; have n0_ := Aside0.mk (below_step (by repeat (first | (with_reducible first | exact HB.out | apply below_alloc | apply pw_below_drewN | apply below_drew1) | exact HB.out)) hb); clear HB; have HB := n0_; clear n0_; (try clear hb); (try clear hb2); (try clear hk); (try clear hi)) | ((with_reducible refine gate_dst (N := 3) rfl ?_); refine box_event ?hg (N := 3) ?hd (cs := #[.int .i32 0, .int .i32 0, .int .i32 0, .int .u8 0, .int .u8 0, .int .u8 0, .bool false]) (t := 23) ?hr ?_; (case hd => rfl); (case hg => rfl); (case hr => first | (go_simp; done) | (go_simp; rfl)); intro gb163 hg w7 hbox hb; have n0_ := Aside0.mk (below_step (by repeat (first | (with_reducible first | exact HB.out | apply below_alloc | apply pw_below_drewN | apply below_drew1) | exact HB.out)) hb); have n1_ := Aside0.mk (hbox); have n2_ := Aside0.mk ((by rw [hg]; exact (below_size (by repeat (first | (with_reducible first | exact HB.out | apply below_alloc | apply pw_below_drewN | apply below_drew1) | exact HB.out))) : w.heap.size ≤ gb163)); have n3_ := Aside0.mk ((by rw [hg]; exact (below_size (by repeat (first | (with_reducible first | exact HB.out | apply below_alloc | apply pw_below_drewN | apply below_drew1) | exact HB.out))) : w.heap.size ≤ gb163)); clear HB; have HB := n0_; have BK163 := n1_; have GW163 := n2_; have GE163 := n3_; clear n0_ n1_ n2_ n3_; clear hb hbox hg; have hcz8_0 : w7.cell? ⟨gb163, 0, none⟩ = some (.int .i32 0) := (blk_cell BK163.out 0).trans rfl; have hcz8_1 : w7.cell? ⟨gb163, 1, none⟩ = some (.int .i32 0) := (blk_cell BK163.out 1).trans rfl; have hcz8_2 : w7.cell? ⟨gb163, 2, none⟩ = some (.int .i32 0) := (blk_cell BK163.out 2).trans rfl; have hcz8_3 : w7.cell? ⟨gb163, 3, none⟩ = some (.int .u8 0) := (blk_cell BK163.out 3).trans rfl; have hcz8_4 : w7.cell? ⟨gb163, 4, none⟩ = some (.int .u8 0) := (blk_cell BK163.out 4).trans rfl; have hcz8_5 : w7.cell? ⟨gb163, 5, none⟩ = some (.int .u8 0) := (blk_cell BK163.out 5).trans rfl; have hcz8_6 : w7.cell? ⟨gb163, 6, none⟩ = some (.bool false) := (blk_cell BK163.out 6).trans rfl; have hfz8_0 := blk_frozen BK163.out 0; have hfz8_1 := blk_frozen BK163.out 1; have hfz8_2 := blk_frozen BK163.out 2; have hfz8_3 := blk_frozen BK163.out 3; have hfz8_4 := blk_frozen BK163.out 4; have hfz8_5 := blk_frozen BK163.out 5; have hfz8_6 := blk_frozen BK163.out 6))
      (try simp only [Act.put, List.setIfInBounds_toArray, List.set_cons_zero, List.set_cons_succ])
      go_cut [25] (fun v25 wc => ∃ (kq : Nat) (x25_4 : Bool), v25 = .bool x25_4 ∧ Aside0 (laws_FnEntryTwice.j0 kq x25_4 t155 t156 t157 t158 t159 t160 t161 = some r) ∧ Aside0 (kq ≤ k) ∧ Aside0 (wc.heap[gb163]? = some (.cells #[.int .i32 t155, .int .i32 t156, .int .i32 t157, .int .u8 t158, .int .u8 t159, .int .u8 t160, .bool t161] 23 (0, 0))) ∧ Aside0 (Below w.heap.size w wc))
      case first =>
        have H := HC5.out
        clear HC5
        by_cases c9 : t162 = true
        · subst c9
          have H1 : ((laws_usual.f k t155 t156 t157 t158 t159 t160 t161).bind fun t164 => (laws_FnEntryTwice.j0 k (!t164) t155 t156 t157 t158 t159 t160 t161)) = some r := by rw [if_pos rfl] at H; exact H
          clear H
          have H := H1
          clear H1
          replace H := Option.bind_eq_some_iff.mp H
          obtain ⟨t164, A100, H⟩ := H
          replace H : (laws_FnEntryTwice.j0 k (!t164) t155 t156 t157 t158 t159 t160 t161) = some r := H
          have A10 := Aside0.mk A100
          clear A100
          have H' := Aside0.mk H
          clear H
          have hcz11_0 : w7.cell? ⟨gb163, 0, none⟩ = some (.int .i32 0) := (blk_cell BK163.out 0).trans rfl
          have hcz11_1 : w7.cell? ⟨gb163, 1, none⟩ = some (.int .i32 0) := (blk_cell BK163.out 1).trans rfl
          have hcz11_2 : w7.cell? ⟨gb163, 2, none⟩ = some (.int .i32 0) := (blk_cell BK163.out 2).trans rfl
          have hcz11_3 : w7.cell? ⟨gb163, 3, none⟩ = some (.int .u8 0) := (blk_cell BK163.out 3).trans rfl
          have hcz11_4 : w7.cell? ⟨gb163, 4, none⟩ = some (.int .u8 0) := (blk_cell BK163.out 4).trans rfl
          have hcz11_5 : w7.cell? ⟨gb163, 5, none⟩ = some (.int .u8 0) := (blk_cell BK163.out 5).trans rfl
          have hcz11_6 : w7.cell? ⟨gb163, 6, none⟩ = some (.bool false) := (blk_cell BK163.out 6).trans rfl
          have hfz11_0 := blk_frozen BK163.out 0
          have hfz11_1 := blk_frozen BK163.out 1
          have hfz11_2 := blk_frozen BK163.out 2
          have hfz11_3 := blk_frozen BK163.out 3
          have hfz11_4 := blk_frozen BK163.out 4
          have hfz11_5 := blk_frozen BK163.out 5
          have hfz11_6 := blk_frozen BK163.out 6
          go_wp2_with (first | (go_at_call 16; (with_reducible refine (laws_usual.calls k t155 t156 t157 t158 t159 t160 t161 t164 _ A10.out).mono ?_); rintro e w12 ⟨rfl, hb⟩; have n0_ := Aside0.mk (blk_below (g := gb163) (o := .cells #[.int .i32 t155, .int .i32 t156, .int .i32 t157, .int .u8 t158, .int .u8 t159, .int .u8 t160, .bool t161] 23 (0, 0)) (by (with_reducible repeat (first | refine blk_drewN ?_ _ | refine blk_drew ?_ | refine blk_alloc ?_ _)); refine blk_put (cs := #[.int .i32 t155, .int .i32 t156, .int .i32 t157, .int .u8 t158, .int .u8 t159, .int .u8 t160, .bool false]) ?_ 6 _ rfl; (with_reducible repeat (first | refine blk_drewN ?_ _ | refine blk_drew ?_ | refine blk_alloc ?_ _)); refine blk_put (cs := #[.int .i32 t155, .int .i32 t156, .int .i32 t157, .int .u8 t158, .int .u8 t159, .int .u8 0, .bool false]) ?_ 5 _ rfl; (with_reducible repeat (first | refine blk_drewN ?_ _ | refine blk_drew ?_ | refine blk_alloc ?_ _)); refine blk_put (cs := #[.int .i32 t155, .int .i32 t156, .int .i32 t157, .int .u8 t158, .int .u8 0, .int .u8 0, .bool false]) ?_ 4 _ rfl; (with_reducible repeat (first | refine blk_drewN ?_ _ | refine blk_drew ?_ | refine blk_alloc ?_ _)); refine blk_put (cs := #[.int .i32 t155, .int .i32 t156, .int .i32 t157, .int .u8 0, .int .u8 0, .int .u8 0, .bool false]) ?_ 3 _ rfl; (with_reducible repeat (first | refine blk_drewN ?_ _ | refine blk_drew ?_ | refine blk_alloc ?_ _)); refine blk_put (cs := #[.int .i32 t155, .int .i32 t156, .int .i32 0, .int .u8 0, .int .u8 0, .int .u8 0, .bool false]) ?_ 2 _ rfl; (with_reducible repeat (first | refine blk_drewN ?_ _ | refine blk_drew ?_ | refine blk_alloc ?_ _)); refine blk_put (cs := #[.int .i32 t155, .int .i32 0, .int .i32 0, .int .u8 0, .int .u8 0, .int .u8 0, .bool false]) ?_ 1 _ rfl; (with_reducible repeat (first | refine blk_drewN ?_ _ | refine blk_drew ?_ | refine blk_alloc ?_ _)); refine blk_put (cs := #[.int .i32 0, .int .i32 0, .int .i32 0, .int .u8 0, .int .u8 0, .int .u8 0, .bool false]) ?_ 0 _ rfl; (with_reducible repeat (first | refine blk_drewN ?_ _ | refine blk_drew ?_ | refine blk_alloc ?_ _)); exact BK163.out) hb); have n1_ := Aside0.mk (below_step (by repeat (first | (with_reducible first | exact HB.out | apply below_alloc | apply pw_below_drewN | apply below_drew1 | refine below_set ?_ GE163.out) | exact HB.out)) hb); clear BK163; clear HB; have BK163 := n0_; have HB := n1_; clear n0_ n1_; (try clear hb); (try clear hb2); (try clear hk); (try clear hi)))
          go_meet
          case rel => exact ⟨_, (!t164), (by first | rfl | (simp; done) | (simp [*]; done)), H', ⟨by first | omega | exact Nat.le_refl _⟩, ⟨by (with_reducible repeat (first | refine blk_drewN ?_ _ | refine blk_drew ?_ | refine blk_alloc ?_ _)); exact BK163.out⟩, ⟨by repeat (first | (with_reducible first | exact HB.out | apply below_alloc | apply pw_below_drewN | apply below_drew1 | refine below_set ?_ GE163.out) | exact HB.out)⟩⟩
        · replace c9 := Bool.eq_false_iff.mpr c9
          subst c9
          have H1 : (laws_FnEntryTwice.j0 k true t155 t156 t157 t158 t159 t160 t161) = some r := by rw [if_neg (show ¬ (false = true) by decide)] at H; exact H
          clear H
          have H := H1
          clear H1
          have H' := Aside0.mk H
          clear H
          go_wp2
          go_meet
          case rel => exact ⟨_, (true), (by first | rfl | (simp; done) | (simp [*]; done)), H', ⟨by first | omega | exact Nat.le_refl _⟩, ⟨by (with_reducible repeat (first | refine blk_drewN ?_ _ | refine blk_drew ?_ | refine blk_alloc ?_ _)); refine blk_put (cs := #[.int .i32 t155, .int .i32 t156, .int .i32 t157, .int .u8 t158, .int .u8 t159, .int .u8 t160, .bool false]) ?_ 6 _ rfl; (with_reducible repeat (first | refine blk_drewN ?_ _ | refine blk_drew ?_ | refine blk_alloc ?_ _)); refine blk_put (cs := #[.int .i32 t155, .int .i32 t156, .int .i32 t157, .int .u8 t158, .int .u8 t159, .int .u8 0, .bool false]) ?_ 5 _ rfl; (with_reducible repeat (first | refine blk_drewN ?_ _ | refine blk_drew ?_ | refine blk_alloc ?_ _)); refine blk_put (cs := #[.int .i32 t155, .int .i32 t156, .int .i32 t157, .int .u8 t158, .int .u8 0, .int .u8 0, .bool false]) ?_ 4 _ rfl; (with_reducible repeat (first | refine blk_drewN ?_ _ | refine blk_drew ?_ | refine blk_alloc ?_ _)); refine blk_put (cs := #[.int .i32 t155, .int .i32 t156, .int .i32 t157, .int .u8 0, .int .u8 0, .int .u8 0, .bool false]) ?_ 3 _ rfl; (with_reducible repeat (first | refine blk_drewN ?_ _ | refine blk_drew ?_ | refine blk_alloc ?_ _)); refine blk_put (cs := #[.int .i32 t155, .int .i32 t156, .int .i32 0, .int .u8 0, .int .u8 0, .int .u8 0, .bool false]) ?_ 2 _ rfl; (with_reducible repeat (first | refine blk_drewN ?_ _ | refine blk_drew ?_ | refine blk_alloc ?_ _)); refine blk_put (cs := #[.int .i32 t155, .int .i32 0, .int .i32 0, .int .u8 0, .int .u8 0, .int .u8 0, .bool false]) ?_ 1 _ rfl; (with_reducible repeat (first | refine blk_drewN ?_ _ | refine blk_drew ?_ | refine blk_alloc ?_ _)); refine blk_put (cs := #[.int .i32 0, .int .i32 0, .int .i32 0, .int .u8 0, .int .u8 0, .int .u8 0, .bool false]) ?_ 0 _ rfl; (with_reducible repeat (first | refine blk_drewN ?_ _ | refine blk_drew ?_ | refine blk_alloc ?_ _)); exact BK163.out⟩, ⟨by repeat (first | (with_reducible first | exact HB.out | apply below_alloc | apply pw_below_drewN | apply below_drew1 | refine below_set ?_ GE163.out) | exact HB.out)⟩⟩
      case rest =>
        clear HC5
        try clear c1
        try clear c2
        try clear c2b0
        try clear c2b1
        try clear p2
        try clear c3
        try clear c3b0
        try clear c3b1
        try clear c9
        try clear hcz11_0
        try clear hcz11_1
        try clear hcz11_2
        try clear hcz11_3
        try clear hcz11_4
        try clear hcz11_5
        try clear hcz11_6
        try clear hcz8_0
        try clear hcz8_1
        try clear hcz8_2
        try clear hcz8_3
        try clear hcz8_4
        try clear hcz8_5
        try clear hcz8_6
        try clear hfz11_0
        try clear hfz11_1
        try clear hfz11_2
        try clear hfz11_3
        try clear hfz11_4
        try clear hfz11_5
        try clear hfz11_6
        try clear hfz8_0
        try clear hfz8_1
        try clear hfz8_2
        try clear hfz8_3
        try clear hfz8_4
        try clear hfz8_5
        try clear hfz8_6
        obtain ⟨kq, x25_4, rfl, HA, HJ4, BK163, HB⟩ := hcut
        cases kq with
        | zero => exact absurd HA.out (by simp [laws_FnEntryTwice.j0])
        | succ kj4 =>
          have H := HA.out
          clear HA
          simp only [laws_FnEntryTwice.j0] at H
          by_cases c13 : x25_4 = true
          · subst c13
            have H1 : ((laws_styled.f).bind fun t165 => (some t165)) = some r := by rw [if_pos rfl] at H; exact H
            clear H
            have H := H1
            clear H1
            replace H := Option.bind_eq_some_iff.mp H
            obtain ⟨t165, A140, H⟩ := H
            replace H : (some t165) = some r := H
            have A14 := Aside0.mk A140
            clear A140
            obtain rfl := Option.some.inj H
            go_wp2_with (first | ((with_reducible refine gate_callee (f := 13) rfl ?_); refine goesL_ (some 26) rfl rfl Tryd.func13 (by kernel_rfl) rfl #[] rfl (by (try simp only [List.map_toArray, List.map_cons, List.map_nil]); first | done | rfl | (simp only [List.length_drop, List.length_take]; rfl)) ?_; (with_reducible refine (laws_styled.calls  t165 _ ?side1 A14.out).mono ?_); (case side1 => exact Go.Proofs.YtifhhejohdmiaaaDoorFmt.VarsOK.below HV.out (by repeat (first | (with_reducible first | exact HB.out | apply below_alloc | apply pw_below_drewN | apply below_drew1 | refine below_set ?_ GE163.out) | exact HB.out))); rintro e w15 ⟨rfl, hb⟩; refine ⟨_, rfl, ?_⟩; have n0_ := Aside0.mk (blk_below (g := gb163) (o := .cells #[.int .i32 t155, .int .i32 t156, .int .i32 t157, .int .u8 t158, .int .u8 t159, .int .u8 t160, .bool t161] 23 (0, 0)) (by (with_reducible repeat (first | refine blk_drewN ?_ _ | refine blk_drew ?_ | refine blk_alloc ?_ _)); exact BK163.out) hb); have n1_ := Aside0.mk (below_step (by repeat (first | (with_reducible first | exact HB.out | apply below_alloc | apply pw_below_drewN | apply below_drew1 | refine below_set ?_ GE163.out) | exact HB.out)) hb); clear BK163; clear HB; have BK163 := n0_; have HB := n1_; clear n0_ n1_; (try clear hb); (try clear hb2); (try clear hk); (try clear hi)))
            go_ret
            exact ⟨by first | rfl | (simp [errW_none, errW_some] <;> rfl) | (simp [*, errW_none, errW_some] <;> rfl), by repeat (first | (with_reducible first | exact HB.out | apply below_alloc | apply pw_below_drewN | apply below_drew1 | refine below_set ?_ GE163.out) | exact HB.out)⟩
          · replace c13 := Bool.eq_false_iff.mpr c13
            subst c13
            have H1 : ((impl_EntryString.f kj4 t155 t156 t157 t158 t159 t160 t161).bind fun t166 => ((impl_EntryParse.f t166).bind fun bt167 => (if bt167.2.2.2.2.2.2.2 = true then (if (bt167.1 == t155 && (bt167.2.1 == t156 && (bt167.2.2.1 == t157 && (bt167.2.2.2.1 == t158 && (bt167.2.2.2.2.1 == t159 && (bt167.2.2.2.2.2.1 == t160 && (bt167.2.2.2.2.2.2.1 == t161))))))) = true then ((impl_EntryString.f kj4 bt167.1 bt167.2.1 bt167.2.2.1 bt167.2.2.2.1 bt167.2.2.2.2.1 bt167.2.2.2.2.2.1 bt167.2.2.2.2.2.2.1).bind fun t176 => (if t176.toList = t166.toList then ((laws_styled.f).bind fun t177 => (some t177)) else (some false))) else (some false)) else (some false)))) = some r := by rw [if_neg (show ¬ (false = true) by decide)] at H; exact H
            clear H
            have H := H1
            clear H1
            replace H := Option.bind_eq_some_iff.mp H
            obtain ⟨t166, A160, H⟩ := H
            replace H : ((impl_EntryParse.f t166).bind fun bt167 => (if bt167.2.2.2.2.2.2.2 = true then (if (bt167.1 == t155 && (bt167.2.1 == t156 && (bt167.2.2.1 == t157 && (bt167.2.2.2.1 == t158 && (bt167.2.2.2.2.1 == t159 && (bt167.2.2.2.2.2.1 == t160 && (bt167.2.2.2.2.2.2.1 == t161))))))) = true then ((impl_EntryString.f kj4 bt167.1 bt167.2.1 bt167.2.2.1 bt167.2.2.2.1 bt167.2.2.2.2.1 bt167.2.2.2.2.2.1 bt167.2.2.2.2.2.2.1).bind fun t176 => (if t176.toList = t166.toList then ((laws_styled.f).bind fun t177 => (some t177)) else (some false))) else (some false)) else (some false))) = some r := H
            have A16 := Aside0.mk A160
            clear A160
            replace H := Option.bind_eq_some_iff.mp H
            obtain ⟨⟨t167, t168, t169, t170, t171, t172, t173, t174⟩, A170, H⟩ := H
            replace H : (if t174 = true then (if (t167 == t155 && (t168 == t156 && (t169 == t157 && (t170 == t158 && (t171 == t159 && (t172 == t160 && (t173 == t161))))))) = true then ((impl_EntryString.f kj4 t167 t168 t169 t170 t171 t172 t173).bind fun t176 => (if t176.toList = t166.toList then ((laws_styled.f).bind fun t177 => (some t177)) else (some false))) else (some false)) else (some false)) = some r := H
            have A17 := Aside0.mk A170
            clear A170
            by_cases c18 : t174 = true
            · subst c18
              have H1 : (if (t167 == t155 && (t168 == t156 && (t169 == t157 && (t170 == t158 && (t171 == t159 && (t172 == t160 && (t173 == t161))))))) = true then ((impl_EntryString.f kj4 t167 t168 t169 t170 t171 t172 t173).bind fun t176 => (if t176.toList = t166.toList then ((laws_styled.f).bind fun t177 => (some t177)) else (some false))) else (some false)) = some r := by rw [if_pos rfl] at H; exact H
              clear H
              have H := H1
              clear H1
              by_cases c19 : (t167 == t155 && (t168 == t156 && (t169 == t157 && (t170 == t158 && (t171 == t159 && (t172 == t160 && (t173 == t161))))))) = true
              · rw [if_pos c19] at H
                have c19b0 : (t167 == t155 && (t168 == t156 && (t169 == t157 && (t170 == t158 && (t171 == t159 && (t172 == t160 && (t173 == t161))))))) = true := c19
                (try (have c19b1 : decide (t167 = t155 && (t168 == t156 && (t169 == t157 && (t170 == t158 && (t171 == t159 && (t172 == t160 && (t173 == t161))))))) = true := by simpa using c19))
                (try (have c19b2 : (t167 == t155 && (t168 == t156 && (t169 == t157 && (t170 == t158 && (t171 == t159 && (t172 == t160 && (t173 == t161))))))) = true := by simpa using c19))
                clear c19
                replace H := Option.bind_eq_some_iff.mp H
                obtain ⟨t176, A200, H⟩ := H
                replace H : (if t176.toList = t166.toList then ((laws_styled.f).bind fun t177 => (some t177)) else (some false)) = some r := H
                have A20 := Aside0.mk A200
                clear A200
                by_cases c21 : t176.toList = t166.toList
                · rw [if_pos c21] at H
                  have c21b0 : (t176.toList == t166.toList) = true := beq_iff_eq.mpr c21
                  have c21b1 : (t176.toList != t166.toList) = false := bne_eq_false_iff_eq.mpr c21
                  clear c21
                  replace H := Option.bind_eq_some_iff.mp H
                  obtain ⟨t177, A220, H⟩ := H
                  replace H : (some t177) = some r := H
                  have A22 := Aside0.mk A220
                  clear A220
                  obtain rfl := Option.some.inj H
                  have hcz23_0 : wc.cell? ⟨gb163, 0, none⟩ = some (.int .i32 t155) := (blk_cell BK163.out 0).trans rfl
                  have hcz23_1 : wc.cell? ⟨gb163, 1, none⟩ = some (.int .i32 t156) := (blk_cell BK163.out 1).trans rfl
                  have hcz23_2 : wc.cell? ⟨gb163, 2, none⟩ = some (.int .i32 t157) := (blk_cell BK163.out 2).trans rfl
                  have hcz23_3 : wc.cell? ⟨gb163, 3, none⟩ = some (.int .u8 t158) := (blk_cell BK163.out 3).trans rfl
                  have hcz23_4 : wc.cell? ⟨gb163, 4, none⟩ = some (.int .u8 t159) := (blk_cell BK163.out 4).trans rfl
                  have hcz23_5 : wc.cell? ⟨gb163, 5, none⟩ = some (.int .u8 t160) := (blk_cell BK163.out 5).trans rfl
                  have hcz23_6 : wc.cell? ⟨gb163, 6, none⟩ = some (.bool t161) := (blk_cell BK163.out 6).trans rfl
                  have hfz23_0 := blk_frozen BK163.out 0
                  have hfz23_1 := blk_frozen BK163.out 1
                  have hfz23_2 := blk_frozen BK163.out 2
                  have hfz23_3 := blk_frozen BK163.out 3
                  have hfz23_4 := blk_frozen BK163.out 4
                  have hfz23_5 := blk_frozen BK163.out 5
                  have hfz23_6 := blk_frozen BK163.out 6
                  go_wp2_with (first | ((with_reducible refine gate_callee (f := 23) rfl ?_); refine goesL_ (some 28) rfl rfl Tryd.func23 (by kernel_rfl) rfl #[.agg #[.int .i32 t155, .int .i32 t156, .int .i32 t157, .int .u8 t158, .int .u8 t159, .int .u8 t160, .bool t161]] rfl (by (try simp only [List.map_toArray, List.map_cons, List.map_nil]); first | done | rfl | (simp only [List.length_drop, List.length_take]; rfl)) ?_; (with_reducible refine (impl_EntryString.calls kj4 t155 t156 t157 t158 t159 t160 t161 t166 _ ?side1 A16.out).mono ?_); (case side1 => exact Go.Proofs.YtifhhejohdmiaaaDoorFmt.VarsOK.below HV.out (by repeat (first | (with_reducible first | exact HB.out | apply below_alloc | apply pw_below_drewN | apply below_drew1 | refine below_set ?_ GE163.out) | exact HB.out))); rintro e w24 ⟨rfl, hb⟩; refine ⟨_, rfl, ?_⟩; have n0_ := Aside0.mk (blk_below (g := gb163) (o := .cells #[.int .i32 t155, .int .i32 t156, .int .i32 t157, .int .u8 t158, .int .u8 t159, .int .u8 t160, .bool t161] 23 (0, 0)) (by (with_reducible repeat (first | refine blk_drewN ?_ _ | refine blk_drew ?_ | refine blk_alloc ?_ _)); exact BK163.out) hb); have n1_ := Aside0.mk (below_step (by repeat (first | (with_reducible first | exact HB.out | apply below_alloc | apply pw_below_drewN | apply below_drew1 | refine below_set ?_ GE163.out) | exact HB.out)) hb); clear BK163; clear HB; have BK163 := n0_; have HB := n1_; clear n0_ n1_; (try clear hb); (try clear hb2); (try clear hk); (try clear hi)) | ((with_reducible refine gate_callee (f := 15) rfl ?_); refine goesL_ (some 31) rfl rfl Tryd.func15 (by kernel_rfl) rfl #[.string t166] rfl (by (try simp only [List.map_toArray, List.map_cons, List.map_nil]); first | done | rfl | (simp only [List.length_drop, List.length_take]; rfl)) ?_; (with_reducible refine (impl_EntryParse.calls t166 t167 t168 t169 t170 t171 t172 t173 true _ ?side1 A17.out).mono ?_); (case side1 => exact Go.Proofs.YtifhhejohdmiaaaDoorFmt.VarsOK.below HV.out (by repeat (first | (with_reducible first | exact HB.out | apply below_alloc | apply pw_below_drewN | apply below_drew1 | refine below_set ?_ GE163.out) | exact HB.out))); rintro e w25 ⟨rfl, hb⟩; refine ⟨_, rfl, ?_⟩; have n0_ := Aside0.mk (blk_below (g := gb163) (o := .cells #[.int .i32 t155, .int .i32 t156, .int .i32 t157, .int .u8 t158, .int .u8 t159, .int .u8 t160, .bool t161] 23 (0, 0)) (by (with_reducible repeat (first | refine blk_drewN ?_ _ | refine blk_drew ?_ | refine blk_alloc ?_ _)); exact BK163.out) hb); have n1_ := Aside0.mk (below_step (by repeat (first | (with_reducible first | exact HB.out | apply below_alloc | apply pw_below_drewN | apply below_drew1 | refine below_set ?_ GE163.out) | exact HB.out)) hb); clear BK163; clear HB; have BK163 := n0_; have HB := n1_; clear n0_ n1_; (try clear hb); (try clear hb2); (try clear hk); (try clear hi)) | ((with_reducible refine gate_dst (N := 6) rfl ?_); refine box_event ?hg (N := 6) ?hd (cs := #[.int .i32 0, .int .i32 0, .int .i32 0, .int .u8 0, .int .u8 0, .int .u8 0, .bool false]) (t := 23) ?hr ?_; (case hd => rfl); (case hg => rfl); (case hr => first | (go_simp; done) | (go_simp; rfl)); intro gb175 hg w26 hbox hb; have n0_ := Aside0.mk (blk_below (g := gb163) (o := .cells #[.int .i32 t155, .int .i32 t156, .int .i32 t157, .int .u8 t158, .int .u8 t159, .int .u8 t160, .bool t161] 23 (0, 0)) (by (with_reducible repeat (first | refine blk_drewN ?_ _ | refine blk_drew ?_ | refine blk_alloc ?_ _)); exact BK163.out) hb); have n1_ := Aside0.mk (below_step (by repeat (first | (with_reducible first | exact HB.out | apply below_alloc | apply pw_below_drewN | apply below_drew1 | refine below_set ?_ GE163.out) | exact HB.out)) hb); have n2_ := Aside0.mk (hbox); have n3_ := Aside0.mk ((by rw [hg]; exact (below_size (by repeat (first | (with_reducible first | exact HB.out | apply below_alloc | apply pw_below_drewN | apply below_drew1 | refine below_set ?_ GE163.out) | exact HB.out))) : w.heap.size ≤ gb175)); have n4_ := Aside0.mk ((by rw [hg]; exact (below_size (by repeat (first | (with_reducible first | exact HB.out | apply below_alloc | apply pw_below_drewN | apply below_drew1 | refine below_set ?_ GE163.out) | exact HB.out))) : w.heap.size ≤ gb175)); have n5_ := Aside0.mk ((by rw [hg]; exact Nat.ne_of_lt (blk_lt (g := gb163) (o := .cells #[.int .i32 t155, .int .i32 t156, .int .i32 t157, .int .u8 t158, .int .u8 t159, .int .u8 t160, .bool t161] 23 (0, 0)) (by (with_reducible repeat (first | refine blk_drewN ?_ _ | refine blk_drew ?_ | refine blk_alloc ?_ _)); exact BK163.out)) : gb163 ≠ gb175)); have n6_ := Aside0.mk ((by rw [hg]; exact Nat.ne_of_gt (blk_lt (g := gb163) (o := .cells #[.int .i32 t155, .int .i32 t156, .int .i32 t157, .int .u8 t158, .int .u8 t159, .int .u8 t160, .bool t161] 23 (0, 0)) (by (with_reducible repeat (first | refine blk_drewN ?_ _ | refine blk_drew ?_ | refine blk_alloc ?_ _)); exact BK163.out)) : gb175 ≠ gb163)); clear BK163; clear HB; have BK163 := n0_; have HB := n1_; have BK175 := n2_; have GW175 := n3_; have GE175 := n4_; have NB163_175 := n5_; have NB175_163 := n6_; clear n0_ n1_ n2_ n3_ n4_ n5_ n6_; clear hb hbox hg; have hnb27 := NB175_163.out; have hnc27 := NB163_175.out; have hcz28_0 : w26.cell? ⟨gb175, 0, none⟩ = some (.int .i32 0) := (blk_cell BK175.out 0).trans rfl; have hcz28_1 : w26.cell? ⟨gb175, 1, none⟩ = some (.int .i32 0) := (blk_cell BK175.out 1).trans rfl; have hcz28_2 : w26.cell? ⟨gb175, 2, none⟩ = some (.int .i32 0) := (blk_cell BK175.out 2).trans rfl; have hcz28_3 : w26.cell? ⟨gb175, 3, none⟩ = some (.int .u8 0) := (blk_cell BK175.out 3).trans rfl; have hcz28_4 : w26.cell? ⟨gb175, 4, none⟩ = some (.int .u8 0) := (blk_cell BK175.out 4).trans rfl; have hcz28_5 : w26.cell? ⟨gb175, 5, none⟩ = some (.int .u8 0) := (blk_cell BK175.out 5).trans rfl; have hcz28_6 : w26.cell? ⟨gb175, 6, none⟩ = some (.bool false) := (blk_cell BK175.out 6).trans rfl; have hfz28_0 := blk_frozen BK175.out 0; have hfz28_1 := blk_frozen BK175.out 1; have hfz28_2 := blk_frozen BK175.out 2; have hfz28_3 := blk_frozen BK175.out 3; have hfz28_4 := blk_frozen BK175.out 4; have hfz28_5 := blk_frozen BK175.out 5; have hfz28_6 := blk_frozen BK175.out 6; have hcz29_0 : w26.cell? ⟨gb163, 0, none⟩ = some (.int .i32 t155) := (blk_cell BK163.out 0).trans rfl; have hcz29_1 : w26.cell? ⟨gb163, 1, none⟩ = some (.int .i32 t156) := (blk_cell BK163.out 1).trans rfl; have hcz29_2 : w26.cell? ⟨gb163, 2, none⟩ = some (.int .i32 t157) := (blk_cell BK163.out 2).trans rfl; have hcz29_3 : w26.cell? ⟨gb163, 3, none⟩ = some (.int .u8 t158) := (blk_cell BK163.out 3).trans rfl; have hcz29_4 : w26.cell? ⟨gb163, 4, none⟩ = some (.int .u8 t159) := (blk_cell BK163.out 4).trans rfl; have hcz29_5 : w26.cell? ⟨gb163, 5, none⟩ = some (.int .u8 t160) := (blk_cell BK163.out 5).trans rfl; have hcz29_6 : w26.cell? ⟨gb163, 6, none⟩ = some (.bool t161) := (blk_cell BK163.out 6).trans rfl; have hfz29_0 := blk_frozen BK163.out 0; have hfz29_1 := blk_frozen BK163.out 1; have hfz29_2 := blk_frozen BK163.out 2; have hfz29_3 := blk_frozen BK163.out 3; have hfz29_4 := blk_frozen BK163.out 4; have hfz29_5 := blk_frozen BK163.out 5; have hfz29_6 := blk_frozen BK163.out 6) | (go_at_call 23; (with_reducible refine (impl_EntryString.calls kj4 t167 t168 t169 t170 t171 t172 t173 t176 _ ?side1 A20.out).mono ?_); (case side1 => exact Go.Proofs.YtifhhejohdmiaaaDoorFmt.VarsOK.below HV.out (by repeat (first | (with_reducible first | exact HB.out | apply below_alloc | apply pw_below_drewN | apply below_drew1 | refine below_set ?_ GE163.out | refine below_set ?_ GE175.out) | exact HB.out))); rintro e w30 ⟨rfl, hb⟩; have n0_ := Aside0.mk (blk_below (g := gb163) (o := .cells #[.int .i32 t155, .int .i32 t156, .int .i32 t157, .int .u8 t158, .int .u8 t159, .int .u8 t160, .bool t161] 23 (0, 0)) (by (with_reducible repeat (first | refine blk_drewN ?_ _ | refine blk_drew ?_ | refine blk_alloc ?_ _)); refine blk_far ?_ NB163_175.out _; (with_reducible repeat (first | refine blk_drewN ?_ _ | refine blk_drew ?_ | refine blk_alloc ?_ _)); refine blk_far ?_ NB163_175.out _; (with_reducible repeat (first | refine blk_drewN ?_ _ | refine blk_drew ?_ | refine blk_alloc ?_ _)); refine blk_far ?_ NB163_175.out _; (with_reducible repeat (first | refine blk_drewN ?_ _ | refine blk_drew ?_ | refine blk_alloc ?_ _)); refine blk_far ?_ NB163_175.out _; (with_reducible repeat (first | refine blk_drewN ?_ _ | refine blk_drew ?_ | refine blk_alloc ?_ _)); refine blk_far ?_ NB163_175.out _; (with_reducible repeat (first | refine blk_drewN ?_ _ | refine blk_drew ?_ | refine blk_alloc ?_ _)); refine blk_far ?_ NB163_175.out _; (with_reducible repeat (first | refine blk_drewN ?_ _ | refine blk_drew ?_ | refine blk_alloc ?_ _)); refine blk_far ?_ NB163_175.out _; (with_reducible repeat (first | refine blk_drewN ?_ _ | refine blk_drew ?_ | refine blk_alloc ?_ _)); exact BK163.out) hb); have n1_ := Aside0.mk (blk_below (g := gb175) (o := .cells #[.int .i32 t167, .int .i32 t168, .int .i32 t169, .int .u8 t170, .int .u8 t171, .int .u8 t172, .bool t173] 23 (0, 0)) (by (with_reducible repeat (first | refine blk_drewN ?_ _ | refine blk_drew ?_ | refine blk_alloc ?_ _)); refine blk_put (cs := #[.int .i32 t167, .int .i32 t168, .int .i32 t169, .int .u8 t170, .int .u8 t171, .int .u8 t172, .bool false]) ?_ 6 _ rfl; (with_reducible repeat (first | refine blk_drewN ?_ _ | refine blk_drew ?_ | refine blk_alloc ?_ _)); refine blk_put (cs := #[.int .i32 t167, .int .i32 t168, .int .i32 t169, .int .u8 t170, .int .u8 t171, .int .u8 0, .bool false]) ?_ 5 _ rfl; (with_reducible repeat (first | refine blk_drewN ?_ _ | refine blk_drew ?_ | refine blk_alloc ?_ _)); refine blk_put (cs := #[.int .i32 t167, .int .i32 t168, .int .i32 t169, .int .u8 t170, .int .u8 0, .int .u8 0, .bool false]) ?_ 4 _ rfl; (with_reducible repeat (first | refine blk_drewN ?_ _ | refine blk_drew ?_ | refine blk_alloc ?_ _)); refine blk_put (cs := #[.int .i32 t167, .int .i32 t168, .int .i32 t169, .int .u8 0, .int .u8 0, .int .u8 0, .bool false]) ?_ 3 _ rfl; (with_reducible repeat (first | refine blk_drewN ?_ _ | refine blk_drew ?_ | refine blk_alloc ?_ _)); refine blk_put (cs := #[.int .i32 t167, .int .i32 t168, .int .i32 0, .int .u8 0, .int .u8 0, .int .u8 0, .bool false]) ?_ 2 _ rfl; (with_reducible repeat (first | refine blk_drewN ?_ _ | refine blk_drew ?_ | refine blk_alloc ?_ _)); refine blk_put (cs := #[.int .i32 t167, .int .i32 0, .int .i32 0, .int .u8 0, .int .u8 0, .int .u8 0, .bool false]) ?_ 1 _ rfl; (with_reducible repeat (first | refine blk_drewN ?_ _ | refine blk_drew ?_ | refine blk_alloc ?_ _)); refine blk_put (cs := #[.int .i32 0, .int .i32 0, .int .i32 0, .int .u8 0, .int .u8 0, .int .u8 0, .bool false]) ?_ 0 _ rfl; (with_reducible repeat (first | refine blk_drewN ?_ _ | refine blk_drew ?_ | refine blk_alloc ?_ _)); exact BK175.out) hb); have n2_ := Aside0.mk (below_step (by repeat (first | (with_reducible first | exact HB.out | apply below_alloc | apply pw_below_drewN | apply below_drew1 | refine below_set ?_ GE163.out | refine below_set ?_ GE175.out) | exact HB.out)) hb); clear BK163; clear BK175; clear HB; have BK163 := n0_; have BK175 := n1_; have HB := n2_; clear n0_ n1_ n2_; (try clear hb); (try clear hb2); (try clear hk); (try clear hi)) | (go_at_call 13; (with_reducible refine (laws_styled.calls  t177 _ ?side1 A22.out).mono ?_); (case side1 => exact Go.Proofs.YtifhhejohdmiaaaDoorFmt.VarsOK.below HV.out (by repeat (first | (with_reducible first | exact HB.out | apply below_alloc | apply pw_below_drewN | apply below_drew1 | refine below_set ?_ GE163.out | refine below_set ?_ GE175.out) | exact HB.out))); rintro e w31 ⟨rfl, hb⟩; have n0_ := Aside0.mk (blk_below (g := gb163) (o := .cells #[.int .i32 t155, .int .i32 t156, .int .i32 t157, .int .u8 t158, .int .u8 t159, .int .u8 t160, .bool t161] 23 (0, 0)) (by (with_reducible repeat (first | refine blk_drewN ?_ _ | refine blk_drew ?_ | refine blk_alloc ?_ _)); exact BK163.out) hb); have n1_ := Aside0.mk (blk_below (g := gb175) (o := .cells #[.int .i32 t167, .int .i32 t168, .int .i32 t169, .int .u8 t170, .int .u8 t171, .int .u8 t172, .bool t173] 23 (0, 0)) (by (with_reducible repeat (first | refine blk_drewN ?_ _ | refine blk_drew ?_ | refine blk_alloc ?_ _)); exact BK175.out) hb); have n2_ := Aside0.mk (below_step (by repeat (first | (with_reducible first | exact HB.out | apply below_alloc | apply pw_below_drewN | apply below_drew1 | refine below_set ?_ GE163.out | refine below_set ?_ GE175.out) | exact HB.out)) hb); clear BK163; clear BK175; clear HB; have BK163 := n0_; have BK175 := n1_; have HB := n2_; clear n0_ n1_ n2_; (try clear hb); (try clear hb2); (try clear hk); (try clear hi)))
                  go_ret
                  exact ⟨by first | rfl | (simp [errW_none, errW_some] <;> rfl) | (simp [*, errW_none, errW_some] <;> rfl), by repeat (first | (with_reducible first | exact HB.out | apply below_alloc | apply pw_below_drewN | apply below_drew1 | refine below_set ?_ GE163.out | refine below_set ?_ GE175.out) | exact HB.out)⟩
                · rw [if_neg c21] at H
                  have c21b0 : (t176.toList == t166.toList) = false := beq_eq_false_iff_ne.mpr c21
                  have c21b1 : (t176.toList != t166.toList) = true := bne_iff_ne.mpr c21
                  exact absurd ((Option.some.inj H).trans hrT.out) (by decide)
              · rw [if_neg c19] at H
                have c19b0 : (t167 == t155 && (t168 == t156 && (t169 == t157 && (t170 == t158 && (t171 == t159 && (t172 == t160 && (t173 == t161))))))) = false := by simpa using c19
                (try (have c19b1 : decide (t167 = t155 && (t168 == t156 && (t169 == t157 && (t170 == t158 && (t171 == t159 && (t172 == t160 && (t173 == t161))))))) = false := by simpa using c19))
                (try (have c19b2 : (t167 == t155 && (t168 == t156 && (t169 == t157 && (t170 == t158 && (t171 == t159 && (t172 == t160 && (t173 == t161))))))) = false := by simpa using c19))
                (try (have c19b3 : ¬ (t167 = t155 && (t168 == t156 && (t169 == t157 && (t170 == t158 && (t171 == t159 && (t172 == t160 && (t173 == t161))))))) := by simpa using c19))
                clear c19
                exact absurd ((Option.some.inj H).trans hrT.out) (by decide)
            · replace c18 := Bool.eq_false_iff.mpr c18
              subst c18
              have H1 : (some false) = some r := by rw [if_neg (show ¬ (false = true) by decide)] at H; exact H
              clear H
              have H := H1
              clear H1
              exact absurd ((Option.some.inj H).trans hrT.out) (by decide)
def laws_FnEntryTwice.Pure : Prop := ∀ (a0 : ByteArray), a0.size ≤ 140737488351232 → ∃ k, laws_FnEntryTwice.f k a0 = some true

end Go.Proofs.YtifhhejohdmiaaaDoor.Y
