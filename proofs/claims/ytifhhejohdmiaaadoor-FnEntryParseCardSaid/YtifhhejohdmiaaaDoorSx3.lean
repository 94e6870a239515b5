-- WRITTEN BY OUR myprint.py, a program of this session's over the kit's printer
import Derived.Test.YtifhhejohdmiaaaDoorSx0
import Derived.Test.YtifhhejohdmiaaaDoorSx1
import Derived.Test.YtifhhejohdmiaaaDoorSx2
namespace Go.Proofs.YtifhhejohdmiaaaDoor.S
open Go.RowKit Go.Proofs.YtifhhejohdmiaaaDoorW.PrintWords Go.Proofs.YtifhhejohdmiaaaDoorW.PrintLast Go.Proofs.YtifhhejohdmiaaaDoorW.PrintMore
attribute [local go_sem] max2_int min2_int max_two min_two max_three min_three max_four min_four   -- for this text's walks alone
set_option linter.unusedVariables false
set_option linter.unusedSimpArgs false

/-! ### spec_EntryParse: function 14 -/
mutual
def spec_EntryParse.l0 : Nat → List ByteArray → Int → Int → Int → Int → Int → Int → Int → Int → Bool → Option (Int × Int × Int × Int × Int × Int × Bool × Bool × Int)
  | 0, _, _, _, _, _, _, _, _, _, _ => none
  | k + 1, x22, x23, x24, x128000, x128001, x128002, x128003, x128004, x128005, x128006 => if x24 < x23 then (if 0 ≤ x24 then (if x24 < (x22.length : Int) then (if (rdOf ByteArray.empty x22 x24).toList = ([98, 111, 108, 100] : List UInt8) then (spec_EntryParse.j1 k (rdOf ByteArray.empty x22 x24) (-1) x22 x23 x24 x128000 x128001 x128002 1 x128004 x128005 x128006) else (if (rdOf ByteArray.empty x22 x24).toList = ([110, 111, 98, 111, 108, 100] : List UInt8) then (spec_EntryParse.j1 k (rdOf ByteArray.empty x22 x24) (-1) x22 x23 x24 x128000 x128001 x128002 2 x128004 x128005 x128006) else (if (rdOf ByteArray.empty x22 x24).toList = ([105, 116, 97, 108, 105, 99] : List UInt8) then (spec_EntryParse.j1 k (rdOf ByteArray.empty x22 x24) (-1) x22 x23 x24 x128000 x128001 x128002 x128003 1 x128005 x128006) else (if (rdOf ByteArray.empty x22 x24).toList = ([110, 111, 105, 116, 97, 108, 105, 99] : List UInt8) then (spec_EntryParse.j1 k (rdOf ByteArray.empty x22 x24) (-1) x22 x23 x24 x128000 x128001 x128002 x128003 2 x128005 x128006) else (if (rdOf ByteArray.empty x22 x24).toList = ([117, 110, 100, 101, 114, 108, 105, 110, 101] : List UInt8) then (spec_EntryParse.j1 k (rdOf ByteArray.empty x22 x24) (-1) x22 x23 x24 x128000 x128001 x128002 x128003 x128004 1 x128006) else (if (rdOf ByteArray.empty x22 x24).toList = ([110, 111, 117, 110, 100, 101, 114, 108, 105, 110, 101] : List UInt8) then (spec_EntryParse.j1 k (rdOf ByteArray.empty x22 x24) (-1) x22 x23 x24 x128000 x128001 x128002 x128003 x128004 2 x128006) else (if (rdOf ByteArray.empty x22 x24).toList = ([105, 110, 104, 101, 114, 105, 116] : List UInt8) then (spec_EntryParse.j1 k (rdOf ByteArray.empty x22 x24) (-1) x22 x23 x24 x128000 x128001 x128002 x128003 x128004 x128005 false) else (if (rdOf ByteArray.empty x22 x24).toList = ([110, 111, 105, 110, 104, 101, 114, 105, 116] : List UInt8) then (spec_EntryParse.j1 k (rdOf ByteArray.empty x22 x24) (-1) x22 x23 x24 x128000 x128001 x128002 x128003 x128004 x128005 true) else (if (rdOf ByteArray.empty x22 x24).toList = ([98, 103, 58] : List UInt8) then (spec_EntryParse.j1 k (rdOf ByteArray.empty x22 x24) (-1) x22 x23 x24 x128000 0 x128002 x128003 x128004 x128005 x128006) else ((spec_begins.f (rdOf ByteArray.empty x22 x24) (⟨#[98, 103, 58, 35]⟩ : ByteArray)).bind fun t129 => (if t129 = true then (spec_EntryParse.j1 k (rdOf ByteArray.empty x22 x24) 3 x22 x23 x24 x128000 x128001 x128002 x128003 x128004 x128005 x128006) else ((spec_begins.f (rdOf ByteArray.empty x22 x24) (⟨#[98, 111, 114, 100, 101, 114, 58, 35]⟩ : ByteArray)).bind fun t130 => (if t130 = true then (spec_EntryParse.j1 k (rdOf ByteArray.empty x22 x24) 7 x22 x23 x24 x128000 x128001 x128002 x128003 x128004 x128005 x128006) else ((spec_begins.f (rdOf ByteArray.empty x22 x24) (⟨#[35]⟩ : ByteArray)).bind fun t131 => (if t131 = true then (spec_EntryParse.j1 k (rdOf ByteArray.empty x22 x24) 0 x22 x23 x24 x128000 x128001 x128002 x128003 x128004 x128005 x128006) else (some (0, 0, 0, 0, 0, 0, false, false, 1))))))))))))))))) else (none)) else (none)) else (some (x128000, x128001, x128002, x128003, x128004, x128005, x128006, true, 1))
def spec_EntryParse.j1 : Nat → ByteArray → Int → List ByteArray → Int → Int → Int → Int → Int → Int → Int → Int → Bool → Option (Int × Int × Int × Int × Int × Int × Bool × Bool × Int)
  | 0, _, _, _, _, _, _, _, _, _, _, _, _ => none
  | k + 1, x9, x10, x22, x23, x24, x128000, x128001, x128002, x128003, x128004, x128005, x128006 => if x10 < 0 then (spec_EntryParse.l0 k x22 x23 (wrap64 (x24 + 1)) x128000 x128001 x128002 x128003 x128004 x128005 x128006) else (if 0 ≤ x10 then (if x10 ≤ (x9.size : Int) then ((spec_ColourParse.f k (x9.extract (x10 : Int).toNat x9.size)).bind fun bt132 => (if bt132.2 = 1 then (if bt132.1 = 0 then (some (0, 0, 0, 0, 0, 0, false, false, 1)) else (if x10 = 0 then (spec_EntryParse.l0 k x22 x23 (wrap64 (x24 + 1)) bt132.1 x128001 x128002 x128003 x128004 x128005 x128006) else (if x10 = 3 then (spec_EntryParse.l0 k x22 x23 (wrap64 (x24 + 1)) x128000 bt132.1 x128002 x128003 x128004 x128005 x128006) else (spec_EntryParse.l0 k x22 x23 (wrap64 (x24 + 1)) x128000 x128001 bt132.1 x128003 x128004 x128005 x128006)))) else (some (0, 0, 0, 0, 0, 0, false, false, bt132.2)))) else (none)) else (none))
end
def spec_EntryParse.f (k : Nat) (a0 : ByteArray) : Option (Int × Int × Int × Int × Int × Int × Bool × Bool × Int) := (spec_words.f k a0).bind fun bt123 => (if bt123.2 = 1 then (spec_EntryParse.l0 k bt123.1 (bt123.1.length : Int) 0 0 0 0 0 0 0 false) else (some (0, 0, 0, 0, 0, 0, false, false, bt123.2)))
theorem spec_EntryParse.mono_l : ∀ k, (∀ y0 y1 y2 y3 y4 y5 y6 y7 y8 y9, LeO (spec_EntryParse.l0 k y0 y1 y2 y3 y4 y5 y6 y7 y8 y9) (spec_EntryParse.l0 (k + 1) y0 y1 y2 y3 y4 y5 y6 y7 y8 y9)) ∧ (∀ y0 y1 y2 y3 y4 y5 y6 y7 y8 y9 y10 y11, LeO (spec_EntryParse.j1 k y0 y1 y2 y3 y4 y5 y6 y7 y8 y9 y10 y11) (spec_EntryParse.j1 (k + 1) y0 y1 y2 y3 y4 y5 y6 y7 y8 y9 y10 y11))
  | 0 => ⟨fun _ _ _ _ _ _ _ _ _ _ r h => by simp [spec_EntryParse.l0] at h, fun _ _ _ _ _ _ _ _ _ _ _ _ r h => by simp [spec_EntryParse.j1] at h⟩
  | k + 1 => by
    obtain ⟨ih0, ih1⟩ := spec_EntryParse.mono_l k
    refine ⟨?_, ?_⟩
    · intro y0 y1 y2 y3 y4 y5 y6 y7 y8 y9
      unfold spec_EntryParse.l0
      repeat' first
      | (with_reducible exact ih0 _ _ _ _ _ _ _ _ _ _)
      | (with_reducible exact ih1 _ _ _ _ _ _ _ _ _ _ _ _)
      | (with_reducible exact spec_ColourParse.mono _ _)
      | (with_reducible exact spec_words.mono _ _)
      | (with_reducible exact LeO.refl _)
      | (with_reducible exact LeO.none _)
      | (with_reducible refine LeO.ite ?_ ?_)
      | (with_reducible refine LeO.bind ?_ (fun _ => ?_))
      | exact ih0 _ _ _ _ _ _ _ _ _ _
      | exact ih1 _ _ _ _ _ _ _ _ _ _ _ _
      | exact spec_ColourParse.mono _ _
      | exact spec_words.mono _ _
      | exact LeO.none _
      | refine LeO.ite ?_ ?_
      | refine LeO.bind ?_ (fun _ => ?_)
    · intro y0 y1 y2 y3 y4 y5 y6 y7 y8 y9 y10 y11
      unfold spec_EntryParse.j1
      repeat' first
      | (with_reducible exact ih0 _ _ _ _ _ _ _ _ _ _)
      | (with_reducible exact ih1 _ _ _ _ _ _ _ _ _ _ _ _)
      | (with_reducible exact spec_ColourParse.mono _ _)
      | (with_reducible exact spec_words.mono _ _)
      | (with_reducible exact LeO.refl _)
      | (with_reducible exact LeO.none _)
      | (with_reducible refine LeO.ite ?_ ?_)
      | (with_reducible refine LeO.bind ?_ (fun _ => ?_))
      | exact ih0 _ _ _ _ _ _ _ _ _ _
      | exact ih1 _ _ _ _ _ _ _ _ _ _ _ _
      | exact spec_ColourParse.mono _ _
      | exact spec_words.mono _ _
      | exact LeO.none _
      | refine LeO.ite ?_ ?_
      | refine LeO.bind ?_ (fun _ => ?_)
theorem spec_EntryParse.mono : ∀ a0 k, LeO (spec_EntryParse.f k a0) (spec_EntryParse.f (k + 1) a0) := by
  intro a0 k
  obtain ⟨ih0, ih1⟩ := spec_EntryParse.mono_l k
  unfold spec_EntryParse.f
  repeat' first
      | (with_reducible exact ih0 _ _ _ _ _ _ _ _ _ _)
      | (with_reducible exact ih1 _ _ _ _ _ _ _ _ _ _ _ _)
      | (with_reducible exact spec_ColourParse.mono _ _)
      | (with_reducible exact spec_words.mono _ _)
      | (with_reducible exact LeO.refl _)
      | (with_reducible exact LeO.none _)
      | (with_reducible refine LeO.ite ?_ ?_)
      | (with_reducible refine LeO.bind ?_ (fun _ => ?_))
      | exact ih0 _ _ _ _ _ _ _ _ _ _
      | exact ih1 _ _ _ _ _ _ _ _ _ _ _ _
      | exact spec_ColourParse.mono _ _
      | exact spec_words.mono _ _
      | exact LeO.none _
      | refine LeO.ite ?_ ?_
      | refine LeO.bind ?_ (fun _ => ?_)
set_option maxHeartbeats 8000000 in
set_option maxRecDepth 100000 in
theorem spec_EntryParse.calls (k : Nat) (a0 : ByteArray) (r1 : Int) (r2 : Int) (r3 : Int) (r4 : Int) (r5 : Int) (r6 : Int) (r7 : Bool) (r8 : Bool) (r9 : Int) (w : World) (h : spec_EntryParse.f k a0 = some (r1, r2, r3, r4, r5, r6, r7, r8, r9)) :
    Calls Tryd.prog 14 #[.string a0] w fun e w' => e = .returned (.tuple #[.agg #[.int .i32 r1, .int .i32 r2, .int .i32 r3, .int .u8 r4, .int .u8 r5, .int .u8 r6, .bool r7], .bool r8, .int .i64 r9]) ∧ Below w.heap.size w w' := by
  have hu26 := Tryd.underlying26
  have HB := Aside0.mk (Below.refl w.heap.size w)
  have H : ((spec_words.f k a0).bind fun bt123 => (if bt123.2 = 1 then (spec_EntryParse.l0 k bt123.1 (bt123.1.length : Int) 0 0 0 0 0 0 0 false) else (some (0, 0, 0, 0, 0, 0, false, false, bt123.2)))) = some (r1, r2, r3, r4, r5, r6, r7, r8, r9) := h
  clear h
  replace H := Option.bind_eq_some_iff.mp H
  obtain ⟨⟨t123, t124⟩, A20, H⟩ := H
  replace H : (if t124 = 1 then (spec_EntryParse.l0 k t123 (t123.length : Int) 0 0 0 0 0 0 0 false) else (some (0, 0, 0, 0, 0, 0, false, false, t124))) = some (r1, r2, r3, r4, r5, r6, r7, r8, r9) := H
  have A2 := Aside0.mk A20
  clear A20
  by_cases c3 : t124 = 1
  · rw [if_pos c3] at H
    have c3b0 : (t124 == 1) = true := beq_iff_eq.mpr c3
    have c3b1 : (t124 != 1) = false := bne_eq_false_iff_eq.mpr c3
    clear c3
    have H' := Aside0.mk H
    clear H
    go_enter Tryd.func14, Tryd.ntmps14
    go_wp2_with (first | ((with_reducible refine gate_dst (N := 2) rfl ?_); refine box_event ?hg (N := 2) ?hd (cs := #[.int .i32 0, .int .i32 0, .int .i32 0, .int .u8 0, .int .u8 0, .int .u8 0, .bool false]) (t := 26) ?hr ?_; (case hd => rfl); (case hg => rfl); (case hr => first | (go_simp; done) | (go_simp; rfl)); intro gb122 hg w4 hbox hb; have n0_ := Aside0.mk (below_step (by repeat (first | (with_reducible first | exact HB.out | apply below_alloc | apply pw_below_drewN | apply below_drew1) | exact HB.out)) hb); have n1_ := Aside0.mk (hbox); have n2_ := Aside0.mk ((by rw [hg]; exact (below_size (by repeat (first | (with_reducible first | exact HB.out | apply below_alloc | apply pw_below_drewN | apply below_drew1) | exact HB.out))) : w.heap.size ≤ gb122)); have n3_ := Aside0.mk ((by rw [hg]; exact (below_size (by repeat (first | (with_reducible first | exact HB.out | apply below_alloc | apply pw_below_drewN | apply below_drew1) | exact HB.out))) : w.heap.size ≤ gb122)); clear HB; have HB := n0_; have BK122 := n1_; have GW122 := n2_; have GE122 := n3_; clear n0_ n1_ n2_ n3_; clear hb hbox hg) | ((with_reducible refine gate_callee (f := 30) rfl ?_); refine goesL_ (some 15) rfl rfl Tryd.func30 (by kernel_rfl) rfl #[.string a0] rfl (by (try simp only [List.map_toArray, List.map_cons, List.map_nil]); first | done | rfl | (simp only [List.length_drop, List.length_take]; rfl)) ?_; (with_reducible refine (spec_words.calls k a0 t123 t124 _ A2.out).mono ?_); rintro e w5 ⟨v125, rfl, ho0, hb⟩; refine ⟨_, rfl, ?_⟩; have n0_ := Aside0.mk (Kd.R_lower ho0 (below_size (by repeat (first | (with_reducible first | exact HB.out | apply below_alloc | apply pw_below_drewN | apply below_drew1 | refine below_set ?_ GE122.out) | exact HB.out)))); have n1_ := Aside0.mk (blk_below (g := gb122) (o := .cells #[.int .i32 0, .int .i32 0, .int .i32 0, .int .u8 0, .int .u8 0, .int .u8 0, .bool false] 26 (0, 0)) (by (with_reducible repeat (first | refine blk_drewN ?_ _ | refine blk_drew ?_ | refine blk_alloc ?_ _)); exact BK122.out) hb); have n2_ := Aside0.mk (below_step (by repeat (first | (with_reducible first | exact HB.out | apply below_alloc | apply pw_below_drewN | apply below_drew1 | refine below_set ?_ GE122.out) | exact HB.out)) hb); clear BK122; clear HB; have HO126 := n0_; have BK122 := n1_; have HB := n2_; clear n0_ n1_ n2_; (try clear hb); (try clear hb2); (try clear hk); (try clear hi); (try clear ho0)) | ((with_reducible refine gate_dst (N := 7) rfl ?_); refine box_event ?hg (N := 7) ?hd (cs := #[.int .i32 0, .int .i32 0, .int .i32 0, .int .u8 0, .int .u8 0, .int .u8 0, .bool false]) (t := 26) ?hr ?_; (case hd => rfl); (case hg => rfl); (case hr => first | (go_simp; done) | (go_simp; rfl)); intro gb127 hg w6 hbox hb; have n0_ := Aside0.mk (Kd.R_below (by (with_reducible repeat (first | apply Kd.R_alloc | apply Kd.R_drewN | apply Kd.R_drew)); exact HO126.out) hb); have n1_ := Aside0.mk (blk_below (g := gb122) (o := .cells #[.int .i32 0, .int .i32 0, .int .i32 0, .int .u8 0, .int .u8 0, .int .u8 0, .bool false] 26 (0, 0)) (by (with_reducible repeat (first | refine blk_drewN ?_ _ | refine blk_drew ?_ | refine blk_alloc ?_ _)); exact BK122.out) hb); have n2_ := Aside0.mk (below_step (by repeat (first | (with_reducible first | exact HB.out | apply below_alloc | apply pw_below_drewN | apply below_drew1 | refine below_set ?_ GE122.out) | exact HB.out)) hb); have n3_ := Aside0.mk (hbox); have n4_ := Aside0.mk ((by rw [hg]; exact (below_size (by repeat (first | (with_reducible first | exact HB.out | apply below_alloc | apply pw_below_drewN | apply below_drew1 | refine below_set ?_ GE122.out) | exact HB.out))) : w.heap.size ≤ gb127)); have n5_ := Aside0.mk ((by rw [hg]; exact (below_size (by repeat (first | (with_reducible first | exact HB.out | apply below_alloc | apply pw_below_drewN | apply below_drew1 | refine below_set ?_ GE122.out) | exact HB.out))) : w.heap.size ≤ gb127)); have n6_ := Aside0.mk ((by rw [hg]; exact Nat.ne_of_lt (blk_lt (g := gb122) (o := .cells #[.int .i32 0, .int .i32 0, .int .i32 0, .int .u8 0, .int .u8 0, .int .u8 0, .bool false] 26 (0, 0)) (by (with_reducible repeat (first | refine blk_drewN ?_ _ | refine blk_drew ?_ | refine blk_alloc ?_ _)); exact BK122.out)) : gb122 ≠ gb127)); have n7_ := Aside0.mk ((by rw [hg]; exact Nat.ne_of_gt (blk_lt (g := gb122) (o := .cells #[.int .i32 0, .int .i32 0, .int .i32 0, .int .u8 0, .int .u8 0, .int .u8 0, .bool false] 26 (0, 0)) (by (with_reducible repeat (first | refine blk_drewN ?_ _ | refine blk_drew ?_ | refine blk_alloc ?_ _)); exact BK122.out)) : gb127 ≠ gb122)); clear HO126; clear BK122; clear HB; have HO126 := n0_; have BK122 := n1_; have HB := n2_; have BK127 := n3_; have GW127 := n4_; have GE127 := n5_; have NB122_127 := n6_; have NB127_122 := n7_; clear n0_ n1_ n2_ n3_ n4_ n5_ n6_ n7_; clear hb hbox hg; obtain ⟨Ao7, co7, eo7⟩ := Kd.R_slice HO126.out; subst eo7))
    go_loopg [24] k (fun kq v24 w' => ∃ (x24_1 : Int) (x123000_1 : Int) (x123001_1 : Int) (x123002_1 : Int) (x123003_1 : Int) (x123004_1 : Int) (x123005_1 : Int) (x123006_1 : Bool) (x128000_1 : Int) (x128001_1 : Int) (x128002_1 : Int) (x128003_1 : Int) (x128004_1 : Int) (x128005_1 : Int) (x128006_1 : Bool), v24 = .int .i64 x24_1 ∧ Aside0 (spec_EntryParse.l0 kq t123 (t123.length : Int) x24_1 x128000_1 x128001_1 x128002_1 x128003_1 x128004_1 x128005_1 x128006_1 = some (r1, r2, r3, r4, r5, r6, r7, r8, r9)) ∧ Aside0 (kq ≤ k) ∧ Aside0 (Kd.R Kd.string 9 w' w.heap.size (fun _ => True) (.slice Ao7 t123.length co7) t123) ∧ Aside0 (w'.heap[gb122]? = some (.cells #[.int .i32 x123000_1, .int .i32 x123001_1, .int .i32 x123002_1, .int .u8 x123003_1, .int .u8 x123004_1, .int .u8 x123005_1, .bool x123006_1] 26 (0, 0))) ∧ Aside0 (w'.heap[gb127]? = some (.cells #[.int .i32 x128000_1, .int .i32 x128001_1, .int .i32 x128002_1, .int .u8 x128003_1, .int .u8 x128004_1, .int .u8 x128005_1, .bool x128006_1] 26 (0, 0))) ∧ Aside0 (Below w.heap.size w w'))
    case atStart => exact ⟨(0), (0), (0), (0), (0), (0), (0), (false), (0), (0), (0), (0), (0), (0), (false), (by first | rfl | (simp; done) | (simp [*]; done)), H', ⟨Nat.le_refl _⟩, ⟨by (with_reducible repeat (first | apply Kd.R_alloc | apply Kd.R_drewN | apply Kd.R_drew)); exact HO126.out⟩, ⟨by (with_reducible repeat (first | refine blk_drewN ?_ _ | refine blk_drew ?_ | refine blk_alloc ?_ _)); exact BK122.out⟩, ⟨by (with_reducible repeat (first | refine blk_drewN ?_ _ | refine blk_drew ?_ | refine blk_alloc ?_ _)); exact BK127.out⟩, ⟨by repeat (first | (with_reducible first | exact HB.out | apply below_alloc | apply pw_below_drewN | apply below_drew1 | refine below_set ?_ GE122.out | refine below_set ?_ GE127.out) | exact HB.out)⟩⟩
    case round =>
      clear H'
      try clear c1
      try clear p2
      try clear c3
      try clear c3b0
      try clear c3b1
      obtain ⟨x24_1, x123000_1, x123001_1, x123002_1, x123003_1, x123004_1, x123005_1, x123006_1, x128000_1, x128001_1, x128002_1, x128003_1, x128004_1, x128005_1, x128006_1, rfl, HA, HK1, HO_22, BK122, BK127, HB⟩ := hrel
      cases gk with
      | zero => exact absurd HA.out (by simp [spec_EntryParse.l0])
      | succ k1 =>
        have H := HA.out
        clear HA
        simp only [spec_EntryParse.l0] at H
        by_cases c8 : x24_1 < (t123.length : Int)
        · rw [if_pos c8] at H
          have c8b0 : decide (x24_1 < (t123.length : Int)) = true := decide_eq_true c8
          clear c8
          by_cases c9 : 0 ≤ x24_1
          · rw [if_pos c9] at H
            have c9b0 : decide (0 ≤ x24_1) = true := decide_eq_true c9
            clear c9
            by_cases c10 : x24_1 < (t123.length : Int)
            · rw [if_pos c10] at H
              have c10b0 : decide (x24_1 < (t123.length : Int)) = true := decide_eq_true c10
              clear c10
              have HC11 := Aside0.mk H
              clear H
              have p128 : 0 ≤ (x24_1 : Int) := of_decide_eq_true (by first | (with_reducible assumption) | assumption)
              have q128 : x24_1 < (t123.length : Int) := of_decide_eq_true (by first | (with_reducible assumption) | assumption)
              obtain ⟨ad128, e128, hx128_0⟩ := Kd.at_string (Kd.R_reads' HO_22.out).2.2 x24_1 p128 q128
              cases e128
              replace p128 := eq_true p128
              replace q128 := eq_true q128
              go_upto_block 2 with (fail)
              go_cut [10] (fun v10 wc => ∃ (kq : Nat) (x10_10 : Int) (x123000_10 : Int) (x123001_10 : Int) (x123002_10 : Int) (x123003_10 : Int) (x123004_10 : Int) (x123005_10 : Int) (x123006_10 : Bool) (x128001_10 : Int) (x128003_10 : Int) (x128004_10 : Int) (x128005_10 : Int) (x128006_10 : Bool), v10 = .int .i64 x10_10 ∧ Aside0 (spec_EntryParse.j1 kq (rdOf ByteArray.empty t123 x24_1) x10_10 t123 (t123.length : Int) x24_1 x128000_1 x128001_10 x128002_1 x128003_10 x128004_10 x128005_10 x128006_10 = some (r1, r2, r3, r4, r5, r6, r7, r8, r9)) ∧ Aside0 (kq ≤ k1) ∧ Aside0 (Kd.R Kd.string 9 wc w.heap.size (fun _ => True) (.slice (some ad128) t123.length co7) t123) ∧ Aside0 (wc.heap[gb122]? = some (.cells #[.int .i32 x123000_10, .int .i32 x123001_10, .int .i32 x123002_10, .int .u8 x123003_10, .int .u8 x123004_10, .int .u8 x123005_10, .bool x123006_10] 26 (0, 0))) ∧ Aside0 (wc.heap[gb127]? = some (.cells #[.int .i32 x128000_1, .int .i32 x128001_10, .int .i32 x128002_1, .int .u8 x128003_10, .int .u8 x128004_10, .int .u8 x128005_10, .bool x128006_10] 26 (0, 0))) ∧ Aside0 (Below w.heap.size w wc))
              case first =>
                have H := HC11.out
                clear HC11
                by_cases c12 : (rdOf ByteArray.empty t123 x24_1).toList = ([98, 111, 108, 100] : List UInt8)
                · rw [if_pos c12] at H
                  have c12b0 : ((rdOf ByteArray.empty t123 x24_1).toList == ([98, 111, 108, 100] : List UInt8)) = true := beq_iff_eq.mpr c12
                  have c12b1 : ((rdOf ByteArray.empty t123 x24_1).toList != ([98, 111, 108, 100] : List UInt8)) = false := bne_eq_false_iff_eq.mpr c12
                  clear c12
                  (try (have c12b2 := c12b0; simp only [ByteArray.size_extract, Nat.min_self] at c12b2)); (first | rw [c12b0] | (simp only [i64_w, i32_w]; rw [c12b0]) | rw [c12b1] | skip)
                  have H' := Aside0.mk H
                  clear H
                  have hnb13 := NB127_122.out
                  have hnc13 := NB122_127.out
                  have hcz14_0 : wr.cell? ⟨gb127, 0, none⟩ = some (.int .i32 x128000_1) := (blk_cell BK127.out 0).trans rfl
                  have hcz14_1 : wr.cell? ⟨gb127, 1, none⟩ = some (.int .i32 x128001_1) := (blk_cell BK127.out 1).trans rfl
                  have hcz14_2 : wr.cell? ⟨gb127, 2, none⟩ = some (.int .i32 x128002_1) := (blk_cell BK127.out 2).trans rfl
                  have hcz14_3 : wr.cell? ⟨gb127, 3, none⟩ = some (.int .u8 x128003_1) := (blk_cell BK127.out 3).trans rfl
                  have hcz14_4 : wr.cell? ⟨gb127, 4, none⟩ = some (.int .u8 x128004_1) := (blk_cell BK127.out 4).trans rfl
                  have hcz14_5 : wr.cell? ⟨gb127, 5, none⟩ = some (.int .u8 x128005_1) := (blk_cell BK127.out 5).trans rfl
                  have hcz14_6 : wr.cell? ⟨gb127, 6, none⟩ = some (.bool x128006_1) := (blk_cell BK127.out 6).trans rfl
                  have hfz14_0 := blk_frozen BK127.out 0
                  have hfz14_1 := blk_frozen BK127.out 1
                  have hfz14_2 := blk_frozen BK127.out 2
                  have hfz14_3 := blk_frozen BK127.out 3
                  have hfz14_4 := blk_frozen BK127.out 4
                  have hfz14_5 := blk_frozen BK127.out 5
                  have hfz14_6 := blk_frozen BK127.out 6
                  go_wp2
                  go_meet
                  case rel => exact ⟨_, ((-1)), (x123000_1), (x123001_1), (x123002_1), (x123003_1), (x123004_1), (x123005_1), (x123006_1), (x128001_1), (1), (x128004_1), (x128005_1), (x128006_1), (by first | rfl | (simp; done) | (simp [*]; done)), H', ⟨by have := HK1.out; first | omega | exact Nat.le_refl _⟩, ⟨by (with_reducible repeat (first | apply Kd.R_alloc | apply Kd.R_drewN | apply Kd.R_drew)); exact Kd.R_mono (Kd.R_far (p := ⟨gb127, 3, none⟩) (Kd.R_types HO_22.out BK127.out (by decide)) (fun _ hk => hk.2) (.int .u8 1)) (fun _ hk => trivial)⟩, ⟨by (with_reducible repeat (first | refine blk_drewN ?_ _ | refine blk_drew ?_ | refine blk_alloc ?_ _)); refine blk_far ?_ NB122_127.out _; (with_reducible repeat (first | refine blk_drewN ?_ _ | refine blk_drew ?_ | refine blk_alloc ?_ _)); exact BK122.out⟩, ⟨by (with_reducible repeat (first | refine blk_drewN ?_ _ | refine blk_drew ?_ | refine blk_alloc ?_ _)); refine blk_put (cs := #[.int .i32 x128000_1, .int .i32 x128001_1, .int .i32 x128002_1, .int .u8 x128003_1, .int .u8 x128004_1, .int .u8 x128005_1, .bool x128006_1]) ?_ 3 _ rfl; (with_reducible repeat (first | refine blk_drewN ?_ _ | refine blk_drew ?_ | refine blk_alloc ?_ _)); exact BK127.out⟩, ⟨by repeat (first | (with_reducible first | exact HB.out | apply below_alloc | apply pw_below_drewN | apply below_drew1 | refine below_set ?_ GE122.out | refine below_set ?_ GE127.out) | exact HB.out)⟩⟩
                · rw [if_neg c12] at H
                  have c12b0 : ((rdOf ByteArray.empty t123 x24_1).toList == ([98, 111, 108, 100] : List UInt8)) = false := beq_eq_false_iff_ne.mpr c12
                  have c12b1 : ((rdOf ByteArray.empty t123 x24_1).toList != ([98, 111, 108, 100] : List UInt8)) = true := bne_iff_ne.mpr c12
                  (try (have c12b2 := c12b0; simp only [ByteArray.size_extract, Nat.min_self] at c12b2)); (first | rw [c12b0] | (simp only [i64_w, i32_w]; rw [c12b0]) | rw [c12b1] | skip)
                  by_cases c15 : (rdOf ByteArray.empty t123 x24_1).toList = ([110, 111, 98, 111, 108, 100] : List UInt8)
                  · rw [if_pos c15] at H
                    have c15b0 : ((rdOf ByteArray.empty t123 x24_1).toList == ([110, 111, 98, 111, 108, 100] : List UInt8)) = true := beq_iff_eq.mpr c15
                    have c15b1 : ((rdOf ByteArray.empty t123 x24_1).toList != ([110, 111, 98, 111, 108, 100] : List UInt8)) = false := bne_eq_false_iff_eq.mpr c15
                    clear c15
                    have H' := Aside0.mk H
                    clear H
                    have hnb16 := NB127_122.out
                    have hnc16 := NB122_127.out
                    have hcz17_0 : wr.cell? ⟨gb127, 0, none⟩ = some (.int .i32 x128000_1) := (blk_cell BK127.out 0).trans rfl
                    have hcz17_1 : wr.cell? ⟨gb127, 1, none⟩ = some (.int .i32 x128001_1) := (blk_cell BK127.out 1).trans rfl
                    have hcz17_2 : wr.cell? ⟨gb127, 2, none⟩ = some (.int .i32 x128002_1) := (blk_cell BK127.out 2).trans rfl
                    have hcz17_3 : wr.cell? ⟨gb127, 3, none⟩ = some (.int .u8 x128003_1) := (blk_cell BK127.out 3).trans rfl
                    have hcz17_4 : wr.cell? ⟨gb127, 4, none⟩ = some (.int .u8 x128004_1) := (blk_cell BK127.out 4).trans rfl
                    have hcz17_5 : wr.cell? ⟨gb127, 5, none⟩ = some (.int .u8 x128005_1) := (blk_cell BK127.out 5).trans rfl
                    have hcz17_6 : wr.cell? ⟨gb127, 6, none⟩ = some (.bool x128006_1) := (blk_cell BK127.out 6).trans rfl
                    have hfz17_0 := blk_frozen BK127.out 0
                    have hfz17_1 := blk_frozen BK127.out 1
                    have hfz17_2 := blk_frozen BK127.out 2
                    have hfz17_3 := blk_frozen BK127.out 3
                    have hfz17_4 := blk_frozen BK127.out 4
                    have hfz17_5 := blk_frozen BK127.out 5
                    have hfz17_6 := blk_frozen BK127.out 6
                    go_wp2
                    go_meet
                    case rel => exact ⟨_, ((-1)), (x123000_1), (x123001_1), (x123002_1), (x123003_1), (x123004_1), (x123005_1), (x123006_1), (x128001_1), (2), (x128004_1), (x128005_1), (x128006_1), (by first | rfl | (simp; done) | (simp [*]; done)), H', ⟨by have := HK1.out; first | omega | exact Nat.le_refl _⟩, ⟨by (with_reducible repeat (first | apply Kd.R_alloc | apply Kd.R_drewN | apply Kd.R_drew)); exact Kd.R_mono (Kd.R_far (p := ⟨gb127, 3, none⟩) (Kd.R_types HO_22.out BK127.out (by decide)) (fun _ hk => hk.2) (.int .u8 2)) (fun _ hk => trivial)⟩, ⟨by (with_reducible repeat (first | refine blk_drewN ?_ _ | refine blk_drew ?_ | refine blk_alloc ?_ _)); refine blk_far ?_ NB122_127.out _; (with_reducible repeat (first | refine blk_drewN ?_ _ | refine blk_drew ?_ | refine blk_alloc ?_ _)); exact BK122.out⟩, ⟨by (with_reducible repeat (first | refine blk_drewN ?_ _ | refine blk_drew ?_ | refine blk_alloc ?_ _)); refine blk_put (cs := #[.int .i32 x128000_1, .int .i32 x128001_1, .int .i32 x128002_1, .int .u8 x128003_1, .int .u8 x128004_1, .int .u8 x128005_1, .bool x128006_1]) ?_ 3 _ rfl; (with_reducible repeat (first | refine blk_drewN ?_ _ | refine blk_drew ?_ | refine blk_alloc ?_ _)); exact BK127.out⟩, ⟨by repeat (first | (with_reducible first | exact HB.out | apply below_alloc | apply pw_below_drewN | apply below_drew1 | refine below_set ?_ GE122.out | refine below_set ?_ GE127.out) | exact HB.out)⟩⟩
                  · rw [if_neg c15] at H
                    have c15b0 : ((rdOf ByteArray.empty t123 x24_1).toList == ([110, 111, 98, 111, 108, 100] : List UInt8)) = false := beq_eq_false_iff_ne.mpr c15
                    have c15b1 : ((rdOf ByteArray.empty t123 x24_1).toList != ([110, 111, 98, 111, 108, 100] : List UInt8)) = true := bne_iff_ne.mpr c15
                    by_cases c18 : (rdOf ByteArray.empty t123 x24_1).toList = ([105, 116, 97, 108, 105, 99] : List UInt8)
                    · rw [if_pos c18] at H
                      have c18b0 : ((rdOf ByteArray.empty t123 x24_1).toList == ([105, 116, 97, 108, 105, 99] : List UInt8)) = true := beq_iff_eq.mpr c18
                      have c18b1 : ((rdOf ByteArray.empty t123 x24_1).toList != ([105, 116, 97, 108, 105, 99] : List UInt8)) = false := bne_eq_false_iff_eq.mpr c18
                      clear c18
                      have H' := Aside0.mk H
                      clear H
                      have hnb19 := NB127_122.out
                      have hnc19 := NB122_127.out
                      have hcz20_0 : wr.cell? ⟨gb127, 0, none⟩ = some (.int .i32 x128000_1) := (blk_cell BK127.out 0).trans rfl
                      have hcz20_1 : wr.cell? ⟨gb127, 1, none⟩ = some (.int .i32 x128001_1) := (blk_cell BK127.out 1).trans rfl
                      have hcz20_2 : wr.cell? ⟨gb127, 2, none⟩ = some (.int .i32 x128002_1) := (blk_cell BK127.out 2).trans rfl
                      have hcz20_3 : wr.cell? ⟨gb127, 3, none⟩ = some (.int .u8 x128003_1) := (blk_cell BK127.out 3).trans rfl
                      have hcz20_4 : wr.cell? ⟨gb127, 4, none⟩ = some (.int .u8 x128004_1) := (blk_cell BK127.out 4).trans rfl
                      have hcz20_5 : wr.cell? ⟨gb127, 5, none⟩ = some (.int .u8 x128005_1) := (blk_cell BK127.out 5).trans rfl
                      have hcz20_6 : wr.cell? ⟨gb127, 6, none⟩ = some (.bool x128006_1) := (blk_cell BK127.out 6).trans rfl
                      have hfz20_0 := blk_frozen BK127.out 0
                      have hfz20_1 := blk_frozen BK127.out 1
                      have hfz20_2 := blk_frozen BK127.out 2
                      have hfz20_3 := blk_frozen BK127.out 3
                      have hfz20_4 := blk_frozen BK127.out 4
                      have hfz20_5 := blk_frozen BK127.out 5
                      have hfz20_6 := blk_frozen BK127.out 6
                      go_wp2
                      go_meet
                      case rel => exact ⟨_, ((-1)), (x123000_1), (x123001_1), (x123002_1), (x123003_1), (x123004_1), (x123005_1), (x123006_1), (x128001_1), (x128003_1), (1), (x128005_1), (x128006_1), (by first | rfl | (simp; done) | (simp [*]; done)), H', ⟨by have := HK1.out; first | omega | exact Nat.le_refl _⟩, ⟨by (with_reducible repeat (first | apply Kd.R_alloc | apply Kd.R_drewN | apply Kd.R_drew)); exact Kd.R_mono (Kd.R_far (p := ⟨gb127, 4, none⟩) (Kd.R_types HO_22.out BK127.out (by decide)) (fun _ hk => hk.2) (.int .u8 1)) (fun _ hk => trivial)⟩, ⟨by (with_reducible repeat (first | refine blk_drewN ?_ _ | refine blk_drew ?_ | refine blk_alloc ?_ _)); refine blk_far ?_ NB122_127.out _; (with_reducible repeat (first | refine blk_drewN ?_ _ | refine blk_drew ?_ | refine blk_alloc ?_ _)); exact BK122.out⟩, ⟨by (with_reducible repeat (first | refine blk_drewN ?_ _ | refine blk_drew ?_ | refine blk_alloc ?_ _)); refine blk_put (cs := #[.int .i32 x128000_1, .int .i32 x128001_1, .int .i32 x128002_1, .int .u8 x128003_1, .int .u8 x128004_1, .int .u8 x128005_1, .bool x128006_1]) ?_ 4 _ rfl; (with_reducible repeat (first | refine blk_drewN ?_ _ | refine blk_drew ?_ | refine blk_alloc ?_ _)); exact BK127.out⟩, ⟨by repeat (first | (with_reducible first | exact HB.out | apply below_alloc | apply pw_below_drewN | apply below_drew1 | refine below_set ?_ GE122.out | refine below_set ?_ GE127.out) | exact HB.out)⟩⟩
                    · rw [if_neg c18] at H
                      have c18b0 : ((rdOf ByteArray.empty t123 x24_1).toList == ([105, 116, 97, 108, 105, 99] : List UInt8)) = false := beq_eq_false_iff_ne.mpr c18
                      have c18b1 : ((rdOf ByteArray.empty t123 x24_1).toList != ([105, 116, 97, 108, 105, 99] : List UInt8)) = true := bne_iff_ne.mpr c18
                      by_cases c21 : (rdOf ByteArray.empty t123 x24_1).toList = ([110, 111, 105, 116, 97, 108, 105, 99] : List UInt8)
                      · rw [if_pos c21] at H
                        have c21b0 : ((rdOf ByteArray.empty t123 x24_1).toList == ([110, 111, 105, 116, 97, 108, 105, 99] : List UInt8)) = true := beq_iff_eq.mpr c21
                        have c21b1 : ((rdOf ByteArray.empty t123 x24_1).toList != ([110, 111, 105, 116, 97, 108, 105, 99] : List UInt8)) = false := bne_eq_false_iff_eq.mpr c21
                        clear c21
                        have H' := Aside0.mk H
                        clear H
                        have hnb22 := NB127_122.out
                        have hnc22 := NB122_127.out
                        have hcz23_0 : wr.cell? ⟨gb127, 0, none⟩ = some (.int .i32 x128000_1) := (blk_cell BK127.out 0).trans rfl
                        have hcz23_1 : wr.cell? ⟨gb127, 1, none⟩ = some (.int .i32 x128001_1) := (blk_cell BK127.out 1).trans rfl
                        have hcz23_2 : wr.cell? ⟨gb127, 2, none⟩ = some (.int .i32 x128002_1) := (blk_cell BK127.out 2).trans rfl
                        have hcz23_3 : wr.cell? ⟨gb127, 3, none⟩ = some (.int .u8 x128003_1) := (blk_cell BK127.out 3).trans rfl
                        have hcz23_4 : wr.cell? ⟨gb127, 4, none⟩ = some (.int .u8 x128004_1) := (blk_cell BK127.out 4).trans rfl
                        have hcz23_5 : wr.cell? ⟨gb127, 5, none⟩ = some (.int .u8 x128005_1) := (blk_cell BK127.out 5).trans rfl
                        have hcz23_6 : wr.cell? ⟨gb127, 6, none⟩ = some (.bool x128006_1) := (blk_cell BK127.out 6).trans rfl
                        have hfz23_0 := blk_frozen BK127.out 0
                        have hfz23_1 := blk_frozen BK127.out 1
                        have hfz23_2 := blk_frozen BK127.out 2
                        have hfz23_3 := blk_frozen BK127.out 3
                        have hfz23_4 := blk_frozen BK127.out 4
                        have hfz23_5 := blk_frozen BK127.out 5
                        have hfz23_6 := blk_frozen BK127.out 6
                        go_wp2
                        go_meet
                        case rel => exact ⟨_, ((-1)), (x123000_1), (x123001_1), (x123002_1), (x123003_1), (x123004_1), (x123005_1), (x123006_1), (x128001_1), (x128003_1), (2), (x128005_1), (x128006_1), (by first | rfl | (simp; done) | (simp [*]; done)), H', ⟨by have := HK1.out; first | omega | exact Nat.le_refl _⟩, ⟨by (with_reducible repeat (first | apply Kd.R_alloc | apply Kd.R_drewN | apply Kd.R_drew)); exact Kd.R_mono (Kd.R_far (p := ⟨gb127, 4, none⟩) (Kd.R_types HO_22.out BK127.out (by decide)) (fun _ hk => hk.2) (.int .u8 2)) (fun _ hk => trivial)⟩, ⟨by (with_reducible repeat (first | refine blk_drewN ?_ _ | refine blk_drew ?_ | refine blk_alloc ?_ _)); refine blk_far ?_ NB122_127.out _; (with_reducible repeat (first | refine blk_drewN ?_ _ | refine blk_drew ?_ | refine blk_alloc ?_ _)); exact BK122.out⟩, ⟨by (with_reducible repeat (first | refine blk_drewN ?_ _ | refine blk_drew ?_ | refine blk_alloc ?_ _)); refine blk_put (cs := #[.int .i32 x128000_1, .int .i32 x128001_1, .int .i32 x128002_1, .int .u8 x128003_1, .int .u8 x128004_1, .int .u8 x128005_1, .bool x128006_1]) ?_ 4 _ rfl; (with_reducible repeat (first | refine blk_drewN ?_ _ | refine blk_drew ?_ | refine blk_alloc ?_ _)); exact BK127.out⟩, ⟨by repeat (first | (with_reducible first | exact HB.out | apply below_alloc | apply pw_below_drewN | apply below_drew1 | refine below_set ?_ GE122.out | refine below_set ?_ GE127.out) | exact HB.out)⟩⟩
                      · rw [if_neg c21] at H
                        have c21b0 : ((rdOf ByteArray.empty t123 x24_1).toList == ([110, 111, 105, 116, 97, 108, 105, 99] : List UInt8)) = false := beq_eq_false_iff_ne.mpr c21
                        have c21b1 : ((rdOf ByteArray.empty t123 x24_1).toList != ([110, 111, 105, 116, 97, 108, 105, 99] : List UInt8)) = true := bne_iff_ne.mpr c21
                        by_cases c24 : (rdOf ByteArray.empty t123 x24_1).toList = ([117, 110, 100, 101, 114, 108, 105, 110, 101] : List UInt8)
                        · rw [if_pos c24] at H
                          have c24b0 : ((rdOf ByteArray.empty t123 x24_1).toList == ([117, 110, 100, 101, 114, 108, 105, 110, 101] : List UInt8)) = true := beq_iff_eq.mpr c24
                          have c24b1 : ((rdOf ByteArray.empty t123 x24_1).toList != ([117, 110, 100, 101, 114, 108, 105, 110, 101] : List UInt8)) = false := bne_eq_false_iff_eq.mpr c24
                          clear c24
                          have H' := Aside0.mk H
                          clear H
                          have hnb25 := NB127_122.out
                          have hnc25 := NB122_127.out
                          have hcz26_0 : wr.cell? ⟨gb127, 0, none⟩ = some (.int .i32 x128000_1) := (blk_cell BK127.out 0).trans rfl
                          have hcz26_1 : wr.cell? ⟨gb127, 1, none⟩ = some (.int .i32 x128001_1) := (blk_cell BK127.out 1).trans rfl
                          have hcz26_2 : wr.cell? ⟨gb127, 2, none⟩ = some (.int .i32 x128002_1) := (blk_cell BK127.out 2).trans rfl
                          have hcz26_3 : wr.cell? ⟨gb127, 3, none⟩ = some (.int .u8 x128003_1) := (blk_cell BK127.out 3).trans rfl
                          have hcz26_4 : wr.cell? ⟨gb127, 4, none⟩ = some (.int .u8 x128004_1) := (blk_cell BK127.out 4).trans rfl
                          have hcz26_5 : wr.cell? ⟨gb127, 5, none⟩ = some (.int .u8 x128005_1) := (blk_cell BK127.out 5).trans rfl
                          have hcz26_6 : wr.cell? ⟨gb127, 6, none⟩ = some (.bool x128006_1) := (blk_cell BK127.out 6).trans rfl
                          have hfz26_0 := blk_frozen BK127.out 0
                          have hfz26_1 := blk_frozen BK127.out 1
                          have hfz26_2 := blk_frozen BK127.out 2
                          have hfz26_3 := blk_frozen BK127.out 3
                          have hfz26_4 := blk_frozen BK127.out 4
                          have hfz26_5 := blk_frozen BK127.out 5
                          have hfz26_6 := blk_frozen BK127.out 6
                          go_wp2
                          go_meet
                          case rel => exact ⟨_, ((-1)), (x123000_1), (x123001_1), (x123002_1), (x123003_1), (x123004_1), (x123005_1), (x123006_1), (x128001_1), (x128003_1), (x128004_1), (1), (x128006_1), (by first | rfl | (simp; done) | (simp [*]; done)), H', ⟨by have := HK1.out; first | omega | exact Nat.le_refl _⟩, ⟨by (with_reducible repeat (first | apply Kd.R_alloc | apply Kd.R_drewN | apply Kd.R_drew)); exact Kd.R_mono (Kd.R_far (p := ⟨gb127, 5, none⟩) (Kd.R_types HO_22.out BK127.out (by decide)) (fun _ hk => hk.2) (.int .u8 1)) (fun _ hk => trivial)⟩, ⟨by (with_reducible repeat (first | refine blk_drewN ?_ _ | refine blk_drew ?_ | refine blk_alloc ?_ _)); refine blk_far ?_ NB122_127.out _; (with_reducible repeat (first | refine blk_drewN ?_ _ | refine blk_drew ?_ | refine blk_alloc ?_ _)); exact BK122.out⟩, ⟨by (with_reducible repeat (first | refine blk_drewN ?_ _ | refine blk_drew ?_ | refine blk_alloc ?_ _)); refine blk_put (cs := #[.int .i32 x128000_1, .int .i32 x128001_1, .int .i32 x128002_1, .int .u8 x128003_1, .int .u8 x128004_1, .int .u8 x128005_1, .bool x128006_1]) ?_ 5 _ rfl; (with_reducible repeat (first | refine blk_drewN ?_ _ | refine blk_drew ?_ | refine blk_alloc ?_ _)); exact BK127.out⟩, ⟨by repeat (first | (with_reducible first | exact HB.out | apply below_alloc | apply pw_below_drewN | apply below_drew1 | refine below_set ?_ GE122.out | refine below_set ?_ GE127.out) | exact HB.out)⟩⟩
                        · rw [if_neg c24] at H
                          have c24b0 : ((rdOf ByteArray.empty t123 x24_1).toList == ([117, 110, 100, 101, 114, 108, 105, 110, 101] : List UInt8)) = false := beq_eq_false_iff_ne.mpr c24
                          have c24b1 : ((rdOf ByteArray.empty t123 x24_1).toList != ([117, 110, 100, 101, 114, 108, 105, 110, 101] : List UInt8)) = true := bne_iff_ne.mpr c24
                          by_cases c27 : (rdOf ByteArray.empty t123 x24_1).toList = ([110, 111, 117, 110, 100, 101, 114, 108, 105, 110, 101] : List UInt8)
                          · rw [if_pos c27] at H
                            have c27b0 : ((rdOf ByteArray.empty t123 x24_1).toList == ([110, 111, 117, 110, 100, 101, 114, 108, 105, 110, 101] : List UInt8)) = true := beq_iff_eq.mpr c27
                            have c27b1 : ((rdOf ByteArray.empty t123 x24_1).toList != ([110, 111, 117, 110, 100, 101, 114, 108, 105, 110, 101] : List UInt8)) = false := bne_eq_false_iff_eq.mpr c27
                            clear c27
                            have H' := Aside0.mk H
                            clear H
                            have hnb28 := NB127_122.out
                            have hnc28 := NB122_127.out
                            have hcz29_0 : wr.cell? ⟨gb127, 0, none⟩ = some (.int .i32 x128000_1) := (blk_cell BK127.out 0).trans rfl
                            have hcz29_1 : wr.cell? ⟨gb127, 1, none⟩ = some (.int .i32 x128001_1) := (blk_cell BK127.out 1).trans rfl
                            have hcz29_2 : wr.cell? ⟨gb127, 2, none⟩ = some (.int .i32 x128002_1) := (blk_cell BK127.out 2).trans rfl
                            have hcz29_3 : wr.cell? ⟨gb127, 3, none⟩ = some (.int .u8 x128003_1) := (blk_cell BK127.out 3).trans rfl
                            have hcz29_4 : wr.cell? ⟨gb127, 4, none⟩ = some (.int .u8 x128004_1) := (blk_cell BK127.out 4).trans rfl
                            have hcz29_5 : wr.cell? ⟨gb127, 5, none⟩ = some (.int .u8 x128005_1) := (blk_cell BK127.out 5).trans rfl
                            have hcz29_6 : wr.cell? ⟨gb127, 6, none⟩ = some (.bool x128006_1) := (blk_cell BK127.out 6).trans rfl
                            have hfz29_0 := blk_frozen BK127.out 0
                            have hfz29_1 := blk_frozen BK127.out 1
                            have hfz29_2 := blk_frozen BK127.out 2
                            have hfz29_3 := blk_frozen BK127.out 3
                            have hfz29_4 := blk_frozen BK127.out 4
                            have hfz29_5 := blk_frozen BK127.out 5
                            have hfz29_6 := blk_frozen BK127.out 6
                            go_wp2
                            go_meet
                            case rel => exact ⟨_, ((-1)), (x123000_1), (x123001_1), (x123002_1), (x123003_1), (x123004_1), (x123005_1), (x123006_1), (x128001_1), (x128003_1), (x128004_1), (2), (x128006_1), (by first | rfl | (simp; done) | (simp [*]; done)), H', ⟨by have := HK1.out; first | omega | exact Nat.le_refl _⟩, ⟨by (with_reducible repeat (first | apply Kd.R_alloc | apply Kd.R_drewN | apply Kd.R_drew)); exact Kd.R_mono (Kd.R_far (p := ⟨gb127, 5, none⟩) (Kd.R_types HO_22.out BK127.out (by decide)) (fun _ hk => hk.2) (.int .u8 2)) (fun _ hk => trivial)⟩, ⟨by (with_reducible repeat (first | refine blk_drewN ?_ _ | refine blk_drew ?_ | refine blk_alloc ?_ _)); refine blk_far ?_ NB122_127.out _; (with_reducible repeat (first | refine blk_drewN ?_ _ | refine blk_drew ?_ | refine blk_alloc ?_ _)); exact BK122.out⟩, ⟨by (with_reducible repeat (first | refine blk_drewN ?_ _ | refine blk_drew ?_ | refine blk_alloc ?_ _)); refine blk_put (cs := #[.int .i32 x128000_1, .int .i32 x128001_1, .int .i32 x128002_1, .int .u8 x128003_1, .int .u8 x128004_1, .int .u8 x128005_1, .bool x128006_1]) ?_ 5 _ rfl; (with_reducible repeat (first | refine blk_drewN ?_ _ | refine blk_drew ?_ | refine blk_alloc ?_ _)); exact BK127.out⟩, ⟨by repeat (first | (with_reducible first | exact HB.out | apply below_alloc | apply pw_below_drewN | apply below_drew1 | refine below_set ?_ GE122.out | refine below_set ?_ GE127.out) | exact HB.out)⟩⟩
                          · rw [if_neg c27] at H
                            have c27b0 : ((rdOf ByteArray.empty t123 x24_1).toList == ([110, 111, 117, 110, 100, 101, 114, 108, 105, 110, 101] : List UInt8)) = false := beq_eq_false_iff_ne.mpr c27
                            have c27b1 : ((rdOf ByteArray.empty t123 x24_1).toList != ([110, 111, 117, 110, 100, 101, 114, 108, 105, 110, 101] : List UInt8)) = true := bne_iff_ne.mpr c27
                            by_cases c30 : (rdOf ByteArray.empty t123 x24_1).toList = ([105, 110, 104, 101, 114, 105, 116] : List UInt8)
                            · rw [if_pos c30] at H
                              have c30b0 : ((rdOf ByteArray.empty t123 x24_1).toList == ([105, 110, 104, 101, 114, 105, 116] : List UInt8)) = true := beq_iff_eq.mpr c30
                              have c30b1 : ((rdOf ByteArray.empty t123 x24_1).toList != ([105, 110, 104, 101, 114, 105, 116] : List UInt8)) = false := bne_eq_false_iff_eq.mpr c30
                              clear c30
                              have H' := Aside0.mk H
                              clear H
                              have hnb31 := NB127_122.out
                              have hnc31 := NB122_127.out
                              have hcz32_0 : wr.cell? ⟨gb127, 0, none⟩ = some (.int .i32 x128000_1) := (blk_cell BK127.out 0).trans rfl
                              have hcz32_1 : wr.cell? ⟨gb127, 1, none⟩ = some (.int .i32 x128001_1) := (blk_cell BK127.out 1).trans rfl
                              have hcz32_2 : wr.cell? ⟨gb127, 2, none⟩ = some (.int .i32 x128002_1) := (blk_cell BK127.out 2).trans rfl
                              have hcz32_3 : wr.cell? ⟨gb127, 3, none⟩ = some (.int .u8 x128003_1) := (blk_cell BK127.out 3).trans rfl
                              have hcz32_4 : wr.cell? ⟨gb127, 4, none⟩ = some (.int .u8 x128004_1) := (blk_cell BK127.out 4).trans rfl
                              have hcz32_5 : wr.cell? ⟨gb127, 5, none⟩ = some (.int .u8 x128005_1) := (blk_cell BK127.out 5).trans rfl
                              have hcz32_6 : wr.cell? ⟨gb127, 6, none⟩ = some (.bool x128006_1) := (blk_cell BK127.out 6).trans rfl
                              have hfz32_0 := blk_frozen BK127.out 0
                              have hfz32_1 := blk_frozen BK127.out 1
                              have hfz32_2 := blk_frozen BK127.out 2
                              have hfz32_3 := blk_frozen BK127.out 3
                              have hfz32_4 := blk_frozen BK127.out 4
                              have hfz32_5 := blk_frozen BK127.out 5
                              have hfz32_6 := blk_frozen BK127.out 6
                              go_wp2
                              go_meet
                              case rel => exact ⟨_, ((-1)), (x123000_1), (x123001_1), (x123002_1), (x123003_1), (x123004_1), (x123005_1), (x123006_1), (x128001_1), (x128003_1), (x128004_1), (x128005_1), (false), (by first | rfl | (simp; done) | (simp [*]; done)), H', ⟨by have := HK1.out; first | omega | exact Nat.le_refl _⟩, ⟨by (with_reducible repeat (first | apply Kd.R_alloc | apply Kd.R_drewN | apply Kd.R_drew)); exact Kd.R_mono (Kd.R_far (p := ⟨gb127, 6, none⟩) (Kd.R_types HO_22.out BK127.out (by decide)) (fun _ hk => hk.2) (.bool false)) (fun _ hk => trivial)⟩, ⟨by (with_reducible repeat (first | refine blk_drewN ?_ _ | refine blk_drew ?_ | refine blk_alloc ?_ _)); refine blk_far ?_ NB122_127.out _; (with_reducible repeat (first | refine blk_drewN ?_ _ | refine blk_drew ?_ | refine blk_alloc ?_ _)); exact BK122.out⟩, ⟨by (with_reducible repeat (first | refine blk_drewN ?_ _ | refine blk_drew ?_ | refine blk_alloc ?_ _)); refine blk_put (cs := #[.int .i32 x128000_1, .int .i32 x128001_1, .int .i32 x128002_1, .int .u8 x128003_1, .int .u8 x128004_1, .int .u8 x128005_1, .bool x128006_1]) ?_ 6 _ rfl; (with_reducible repeat (first | refine blk_drewN ?_ _ | refine blk_drew ?_ | refine blk_alloc ?_ _)); exact BK127.out⟩, ⟨by repeat (first | (with_reducible first | exact HB.out | apply below_alloc | apply pw_below_drewN | apply below_drew1 | refine below_set ?_ GE122.out | refine below_set ?_ GE127.out) | exact HB.out)⟩⟩
                            · rw [if_neg c30] at H
                              have c30b0 : ((rdOf ByteArray.empty t123 x24_1).toList == ([105, 110, 104, 101, 114, 105, 116] : List UInt8)) = false := beq_eq_false_iff_ne.mpr c30
                              have c30b1 : ((rdOf ByteArray.empty t123 x24_1).toList != ([105, 110, 104, 101, 114, 105, 116] : List UInt8)) = true := bne_iff_ne.mpr c30
                              by_cases c33 : (rdOf ByteArray.empty t123 x24_1).toList = ([110, 111, 105, 110, 104, 101, 114, 105, 116] : List UInt8)
                              · rw [if_pos c33] at H
                                have c33b0 : ((rdOf ByteArray.empty t123 x24_1).toList == ([110, 111, 105, 110, 104, 101, 114, 105, 116] : List UInt8)) = true := beq_iff_eq.mpr c33
                                have c33b1 : ((rdOf ByteArray.empty t123 x24_1).toList != ([110, 111, 105, 110, 104, 101, 114, 105, 116] : List UInt8)) = false := bne_eq_false_iff_eq.mpr c33
                                clear c33
                                have H' := Aside0.mk H
                                clear H
                                have hnb34 := NB127_122.out
                                have hnc34 := NB122_127.out
                                have hcz35_0 : wr.cell? ⟨gb127, 0, none⟩ = some (.int .i32 x128000_1) := (blk_cell BK127.out 0).trans rfl
                                have hcz35_1 : wr.cell? ⟨gb127, 1, none⟩ = some (.int .i32 x128001_1) := (blk_cell BK127.out 1).trans rfl
                                have hcz35_2 : wr.cell? ⟨gb127, 2, none⟩ = some (.int .i32 x128002_1) := (blk_cell BK127.out 2).trans rfl
                                have hcz35_3 : wr.cell? ⟨gb127, 3, none⟩ = some (.int .u8 x128003_1) := (blk_cell BK127.out 3).trans rfl
                                have hcz35_4 : wr.cell? ⟨gb127, 4, none⟩ = some (.int .u8 x128004_1) := (blk_cell BK127.out 4).trans rfl
                                have hcz35_5 : wr.cell? ⟨gb127, 5, none⟩ = some (.int .u8 x128005_1) := (blk_cell BK127.out 5).trans rfl
                                have hcz35_6 : wr.cell? ⟨gb127, 6, none⟩ = some (.bool x128006_1) := (blk_cell BK127.out 6).trans rfl
                                have hfz35_0 := blk_frozen BK127.out 0
                                have hfz35_1 := blk_frozen BK127.out 1
                                have hfz35_2 := blk_frozen BK127.out 2
                                have hfz35_3 := blk_frozen BK127.out 3
                                have hfz35_4 := blk_frozen BK127.out 4
                                have hfz35_5 := blk_frozen BK127.out 5
                                have hfz35_6 := blk_frozen BK127.out 6
                                go_wp2
                                go_meet
                                case rel => exact ⟨_, ((-1)), (x123000_1), (x123001_1), (x123002_1), (x123003_1), (x123004_1), (x123005_1), (x123006_1), (x128001_1), (x128003_1), (x128004_1), (x128005_1), (true), (by first | rfl | (simp; done) | (simp [*]; done)), H', ⟨by have := HK1.out; first | omega | exact Nat.le_refl _⟩, ⟨by (with_reducible repeat (first | apply Kd.R_alloc | apply Kd.R_drewN | apply Kd.R_drew)); exact Kd.R_mono (Kd.R_far (p := ⟨gb127, 6, none⟩) (Kd.R_types HO_22.out BK127.out (by decide)) (fun _ hk => hk.2) (.bool true)) (fun _ hk => trivial)⟩, ⟨by (with_reducible repeat (first | refine blk_drewN ?_ _ | refine blk_drew ?_ | refine blk_alloc ?_ _)); refine blk_far ?_ NB122_127.out _; (with_reducible repeat (first | refine blk_drewN ?_ _ | refine blk_drew ?_ | refine blk_alloc ?_ _)); exact BK122.out⟩, ⟨by (with_reducible repeat (first | refine blk_drewN ?_ _ | refine blk_drew ?_ | refine blk_alloc ?_ _)); refine blk_put (cs := #[.int .i32 x128000_1, .int .i32 x128001_1, .int .i32 x128002_1, .int .u8 x128003_1, .int .u8 x128004_1, .int .u8 x128005_1, .bool x128006_1]) ?_ 6 _ rfl; (with_reducible repeat (first | refine blk_drewN ?_ _ | refine blk_drew ?_ | refine blk_alloc ?_ _)); exact BK127.out⟩, ⟨by repeat (first | (with_reducible first | exact HB.out | apply below_alloc | apply pw_below_drewN | apply below_drew1 | refine below_set ?_ GE122.out | refine below_set ?_ GE127.out) | exact HB.out)⟩⟩
                              · rw [if_neg c33] at H
                                have c33b0 : ((rdOf ByteArray.empty t123 x24_1).toList == ([110, 111, 105, 110, 104, 101, 114, 105, 116] : List UInt8)) = false := beq_eq_false_iff_ne.mpr c33
                                have c33b1 : ((rdOf ByteArray.empty t123 x24_1).toList != ([110, 111, 105, 110, 104, 101, 114, 105, 116] : List UInt8)) = true := bne_iff_ne.mpr c33
                                by_cases c36 : (rdOf ByteArray.empty t123 x24_1).toList = ([98, 103, 58] : List UInt8)
                                · rw [if_pos c36] at H
                                  have c36b0 : ((rdOf ByteArray.empty t123 x24_1).toList == ([98, 103, 58] : List UInt8)) = true := beq_iff_eq.mpr c36
                                  have c36b1 : ((rdOf ByteArray.empty t123 x24_1).toList != ([98, 103, 58] : List UInt8)) = false := bne_eq_false_iff_eq.mpr c36
                                  clear c36
                                  have H' := Aside0.mk H
                                  clear H
                                  have hnb37 := NB127_122.out
                                  have hnc37 := NB122_127.out
                                  have hcz38_0 : wr.cell? ⟨gb127, 0, none⟩ = some (.int .i32 x128000_1) := (blk_cell BK127.out 0).trans rfl
                                  have hcz38_1 : wr.cell? ⟨gb127, 1, none⟩ = some (.int .i32 x128001_1) := (blk_cell BK127.out 1).trans rfl
                                  have hcz38_2 : wr.cell? ⟨gb127, 2, none⟩ = some (.int .i32 x128002_1) := (blk_cell BK127.out 2).trans rfl
                                  have hcz38_3 : wr.cell? ⟨gb127, 3, none⟩ = some (.int .u8 x128003_1) := (blk_cell BK127.out 3).trans rfl
                                  have hcz38_4 : wr.cell? ⟨gb127, 4, none⟩ = some (.int .u8 x128004_1) := (blk_cell BK127.out 4).trans rfl
                                  have hcz38_5 : wr.cell? ⟨gb127, 5, none⟩ = some (.int .u8 x128005_1) := (blk_cell BK127.out 5).trans rfl
                                  have hcz38_6 : wr.cell? ⟨gb127, 6, none⟩ = some (.bool x128006_1) := (blk_cell BK127.out 6).trans rfl
                                  have hfz38_0 := blk_frozen BK127.out 0
                                  have hfz38_1 := blk_frozen BK127.out 1
                                  have hfz38_2 := blk_frozen BK127.out 2
                                  have hfz38_3 := blk_frozen BK127.out 3
                                  have hfz38_4 := blk_frozen BK127.out 4
                                  have hfz38_5 := blk_frozen BK127.out 5
                                  have hfz38_6 := blk_frozen BK127.out 6
                                  go_wp2
                                  go_meet
                                  case rel => exact ⟨_, ((-1)), (x123000_1), (x123001_1), (x123002_1), (x123003_1), (x123004_1), (x123005_1), (x123006_1), (0), (x128003_1), (x128004_1), (x128005_1), (x128006_1), (by first | rfl | (simp; done) | (simp [*]; done)), H', ⟨by have := HK1.out; first | omega | exact Nat.le_refl _⟩, ⟨by (with_reducible repeat (first | apply Kd.R_alloc | apply Kd.R_drewN | apply Kd.R_drew)); exact Kd.R_mono (Kd.R_far (p := ⟨gb127, 1, none⟩) (Kd.R_types HO_22.out BK127.out (by decide)) (fun _ hk => hk.2) (.int .i32 0)) (fun _ hk => trivial)⟩, ⟨by (with_reducible repeat (first | refine blk_drewN ?_ _ | refine blk_drew ?_ | refine blk_alloc ?_ _)); refine blk_far ?_ NB122_127.out _; (with_reducible repeat (first | refine blk_drewN ?_ _ | refine blk_drew ?_ | refine blk_alloc ?_ _)); exact BK122.out⟩, ⟨by (with_reducible repeat (first | refine blk_drewN ?_ _ | refine blk_drew ?_ | refine blk_alloc ?_ _)); refine blk_put (cs := #[.int .i32 x128000_1, .int .i32 x128001_1, .int .i32 x128002_1, .int .u8 x128003_1, .int .u8 x128004_1, .int .u8 x128005_1, .bool x128006_1]) ?_ 1 _ rfl; (with_reducible repeat (first | refine blk_drewN ?_ _ | refine blk_drew ?_ | refine blk_alloc ?_ _)); exact BK127.out⟩, ⟨by repeat (first | (with_reducible first | exact HB.out | apply below_alloc | apply pw_below_drewN | apply below_drew1 | refine below_set ?_ GE122.out | refine below_set ?_ GE127.out) | exact HB.out)⟩⟩
                                · rw [if_neg c36] at H
                                  have c36b0 : ((rdOf ByteArray.empty t123 x24_1).toList == ([98, 103, 58] : List UInt8)) = false := beq_eq_false_iff_ne.mpr c36
                                  have c36b1 : ((rdOf ByteArray.empty t123 x24_1).toList != ([98, 103, 58] : List UInt8)) = true := bne_iff_ne.mpr c36
                                  replace H := Option.bind_eq_some_iff.mp H
                                  obtain ⟨t129, A390, H⟩ := H
                                  replace H : (if t129 = true then (spec_EntryParse.j1 k1 (rdOf ByteArray.empty t123 x24_1) 3 t123 (t123.length : Int) x24_1 x128000_1 x128001_1 x128002_1 x128003_1 x128004_1 x128005_1 x128006_1) else ((spec_begins.f (rdOf ByteArray.empty t123 x24_1) (⟨#[98, 111, 114, 100, 101, 114, 58, 35]⟩ : ByteArray)).bind fun t130 => (if t130 = true then (spec_EntryParse.j1 k1 (rdOf ByteArray.empty t123 x24_1) 7 t123 (t123.length : Int) x24_1 x128000_1 x128001_1 x128002_1 x128003_1 x128004_1 x128005_1 x128006_1) else ((spec_begins.f (rdOf ByteArray.empty t123 x24_1) (⟨#[35]⟩ : ByteArray)).bind fun t131 => (if t131 = true then (spec_EntryParse.j1 k1 (rdOf ByteArray.empty t123 x24_1) 0 t123 (t123.length : Int) x24_1 x128000_1 x128001_1 x128002_1 x128003_1 x128004_1 x128005_1 x128006_1) else (some (0, 0, 0, 0, 0, 0, false, false, 1))))))) = some (r1, r2, r3, r4, r5, r6, r7, r8, r9) := H
                                  have A39 := Aside0.mk A390
                                  clear A390
                                  by_cases c40 : t129 = true
                                  · subst c40
                                    have H1 : (spec_EntryParse.j1 k1 (rdOf ByteArray.empty t123 x24_1) 3 t123 (t123.length : Int) x24_1 x128000_1 x128001_1 x128002_1 x128003_1 x128004_1 x128005_1 x128006_1) = some (r1, r2, r3, r4, r5, r6, r7, r8, r9) := by rw [if_pos rfl] at H; exact H
                                    clear H
                                    have H := H1
                                    clear H1
                                    have H' := Aside0.mk H
                                    clear H
                                    go_wp2_with (first | ((with_reducible refine gate_callee (f := 31) rfl ?_); refine goesL_ (some 67) rfl rfl Tryd.func31 (by kernel_rfl) rfl #[.string (rdOf ByteArray.empty t123 x24_1), .string (⟨#[98, 103, 58, 35]⟩ : ByteArray)] rfl (by (try simp only [List.map_toArray, List.map_cons, List.map_nil]); first | done | rfl | (simp only [List.length_drop, List.length_take]; rfl)) ?_; (with_reducible refine (spec_begins.calls (rdOf ByteArray.empty t123 x24_1) (⟨#[98, 103, 58, 35]⟩ : ByteArray) true _ A39.out).mono ?_); rintro e w' ⟨rfl, ⟨nd, rfl⟩⟩; refine ⟨_, rfl, ?_⟩))
                                    go_meet
                                    case rel => exact ⟨_, (3), (x123000_1), (x123001_1), (x123002_1), (x123003_1), (x123004_1), (x123005_1), (x123006_1), (x128001_1), (x128003_1), (x128004_1), (x128005_1), (x128006_1), (by first | rfl | (simp; done) | (simp [*]; done)), H', ⟨by have := HK1.out; first | omega | exact Nat.le_refl _⟩, ⟨by (with_reducible repeat (first | apply Kd.R_alloc | apply Kd.R_drewN | apply Kd.R_drew)); exact HO_22.out⟩, ⟨by (with_reducible repeat (first | refine blk_drewN ?_ _ | refine blk_drew ?_ | refine blk_alloc ?_ _)); exact BK122.out⟩, ⟨by (with_reducible repeat (first | refine blk_drewN ?_ _ | refine blk_drew ?_ | refine blk_alloc ?_ _)); exact BK127.out⟩, ⟨by repeat (first | (with_reducible first | exact HB.out | apply below_alloc | apply pw_below_drewN | apply below_drew1 | refine below_set ?_ GE122.out | refine below_set ?_ GE127.out) | exact HB.out)⟩⟩
                                  · replace c40 := Bool.eq_false_iff.mpr c40
                                    subst c40
                                    have H1 : ((spec_begins.f (rdOf ByteArray.empty t123 x24_1) (⟨#[98, 111, 114, 100, 101, 114, 58, 35]⟩ : ByteArray)).bind fun t130 => (if t130 = true then (spec_EntryParse.j1 k1 (rdOf ByteArray.empty t123 x24_1) 7 t123 (t123.length : Int) x24_1 x128000_1 x128001_1 x128002_1 x128003_1 x128004_1 x128005_1 x128006_1) else ((spec_begins.f (rdOf ByteArray.empty t123 x24_1) (⟨#[35]⟩ : ByteArray)).bind fun t131 => (if t131 = true then (spec_EntryParse.j1 k1 (rdOf ByteArray.empty t123 x24_1) 0 t123 (t123.length : Int) x24_1 x128000_1 x128001_1 x128002_1 x128003_1 x128004_1 x128005_1 x128006_1) else (some (0, 0, 0, 0, 0, 0, false, false, 1)))))) = some (r1, r2, r3, r4, r5, r6, r7, r8, r9) := by rw [if_neg (show ¬ (false = true) by decide)] at H; exact H
                                    clear H
                                    have H := H1
                                    clear H1
                                    replace H := Option.bind_eq_some_iff.mp H
                                    obtain ⟨t130, A410, H⟩ := H
                                    replace H : (if t130 = true then (spec_EntryParse.j1 k1 (rdOf ByteArray.empty t123 x24_1) 7 t123 (t123.length : Int) x24_1 x128000_1 x128001_1 x128002_1 x128003_1 x128004_1 x128005_1 x128006_1) else ((spec_begins.f (rdOf ByteArray.empty t123 x24_1) (⟨#[35]⟩ : ByteArray)).bind fun t131 => (if t131 = true then (spec_EntryParse.j1 k1 (rdOf ByteArray.empty t123 x24_1) 0 t123 (t123.length : Int) x24_1 x128000_1 x128001_1 x128002_1 x128003_1 x128004_1 x128005_1 x128006_1) else (some (0, 0, 0, 0, 0, 0, false, false, 1))))) = some (r1, r2, r3, r4, r5, r6, r7, r8, r9) := H
                                    have A41 := Aside0.mk A410
                                    clear A410
                                    by_cases c42 : t130 = true
                                    · subst c42
                                      have H1 : (spec_EntryParse.j1 k1 (rdOf ByteArray.empty t123 x24_1) 7 t123 (t123.length : Int) x24_1 x128000_1 x128001_1 x128002_1 x128003_1 x128004_1 x128005_1 x128006_1) = some (r1, r2, r3, r4, r5, r6, r7, r8, r9) := by rw [if_pos rfl] at H; exact H
                                      clear H
                                      have H := H1
                                      clear H1
                                      have H' := Aside0.mk H
                                      clear H
                                      go_wp2_with (first | ((with_reducible refine gate_callee (f := 31) rfl ?_); refine goesL_ (some 67) rfl rfl Tryd.func31 (by kernel_rfl) rfl #[.string (rdOf ByteArray.empty t123 x24_1), .string (⟨#[98, 103, 58, 35]⟩ : ByteArray)] rfl (by (try simp only [List.map_toArray, List.map_cons, List.map_nil]); first | done | rfl | (simp only [List.length_drop, List.length_take]; rfl)) ?_; (with_reducible refine (spec_begins.calls (rdOf ByteArray.empty t123 x24_1) (⟨#[98, 103, 58, 35]⟩ : ByteArray) false _ A39.out).mono ?_); rintro e w' ⟨rfl, ⟨nd, rfl⟩⟩; refine ⟨_, rfl, ?_⟩) | ((with_reducible refine gate_callee (f := 31) rfl ?_); refine goesL_ (some 70) rfl rfl Tryd.func31 (by kernel_rfl) rfl #[.string (rdOf ByteArray.empty t123 x24_1), .string (⟨#[98, 111, 114, 100, 101, 114, 58, 35]⟩ : ByteArray)] rfl (by (try simp only [List.map_toArray, List.map_cons, List.map_nil]); first | done | rfl | (simp only [List.length_drop, List.length_take]; rfl)) ?_; (with_reducible refine (spec_begins.calls (rdOf ByteArray.empty t123 x24_1) (⟨#[98, 111, 114, 100, 101, 114, 58, 35]⟩ : ByteArray) true _ A41.out).mono ?_); rintro e w' ⟨rfl, ⟨nd, rfl⟩⟩; refine ⟨_, rfl, ?_⟩))
                                      go_meet
                                      case rel => exact ⟨_, (7), (x123000_1), (x123001_1), (x123002_1), (x123003_1), (x123004_1), (x123005_1), (x123006_1), (x128001_1), (x128003_1), (x128004_1), (x128005_1), (x128006_1), (by first | rfl | (simp; done) | (simp [*]; done)), H', ⟨by have := HK1.out; first | omega | exact Nat.le_refl _⟩, ⟨by (with_reducible repeat (first | apply Kd.R_alloc | apply Kd.R_drewN | apply Kd.R_drew)); exact HO_22.out⟩, ⟨by (with_reducible repeat (first | refine blk_drewN ?_ _ | refine blk_drew ?_ | refine blk_alloc ?_ _)); exact BK122.out⟩, ⟨by (with_reducible repeat (first | refine blk_drewN ?_ _ | refine blk_drew ?_ | refine blk_alloc ?_ _)); exact BK127.out⟩, ⟨by repeat (first | (with_reducible first | exact HB.out | apply below_alloc | apply pw_below_drewN | apply below_drew1 | refine below_set ?_ GE122.out | refine below_set ?_ GE127.out) | exact HB.out)⟩⟩
                                    · replace c42 := Bool.eq_false_iff.mpr c42
                                      subst c42
                                      have H1 : ((spec_begins.f (rdOf ByteArray.empty t123 x24_1) (⟨#[35]⟩ : ByteArray)).bind fun t131 => (if t131 = true then (spec_EntryParse.j1 k1 (rdOf ByteArray.empty t123 x24_1) 0 t123 (t123.length : Int) x24_1 x128000_1 x128001_1 x128002_1 x128003_1 x128004_1 x128005_1 x128006_1) else (some (0, 0, 0, 0, 0, 0, false, false, 1)))) = some (r1, r2, r3, r4, r5, r6, r7, r8, r9) := by rw [if_neg (show ¬ (false = true) by decide)] at H; exact H
                                      clear H
                                      have H := H1
                                      clear H1
                                      replace H := Option.bind_eq_some_iff.mp H
                                      obtain ⟨t131, A430, H⟩ := H
                                      replace H : (if t131 = true then (spec_EntryParse.j1 k1 (rdOf ByteArray.empty t123 x24_1) 0 t123 (t123.length : Int) x24_1 x128000_1 x128001_1 x128002_1 x128003_1 x128004_1 x128005_1 x128006_1) else (some (0, 0, 0, 0, 0, 0, false, false, 1))) = some (r1, r2, r3, r4, r5, r6, r7, r8, r9) := H
                                      have A43 := Aside0.mk A430
                                      clear A430
                                      by_cases c44 : t131 = true
                                      · subst c44
                                        have H1 : (spec_EntryParse.j1 k1 (rdOf ByteArray.empty t123 x24_1) 0 t123 (t123.length : Int) x24_1 x128000_1 x128001_1 x128002_1 x128003_1 x128004_1 x128005_1 x128006_1) = some (r1, r2, r3, r4, r5, r6, r7, r8, r9) := by rw [if_pos rfl] at H; exact H
                                        clear H
                                        have H := H1
                                        clear H1
                                        have H' := Aside0.mk H
                                        clear H
                                        go_wp2_with (first | ((with_reducible refine gate_callee (f := 31) rfl ?_); refine goesL_ (some 67) rfl rfl Tryd.func31 (by kernel_rfl) rfl #[.string (rdOf ByteArray.empty t123 x24_1), .string (⟨#[98, 103, 58, 35]⟩ : ByteArray)] rfl (by (try simp only [List.map_toArray, List.map_cons, List.map_nil]); first | done | rfl | (simp only [List.length_drop, List.length_take]; rfl)) ?_; (with_reducible refine (spec_begins.calls (rdOf ByteArray.empty t123 x24_1) (⟨#[98, 103, 58, 35]⟩ : ByteArray) false _ A39.out).mono ?_); rintro e w' ⟨rfl, ⟨nd, rfl⟩⟩; refine ⟨_, rfl, ?_⟩) | ((with_reducible refine gate_callee (f := 31) rfl ?_); refine goesL_ (some 70) rfl rfl Tryd.func31 (by kernel_rfl) rfl #[.string (rdOf ByteArray.empty t123 x24_1), .string (⟨#[98, 111, 114, 100, 101, 114, 58, 35]⟩ : ByteArray)] rfl (by (try simp only [List.map_toArray, List.map_cons, List.map_nil]); first | done | rfl | (simp only [List.length_drop, List.length_take]; rfl)) ?_; (with_reducible refine (spec_begins.calls (rdOf ByteArray.empty t123 x24_1) (⟨#[98, 111, 114, 100, 101, 114, 58, 35]⟩ : ByteArray) false _ A41.out).mono ?_); rintro e w' ⟨rfl, ⟨nd, rfl⟩⟩; refine ⟨_, rfl, ?_⟩) | ((with_reducible refine gate_callee (f := 31) rfl ?_); refine goesL_ (some 73) rfl rfl Tryd.func31 (by kernel_rfl) rfl #[.string (rdOf ByteArray.empty t123 x24_1), .string (⟨#[35]⟩ : ByteArray)] rfl (by (try simp only [List.map_toArray, List.map_cons, List.map_nil]); first | done | rfl | (simp only [List.length_drop, List.length_take]; rfl)) ?_; (with_reducible refine (spec_begins.calls (rdOf ByteArray.empty t123 x24_1) (⟨#[35]⟩ : ByteArray) true _ A43.out).mono ?_); rintro e w' ⟨rfl, ⟨nd, rfl⟩⟩; refine ⟨_, rfl, ?_⟩))
                                        go_meet
                                        case rel => exact ⟨_, (0), (x123000_1), (x123001_1), (x123002_1), (x123003_1), (x123004_1), (x123005_1), (x123006_1), (x128001_1), (x128003_1), (x128004_1), (x128005_1), (x128006_1), (by first | rfl | (simp; done) | (simp [*]; done)), H', ⟨by have := HK1.out; first | omega | exact Nat.le_refl _⟩, ⟨by (with_reducible repeat (first | apply Kd.R_alloc | apply Kd.R_drewN | apply Kd.R_drew)); exact HO_22.out⟩, ⟨by (with_reducible repeat (first | refine blk_drewN ?_ _ | refine blk_drew ?_ | refine blk_alloc ?_ _)); exact BK122.out⟩, ⟨by (with_reducible repeat (first | refine blk_drewN ?_ _ | refine blk_drew ?_ | refine blk_alloc ?_ _)); exact BK127.out⟩, ⟨by repeat (first | (with_reducible first | exact HB.out | apply below_alloc | apply pw_below_drewN | apply below_drew1 | refine below_set ?_ GE122.out | refine below_set ?_ GE127.out) | exact HB.out)⟩⟩
                                      · replace c44 := Bool.eq_false_iff.mpr c44
                                        subst c44
                                        have H1 : (some (0, 0, 0, 0, 0, 0, false, false, 1)) = some (r1, r2, r3, r4, r5, r6, r7, r8, r9) := by rw [if_neg (show ¬ (false = true) by decide)] at H; exact H
                                        clear H
                                        have H := H1
                                        clear H1
                                        simp only [Option.some.injEq, Prod.mk.injEq] at H
                                        obtain ⟨rfl, rfl, rfl, rfl, rfl, rfl, rfl, rfl, rfl⟩ := H
                                        go_wp2_with (first | ((with_reducible refine gate_callee (f := 31) rfl ?_); refine goesL_ (some 67) rfl rfl Tryd.func31 (by kernel_rfl) rfl #[.string (rdOf ByteArray.empty t123 x24_1), .string (⟨#[98, 103, 58, 35]⟩ : ByteArray)] rfl (by (try simp only [List.map_toArray, List.map_cons, List.map_nil]); first | done | rfl | (simp only [List.length_drop, List.length_take]; rfl)) ?_; (with_reducible refine (spec_begins.calls (rdOf ByteArray.empty t123 x24_1) (⟨#[98, 103, 58, 35]⟩ : ByteArray) false _ A39.out).mono ?_); rintro e w' ⟨rfl, ⟨nd, rfl⟩⟩; refine ⟨_, rfl, ?_⟩; (try (rw [drewN_self wr]; generalize hq_ : World.drewN wr _ = wr; have n0_ : Aside0 (Kd.R Kd.string 9 wr w.heap.size (fun _ => True) (.slice (some ad128) t123.length co7) t123) := ⟨by rw [← hq_]; exact (by (with_reducible repeat (first | apply Kd.R_alloc | apply Kd.R_drewN | apply Kd.R_drew)); exact HO_22.out)⟩; have n1_ : Aside0 (wr.heap[gb122]? = some (.cells #[.int .i32 x123000_1, .int .i32 x123001_1, .int .i32 x123002_1, .int .u8 x123003_1, .int .u8 x123004_1, .int .u8 x123005_1, .bool x123006_1] 26 (0, 0))) := ⟨by rw [← hq_]; exact (by (with_reducible repeat (first | refine blk_drewN ?_ _ | refine blk_drew ?_ | refine blk_alloc ?_ _)); exact BK122.out)⟩; have n2_ : Aside0 (wr.heap[gb127]? = some (.cells #[.int .i32 x128000_1, .int .i32 x128001_1, .int .i32 x128002_1, .int .u8 x128003_1, .int .u8 x128004_1, .int .u8 x128005_1, .bool x128006_1] 26 (0, 0))) := ⟨by rw [← hq_]; exact (by (with_reducible repeat (first | refine blk_drewN ?_ _ | refine blk_drew ?_ | refine blk_alloc ?_ _)); exact BK127.out)⟩; have n3_ : Aside0 (Below w.heap.size w wr) := ⟨by rw [← hq_]; exact (by repeat (first | (with_reducible first | exact HB.out | apply below_alloc | apply pw_below_drewN | apply below_drew1 | refine below_set ?_ GE122.out | refine below_set ?_ GE127.out) | exact HB.out))⟩; clear HO_22 BK122 BK127 HB hq_; have HO_22 := n0_; have BK122 := n1_; have BK127 := n2_; have HB := n3_; clear n0_ n1_ n2_ n3_))) | ((with_reducible refine gate_callee (f := 31) rfl ?_); refine goesL_ (some 70) rfl rfl Tryd.func31 (by kernel_rfl) rfl #[.string (rdOf ByteArray.empty t123 x24_1), .string (⟨#[98, 111, 114, 100, 101, 114, 58, 35]⟩ : ByteArray)] rfl (by (try simp only [List.map_toArray, List.map_cons, List.map_nil]); first | done | rfl | (simp only [List.length_drop, List.length_take]; rfl)) ?_; (with_reducible refine (spec_begins.calls (rdOf ByteArray.empty t123 x24_1) (⟨#[98, 111, 114, 100, 101, 114, 58, 35]⟩ : ByteArray) false _ A41.out).mono ?_); rintro e w' ⟨rfl, ⟨nd, rfl⟩⟩; refine ⟨_, rfl, ?_⟩; (try (rw [drewN_self wr]; generalize hq_ : World.drewN wr _ = wr; have n0_ : Aside0 (Kd.R Kd.string 9 wr w.heap.size (fun _ => True) (.slice (some ad128) t123.length co7) t123) := ⟨by rw [← hq_]; exact (by (with_reducible repeat (first | apply Kd.R_alloc | apply Kd.R_drewN | apply Kd.R_drew)); exact HO_22.out)⟩; have n1_ : Aside0 (wr.heap[gb122]? = some (.cells #[.int .i32 x123000_1, .int .i32 x123001_1, .int .i32 x123002_1, .int .u8 x123003_1, .int .u8 x123004_1, .int .u8 x123005_1, .bool x123006_1] 26 (0, 0))) := ⟨by rw [← hq_]; exact (by (with_reducible repeat (first | refine blk_drewN ?_ _ | refine blk_drew ?_ | refine blk_alloc ?_ _)); exact BK122.out)⟩; have n2_ : Aside0 (wr.heap[gb127]? = some (.cells #[.int .i32 x128000_1, .int .i32 x128001_1, .int .i32 x128002_1, .int .u8 x128003_1, .int .u8 x128004_1, .int .u8 x128005_1, .bool x128006_1] 26 (0, 0))) := ⟨by rw [← hq_]; exact (by (with_reducible repeat (first | refine blk_drewN ?_ _ | refine blk_drew ?_ | refine blk_alloc ?_ _)); exact BK127.out)⟩; have n3_ : Aside0 (Below w.heap.size w wr) := ⟨by rw [← hq_]; exact (by repeat (first | (with_reducible first | exact HB.out | apply below_alloc | apply pw_below_drewN | apply below_drew1 | refine below_set ?_ GE122.out | refine below_set ?_ GE127.out) | exact HB.out))⟩; clear HO_22 BK122 BK127 HB hq_; have HO_22 := n0_; have BK122 := n1_; have BK127 := n2_; have HB := n3_; clear n0_ n1_ n2_ n3_))) | ((with_reducible refine gate_callee (f := 31) rfl ?_); refine goesL_ (some 73) rfl rfl Tryd.func31 (by kernel_rfl) rfl #[.string (rdOf ByteArray.empty t123 x24_1), .string (⟨#[35]⟩ : ByteArray)] rfl (by (try simp only [List.map_toArray, List.map_cons, List.map_nil]); first | done | rfl | (simp only [List.length_drop, List.length_take]; rfl)) ?_; (with_reducible refine (spec_begins.calls (rdOf ByteArray.empty t123 x24_1) (⟨#[35]⟩ : ByteArray) false _ A43.out).mono ?_); rintro e w' ⟨rfl, ⟨nd, rfl⟩⟩; refine ⟨_, rfl, ?_⟩; (try (rw [drewN_self wr]; generalize hq_ : World.drewN wr _ = wr; have n0_ : Aside0 (Kd.R Kd.string 9 wr w.heap.size (fun _ => True) (.slice (some ad128) t123.length co7) t123) := ⟨by rw [← hq_]; exact (by (with_reducible repeat (first | apply Kd.R_alloc | apply Kd.R_drewN | apply Kd.R_drew)); exact HO_22.out)⟩; have n1_ : Aside0 (wr.heap[gb122]? = some (.cells #[.int .i32 x123000_1, .int .i32 x123001_1, .int .i32 x123002_1, .int .u8 x123003_1, .int .u8 x123004_1, .int .u8 x123005_1, .bool x123006_1] 26 (0, 0))) := ⟨by rw [← hq_]; exact (by (with_reducible repeat (first | refine blk_drewN ?_ _ | refine blk_drew ?_ | refine blk_alloc ?_ _)); exact BK122.out)⟩; have n2_ : Aside0 (wr.heap[gb127]? = some (.cells #[.int .i32 x128000_1, .int .i32 x128001_1, .int .i32 x128002_1, .int .u8 x128003_1, .int .u8 x128004_1, .int .u8 x128005_1, .bool x128006_1] 26 (0, 0))) := ⟨by rw [← hq_]; exact (by (with_reducible repeat (first | refine blk_drewN ?_ _ | refine blk_drew ?_ | refine blk_alloc ?_ _)); exact BK127.out)⟩; have n3_ : Aside0 (Below w.heap.size w wr) := ⟨by rw [← hq_]; exact (by repeat (first | (with_reducible first | exact HB.out | apply below_alloc | apply pw_below_drewN | apply below_drew1 | refine below_set ?_ GE122.out | refine below_set ?_ GE127.out) | exact HB.out))⟩; clear HO_22 BK122 BK127 HB hq_; have HO_22 := n0_; have BK122 := n1_; have BK127 := n2_; have HB := n3_; clear n0_ n1_ n2_ n3_)); have hnb45 := NB122_127.out; have hnc45 := NB127_122.out; have hcz46_0 : wr.cell? ⟨gb122, 0, none⟩ = some (.int .i32 x123000_1) := (blk_cell BK122.out 0).trans rfl; have hcz46_1 : wr.cell? ⟨gb122, 1, none⟩ = some (.int .i32 x123001_1) := (blk_cell BK122.out 1).trans rfl; have hcz46_2 : wr.cell? ⟨gb122, 2, none⟩ = some (.int .i32 x123002_1) := (blk_cell BK122.out 2).trans rfl; have hcz46_3 : wr.cell? ⟨gb122, 3, none⟩ = some (.int .u8 x123003_1) := (blk_cell BK122.out 3).trans rfl; have hcz46_4 : wr.cell? ⟨gb122, 4, none⟩ = some (.int .u8 x123004_1) := (blk_cell BK122.out 4).trans rfl; have hcz46_5 : wr.cell? ⟨gb122, 5, none⟩ = some (.int .u8 x123005_1) := (blk_cell BK122.out 5).trans rfl; have hcz46_6 : wr.cell? ⟨gb122, 6, none⟩ = some (.bool x123006_1) := (blk_cell BK122.out 6).trans rfl; have hfz46_0 := blk_frozen BK122.out 0; have hfz46_1 := blk_frozen BK122.out 1; have hfz46_2 := blk_frozen BK122.out 2; have hfz46_3 := blk_frozen BK122.out 3; have hfz46_4 := blk_frozen BK122.out 4; have hfz46_5 := blk_frozen BK122.out 5; have hfz46_6 := blk_frozen BK122.out 6))
                                        refine bodyPost_ret (results_ctt rfl _ _ gb122 26 #[.int .i32 0, .int .i32 0, .int .i32 0, .int .u8 0, .int .u8 0, .int .u8 0, .bool false] (0, 0) _ rfl (by (with_reducible repeat (first | refine blk_drewN ?_ _ | refine blk_drew ?_ | refine blk_alloc ?_ _)); refine blk_put (cs := #[.int .i32 0, .int .i32 0, .int .i32 0, .int .u8 0, .int .u8 0, .int .u8 0, .bool x123006_1]) ?_ 6 _ rfl; (with_reducible repeat (first | refine blk_drewN ?_ _ | refine blk_drew ?_ | refine blk_alloc ?_ _)); refine blk_put (cs := #[.int .i32 0, .int .i32 0, .int .i32 0, .int .u8 0, .int .u8 0, .int .u8 x123005_1, .bool x123006_1]) ?_ 5 _ rfl; (with_reducible repeat (first | refine blk_drewN ?_ _ | refine blk_drew ?_ | refine blk_alloc ?_ _)); refine blk_put (cs := #[.int .i32 0, .int .i32 0, .int .i32 0, .int .u8 0, .int .u8 x123004_1, .int .u8 x123005_1, .bool x123006_1]) ?_ 4 _ rfl; (with_reducible repeat (first | refine blk_drewN ?_ _ | refine blk_drew ?_ | refine blk_alloc ?_ _)); refine blk_put (cs := #[.int .i32 0, .int .i32 0, .int .i32 0, .int .u8 x123003_1, .int .u8 x123004_1, .int .u8 x123005_1, .bool x123006_1]) ?_ 3 _ rfl; (with_reducible repeat (first | refine blk_drewN ?_ _ | refine blk_drew ?_ | refine blk_alloc ?_ _)); refine blk_put (cs := #[.int .i32 0, .int .i32 0, .int .i32 x123002_1, .int .u8 x123003_1, .int .u8 x123004_1, .int .u8 x123005_1, .bool x123006_1]) ?_ 2 _ rfl; (with_reducible repeat (first | refine blk_drewN ?_ _ | refine blk_drew ?_ | refine blk_alloc ?_ _)); refine blk_put (cs := #[.int .i32 0, .int .i32 x123001_1, .int .i32 x123002_1, .int .u8 x123003_1, .int .u8 x123004_1, .int .u8 x123005_1, .bool x123006_1]) ?_ 1 _ rfl; (with_reducible repeat (first | refine blk_drewN ?_ _ | refine blk_drew ?_ | refine blk_alloc ?_ _)); refine blk_put (cs := #[.int .i32 x123000_1, .int .i32 x123001_1, .int .i32 x123002_1, .int .u8 x123003_1, .int .u8 x123004_1, .int .u8 x123005_1, .bool x123006_1]) ?_ 0 _ rfl; (with_reducible repeat (first | refine blk_drewN ?_ _ | refine blk_drew ?_ | refine blk_alloc ?_ _)); exact BK122.out) Tryd.underlying26 rfl (by kernel_rfl)) rfl ?_
                                        exact ⟨by first | rfl | (simp [errW_none, errW_some] <;> rfl) | (simp [*, errW_none, errW_some] <;> rfl), by repeat (first | (with_reducible first | exact HB.out | apply below_alloc | apply pw_below_drewN | apply below_drew1 | refine below_set ?_ GE122.out | refine below_set ?_ GE127.out) | exact HB.out)⟩
              case rest =>
                clear HC11
                try clear c1
                try clear p1
                try clear q1
                try clear hx1
                try clear c2
                try clear p2
                try clear c3
                try clear c3b0
                try clear c3b1
                try clear c4
                try clear c8
                try clear c8b0
                try clear c9
                try clear c9b0
                try clear c10
                try clear c10b0
                try clear c12
                try clear c12b0
                try clear c12b1
                try clear c12b2
                try clear p12
                try clear q12
                try clear hx12
                try clear c13
                try clear c14
                try clear c15
                try clear c15b0
                try clear c15b1
                try clear c16
                try clear c18
                try clear c18b0
                try clear c18b1
                try clear c19
                try clear c21
                try clear c21b0
                try clear c21b1
                try clear c22
                try clear c24
                try clear c24b0
                try clear c24b1
                try clear c25
                try clear c27
                try clear c27b0
                try clear c27b1
                try clear c28
                try clear c30
                try clear c30b0
                try clear c30b1
                try clear c31
                try clear c33
                try clear c33b0
                try clear c33b1
                try clear c34
                try clear c36
                try clear c36b0
                try clear c36b1
                try clear c37
                try clear c40
                try clear c42
                try clear c44
                try clear c45
                try clear hcz14_0
                try clear hcz14_1
                try clear hcz14_2
                try clear hcz14_3
                try clear hcz14_4
                try clear hcz14_5
                try clear hcz14_6
                try clear hcz17_0
                try clear hcz17_1
                try clear hcz17_2
                try clear hcz17_3
                try clear hcz17_4
                try clear hcz17_5
                try clear hcz17_6
                try clear hcz20_0
                try clear hcz20_1
                try clear hcz20_2
                try clear hcz20_3
                try clear hcz20_4
                try clear hcz20_5
                try clear hcz20_6
                try clear hcz23_0
                try clear hcz23_1
                try clear hcz23_2
                try clear hcz23_3
                try clear hcz23_4
                try clear hcz23_5
                try clear hcz23_6
                try clear hcz26_0
                try clear hcz26_1
                try clear hcz26_2
                try clear hcz26_3
                try clear hcz26_4
                try clear hcz26_5
                try clear hcz26_6
                try clear hcz29_0
                try clear hcz29_1
                try clear hcz29_2
                try clear hcz29_3
                try clear hcz29_4
                try clear hcz29_5
                try clear hcz29_6
                try clear hcz32_0
                try clear hcz32_1
                try clear hcz32_2
                try clear hcz32_3
                try clear hcz32_4
                try clear hcz32_5
                try clear hcz32_6
                try clear hcz35_0
                try clear hcz35_1
                try clear hcz35_2
                try clear hcz35_3
                try clear hcz35_4
                try clear hcz35_5
                try clear hcz35_6
                try clear hcz38_0
                try clear hcz38_1
                try clear hcz38_2
                try clear hcz38_3
                try clear hcz38_4
                try clear hcz38_5
                try clear hcz38_6
                try clear hcz46_0
                try clear hcz46_1
                try clear hcz46_2
                try clear hcz46_3
                try clear hcz46_4
                try clear hcz46_5
                try clear hcz46_6
                try clear hfz14_0
                try clear hfz14_1
                try clear hfz14_2
                try clear hfz14_3
                try clear hfz14_4
                try clear hfz14_5
                try clear hfz14_6
                try clear hfz17_0
                try clear hfz17_1
                try clear hfz17_2
                try clear hfz17_3
                try clear hfz17_4
                try clear hfz17_5
                try clear hfz17_6
                try clear hfz20_0
                try clear hfz20_1
                try clear hfz20_2
                try clear hfz20_3
                try clear hfz20_4
                try clear hfz20_5
                try clear hfz20_6
                try clear hfz23_0
                try clear hfz23_1
                try clear hfz23_2
                try clear hfz23_3
                try clear hfz23_4
                try clear hfz23_5
                try clear hfz23_6
                try clear hfz26_0
                try clear hfz26_1
                try clear hfz26_2
                try clear hfz26_3
                try clear hfz26_4
                try clear hfz26_5
                try clear hfz26_6
                try clear hfz29_0
                try clear hfz29_1
                try clear hfz29_2
                try clear hfz29_3
                try clear hfz29_4
                try clear hfz29_5
                try clear hfz29_6
                try clear hfz32_0
                try clear hfz32_1
                try clear hfz32_2
                try clear hfz32_3
                try clear hfz32_4
                try clear hfz32_5
                try clear hfz32_6
                try clear hfz35_0
                try clear hfz35_1
                try clear hfz35_2
                try clear hfz35_3
                try clear hfz35_4
                try clear hfz35_5
                try clear hfz35_6
                try clear hfz38_0
                try clear hfz38_1
                try clear hfz38_2
                try clear hfz38_3
                try clear hfz38_4
                try clear hfz38_5
                try clear hfz38_6
                try clear hfz46_0
                try clear hfz46_1
                try clear hfz46_2
                try clear hfz46_3
                try clear hfz46_4
                try clear hfz46_5
                try clear hfz46_6
                try clear hx128_0
                try clear p128
                try clear p2
                try clear q128
                obtain ⟨kq, x10_10, x123000_10, x123001_10, x123002_10, x123003_10, x123004_10, x123005_10, x123006_10, x128001_10, x128003_10, x128004_10, x128005_10, x128006_10, rfl, HA, HJ10, HO_22, BK122, BK127, HB⟩ := hcut
                cases kq with
                | zero => exact absurd HA.out (by simp [spec_EntryParse.j1])
                | succ kj10 =>
                  have H := HA.out
                  clear HA
                  simp only [spec_EntryParse.j1] at H
                  by_cases c47 : x10_10 < 0
                  · rw [if_pos c47] at H
                    have c47b0 : decide (x10_10 < 0) = true := decide_eq_true c47
                    clear c47
                    have H' := Aside0.mk H
                    clear H
                    go_wp2
                    go_roundg kj10
                    case measure => have := HK1.out; have := HJ10.out; omega
                    case rel => exact ⟨(wrap64 (x24_1 + 1)), (x123000_10), (x123001_10), (x123002_10), (x123003_10), (x123004_10), (x123005_10), (x123006_10), (x128000_1), (x128001_10), (x128002_1), (x128003_10), (x128004_10), (x128005_10), (x128006_10), (by first | rfl | (simp; done) | (simp [*]; done)), H', ⟨by have := HK1.out; have := HJ10.out; omega⟩, ⟨by (with_reducible repeat (first | apply Kd.R_alloc | apply Kd.R_drewN | apply Kd.R_drew)); exact HO_22.out⟩, ⟨by (with_reducible repeat (first | refine blk_drewN ?_ _ | refine blk_drew ?_ | refine blk_alloc ?_ _)); exact BK122.out⟩, ⟨by (with_reducible repeat (first | refine blk_drewN ?_ _ | refine blk_drew ?_ | refine blk_alloc ?_ _)); exact BK127.out⟩, ⟨by repeat (first | (with_reducible first | exact HB.out | apply below_alloc | apply pw_below_drewN | apply below_drew1 | refine below_set ?_ GE122.out | refine below_set ?_ GE127.out) | exact HB.out)⟩⟩
                  · rw [if_neg c47] at H
                    have c47b0 : decide (x10_10 < 0) = false := decide_eq_false c47
                    clear c47
                    by_cases c48 : 0 ≤ x10_10
                    · rw [if_pos c48] at H
                      have c48b0 := eq_true c48
                      have c48b1 : decide (0 ≤ x10_10) = true := decide_eq_true c48
                      clear c48
                      by_cases c49 : x10_10 ≤ ((rdOf ByteArray.empty t123 x24_1).size : Int)
                      · rw [if_pos c49] at H
                        have c49b0 := eq_true c49
                        have c49b1 : decide (x10_10 ≤ ((rdOf ByteArray.empty t123 x24_1).size : Int)) = true := decide_eq_true c49
                        clear c49
                        replace H := Option.bind_eq_some_iff.mp H
                        obtain ⟨⟨t132, t133⟩, A500, H⟩ := H
                        replace H : (if t133 = 1 then (if t132 = 0 then (some (0, 0, 0, 0, 0, 0, false, false, 1)) else (if x10_10 = 0 then (spec_EntryParse.l0 kj10 t123 (t123.length : Int) (wrap64 (x24_1 + 1)) t132 x128001_10 x128002_1 x128003_10 x128004_10 x128005_10 x128006_10) else (if x10_10 = 3 then (spec_EntryParse.l0 kj10 t123 (t123.length : Int) (wrap64 (x24_1 + 1)) x128000_1 t132 x128002_1 x128003_10 x128004_10 x128005_10 x128006_10) else (spec_EntryParse.l0 kj10 t123 (t123.length : Int) (wrap64 (x24_1 + 1)) x128000_1 x128001_10 t132 x128003_10 x128004_10 x128005_10 x128006_10)))) else (some (0, 0, 0, 0, 0, 0, false, false, t133))) = some (r1, r2, r3, r4, r5, r6, r7, r8, r9) := H
                        have A50 := Aside0.mk A500
                        clear A500
                        by_cases c51 : t133 = 1
                        · rw [if_pos c51] at H
                          have c51b0 : (t133 == 1) = true := beq_iff_eq.mpr c51
                          have c51b1 : (t133 != 1) = false := bne_eq_false_iff_eq.mpr c51
                          clear c51
                          by_cases c52 : t132 = 0
                          · rw [if_pos c52] at H
                            have c52b0 : (t132 == 0) = true := beq_iff_eq.mpr c52
                            have c52b1 : (t132 != 0) = false := bne_eq_false_iff_eq.mpr c52
                            clear c52
                            simp only [Option.some.injEq, Prod.mk.injEq] at H
                            obtain ⟨rfl, rfl, rfl, rfl, rfl, rfl, rfl, rfl, rfl⟩ := H
                            go_wp2_with (first | ((with_reducible refine gate_callee (f := 32) rfl ?_); refine goesL_ (some 80) rfl rfl Tryd.func32 (by kernel_rfl) rfl #[.string ((rdOf ByteArray.empty t123 x24_1).extract (x10_10 : Int).toNat (rdOf ByteArray.empty t123 x24_1).size)] rfl (by (try simp only [List.map_toArray, List.map_cons, List.map_nil]); first | done | rfl | (simp only [List.length_drop, List.length_take]; rfl)) ?_; (with_reducible refine (spec_ColourParse.calls kj10 ((rdOf ByteArray.empty t123 x24_1).extract (x10_10 : Int).toNat (rdOf ByteArray.empty t123 x24_1).size) t132 t133 _ A50.out).mono ?_); rintro e w53 ⟨rfl, hb⟩; refine ⟨_, rfl, ?_⟩; have n0_ := Aside0.mk (Kd.R_below (by (with_reducible repeat (first | apply Kd.R_alloc | apply Kd.R_drewN | apply Kd.R_drew)); exact HO_22.out) hb); have n1_ := Aside0.mk (blk_below (g := gb122) (o := .cells #[.int .i32 x123000_10, .int .i32 x123001_10, .int .i32 x123002_10, .int .u8 x123003_10, .int .u8 x123004_10, .int .u8 x123005_10, .bool x123006_10] 26 (0, 0)) (by (with_reducible repeat (first | refine blk_drewN ?_ _ | refine blk_drew ?_ | refine blk_alloc ?_ _)); exact BK122.out) hb); have n2_ := Aside0.mk (blk_below (g := gb127) (o := .cells #[.int .i32 x128000_1, .int .i32 x128001_10, .int .i32 x128002_1, .int .u8 x128003_10, .int .u8 x128004_10, .int .u8 x128005_10, .bool x128006_10] 26 (0, 0)) (by (with_reducible repeat (first | refine blk_drewN ?_ _ | refine blk_drew ?_ | refine blk_alloc ?_ _)); exact BK127.out) hb); have n3_ := Aside0.mk (below_step (by repeat (first | (with_reducible first | exact HB.out | apply below_alloc | apply pw_below_drewN | apply below_drew1 | refine below_set ?_ GE122.out | refine below_set ?_ GE127.out) | exact HB.out)) hb); clear HO_22; clear BK122; clear BK127; clear HB; have HO_22 := n0_; have BK122 := n1_; have BK127 := n2_; have HB := n3_; clear n0_ n1_ n2_ n3_; (try clear hb); (try clear hb2); (try clear hk); (try clear hi); have hnb54 := NB122_127.out; have hnc54 := NB127_122.out; have hcz55_0 : w53.cell? ⟨gb122, 0, none⟩ = some (.int .i32 x123000_10) := (blk_cell BK122.out 0).trans rfl; have hcz55_1 : w53.cell? ⟨gb122, 1, none⟩ = some (.int .i32 x123001_10) := (blk_cell BK122.out 1).trans rfl; have hcz55_2 : w53.cell? ⟨gb122, 2, none⟩ = some (.int .i32 x123002_10) := (blk_cell BK122.out 2).trans rfl; have hcz55_3 : w53.cell? ⟨gb122, 3, none⟩ = some (.int .u8 x123003_10) := (blk_cell BK122.out 3).trans rfl; have hcz55_4 : w53.cell? ⟨gb122, 4, none⟩ = some (.int .u8 x123004_10) := (blk_cell BK122.out 4).trans rfl; have hcz55_5 : w53.cell? ⟨gb122, 5, none⟩ = some (.int .u8 x123005_10) := (blk_cell BK122.out 5).trans rfl; have hcz55_6 : w53.cell? ⟨gb122, 6, none⟩ = some (.bool x123006_10) := (blk_cell BK122.out 6).trans rfl; have hfz55_0 := blk_frozen BK122.out 0; have hfz55_1 := blk_frozen BK122.out 1; have hfz55_2 := blk_frozen BK122.out 2; have hfz55_3 := blk_frozen BK122.out 3; have hfz55_4 := blk_frozen BK122.out 4; have hfz55_5 := blk_frozen BK122.out 5; have hfz55_6 := blk_frozen BK122.out 6))
                            refine bodyPost_ret (results_ctt rfl _ _ gb122 26 #[.int .i32 0, .int .i32 0, .int .i32 0, .int .u8 0, .int .u8 0, .int .u8 0, .bool false] (0, 0) _ rfl (by (with_reducible repeat (first | refine blk_drewN ?_ _ | refine blk_drew ?_ | refine blk_alloc ?_ _)); refine blk_put (cs := #[.int .i32 0, .int .i32 0, .int .i32 0, .int .u8 0, .int .u8 0, .int .u8 0, .bool x123006_10]) ?_ 6 _ rfl; (with_reducible repeat (first | refine blk_drewN ?_ _ | refine blk_drew ?_ | refine blk_alloc ?_ _)); refine blk_put (cs := #[.int .i32 0, .int .i32 0, .int .i32 0, .int .u8 0, .int .u8 0, .int .u8 x123005_10, .bool x123006_10]) ?_ 5 _ rfl; (with_reducible repeat (first | refine blk_drewN ?_ _ | refine blk_drew ?_ | refine blk_alloc ?_ _)); refine blk_put (cs := #[.int .i32 0, .int .i32 0, .int .i32 0, .int .u8 0, .int .u8 x123004_10, .int .u8 x123005_10, .bool x123006_10]) ?_ 4 _ rfl; (with_reducible repeat (first | refine blk_drewN ?_ _ | refine blk_drew ?_ | refine blk_alloc ?_ _)); refine blk_put (cs := #[.int .i32 0, .int .i32 0, .int .i32 0, .int .u8 x123003_10, .int .u8 x123004_10, .int .u8 x123005_10, .bool x123006_10]) ?_ 3 _ rfl; (with_reducible repeat (first | refine blk_drewN ?_ _ | refine blk_drew ?_ | refine blk_alloc ?_ _)); refine blk_put (cs := #[.int .i32 0, .int .i32 0, .int .i32 x123002_10, .int .u8 x123003_10, .int .u8 x123004_10, .int .u8 x123005_10, .bool x123006_10]) ?_ 2 _ rfl; (with_reducible repeat (first | refine blk_drewN ?_ _ | refine blk_drew ?_ | refine blk_alloc ?_ _)); refine blk_put (cs := #[.int .i32 0, .int .i32 x123001_10, .int .i32 x123002_10, .int .u8 x123003_10, .int .u8 x123004_10, .int .u8 x123005_10, .bool x123006_10]) ?_ 1 _ rfl; (with_reducible repeat (first | refine blk_drewN ?_ _ | refine blk_drew ?_ | refine blk_alloc ?_ _)); refine blk_put (cs := #[.int .i32 x123000_10, .int .i32 x123001_10, .int .i32 x123002_10, .int .u8 x123003_10, .int .u8 x123004_10, .int .u8 x123005_10, .bool x123006_10]) ?_ 0 _ rfl; (with_reducible repeat (first | refine blk_drewN ?_ _ | refine blk_drew ?_ | refine blk_alloc ?_ _)); exact BK122.out) Tryd.underlying26 rfl (by kernel_rfl)) rfl ?_
                            exact ⟨by first | rfl | (simp [errW_none, errW_some] <;> rfl) | (simp [*, errW_none, errW_some] <;> rfl), by repeat (first | (with_reducible first | exact HB.out | apply below_alloc | apply pw_below_drewN | apply below_drew1 | refine below_set ?_ GE122.out | refine below_set ?_ GE127.out) | exact HB.out)⟩
                          · rw [if_neg c52] at H
                            have c52b0 : (t132 == 0) = false := beq_eq_false_iff_ne.mpr c52
                            have c52b1 : (t132 != 0) = true := bne_iff_ne.mpr c52
                            by_cases c56 : x10_10 = 0
                            · rw [if_pos c56] at H
                              have c56b0 : (x10_10 == 0) = true := beq_iff_eq.mpr c56
                              have c56b1 : (x10_10 != 0) = false := bne_eq_false_iff_eq.mpr c56
                              clear c56
                              have H' := Aside0.mk H
                              clear H
                              go_wp2_with (first | ((with_reducible refine gate_callee (f := 32) rfl ?_); refine goesL_ (some 80) rfl rfl Tryd.func32 (by kernel_rfl) rfl #[.string ((rdOf ByteArray.empty t123 x24_1).extract (x10_10 : Int).toNat (rdOf ByteArray.empty t123 x24_1).size)] rfl (by (try simp only [List.map_toArray, List.map_cons, List.map_nil]); first | done | rfl | (simp only [List.length_drop, List.length_take]; rfl)) ?_; (with_reducible refine (spec_ColourParse.calls kj10 ((rdOf ByteArray.empty t123 x24_1).extract (x10_10 : Int).toNat (rdOf ByteArray.empty t123 x24_1).size) t132 t133 _ A50.out).mono ?_); rintro e w57 ⟨rfl, hb⟩; refine ⟨_, rfl, ?_⟩; have n0_ := Aside0.mk (Kd.R_below (by (with_reducible repeat (first | apply Kd.R_alloc | apply Kd.R_drewN | apply Kd.R_drew)); exact HO_22.out) hb); have n1_ := Aside0.mk (blk_below (g := gb122) (o := .cells #[.int .i32 x123000_10, .int .i32 x123001_10, .int .i32 x123002_10, .int .u8 x123003_10, .int .u8 x123004_10, .int .u8 x123005_10, .bool x123006_10] 26 (0, 0)) (by (with_reducible repeat (first | refine blk_drewN ?_ _ | refine blk_drew ?_ | refine blk_alloc ?_ _)); exact BK122.out) hb); have n2_ := Aside0.mk (blk_below (g := gb127) (o := .cells #[.int .i32 x128000_1, .int .i32 x128001_10, .int .i32 x128002_1, .int .u8 x128003_10, .int .u8 x128004_10, .int .u8 x128005_10, .bool x128006_10] 26 (0, 0)) (by (with_reducible repeat (first | refine blk_drewN ?_ _ | refine blk_drew ?_ | refine blk_alloc ?_ _)); exact BK127.out) hb); have n3_ := Aside0.mk (below_step (by repeat (first | (with_reducible first | exact HB.out | apply below_alloc | apply pw_below_drewN | apply below_drew1 | refine below_set ?_ GE122.out | refine below_set ?_ GE127.out) | exact HB.out)) hb); clear HO_22; clear BK122; clear BK127; clear HB; have HO_22 := n0_; have BK122 := n1_; have BK127 := n2_; have HB := n3_; clear n0_ n1_ n2_ n3_; (try clear hb); (try clear hb2); (try clear hk); (try clear hi); have hnb58 := NB127_122.out; have hnc58 := NB122_127.out; have hcz59_0 : w57.cell? ⟨gb127, 0, none⟩ = some (.int .i32 x128000_1) := (blk_cell BK127.out 0).trans rfl; have hcz59_1 : w57.cell? ⟨gb127, 1, none⟩ = some (.int .i32 x128001_10) := (blk_cell BK127.out 1).trans rfl; have hcz59_2 : w57.cell? ⟨gb127, 2, none⟩ = some (.int .i32 x128002_1) := (blk_cell BK127.out 2).trans rfl; have hcz59_3 : w57.cell? ⟨gb127, 3, none⟩ = some (.int .u8 x128003_10) := (blk_cell BK127.out 3).trans rfl; have hcz59_4 : w57.cell? ⟨gb127, 4, none⟩ = some (.int .u8 x128004_10) := (blk_cell BK127.out 4).trans rfl; have hcz59_5 : w57.cell? ⟨gb127, 5, none⟩ = some (.int .u8 x128005_10) := (blk_cell BK127.out 5).trans rfl; have hcz59_6 : w57.cell? ⟨gb127, 6, none⟩ = some (.bool x128006_10) := (blk_cell BK127.out 6).trans rfl; have hfz59_0 := blk_frozen BK127.out 0; have hfz59_1 := blk_frozen BK127.out 1; have hfz59_2 := blk_frozen BK127.out 2; have hfz59_3 := blk_frozen BK127.out 3; have hfz59_4 := blk_frozen BK127.out 4; have hfz59_5 := blk_frozen BK127.out 5; have hfz59_6 := blk_frozen BK127.out 6))
                              go_roundg kj10
                              case measure => have := HK1.out; have := HJ10.out; omega
                              case rel => exact ⟨(wrap64 (x24_1 + 1)), (x123000_10), (x123001_10), (x123002_10), (x123003_10), (x123004_10), (x123005_10), (x123006_10), (t132), (x128001_10), (x128002_1), (x128003_10), (x128004_10), (x128005_10), (x128006_10), (by first | rfl | (simp; done) | (simp [*]; done)), H', ⟨by have := HK1.out; have := HJ10.out; omega⟩, ⟨by (with_reducible repeat (first | apply Kd.R_alloc | apply Kd.R_drewN | apply Kd.R_drew)); exact Kd.R_mono (Kd.R_far (p := ⟨gb127, 0, none⟩) (Kd.R_types HO_22.out BK127.out (by decide)) (fun _ hk => hk.2) (.int .i32 t132)) (fun _ hk => trivial)⟩, ⟨by (with_reducible repeat (first | refine blk_drewN ?_ _ | refine blk_drew ?_ | refine blk_alloc ?_ _)); refine blk_far ?_ NB122_127.out _; (with_reducible repeat (first | refine blk_drewN ?_ _ | refine blk_drew ?_ | refine blk_alloc ?_ _)); exact BK122.out⟩, ⟨by (with_reducible repeat (first | refine blk_drewN ?_ _ | refine blk_drew ?_ | refine blk_alloc ?_ _)); refine blk_put (cs := #[.int .i32 x128000_1, .int .i32 x128001_10, .int .i32 x128002_1, .int .u8 x128003_10, .int .u8 x128004_10, .int .u8 x128005_10, .bool x128006_10]) ?_ 0 _ rfl; (with_reducible repeat (first | refine blk_drewN ?_ _ | refine blk_drew ?_ | refine blk_alloc ?_ _)); exact BK127.out⟩, ⟨by repeat (first | (with_reducible first | exact HB.out | apply below_alloc | apply pw_below_drewN | apply below_drew1 | refine below_set ?_ GE122.out | refine below_set ?_ GE127.out) | exact HB.out)⟩⟩
                            · rw [if_neg c56] at H
                              have c56b0 : (x10_10 == 0) = false := beq_eq_false_iff_ne.mpr c56
                              have c56b1 : (x10_10 != 0) = true := bne_iff_ne.mpr c56
                              by_cases c60 : x10_10 = 3
                              · rw [if_pos c60] at H
                                have c60b0 : (x10_10 == 3) = true := beq_iff_eq.mpr c60
                                have c60b1 : (x10_10 != 3) = false := bne_eq_false_iff_eq.mpr c60
                                clear c60
                                have H' := Aside0.mk H
                                clear H
                                go_wp2_with (first | ((with_reducible refine gate_callee (f := 32) rfl ?_); refine goesL_ (some 80) rfl rfl Tryd.func32 (by kernel_rfl) rfl #[.string ((rdOf ByteArray.empty t123 x24_1).extract (x10_10 : Int).toNat (rdOf ByteArray.empty t123 x24_1).size)] rfl (by (try simp only [List.map_toArray, List.map_cons, List.map_nil]); first | done | rfl | (simp only [List.length_drop, List.length_take]; rfl)) ?_; (with_reducible refine (spec_ColourParse.calls kj10 ((rdOf ByteArray.empty t123 x24_1).extract (x10_10 : Int).toNat (rdOf ByteArray.empty t123 x24_1).size) t132 t133 _ A50.out).mono ?_); rintro e w61 ⟨rfl, hb⟩; refine ⟨_, rfl, ?_⟩; have n0_ := Aside0.mk (Kd.R_below (by (with_reducible repeat (first | apply Kd.R_alloc | apply Kd.R_drewN | apply Kd.R_drew)); exact HO_22.out) hb); have n1_ := Aside0.mk (blk_below (g := gb122) (o := .cells #[.int .i32 x123000_10, .int .i32 x123001_10, .int .i32 x123002_10, .int .u8 x123003_10, .int .u8 x123004_10, .int .u8 x123005_10, .bool x123006_10] 26 (0, 0)) (by (with_reducible repeat (first | refine blk_drewN ?_ _ | refine blk_drew ?_ | refine blk_alloc ?_ _)); exact BK122.out) hb); have n2_ := Aside0.mk (blk_below (g := gb127) (o := .cells #[.int .i32 x128000_1, .int .i32 x128001_10, .int .i32 x128002_1, .int .u8 x128003_10, .int .u8 x128004_10, .int .u8 x128005_10, .bool x128006_10] 26 (0, 0)) (by (with_reducible repeat (first | refine blk_drewN ?_ _ | refine blk_drew ?_ | refine blk_alloc ?_ _)); exact BK127.out) hb); have n3_ := Aside0.mk (below_step (by repeat (first | (with_reducible first | exact HB.out | apply below_alloc | apply pw_below_drewN | apply below_drew1 | refine below_set ?_ GE122.out | refine below_set ?_ GE127.out) | exact HB.out)) hb); clear HO_22; clear BK122; clear BK127; clear HB; have HO_22 := n0_; have BK122 := n1_; have BK127 := n2_; have HB := n3_; clear n0_ n1_ n2_ n3_; (try clear hb); (try clear hb2); (try clear hk); (try clear hi); have hnb62 := NB127_122.out; have hnc62 := NB122_127.out; have hcz63_0 : w61.cell? ⟨gb127, 0, none⟩ = some (.int .i32 x128000_1) := (blk_cell BK127.out 0).trans rfl; have hcz63_1 : w61.cell? ⟨gb127, 1, none⟩ = some (.int .i32 x128001_10) := (blk_cell BK127.out 1).trans rfl; have hcz63_2 : w61.cell? ⟨gb127, 2, none⟩ = some (.int .i32 x128002_1) := (blk_cell BK127.out 2).trans rfl; have hcz63_3 : w61.cell? ⟨gb127, 3, none⟩ = some (.int .u8 x128003_10) := (blk_cell BK127.out 3).trans rfl; have hcz63_4 : w61.cell? ⟨gb127, 4, none⟩ = some (.int .u8 x128004_10) := (blk_cell BK127.out 4).trans rfl; have hcz63_5 : w61.cell? ⟨gb127, 5, none⟩ = some (.int .u8 x128005_10) := (blk_cell BK127.out 5).trans rfl; have hcz63_6 : w61.cell? ⟨gb127, 6, none⟩ = some (.bool x128006_10) := (blk_cell BK127.out 6).trans rfl; have hfz63_0 := blk_frozen BK127.out 0; have hfz63_1 := blk_frozen BK127.out 1; have hfz63_2 := blk_frozen BK127.out 2; have hfz63_3 := blk_frozen BK127.out 3; have hfz63_4 := blk_frozen BK127.out 4; have hfz63_5 := blk_frozen BK127.out 5; have hfz63_6 := blk_frozen BK127.out 6))
                                go_roundg kj10
                                case measure => have := HK1.out; have := HJ10.out; omega
                                case rel => exact ⟨(wrap64 (x24_1 + 1)), (x123000_10), (x123001_10), (x123002_10), (x123003_10), (x123004_10), (x123005_10), (x123006_10), (x128000_1), (t132), (x128002_1), (x128003_10), (x128004_10), (x128005_10), (x128006_10), (by first | rfl | (simp; done) | (simp [*]; done)), H', ⟨by have := HK1.out; have := HJ10.out; omega⟩, ⟨by (with_reducible repeat (first | apply Kd.R_alloc | apply Kd.R_drewN | apply Kd.R_drew)); exact Kd.R_mono (Kd.R_far (p := ⟨gb127, 1, none⟩) (Kd.R_types HO_22.out BK127.out (by decide)) (fun _ hk => hk.2) (.int .i32 t132)) (fun _ hk => trivial)⟩, ⟨by (with_reducible repeat (first | refine blk_drewN ?_ _ | refine blk_drew ?_ | refine blk_alloc ?_ _)); refine blk_far ?_ NB122_127.out _; (with_reducible repeat (first | refine blk_drewN ?_ _ | refine blk_drew ?_ | refine blk_alloc ?_ _)); exact BK122.out⟩, ⟨by (with_reducible repeat (first | refine blk_drewN ?_ _ | refine blk_drew ?_ | refine blk_alloc ?_ _)); refine blk_put (cs := #[.int .i32 x128000_1, .int .i32 x128001_10, .int .i32 x128002_1, .int .u8 x128003_10, .int .u8 x128004_10, .int .u8 x128005_10, .bool x128006_10]) ?_ 1 _ rfl; (with_reducible repeat (first | refine blk_drewN ?_ _ | refine blk_drew ?_ | refine blk_alloc ?_ _)); exact BK127.out⟩, ⟨by repeat (first | (with_reducible first | exact HB.out | apply below_alloc | apply pw_below_drewN | apply below_drew1 | refine below_set ?_ GE122.out | refine below_set ?_ GE127.out) | exact HB.out)⟩⟩
                              · rw [if_neg c60] at H
                                have c60b0 : (x10_10 == 3) = false := beq_eq_false_iff_ne.mpr c60
                                have c60b1 : (x10_10 != 3) = true := bne_iff_ne.mpr c60
                                have H' := Aside0.mk H
                                clear H
                                go_wp2_with (first | ((with_reducible refine gate_callee (f := 32) rfl ?_); refine goesL_ (some 80) rfl rfl Tryd.func32 (by kernel_rfl) rfl #[.string ((rdOf ByteArray.empty t123 x24_1).extract (x10_10 : Int).toNat (rdOf ByteArray.empty t123 x24_1).size)] rfl (by (try simp only [List.map_toArray, List.map_cons, List.map_nil]); first | done | rfl | (simp only [List.length_drop, List.length_take]; rfl)) ?_; (with_reducible refine (spec_ColourParse.calls kj10 ((rdOf ByteArray.empty t123 x24_1).extract (x10_10 : Int).toNat (rdOf ByteArray.empty t123 x24_1).size) t132 t133 _ A50.out).mono ?_); rintro e w64 ⟨rfl, hb⟩; refine ⟨_, rfl, ?_⟩; have n0_ := Aside0.mk (Kd.R_below (by (with_reducible repeat (first | apply Kd.R_alloc | apply Kd.R_drewN | apply Kd.R_drew)); exact HO_22.out) hb); have n1_ := Aside0.mk (blk_below (g := gb122) (o := .cells #[.int .i32 x123000_10, .int .i32 x123001_10, .int .i32 x123002_10, .int .u8 x123003_10, .int .u8 x123004_10, .int .u8 x123005_10, .bool x123006_10] 26 (0, 0)) (by (with_reducible repeat (first | refine blk_drewN ?_ _ | refine blk_drew ?_ | refine blk_alloc ?_ _)); exact BK122.out) hb); have n2_ := Aside0.mk (blk_below (g := gb127) (o := .cells #[.int .i32 x128000_1, .int .i32 x128001_10, .int .i32 x128002_1, .int .u8 x128003_10, .int .u8 x128004_10, .int .u8 x128005_10, .bool x128006_10] 26 (0, 0)) (by (with_reducible repeat (first | refine blk_drewN ?_ _ | refine blk_drew ?_ | refine blk_alloc ?_ _)); exact BK127.out) hb); have n3_ := Aside0.mk (below_step (by repeat (first | (with_reducible first | exact HB.out | apply below_alloc | apply pw_below_drewN | apply below_drew1 | refine below_set ?_ GE122.out | refine below_set ?_ GE127.out) | exact HB.out)) hb); clear HO_22; clear BK122; clear BK127; clear HB; have HO_22 := n0_; have BK122 := n1_; have BK127 := n2_; have HB := n3_; clear n0_ n1_ n2_ n3_; (try clear hb); (try clear hb2); (try clear hk); (try clear hi); have hnb65 := NB127_122.out; have hnc65 := NB122_127.out; have hcz66_0 : w64.cell? ⟨gb127, 0, none⟩ = some (.int .i32 x128000_1) := (blk_cell BK127.out 0).trans rfl; have hcz66_1 : w64.cell? ⟨gb127, 1, none⟩ = some (.int .i32 x128001_10) := (blk_cell BK127.out 1).trans rfl; have hcz66_2 : w64.cell? ⟨gb127, 2, none⟩ = some (.int .i32 x128002_1) := (blk_cell BK127.out 2).trans rfl; have hcz66_3 : w64.cell? ⟨gb127, 3, none⟩ = some (.int .u8 x128003_10) := (blk_cell BK127.out 3).trans rfl; have hcz66_4 : w64.cell? ⟨gb127, 4, none⟩ = some (.int .u8 x128004_10) := (blk_cell BK127.out 4).trans rfl; have hcz66_5 : w64.cell? ⟨gb127, 5, none⟩ = some (.int .u8 x128005_10) := (blk_cell BK127.out 5).trans rfl; have hcz66_6 : w64.cell? ⟨gb127, 6, none⟩ = some (.bool x128006_10) := (blk_cell BK127.out 6).trans rfl; have hfz66_0 := blk_frozen BK127.out 0; have hfz66_1 := blk_frozen BK127.out 1; have hfz66_2 := blk_frozen BK127.out 2; have hfz66_3 := blk_frozen BK127.out 3; have hfz66_4 := blk_frozen BK127.out 4; have hfz66_5 := blk_frozen BK127.out 5; have hfz66_6 := blk_frozen BK127.out 6))
                                go_roundg kj10
                                case measure => have := HK1.out; have := HJ10.out; omega
                                case rel => exact ⟨(wrap64 (x24_1 + 1)), (x123000_10), (x123001_10), (x123002_10), (x123003_10), (x123004_10), (x123005_10), (x123006_10), (x128000_1), (x128001_10), (t132), (x128003_10), (x128004_10), (x128005_10), (x128006_10), (by first | rfl | (simp; done) | (simp [*]; done)), H', ⟨by have := HK1.out; have := HJ10.out; omega⟩, ⟨by (with_reducible repeat (first | apply Kd.R_alloc | apply Kd.R_drewN | apply Kd.R_drew)); exact Kd.R_mono (Kd.R_far (p := ⟨gb127, 2, none⟩) (Kd.R_types HO_22.out BK127.out (by decide)) (fun _ hk => hk.2) (.int .i32 t132)) (fun _ hk => trivial)⟩, ⟨by (with_reducible repeat (first | refine blk_drewN ?_ _ | refine blk_drew ?_ | refine blk_alloc ?_ _)); refine blk_far ?_ NB122_127.out _; (with_reducible repeat (first | refine blk_drewN ?_ _ | refine blk_drew ?_ | refine blk_alloc ?_ _)); exact BK122.out⟩, ⟨by (with_reducible repeat (first | refine blk_drewN ?_ _ | refine blk_drew ?_ | refine blk_alloc ?_ _)); refine blk_put (cs := #[.int .i32 x128000_1, .int .i32 x128001_10, .int .i32 x128002_1, .int .u8 x128003_10, .int .u8 x128004_10, .int .u8 x128005_10, .bool x128006_10]) ?_ 2 _ rfl; (with_reducible repeat (first | refine blk_drewN ?_ _ | refine blk_drew ?_ | refine blk_alloc ?_ _)); exact BK127.out⟩, ⟨by repeat (first | (with_reducible first | exact HB.out | apply below_alloc | apply pw_below_drewN | apply below_drew1 | refine below_set ?_ GE122.out | refine below_set ?_ GE127.out) | exact HB.out)⟩⟩
                        · rw [if_neg c51] at H
                          have c51b0 : (t133 == 1) = false := beq_eq_false_iff_ne.mpr c51
                          have c51b1 : (t133 != 1) = true := bne_iff_ne.mpr c51
                          simp only [Option.some.injEq, Prod.mk.injEq] at H
                          obtain ⟨rfl, rfl, rfl, rfl, rfl, rfl, rfl, rfl, rfl⟩ := H
                          go_wp2_with (first | ((with_reducible refine gate_callee (f := 32) rfl ?_); refine goesL_ (some 80) rfl rfl Tryd.func32 (by kernel_rfl) rfl #[.string ((rdOf ByteArray.empty t123 x24_1).extract (x10_10 : Int).toNat (rdOf ByteArray.empty t123 x24_1).size)] rfl (by (try simp only [List.map_toArray, List.map_cons, List.map_nil]); first | done | rfl | (simp only [List.length_drop, List.length_take]; rfl)) ?_; (with_reducible refine (spec_ColourParse.calls kj10 ((rdOf ByteArray.empty t123 x24_1).extract (x10_10 : Int).toNat (rdOf ByteArray.empty t123 x24_1).size) t132 t133 _ A50.out).mono ?_); rintro e w67 ⟨rfl, hb⟩; refine ⟨_, rfl, ?_⟩; have n0_ := Aside0.mk (Kd.R_below (by (with_reducible repeat (first | apply Kd.R_alloc | apply Kd.R_drewN | apply Kd.R_drew)); exact HO_22.out) hb); have n1_ := Aside0.mk (blk_below (g := gb122) (o := .cells #[.int .i32 x123000_10, .int .i32 x123001_10, .int .i32 x123002_10, .int .u8 x123003_10, .int .u8 x123004_10, .int .u8 x123005_10, .bool x123006_10] 26 (0, 0)) (by (with_reducible repeat (first | refine blk_drewN ?_ _ | refine blk_drew ?_ | refine blk_alloc ?_ _)); exact BK122.out) hb); have n2_ := Aside0.mk (blk_below (g := gb127) (o := .cells #[.int .i32 x128000_1, .int .i32 x128001_10, .int .i32 x128002_1, .int .u8 x128003_10, .int .u8 x128004_10, .int .u8 x128005_10, .bool x128006_10] 26 (0, 0)) (by (with_reducible repeat (first | refine blk_drewN ?_ _ | refine blk_drew ?_ | refine blk_alloc ?_ _)); exact BK127.out) hb); have n3_ := Aside0.mk (below_step (by repeat (first | (with_reducible first | exact HB.out | apply below_alloc | apply pw_below_drewN | apply below_drew1 | refine below_set ?_ GE122.out | refine below_set ?_ GE127.out) | exact HB.out)) hb); clear HO_22; clear BK122; clear BK127; clear HB; have HO_22 := n0_; have BK122 := n1_; have BK127 := n2_; have HB := n3_; clear n0_ n1_ n2_ n3_; (try clear hb); (try clear hb2); (try clear hk); (try clear hi); have hnb68 := NB122_127.out; have hnc68 := NB127_122.out; have hcz69_0 : w67.cell? ⟨gb122, 0, none⟩ = some (.int .i32 x123000_10) := (blk_cell BK122.out 0).trans rfl; have hcz69_1 : w67.cell? ⟨gb122, 1, none⟩ = some (.int .i32 x123001_10) := (blk_cell BK122.out 1).trans rfl; have hcz69_2 : w67.cell? ⟨gb122, 2, none⟩ = some (.int .i32 x123002_10) := (blk_cell BK122.out 2).trans rfl; have hcz69_3 : w67.cell? ⟨gb122, 3, none⟩ = some (.int .u8 x123003_10) := (blk_cell BK122.out 3).trans rfl; have hcz69_4 : w67.cell? ⟨gb122, 4, none⟩ = some (.int .u8 x123004_10) := (blk_cell BK122.out 4).trans rfl; have hcz69_5 : w67.cell? ⟨gb122, 5, none⟩ = some (.int .u8 x123005_10) := (blk_cell BK122.out 5).trans rfl; have hcz69_6 : w67.cell? ⟨gb122, 6, none⟩ = some (.bool x123006_10) := (blk_cell BK122.out 6).trans rfl; have hfz69_0 := blk_frozen BK122.out 0; have hfz69_1 := blk_frozen BK122.out 1; have hfz69_2 := blk_frozen BK122.out 2; have hfz69_3 := blk_frozen BK122.out 3; have hfz69_4 := blk_frozen BK122.out 4; have hfz69_5 := blk_frozen BK122.out 5; have hfz69_6 := blk_frozen BK122.out 6))
                          refine bodyPost_ret (results_ctt rfl _ _ gb122 26 #[.int .i32 0, .int .i32 0, .int .i32 0, .int .u8 0, .int .u8 0, .int .u8 0, .bool false] (0, 0) _ rfl (by (with_reducible repeat (first | refine blk_drewN ?_ _ | refine blk_drew ?_ | refine blk_alloc ?_ _)); refine blk_put (cs := #[.int .i32 0, .int .i32 0, .int .i32 0, .int .u8 0, .int .u8 0, .int .u8 0, .bool x123006_10]) ?_ 6 _ rfl; (with_reducible repeat (first | refine blk_drewN ?_ _ | refine blk_drew ?_ | refine blk_alloc ?_ _)); refine blk_put (cs := #[.int .i32 0, .int .i32 0, .int .i32 0, .int .u8 0, .int .u8 0, .int .u8 x123005_10, .bool x123006_10]) ?_ 5 _ rfl; (with_reducible repeat (first | refine blk_drewN ?_ _ | refine blk_drew ?_ | refine blk_alloc ?_ _)); refine blk_put (cs := #[.int .i32 0, .int .i32 0, .int .i32 0, .int .u8 0, .int .u8 x123004_10, .int .u8 x123005_10, .bool x123006_10]) ?_ 4 _ rfl; (with_reducible repeat (first | refine blk_drewN ?_ _ | refine blk_drew ?_ | refine blk_alloc ?_ _)); refine blk_put (cs := #[.int .i32 0, .int .i32 0, .int .i32 0, .int .u8 x123003_10, .int .u8 x123004_10, .int .u8 x123005_10, .bool x123006_10]) ?_ 3 _ rfl; (with_reducible repeat (first | refine blk_drewN ?_ _ | refine blk_drew ?_ | refine blk_alloc ?_ _)); refine blk_put (cs := #[.int .i32 0, .int .i32 0, .int .i32 x123002_10, .int .u8 x123003_10, .int .u8 x123004_10, .int .u8 x123005_10, .bool x123006_10]) ?_ 2 _ rfl; (with_reducible repeat (first | refine blk_drewN ?_ _ | refine blk_drew ?_ | refine blk_alloc ?_ _)); refine blk_put (cs := #[.int .i32 0, .int .i32 x123001_10, .int .i32 x123002_10, .int .u8 x123003_10, .int .u8 x123004_10, .int .u8 x123005_10, .bool x123006_10]) ?_ 1 _ rfl; (with_reducible repeat (first | refine blk_drewN ?_ _ | refine blk_drew ?_ | refine blk_alloc ?_ _)); refine blk_put (cs := #[.int .i32 x123000_10, .int .i32 x123001_10, .int .i32 x123002_10, .int .u8 x123003_10, .int .u8 x123004_10, .int .u8 x123005_10, .bool x123006_10]) ?_ 0 _ rfl; (with_reducible repeat (first | refine blk_drewN ?_ _ | refine blk_drew ?_ | refine blk_alloc ?_ _)); exact BK122.out) Tryd.underlying26 rfl (by kernel_rfl)) rfl ?_
                          exact ⟨by first | rfl | (simp [errW_none, errW_some] <;> rfl) | (simp [*, errW_none, errW_some] <;> rfl), by repeat (first | (with_reducible first | exact HB.out | apply below_alloc | apply pw_below_drewN | apply below_drew1 | refine below_set ?_ GE122.out | refine below_set ?_ GE127.out) | exact HB.out)⟩
                      · rw [if_neg c49] at H
                        exact absurd H (by simp)
                    · rw [if_neg c48] at H
                      exact absurd H (by simp)
            · rw [if_neg c10] at H
              exact absurd H (by simp)
          · rw [if_neg c9] at H
            exact absurd H (by simp)
        · rw [if_neg c8] at H
          have c8b0 : decide (x24_1 < (t123.length : Int)) = false := decide_eq_false c8
          clear c8
          simp only [Option.some.injEq, Prod.mk.injEq] at H
          obtain ⟨rfl, rfl, rfl, rfl, rfl, rfl, rfl, rfl, rfl⟩ := H
          have hnb70 := NB127_122.out
          have hnc70 := NB122_127.out
          have hcz71_0 : wr.cell? ⟨gb127, 0, none⟩ = some (.int .i32 x128000_1) := (blk_cell BK127.out 0).trans rfl
          have hcz71_1 : wr.cell? ⟨gb127, 1, none⟩ = some (.int .i32 x128001_1) := (blk_cell BK127.out 1).trans rfl
          have hcz71_2 : wr.cell? ⟨gb127, 2, none⟩ = some (.int .i32 x128002_1) := (blk_cell BK127.out 2).trans rfl
          have hcz71_3 : wr.cell? ⟨gb127, 3, none⟩ = some (.int .u8 x128003_1) := (blk_cell BK127.out 3).trans rfl
          have hcz71_4 : wr.cell? ⟨gb127, 4, none⟩ = some (.int .u8 x128004_1) := (blk_cell BK127.out 4).trans rfl
          have hcz71_5 : wr.cell? ⟨gb127, 5, none⟩ = some (.int .u8 x128005_1) := (blk_cell BK127.out 5).trans rfl
          have hcz71_6 : wr.cell? ⟨gb127, 6, none⟩ = some (.bool x128006_1) := (blk_cell BK127.out 6).trans rfl
          have hfz71_0 := blk_frozen BK127.out 0
          have hfz71_1 := blk_frozen BK127.out 1
          have hfz71_2 := blk_frozen BK127.out 2
          have hfz71_3 := blk_frozen BK127.out 3
          have hfz71_4 := blk_frozen BK127.out 4
          have hfz71_5 := blk_frozen BK127.out 5
          have hfz71_6 := blk_frozen BK127.out 6
          have hcz72_0 : wr.cell? ⟨gb122, 0, none⟩ = some (.int .i32 x123000_1) := (blk_cell BK122.out 0).trans rfl
          have hcz72_1 : wr.cell? ⟨gb122, 1, none⟩ = some (.int .i32 x123001_1) := (blk_cell BK122.out 1).trans rfl
          have hcz72_2 : wr.cell? ⟨gb122, 2, none⟩ = some (.int .i32 x123002_1) := (blk_cell BK122.out 2).trans rfl
          have hcz72_3 : wr.cell? ⟨gb122, 3, none⟩ = some (.int .u8 x123003_1) := (blk_cell BK122.out 3).trans rfl
          have hcz72_4 : wr.cell? ⟨gb122, 4, none⟩ = some (.int .u8 x123004_1) := (blk_cell BK122.out 4).trans rfl
          have hcz72_5 : wr.cell? ⟨gb122, 5, none⟩ = some (.int .u8 x123005_1) := (blk_cell BK122.out 5).trans rfl
          have hcz72_6 : wr.cell? ⟨gb122, 6, none⟩ = some (.bool x123006_1) := (blk_cell BK122.out 6).trans rfl
          have hfz72_0 := blk_frozen BK122.out 0
          have hfz72_1 := blk_frozen BK122.out 1
          have hfz72_2 := blk_frozen BK122.out 2
          have hfz72_3 := blk_frozen BK122.out 3
          have hfz72_4 := blk_frozen BK122.out 4
          have hfz72_5 := blk_frozen BK122.out 5
          have hfz72_6 := blk_frozen BK122.out 6
          go_wp2
          refine bodyPost_ret (results_ctt rfl _ _ gb122 26 #[.int .i32 x128000_1, .int .i32 x128001_1, .int .i32 x128002_1, .int .u8 x128003_1, .int .u8 x128004_1, .int .u8 x128005_1, .bool x128006_1] (0, 0) _ rfl (by (with_reducible repeat (first | refine blk_drewN ?_ _ | refine blk_drew ?_ | refine blk_alloc ?_ _)); refine blk_put (cs := #[.int .i32 x128000_1, .int .i32 x128001_1, .int .i32 x128002_1, .int .u8 x128003_1, .int .u8 x128004_1, .int .u8 x128005_1, .bool x123006_1]) ?_ 6 _ rfl; (with_reducible repeat (first | refine blk_drewN ?_ _ | refine blk_drew ?_ | refine blk_alloc ?_ _)); refine blk_put (cs := #[.int .i32 x128000_1, .int .i32 x128001_1, .int .i32 x128002_1, .int .u8 x128003_1, .int .u8 x128004_1, .int .u8 x123005_1, .bool x123006_1]) ?_ 5 _ rfl; (with_reducible repeat (first | refine blk_drewN ?_ _ | refine blk_drew ?_ | refine blk_alloc ?_ _)); refine blk_put (cs := #[.int .i32 x128000_1, .int .i32 x128001_1, .int .i32 x128002_1, .int .u8 x128003_1, .int .u8 x123004_1, .int .u8 x123005_1, .bool x123006_1]) ?_ 4 _ rfl; (with_reducible repeat (first | refine blk_drewN ?_ _ | refine blk_drew ?_ | refine blk_alloc ?_ _)); refine blk_put (cs := #[.int .i32 x128000_1, .int .i32 x128001_1, .int .i32 x128002_1, .int .u8 x123003_1, .int .u8 x123004_1, .int .u8 x123005_1, .bool x123006_1]) ?_ 3 _ rfl; (with_reducible repeat (first | refine blk_drewN ?_ _ | refine blk_drew ?_ | refine blk_alloc ?_ _)); refine blk_put (cs := #[.int .i32 x128000_1, .int .i32 x128001_1, .int .i32 x123002_1, .int .u8 x123003_1, .int .u8 x123004_1, .int .u8 x123005_1, .bool x123006_1]) ?_ 2 _ rfl; (with_reducible repeat (first | refine blk_drewN ?_ _ | refine blk_drew ?_ | refine blk_alloc ?_ _)); refine blk_put (cs := #[.int .i32 x128000_1, .int .i32 x123001_1, .int .i32 x123002_1, .int .u8 x123003_1, .int .u8 x123004_1, .int .u8 x123005_1, .bool x123006_1]) ?_ 1 _ rfl; (with_reducible repeat (first | refine blk_drewN ?_ _ | refine blk_drew ?_ | refine blk_alloc ?_ _)); refine blk_put (cs := #[.int .i32 x123000_1, .int .i32 x123001_1, .int .i32 x123002_1, .int .u8 x123003_1, .int .u8 x123004_1, .int .u8 x123005_1, .bool x123006_1]) ?_ 0 _ rfl; (with_reducible repeat (first | refine blk_drewN ?_ _ | refine blk_drew ?_ | refine blk_alloc ?_ _)); exact BK122.out) Tryd.underlying26 rfl (by kernel_rfl)) rfl ?_
          exact ⟨by first | rfl | (simp [errW_none, errW_some] <;> rfl) | (simp [*, errW_none, errW_some] <;> rfl), by repeat (first | (with_reducible first | exact HB.out | apply below_alloc | apply pw_below_drewN | apply below_drew1 | refine below_set ?_ GE122.out | refine below_set ?_ GE127.out) | exact HB.out)⟩
  · rw [if_neg c3] at H
    have c3b0 : (t124 == 1) = false := beq_eq_false_iff_ne.mpr c3
    have c3b1 : (t124 != 1) = true := bne_iff_ne.mpr c3
    simp only [Option.some.injEq, Prod.mk.injEq] at H
    obtain ⟨rfl, rfl, rfl, rfl, rfl, rfl, rfl, rfl, rfl⟩ := H
    go_enter Tryd.func14, Tryd.ntmps14
    go_wp2_with (first | ((with_reducible refine gate_dst (N := 2) rfl ?_); refine box_event ?hg (N := 2) ?hd (cs := #[.int .i32 0, .int .i32 0, .int .i32 0, .int .u8 0, .int .u8 0, .int .u8 0, .bool false]) (t := 26) ?hr ?_; (case hd => rfl); (case hg => rfl); (case hr => first | (go_simp; done) | (go_simp; rfl)); intro gb122 hg w73 hbox hb; have n0_ := Aside0.mk (below_step (by repeat (first | (with_reducible first | exact HB.out | apply below_alloc | apply pw_below_drewN | apply below_drew1) | exact HB.out)) hb); have n1_ := Aside0.mk (hbox); have n2_ := Aside0.mk ((by rw [hg]; exact (below_size (by repeat (first | (with_reducible first | exact HB.out | apply below_alloc | apply pw_below_drewN | apply below_drew1) | exact HB.out))) : w.heap.size ≤ gb122)); have n3_ := Aside0.mk ((by rw [hg]; exact (below_size (by repeat (first | (with_reducible first | exact HB.out | apply below_alloc | apply pw_below_drewN | apply below_drew1) | exact HB.out))) : w.heap.size ≤ gb122)); clear HB; have HB := n0_; have BK122 := n1_; have GW122 := n2_; have GE122 := n3_; clear n0_ n1_ n2_ n3_; clear hb hbox hg) | ((with_reducible refine gate_callee (f := 30) rfl ?_); refine goesL_ (some 15) rfl rfl Tryd.func30 (by kernel_rfl) rfl #[.string a0] rfl (by (try simp only [List.map_toArray, List.map_cons, List.map_nil]); first | done | rfl | (simp only [List.length_drop, List.length_take]; rfl)) ?_; (with_reducible refine (spec_words.calls k a0 t123 t124 _ A2.out).mono ?_); rintro e w74 ⟨v125, rfl, ho0, hb⟩; refine ⟨_, rfl, ?_⟩; have n0_ := Aside0.mk (Kd.R_lower ho0 (below_size (by repeat (first | (with_reducible first | exact HB.out | apply below_alloc | apply pw_below_drewN | apply below_drew1 | refine below_set ?_ GE122.out) | exact HB.out)))); have n1_ := Aside0.mk (blk_below (g := gb122) (o := .cells #[.int .i32 0, .int .i32 0, .int .i32 0, .int .u8 0, .int .u8 0, .int .u8 0, .bool false] 26 (0, 0)) (by (with_reducible repeat (first | refine blk_drewN ?_ _ | refine blk_drew ?_ | refine blk_alloc ?_ _)); exact BK122.out) hb); have n2_ := Aside0.mk (below_step (by repeat (first | (with_reducible first | exact HB.out | apply below_alloc | apply pw_below_drewN | apply below_drew1 | refine below_set ?_ GE122.out) | exact HB.out)) hb); clear BK122; clear HB; have HO126 := n0_; have BK122 := n1_; have HB := n2_; clear n0_ n1_ n2_; (try clear hb); (try clear hb2); (try clear hk); (try clear hi); (try clear ho0); have hcz75_0 : w74.cell? ⟨gb122, 0, none⟩ = some (.int .i32 0) := (blk_cell BK122.out 0).trans rfl; have hcz75_1 : w74.cell? ⟨gb122, 1, none⟩ = some (.int .i32 0) := (blk_cell BK122.out 1).trans rfl; have hcz75_2 : w74.cell? ⟨gb122, 2, none⟩ = some (.int .i32 0) := (blk_cell BK122.out 2).trans rfl; have hcz75_3 : w74.cell? ⟨gb122, 3, none⟩ = some (.int .u8 0) := (blk_cell BK122.out 3).trans rfl; have hcz75_4 : w74.cell? ⟨gb122, 4, none⟩ = some (.int .u8 0) := (blk_cell BK122.out 4).trans rfl; have hcz75_5 : w74.cell? ⟨gb122, 5, none⟩ = some (.int .u8 0) := (blk_cell BK122.out 5).trans rfl; have hcz75_6 : w74.cell? ⟨gb122, 6, none⟩ = some (.bool false) := (blk_cell BK122.out 6).trans rfl; have hfz75_0 := blk_frozen BK122.out 0; have hfz75_1 := blk_frozen BK122.out 1; have hfz75_2 := blk_frozen BK122.out 2; have hfz75_3 := blk_frozen BK122.out 3; have hfz75_4 := blk_frozen BK122.out 4; have hfz75_5 := blk_frozen BK122.out 5; have hfz75_6 := blk_frozen BK122.out 6))
    refine bodyPost_ret (results_ctt rfl _ _ gb122 26 #[.int .i32 0, .int .i32 0, .int .i32 0, .int .u8 0, .int .u8 0, .int .u8 0, .bool false] (0, 0) _ rfl (by (with_reducible repeat (first | refine blk_drewN ?_ _ | refine blk_drew ?_ | refine blk_alloc ?_ _)); refine blk_put (cs := #[.int .i32 0, .int .i32 0, .int .i32 0, .int .u8 0, .int .u8 0, .int .u8 0, .bool false]) ?_ 6 _ rfl; (with_reducible repeat (first | refine blk_drewN ?_ _ | refine blk_drew ?_ | refine blk_alloc ?_ _)); refine blk_put (cs := #[.int .i32 0, .int .i32 0, .int .i32 0, .int .u8 0, .int .u8 0, .int .u8 0, .bool false]) ?_ 5 _ rfl; (with_reducible repeat (first | refine blk_drewN ?_ _ | refine blk_drew ?_ | refine blk_alloc ?_ _)); refine blk_put (cs := #[.int .i32 0, .int .i32 0, .int .i32 0, .int .u8 0, .int .u8 0, .int .u8 0, .bool false]) ?_ 4 _ rfl; (with_reducible repeat (first | refine blk_drewN ?_ _ | refine blk_drew ?_ | refine blk_alloc ?_ _)); refine blk_put (cs := #[.int .i32 0, .int .i32 0, .int .i32 0, .int .u8 0, .int .u8 0, .int .u8 0, .bool false]) ?_ 3 _ rfl; (with_reducible repeat (first | refine blk_drewN ?_ _ | refine blk_drew ?_ | refine blk_alloc ?_ _)); refine blk_put (cs := #[.int .i32 0, .int .i32 0, .int .i32 0, .int .u8 0, .int .u8 0, .int .u8 0, .bool false]) ?_ 2 _ rfl; (with_reducible repeat (first | refine blk_drewN ?_ _ | refine blk_drew ?_ | refine blk_alloc ?_ _)); refine blk_put (cs := #[.int .i32 0, .int .i32 0, .int .i32 0, .int .u8 0, .int .u8 0, .int .u8 0, .bool false]) ?_ 1 _ rfl; (with_reducible repeat (first | refine blk_drewN ?_ _ | refine blk_drew ?_ | refine blk_alloc ?_ _)); refine blk_put (cs := #[.int .i32 0, .int .i32 0, .int .i32 0, .int .u8 0, .int .u8 0, .int .u8 0, .bool false]) ?_ 0 _ rfl; (with_reducible repeat (first | refine blk_drewN ?_ _ | refine blk_drew ?_ | refine blk_alloc ?_ _)); exact BK122.out) Tryd.underlying26 rfl (by kernel_rfl)) rfl ?_
    exact ⟨by first | rfl | (simp [errW_none, errW_some] <;> rfl) | (simp [*, errW_none, errW_some] <;> rfl), by repeat (first | (with_reducible first | exact HB.out | apply below_alloc | apply pw_below_drewN | apply below_drew1 | refine below_set ?_ GE122.out) | exact HB.out)⟩

end Go.Proofs.YtifhhejohdmiaaaDoor.S
