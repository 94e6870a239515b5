-- WRITTEN BY OUR myprint.py, a program of this session's over the kit's printer
import Derived.Test.YtjemdgmihbmgeaaGreatDoorSx0
import Derived.Test.YtjemdgmihbmgeaaGreatDoorSx2
namespace Go.Proofs.YtjemdgmihbmgeaaGreatDoor.S
open Go.RowKit Go.Proofs.YtjemdgmihbmgeaaGreatDoorW.PrintWords Go.Proofs.YtjemdgmihbmgeaaGreatDoorW.PrintLast Go.Proofs.YtjemdgmihbmgeaaGreatDoorW.PrintMore
attribute [local go_sem] max2_int min2_int max_two min_two max_three min_three max_four min_four   -- for this text's walks alone
set_option linter.unusedVariables false
set_option linter.unusedSimpArgs false

/-! ### spec_ColourParse: function 66 -/
mutual
def spec_ColourParse.l0 : Nat → ByteArray → List (S166) → Int → Int → Option (Int × Int)
  | 0, _, _, _, _ => none
  | k + 1, x0, x10, x11, x12 => if x12 < x11 then (if 0 ≤ x12 then (if x12 < (x10.length : Int) then (if 1 + ((rd_T166 x10 x12).f0).size ≤ 9223372036854775807 then (if x0.toList = ((⟨#[35]⟩ : ByteArray) ++ ((rd_T166 x10 x12).f0)).toList then (some (wrap32 (wrap64 (((rd_T166 x10 x12).f1) + 1)), 1)) else (if 5 + ((rd_T166 x10 x12).f0).size ≤ 9223372036854775807 then (if x0.toList = ((⟨#[35, 97, 110, 115, 105]⟩ : ByteArray) ++ ((rd_T166 x10 x12).f0)).toList then (some (wrap32 (wrap64 (((rd_T166 x10 x12).f1) + 1)), 1)) else (spec_ColourParse.l0 k x0 x10 x11 (wrap64 (x12 + 1)))) else (none))) else (none)) else (none)) else (none)) else (if x0.toList = ([] : List UInt8) then (spec_ColourParse.j1 k x0 false) else (if 0 < (x0.size : Int) then (spec_ColourParse.j1 k x0 ((bt x0 0) == 35)) else (none)))
def spec_ColourParse.j1 : Nat → ByteArray → Bool → Option (Int × Int)
  | 0, _, _ => none
  | k + 1, x0, x39 => if x39 = true then (if 1 ≤ (x0.size : Int) then (if ((x0.extract 1 x0.size).size : Int) = 3 then (if 0 < ((x0.extract 1 x0.size).size : Int) then (if 1 < ((x0.extract 1 x0.size).size : Int) then (if 2 < ((x0.extract 1 x0.size).size : Int) then (spec_ColourParse.j2 k (strOfNums (([bt (x0.extract 1 x0.size) 0, bt (x0.extract 1 x0.size) 0, bt (x0.extract 1 x0.size) 1, bt (x0.extract 1 x0.size) 1, bt (x0.extract 1 x0.size) 2, bt (x0.extract 1 x0.size) 2] : List Int)))) else (none)) else (none)) else (none)) else (spec_ColourParse.j2 k (x0.extract 1 x0.size))) else (none)) else (spec_ColourParse.j2 k x0)
def spec_ColourParse.j2 : Nat → ByteArray → Option (Int × Int)
  | 0, _ => none
  | k + 1, x0 => if x0.toList = ([] : List UInt8) then (some (0, 1)) else (spec_ColourParse.l1 k x0 0 false 0)
def spec_ColourParse.l1 : Nat → ByteArray → Int → Bool → Int → Option (Int × Int)
  | 0, _, _, _, _ => none
  | k + 1, x0, x6, x7, x8 => if x8 < (x0.size : Int) then (if 0 ≤ x8 then ((spec_hex.f k (bt x0 x8)).bind fun t121 => (if t121 < 0 then (some (0, 1)) else (if x7 = true then (spec_ColourParse.l1 k x0 x6 x7 (wrap64 (x8 + 1))) else (spec_ColourParse.l1 k x0 (wrap64 ((wrap64 (x6 * 16)) + t121)) (decide ((wrap64 ((wrap64 (x6 * 16)) + t121)) ≥ 16777216)) (wrap64 (x8 + 1)))))) else (none)) else (if x7 = true then (some (0, 2)) else (some (wrap32 (wrap64 (x6 + 1)), 1)))
end
def spec_ColourParse.f (k : Nat) (a0 : ByteArray) : Option (Int × Int) := (spec_shades.f).bind fun t113 => (spec_ColourParse.l0 k a0 t113 (t113.length : Int) 0)
theorem spec_ColourParse.mono_l : ∀ k, (∀ y0 y1 y2 y3, LeO (spec_ColourParse.l0 k y0 y1 y2 y3) (spec_ColourParse.l0 (k + 1) y0 y1 y2 y3)) ∧ (∀ y0 y1, LeO (spec_ColourParse.j1 k y0 y1) (spec_ColourParse.j1 (k + 1) y0 y1)) ∧ (∀ y0, LeO (spec_ColourParse.j2 k y0) (spec_ColourParse.j2 (k + 1) y0)) ∧ (∀ y0 y1 y2 y3, LeO (spec_ColourParse.l1 k y0 y1 y2 y3) (spec_ColourParse.l1 (k + 1) y0 y1 y2 y3))
  | 0 => ⟨fun _ _ _ _ r h => by simp [spec_ColourParse.l0] at h, fun _ _ r h => by simp [spec_ColourParse.j1] at h, fun _ r h => by simp [spec_ColourParse.j2] at h, fun _ _ _ _ r h => by simp [spec_ColourParse.l1] at h⟩
  | k + 1 => by
    obtain ⟨ih0, ih1, ih2, ih3⟩ := spec_ColourParse.mono_l k
    refine ⟨?_, ?_, ?_, ?_⟩
    · intro y0 y1 y2 y3
      unfold spec_ColourParse.l0
      repeat' first
      | (with_reducible exact ih0 _ _ _ _)
      | (with_reducible exact ih1 _ _)
      | (with_reducible exact ih2 _)
      | (with_reducible exact ih3 _ _ _ _)
      | (with_reducible exact spec_hex.mono _ _)
      | (with_reducible exact LeO.refl _)
      | (with_reducible exact LeO.none _)
      | (with_reducible refine LeO.ite ?_ ?_)
      | (with_reducible refine LeO.bind ?_ (fun _ => ?_))
      | exact ih0 _ _ _ _
      | exact ih1 _ _
      | exact ih2 _
      | exact ih3 _ _ _ _
      | exact spec_hex.mono _ _
      | exact LeO.none _
      | refine LeO.ite ?_ ?_
      | refine LeO.bind ?_ (fun _ => ?_)
    · intro y0 y1
      unfold spec_ColourParse.j1
      repeat' first
      | (with_reducible exact ih0 _ _ _ _)
      | (with_reducible exact ih1 _ _)
      | (with_reducible exact ih2 _)
      | (with_reducible exact ih3 _ _ _ _)
      | (with_reducible exact spec_hex.mono _ _)
      | (with_reducible exact LeO.refl _)
      | (with_reducible exact LeO.none _)
      | (with_reducible refine LeO.ite ?_ ?_)
      | (with_reducible refine LeO.bind ?_ (fun _ => ?_))
      | exact ih0 _ _ _ _
      | exact ih1 _ _
      | exact ih2 _
      | exact ih3 _ _ _ _
      | exact spec_hex.mono _ _
      | exact LeO.none _
      | refine LeO.ite ?_ ?_
      | refine LeO.bind ?_ (fun _ => ?_)
    · intro y0
      unfold spec_ColourParse.j2
      repeat' first
      | (with_reducible exact ih0 _ _ _ _)
      | (with_reducible exact ih1 _ _)
      | (with_reducible exact ih2 _)
      | (with_reducible exact ih3 _ _ _ _)
      | (with_reducible exact spec_hex.mono _ _)
      | (with_reducible exact LeO.refl _)
      | (with_reducible exact LeO.none _)
      | (with_reducible refine LeO.ite ?_ ?_)
      | (with_reducible refine LeO.bind ?_ (fun _ => ?_))
      | exact ih0 _ _ _ _
      | exact ih1 _ _
      | exact ih2 _
      | exact ih3 _ _ _ _
      | exact spec_hex.mono _ _
      | exact LeO.none _
      | refine LeO.ite ?_ ?_
      | refine LeO.bind ?_ (fun _ => ?_)
    · intro y0 y1 y2 y3
      unfold spec_ColourParse.l1
      repeat' first
      | (with_reducible exact ih0 _ _ _ _)
      | (with_reducible exact ih1 _ _)
      | (with_reducible exact ih2 _)
      | (with_reducible exact ih3 _ _ _ _)
      | (with_reducible exact spec_hex.mono _ _)
      | (with_reducible exact LeO.refl _)
      | (with_reducible exact LeO.none _)
      | (with_reducible refine LeO.ite ?_ ?_)
      | (with_reducible refine LeO.bind ?_ (fun _ => ?_))
      | exact ih0 _ _ _ _
      | exact ih1 _ _
      | exact ih2 _
      | exact ih3 _ _ _ _
      | exact spec_hex.mono _ _
      | exact LeO.none _
      | refine LeO.ite ?_ ?_
      | refine LeO.bind ?_ (fun _ => ?_)
theorem spec_ColourParse.mono : ∀ a0 k, LeO (spec_ColourParse.f k a0) (spec_ColourParse.f (k + 1) a0) := by
  intro a0 k
  obtain ⟨ih0, ih1, ih2, ih3⟩ := spec_ColourParse.mono_l k
  unfold spec_ColourParse.f
  repeat' first
      | (with_reducible exact ih0 _ _ _ _)
      | (with_reducible exact ih1 _ _)
      | (with_reducible exact ih2 _)
      | (with_reducible exact ih3 _ _ _ _)
      | (with_reducible exact spec_hex.mono _ _)
      | (with_reducible exact LeO.refl _)
      | (with_reducible exact LeO.none _)
      | (with_reducible refine LeO.ite ?_ ?_)
      | (with_reducible refine LeO.bind ?_ (fun _ => ?_))
      | exact ih0 _ _ _ _
      | exact ih1 _ _
      | exact ih2 _
      | exact ih3 _ _ _ _
      | exact spec_hex.mono _ _
      | exact LeO.none _
      | refine LeO.ite ?_ ?_
      | refine LeO.bind ?_ (fun _ => ?_)
def spec_ColourParse.T10 : Bool × List (List Nat × List Nat) := (true, [([], []), ([0], [0]), ([], []), ([2], [2]), ([], []), ([4], [4]), ([], []), ([6], [6]), ([], []), ([8], [8]), ([], []), ([10], [10]), ([1, 3, 5, 7, 9, 11], [1, 3, 5, 7, 9, 11]), ([12], [12]), ([13, 0, 1, 2, 3, 4, 5, 6, 7, 8, 9, 10, 11, 12, 13], [0, 2, 4, 6, 8, 10, 13])])
def spec_ColourParse.B10 : List Nat := [0, 1, 0, 4, 0, 16, 0, 64, 0, 256, 0, 1024, 4095, 8191, 16383]
theorem spec_ColourParse.tab10 : rtab .any (opsOf Tryz.f66 10) = spec_ColourParse.T10 := by kernel_rfl
theorem spec_ColourParse.bits10 : waitsOk spec_ColourParse.T10.2 spec_ColourParse.B10 = true := by kernel_rfl
set_option maxHeartbeats 8000000 in
set_option maxRecDepth 100000 in
theorem spec_ColourParse.calls (k : Nat) (a0 : ByteArray) (r1 : Int) (r2 : Int) (w : World) (h : spec_ColourParse.f k a0 = some (r1, r2)) :
    Calls Tryz.prog 66 #[.string a0] w fun e w' => e = .returned (.tuple #[.int .i32 r1, .int .i64 r2]) ∧ Below w.heap.size w w' := by
  have hu166 := Tryz.underlying166
  have HB := Aside0.mk (Below.refl w.heap.size w)
  have H : ((spec_shades.f).bind fun t113 => (spec_ColourParse.l0 k a0 t113 (t113.length : Int) 0)) = some (r1, r2) := h
  clear h
  replace H := Option.bind_eq_some_iff.mp H
  obtain ⟨t113, A20, H⟩ := H
  replace H : (spec_ColourParse.l0 k a0 t113 (t113.length : Int) 0) = some (r1, r2) := H
  have A2 := Aside0.mk A20
  clear A20
  have H' := Aside0.mk H
  clear H
  go_enter Tryz.func66, Tryz.ntmps66
  go_wp2_with (first | ((with_reducible refine gate_callee (f := 88) rfl ?_); refine goesL_ (some 10) rfl rfl Tryz.func88 (by kernel_rfl) rfl #[] rfl (by (try simp only [List.map_toArray, List.map_cons, List.map_nil]); first | done | rfl | (simp only [List.length_drop, List.length_take]; rfl)) ?_; (with_reducible refine (spec_shades.calls  t113 _ A2.out).mono ?_); rintro e w3 ⟨v114, rfl, ho0, hb⟩; refine ⟨_, rfl, ?_⟩; have n0_ := Aside0.mk (Kd.R_lower ho0 (below_size (by repeat (first | (with_reducible first | exact HB.out | apply below_alloc | apply pw_below_drewN | apply below_drew1) | exact HB.out)))); have n1_ := Aside0.mk (below_step (by repeat (first | (with_reducible first | exact HB.out | apply below_alloc | apply pw_below_drewN | apply below_drew1) | exact HB.out)) hb); clear HB; have HO115 := n0_; have HB := n1_; clear n0_ n1_; (try clear hb); (try clear hb2); (try clear hk); (try clear hi); (try clear ho0); obtain ⟨Ao4, co4, eo4⟩ := Kd.R_slice HO115.out; subst eo4))
  go_loopg [12] k (fun kq v12 w' => ∃ (x12_1 : Int), v12 = .int .i64 x12_1 ∧ Aside0 (spec_ColourParse.l0 kq a0 t113 (t113.length : Int) x12_1 = some (r1, r2)) ∧ Aside0 (kq ≤ k) ∧ Aside0 (Kd.R k166 166 w' w.heap.size (fun _ => True) (.slice Ao4 t113.length co4) t113) ∧ Aside0 (Below w.heap.size w w'))
  case atStart => exact ⟨(0), (by first | rfl | (simp; done) | (simp [*]; done)), H', ⟨Nat.le_refl _⟩, ⟨by (with_reducible repeat (first | apply Kd.R_alloc | apply Kd.R_drewN | apply Kd.R_drew)); exact HO115.out⟩, ⟨by repeat (first | (with_reducible first | exact HB.out | apply below_alloc | apply pw_below_drewN | apply below_drew1) | exact HB.out)⟩⟩
  case round =>
    clear H'
    try clear p2
    obtain ⟨x12_1, rfl, HA, HK1, HO_10, HB⟩ := hrel
    cases gk with
    | zero => exact absurd HA.out (by simp [spec_ColourParse.l0])
    | succ k1 =>
      have H := HA.out
      clear HA
      simp only [spec_ColourParse.l0] at H
      by_cases c5 : x12_1 < (t113.length : Int)
      · rw [if_pos c5] at H
        have c5b0 : decide (x12_1 < (t113.length : Int)) = true := decide_eq_true c5
        clear c5
        by_cases c6 : 0 ≤ x12_1
        · rw [if_pos c6] at H
          have c6b0 : decide (0 ≤ x12_1) = true := decide_eq_true c6
          clear c6
          by_cases c7 : x12_1 < (t113.length : Int)
          · rw [if_pos c7] at H
            have c7b0 : decide (x12_1 < (t113.length : Int)) = true := decide_eq_true c7
            clear c7
            by_cases c8 : 1 + ((rd_T166 t113 x12_1).f0).size ≤ 9223372036854775807
            · rw [if_pos c8] at H
              have c8b0 := eq_true c8
              have c8b1 : decide (1 + ((rd_T166 t113 x12_1).f0).size ≤ 9223372036854775807) = true := decide_eq_true c8
              try have c8b2 : (9223372036854775807 < 1 + ((rd_T166 t113 x12_1).f0).size) = False := eq_false (Nat.not_lt.2 c8)
              by_cases c9 : a0.toList = ((⟨#[35]⟩ : ByteArray) ++ ((rd_T166 t113 x12_1).f0)).toList
              · rw [if_pos c9] at H
                have c9b0 : (a0.toList == ((⟨#[35]⟩ : ByteArray) ++ ((rd_T166 t113 x12_1).f0)).toList) = true := beq_iff_eq.mpr c9
                have c9b1 : (a0.toList != ((⟨#[35]⟩ : ByteArray) ++ ((rd_T166 t113 x12_1).f0)).toList) = false := bne_eq_false_iff_eq.mpr c9
                clear c9
                simp only [Option.some.injEq, Prod.mk.injEq] at H
                obtain ⟨rfl, rfl⟩ := H
                have p116 : 0 ≤ (x12_1 : Int) := of_decide_eq_true (by first | (with_reducible assumption) | assumption)
                have q116 : x12_1 < (t113.length : Int) := of_decide_eq_true (by first | (with_reducible assumption) | assumption)
                obtain ⟨ad116, e116, hx116_0, hx116_1⟩ := at_T166 (Kd.R_reads' HO_10.out).2.2 x12_1 p116 q116
                cases e116
                replace p116 := eq_true p116
                replace q116 := eq_true q116
                go_wp2_with (first | ((with_reducible refine gate_dst (N := 5) rfl ?_); refine box_event ?hg (N := 5) ?hd (cs := #[.string (⟨#[]⟩ : ByteArray), .int .i64 0]) (t := 166) ?hr ?_; (case hd => rfl); (case hg => rfl); (case hr => first | (go_simp; done) | (go_simp; rfl)); intro gb117 hg w10 hbox hb; have n0_ := Aside0.mk (Kd.R_below (Kd.R_elderB (by (with_reducible repeat (first | apply Kd.R_alloc | apply Kd.R_drewN | apply Kd.R_drew)); exact HO_10.out) gb117 (Nat.le_of_eq hg.symm)) hb); have n1_ := Aside0.mk (below_step (by repeat (first | (with_reducible first | exact HB.out | apply below_alloc | apply pw_below_drewN | apply below_drew1) | exact HB.out)) hb); have n2_ := Aside0.mk (hbox); have n3_ := Aside0.mk ((by rw [hg]; exact (below_size (by repeat (first | (with_reducible first | exact HB.out | apply below_alloc | apply pw_below_drewN | apply below_drew1) | exact HB.out))) : w.heap.size ≤ gb117)); have n4_ := Aside0.mk ((by rw [hg]; exact (below_size (by repeat (first | (with_reducible first | exact HB.out | apply below_alloc | apply pw_below_drewN | apply below_drew1) | exact HB.out))) : w.heap.size ≤ gb117)); clear HO_10; clear HB; have HO_10 := n0_; have HB := n1_; have BK117 := n2_; have GW117 := n3_; have GE117 := n4_; clear n0_ n1_ n2_ n3_ n4_; clear hb hbox hg; have hcz11_0 : w10.cell? ⟨gb117, 0, none⟩ = some (.string (⟨#[]⟩ : ByteArray)) := (blk_cell BK117.out 0).trans rfl; have hcz11_1 : w10.cell? ⟨gb117, 1, none⟩ = some (.int .i64 0) := (blk_cell BK117.out 1).trans rfl; have hfz11_0 := blk_frozen BK117.out 0; have hfz11_1 := blk_frozen BK117.out 1))
                go_ret2
                exact ⟨by first | rfl | (simp [errW_none, errW_some] <;> rfl) | (simp [*, errW_none, errW_some] <;> rfl), by repeat (first | (with_reducible first | exact HB.out | apply below_alloc | apply pw_below_drewN | apply below_drew1 | refine below_set ?_ GE117.out) | exact HB.out)⟩
              · rw [if_neg c9] at H
                have c9b0 : (a0.toList == ((⟨#[35]⟩ : ByteArray) ++ ((rd_T166 t113 x12_1).f0)).toList) = false := beq_eq_false_iff_ne.mpr c9
                have c9b1 : (a0.toList != ((⟨#[35]⟩ : ByteArray) ++ ((rd_T166 t113 x12_1).f0)).toList) = true := bne_iff_ne.mpr c9
                by_cases c12 : 5 + ((rd_T166 t113 x12_1).f0).size ≤ 9223372036854775807
                · rw [if_pos c12] at H
                  have c12b0 := eq_true c12
                  have c12b1 : decide (5 + ((rd_T166 t113 x12_1).f0).size ≤ 9223372036854775807) = true := decide_eq_true c12
                  try have c12b2 : (9223372036854775807 < 5 + ((rd_T166 t113 x12_1).f0).size) = False := eq_false (Nat.not_lt.2 c12)
                  by_cases c13 : a0.toList = ((⟨#[35, 97, 110, 115, 105]⟩ : ByteArray) ++ ((rd_T166 t113 x12_1).f0)).toList
                  · rw [if_pos c13] at H
                    have c13b0 : (a0.toList == ((⟨#[35, 97, 110, 115, 105]⟩ : ByteArray) ++ ((rd_T166 t113 x12_1).f0)).toList) = true := beq_iff_eq.mpr c13
                    have c13b1 : (a0.toList != ((⟨#[35, 97, 110, 115, 105]⟩ : ByteArray) ++ ((rd_T166 t113 x12_1).f0)).toList) = false := bne_eq_false_iff_eq.mpr c13
                    clear c13
                    simp only [Option.some.injEq, Prod.mk.injEq] at H
                    obtain ⟨rfl, rfl⟩ := H
                    have p116 : 0 ≤ (x12_1 : Int) := of_decide_eq_true (by first | (with_reducible assumption) | assumption)
                    have q116 : x12_1 < (t113.length : Int) := of_decide_eq_true (by first | (with_reducible assumption) | assumption)
                    obtain ⟨ad116, e116, hx116_0, hx116_1⟩ := at_T166 (Kd.R_reads' HO_10.out).2.2 x12_1 p116 q116
                    cases e116
                    replace p116 := eq_true p116
                    replace q116 := eq_true q116
                    go_wp2_with (first | ((with_reducible refine gate_dst (N := 5) rfl ?_); refine box_event ?hg (N := 5) ?hd (cs := #[.string (⟨#[]⟩ : ByteArray), .int .i64 0]) (t := 166) ?hr ?_; (case hd => rfl); (case hg => rfl); (case hr => first | (go_simp; done) | (go_simp; rfl)); intro gb117 hg w14 hbox hb; have n0_ := Aside0.mk (Kd.R_below (Kd.R_elderB (by (with_reducible repeat (first | apply Kd.R_alloc | apply Kd.R_drewN | apply Kd.R_drew)); exact HO_10.out) gb117 (Nat.le_of_eq hg.symm)) hb); have n1_ := Aside0.mk (below_step (by repeat (first | (with_reducible first | exact HB.out | apply below_alloc | apply pw_below_drewN | apply below_drew1) | exact HB.out)) hb); have n2_ := Aside0.mk (hbox); have n3_ := Aside0.mk ((by rw [hg]; exact (below_size (by repeat (first | (with_reducible first | exact HB.out | apply below_alloc | apply pw_below_drewN | apply below_drew1) | exact HB.out))) : w.heap.size ≤ gb117)); have n4_ := Aside0.mk ((by rw [hg]; exact (below_size (by repeat (first | (with_reducible first | exact HB.out | apply below_alloc | apply pw_below_drewN | apply below_drew1) | exact HB.out))) : w.heap.size ≤ gb117)); clear HO_10; clear HB; have HO_10 := n0_; have HB := n1_; have BK117 := n2_; have GW117 := n3_; have GE117 := n4_; clear n0_ n1_ n2_ n3_ n4_; clear hb hbox hg; have hcz15_0 : w14.cell? ⟨gb117, 0, none⟩ = some (.string (⟨#[]⟩ : ByteArray)) := (blk_cell BK117.out 0).trans rfl; have hcz15_1 : w14.cell? ⟨gb117, 1, none⟩ = some (.int .i64 0) := (blk_cell BK117.out 1).trans rfl; have hfz15_0 := blk_frozen BK117.out 0; have hfz15_1 := blk_frozen BK117.out 1))
                    go_ret2
                    exact ⟨by first | rfl | (simp [errW_none, errW_some] <;> rfl) | (simp [*, errW_none, errW_some] <;> rfl), by repeat (first | (with_reducible first | exact HB.out | apply below_alloc | apply pw_below_drewN | apply below_drew1 | refine below_set ?_ GE117.out) | exact HB.out)⟩
                  · rw [if_neg c13] at H
                    have c13b0 : (a0.toList == ((⟨#[35, 97, 110, 115, 105]⟩ : ByteArray) ++ ((rd_T166 t113 x12_1).f0)).toList) = false := beq_eq_false_iff_ne.mpr c13
                    have c13b1 : (a0.toList != ((⟨#[35, 97, 110, 115, 105]⟩ : ByteArray) ++ ((rd_T166 t113 x12_1).f0)).toList) = true := bne_iff_ne.mpr c13
                    have H' := Aside0.mk H
                    clear H
                    have p116 : 0 ≤ (x12_1 : Int) := of_decide_eq_true (by first | (with_reducible assumption) | assumption)
                    have q116 : x12_1 < (t113.length : Int) := of_decide_eq_true (by first | (with_reducible assumption) | assumption)
                    obtain ⟨ad116, e116, hx116_0, hx116_1⟩ := at_T166 (Kd.R_reads' HO_10.out).2.2 x12_1 p116 q116
                    cases e116
                    replace p116 := eq_true p116
                    replace q116 := eq_true q116
                    go_wp2_with (first | ((with_reducible refine gate_dst (N := 5) rfl ?_); refine box_event ?hg (N := 5) ?hd (cs := #[.string (⟨#[]⟩ : ByteArray), .int .i64 0]) (t := 166) ?hr ?_; (case hd => rfl); (case hg => rfl); (case hr => first | (go_simp; done) | (go_simp; rfl)); intro gb117 hg w16 hbox hb; have n0_ := Aside0.mk (Kd.R_below (Kd.R_elderB (by (with_reducible repeat (first | apply Kd.R_alloc | apply Kd.R_drewN | apply Kd.R_drew)); exact HO_10.out) gb117 (Nat.le_of_eq hg.symm)) hb); have n1_ := Aside0.mk (below_step (by repeat (first | (with_reducible first | exact HB.out | apply below_alloc | apply pw_below_drewN | apply below_drew1) | exact HB.out)) hb); have n2_ := Aside0.mk (hbox); have n3_ := Aside0.mk ((by rw [hg]; exact (below_size (by repeat (first | (with_reducible first | exact HB.out | apply below_alloc | apply pw_below_drewN | apply below_drew1) | exact HB.out))) : w.heap.size ≤ gb117)); have n4_ := Aside0.mk ((by rw [hg]; exact (below_size (by repeat (first | (with_reducible first | exact HB.out | apply below_alloc | apply pw_below_drewN | apply below_drew1) | exact HB.out))) : w.heap.size ≤ gb117)); clear HO_10; clear HB; have HO_10 := n0_; have HB := n1_; have BK117 := n2_; have GW117 := n3_; have GE117 := n4_; clear n0_ n1_ n2_ n3_ n4_; clear hb hbox hg; have hcz17_0 : w16.cell? ⟨gb117, 0, none⟩ = some (.string (⟨#[]⟩ : ByteArray)) := (blk_cell BK117.out 0).trans rfl; have hcz17_1 : w16.cell? ⟨gb117, 1, none⟩ = some (.int .i64 0) := (blk_cell BK117.out 1).trans rfl; have hfz17_0 := blk_frozen BK117.out 0; have hfz17_1 := blk_frozen BK117.out 1))
                    go_roundg k1
                    case measure => have := HK1.out; omega
                    case rel => exact ⟨(wrap64 (x12_1 + 1)), (by first | rfl | (simp; done) | (simp [*]; done)), H', ⟨by have := HK1.out; omega⟩, ⟨by (with_reducible repeat (first | apply Kd.R_alloc | apply Kd.R_drewN | apply Kd.R_drew)); exact Kd.R_mono (Kd.R_far (p := ⟨gb117, 1, none⟩) (Kd.R_far (p := ⟨gb117, 0, none⟩) (Kd.R_mono HO_10.out (fun k_ hk => (⟨hk, hk.2⟩ : _ ∧ k_ ≠ gb117))) (fun _ hk => hk.2) (.string ((rd_T166 t113 x12_1).f0))) (fun _ hk => hk.2) (.int .i64 ((rd_T166 t113 x12_1).f1))) (fun _ hk => trivial)⟩, ⟨by repeat (first | (with_reducible first | exact HB.out | apply below_alloc | apply pw_below_drewN | apply below_drew1 | refine below_set ?_ GE117.out) | exact HB.out)⟩⟩
                · rw [if_neg c12] at H
                  exact absurd H (by simp)
            · rw [if_neg c8] at H
              exact absurd H (by simp)
          · rw [if_neg c7] at H
            exact absurd H (by simp)
        · rw [if_neg c6] at H
          exact absurd H (by simp)
      · rw [if_neg c5] at H
        have c5b0 : decide (x12_1 < (t113.length : Int)) = false := decide_eq_false c5
        clear c5
        have HC18 := Aside0.mk H
        clear H
        go_upto_region 7 with (fail)
        go_cut [39] (fun v39 wc => ∃ (kq : Nat) (x39_17 : Bool), v39 = .bool x39_17 ∧ Aside0 (spec_ColourParse.j1 kq a0 x39_17 = some (r1, r2)) ∧ Aside0 (kq ≤ k1) ∧ Aside0 (Below w.heap.size w wc))
        case first =>
          have H := HC18.out
          clear HC18
          by_cases c19 : a0.toList = ([] : List UInt8)
          · rw [if_pos c19] at H
            have c19b0 : (a0.toList == ([] : List UInt8)) = true := beq_iff_eq.mpr c19
            have c19b1 : (a0.toList != ([] : List UInt8)) = false := bne_eq_false_iff_eq.mpr c19
            clear c19
            (try (have c19b2 := c19b0; simp only [ByteArray.size_extract, Nat.min_self] at c19b2)); (first | rw [c19b0] | (simp only [i64_w, i32_w]; rw [c19b0]) | rw [c19b1] | skip)
            have H' := Aside0.mk H
            clear H
            go_wp2
            go_meet
            case rel => exact ⟨_, (false), (by first | rfl | (simp; done) | (simp [*]; done)), H', ⟨by have := HK1.out; first | omega | exact Nat.le_refl _⟩, ⟨by repeat (first | (with_reducible first | exact HB.out | apply below_alloc | apply pw_below_drewN | apply below_drew1) | exact HB.out)⟩⟩
          · rw [if_neg c19] at H
            have c19b0 : (a0.toList == ([] : List UInt8)) = false := beq_eq_false_iff_ne.mpr c19
            have c19b1 : (a0.toList != ([] : List UInt8)) = true := bne_iff_ne.mpr c19
            (try (have c19b2 := c19b0; simp only [ByteArray.size_extract, Nat.min_self] at c19b2)); (first | rw [c19b0] | (simp only [i64_w, i32_w]; rw [c19b0]) | rw [c19b1] | skip)
            by_cases c20 : 0 < (a0.size : Int)
            · rw [if_pos c20] at H
              have c20b0 : decide (0 < (a0.size : Int)) = true := decide_eq_true c20
              have c20b1 : decide (0 < a0.size) = true := decide_eq_true (by omega)
              clear c20
              have H' := Aside0.mk H
              clear H
              have p21 : 0 ≤ (0 : Int) := (by omega)
              have q21 : 0 < a0.size := (by have : (0 : Int) < (a0.size : Int) := of_decide_eq_true (by first | (with_reducible assumption) | assumption); omega)
              have hx21 : ∀ h : 0 < a0.size, ((a0[0]'h).toNat : Int) = bt a0 0 := bt_at a0 0
              clear p21
              have qi21 : (0 < (a0.size : Int)) = True := eq_true (of_decide_eq_true (by first | (with_reducible assumption) | assumption))
              replace q21 := eq_true q21
              go_wp2
              go_meet
              case rel => exact ⟨_, (((bt a0 0) == 35)), (by first | rfl | (simp; done) | (simp [*]; done)), H', ⟨by have := HK1.out; first | omega | exact Nat.le_refl _⟩, ⟨by repeat (first | (with_reducible first | exact HB.out | apply below_alloc | apply pw_below_drewN | apply below_drew1) | exact HB.out)⟩⟩
            · rw [if_neg c20] at H
              exact absurd H (by simp)
        case rest =>
          clear HC18
          try clear c1
          try clear p1
          try clear q1
          try clear hx1
          try clear c2
          try clear p2
          try clear q2
          try clear hx2
          try clear qi2
          try clear c5
          try clear c5b0
          try clear c6
          try clear c6b0
          try clear p6
          try clear c7
          try clear c7b0
          try clear c8
          try clear c8b0
          try clear c8b1
          try clear c8b2
          try clear c9
          try clear c9b0
          try clear c9b1
          try clear p11
          try clear q11
          try clear hx11
          try clear c12
          try clear c12b0
          try clear c12b1
          try clear c12b2
          try clear c13
          try clear c13b0
          try clear c13b1
          try clear c19
          try clear c19b0
          try clear c19b1
          try clear c19b2
          try clear c20
          try clear c20b0
          try clear c20b1
          try clear p21
          try clear q21
          try clear hx21
          try clear qi21
          try clear hcz11_0
          try clear hcz11_1
          try clear hcz15_0
          try clear hcz15_1
          try clear hcz17_0
          try clear hcz17_1
          try clear hfz11_0
          try clear hfz11_1
          try clear hfz15_0
          try clear hfz15_1
          try clear hfz17_0
          try clear hfz17_1
          try clear hx116_0
          try clear hx116_1
          try clear p116
          try clear p2
          try clear p21
          try clear q116
          try clear q21
          obtain ⟨kq, x39_17, rfl, HA, HJ17, HB⟩ := hcut
          cases kq with
          | zero => exact absurd HA.out (by simp [spec_ColourParse.j1])
          | succ kj17 =>
            have H := HA.out
            clear HA
            simp only [spec_ColourParse.j1] at H
            have HC22 := Aside0.mk H
            clear H
            go_upto_if 39 with (fail)
            go_cut [0] (fun v0 wc => ∃ (kq : Nat) (x0_21 : ByteArray), v0 = .string x0_21 ∧ Aside0 (spec_ColourParse.j2 kq x0_21 = some (r1, r2)) ∧ Aside0 (kq ≤ kj17) ∧ Aside0 (Below w.heap.size w wc))
            case first =>
              have H := HC22.out
              clear HC22
              by_cases c23 : x39_17 = true
              · subst c23
                have H1 : (if 1 ≤ (a0.size : Int) then (if ((a0.extract 1 a0.size).size : Int) = 3 then (if 0 < ((a0.extract 1 a0.size).size : Int) then (if 1 < ((a0.extract 1 a0.size).size : Int) then (if 2 < ((a0.extract 1 a0.size).size : Int) then (spec_ColourParse.j2 kj17 (strOfNums (([bt (a0.extract 1 a0.size) 0, bt (a0.extract 1 a0.size) 0, bt (a0.extract 1 a0.size) 1, bt (a0.extract 1 a0.size) 1, bt (a0.extract 1 a0.size) 2, bt (a0.extract 1 a0.size) 2] : List Int)))) else (none)) else (none)) else (none)) else (spec_ColourParse.j2 kj17 (a0.extract 1 a0.size))) else (none)) = some (r1, r2) := by rw [if_pos rfl] at H; exact H
                clear H
                have H := H1
                clear H1
                by_cases c24 : 1 ≤ (a0.size : Int)
                · rw [if_pos c24] at H
                  have c24b0 := eq_true c24
                  have c24b1 : decide (1 ≤ (a0.size : Int)) = true := decide_eq_true c24
                  clear c24
                  by_cases c25 : ((a0.extract 1 a0.size).size : Int) = 3
                  · rw [if_pos c25] at H
                    have c25b0 : (((a0.extract 1 a0.size).size : Int) == 3) = true := beq_iff_eq.mpr c25
                    have c25b1 : (((a0.extract 1 a0.size).size : Int) != 3) = false := bne_eq_false_iff_eq.mpr c25
                    clear c25
                    (try (have c25b2 := c25b0; simp only [ByteArray.size_extract, Nat.min_self] at c25b2)); (first | rw [c25b0] | (simp only [i64_w, i32_w]; rw [c25b0]) | rw [c25b1] | skip)
                    by_cases c26 : 0 < ((a0.extract 1 a0.size).size : Int)
                    · rw [if_pos c26] at H
                      have c26b0 : decide (0 < ((a0.extract 1 a0.size).size : Int)) = true := decide_eq_true c26
                      have c26b1 : decide (0 < (a0.extract 1 a0.size).size) = true := decide_eq_true (by omega)
                      clear c26
                      by_cases c29 : 1 < ((a0.extract 1 a0.size).size : Int)
                      · rw [if_pos c29] at H
                        have c29b0 : decide (1 < ((a0.extract 1 a0.size).size : Int)) = true := decide_eq_true c29
                        have c29b1 : decide (1 < (a0.extract 1 a0.size).size) = true := decide_eq_true (by omega)
                        clear c29
                        by_cases c32 : 2 < ((a0.extract 1 a0.size).size : Int)
                        · rw [if_pos c32] at H
                          have c32b0 : decide (2 < ((a0.extract 1 a0.size).size : Int)) = true := decide_eq_true c32
                          have c32b1 : decide (2 < (a0.extract 1 a0.size).size) = true := decide_eq_true (by omega)
                          clear c32
                          obtain ⟨y118, hy118⟩ : ∃ y_ : List Int, y_ = (([bt (a0.extract 1 a0.size) 0, bt (a0.extract 1 a0.size) 0, bt (a0.extract 1 a0.size) 1, bt (a0.extract 1 a0.size) 1, bt (a0.extract 1 a0.size) 2, bt (a0.extract 1 a0.size) 2] : List Int)) := ⟨_, rfl⟩
                          replace H : (spec_ColourParse.j2 kj17 (strOfNums y118)) = some (r1, r2) := by first | (rw [hy118]; with_reducible exact H) | (have H2_ := (Option.bind_some _ _).symm.trans H; rw [hy118]; with_reducible exact H2_) | (have H2_ := (Option.bind_some _ _).symm.trans H; with_reducible exact H2_) | with_reducible exact H | (rw [hy118]; exact H) | exact H
                          have Ny118 := Aside0.mk hy118
                          clear hy118
                          have H' := Aside0.mk H
                          clear H
                          try go_wp2
                          have n0_ := Aside0.mk (below_drew1 HB.out)
                          clear HB
                          have HB := n0_
                          clear n0_
                          have p27 : 0 ≤ (0 : Int) := (by omega)
                          have q27 : 0 < (a0.extract 1 a0.size).size := (by have : (0 : Int) < ((a0.extract 1 a0.size).size : Int) := of_decide_eq_true (by first | (with_reducible assumption) | assumption); omega)
                          have hx27 : ∀ h : 0 < (a0.extract 1 a0.size).size, (((a0.extract 1 a0.size)[0]'h).toNat : Int) = bt (a0.extract 1 a0.size) 0 := bt_at (a0.extract 1 a0.size) 0
                          clear p27
                          have qi27 : (0 < ((a0.extract 1 a0.size).size : Int)) = True := eq_true (of_decide_eq_true (by first | (with_reducible assumption) | assumption))
                          replace q27 := eq_true q27
                          have qj27 := of_eq_true q27
                          (try simp only [ByteArray.size_extract, Nat.min_self] at qj27)
                          replace qj27 := eq_true qj27
                          have qk27 := of_eq_true qi27
                          (try simp only [ByteArray.size_extract, Nat.min_self] at qk27)
                          replace qk27 := eq_true qk27
                          have p28 : 0 ≤ (0 : Int) := (by omega)
                          have q28 : 0 < (a0.extract 1 a0.size).size := (by have : (0 : Int) < ((a0.extract 1 a0.size).size : Int) := of_decide_eq_true (by first | (with_reducible assumption) | assumption); omega)
                          have hx28 : ∀ h : 0 < (a0.extract 1 a0.size).size, (((a0.extract 1 a0.size)[0]'h).toNat : Int) = bt (a0.extract 1 a0.size) 0 := bt_at (a0.extract 1 a0.size) 0
                          clear p28
                          have qi28 : (0 < ((a0.extract 1 a0.size).size : Int)) = True := eq_true (of_decide_eq_true (by first | (with_reducible assumption) | assumption))
                          replace q28 := eq_true q28
                          have qj28 := of_eq_true q28
                          (try simp only [ByteArray.size_extract, Nat.min_self] at qj28)
                          replace qj28 := eq_true qj28
                          have qk28 := of_eq_true qi28
                          (try simp only [ByteArray.size_extract, Nat.min_self] at qk28)
                          replace qk28 := eq_true qk28
                          have p30 : 0 ≤ (1 : Int) := (by omega)
                          have q30 : 1 < (a0.extract 1 a0.size).size := (by have : (1 : Int) < ((a0.extract 1 a0.size).size : Int) := of_decide_eq_true (by first | (with_reducible assumption) | assumption); omega)
                          have hx30 : ∀ h : 1 < (a0.extract 1 a0.size).size, (((a0.extract 1 a0.size)[1]'h).toNat : Int) = bt (a0.extract 1 a0.size) 1 := bt_at (a0.extract 1 a0.size) 1
                          clear p30
                          have qi30 : (1 < ((a0.extract 1 a0.size).size : Int)) = True := eq_true (of_decide_eq_true (by first | (with_reducible assumption) | assumption))
                          replace q30 := eq_true q30
                          have qj30 := of_eq_true q30
                          (try simp only [ByteArray.size_extract, Nat.min_self] at qj30)
                          replace qj30 := eq_true qj30
                          have qk30 := of_eq_true qi30
                          (try simp only [ByteArray.size_extract, Nat.min_self] at qk30)
                          replace qk30 := eq_true qk30
                          have p31 : 0 ≤ (1 : Int) := (by omega)
                          have q31 : 1 < (a0.extract 1 a0.size).size := (by have : (1 : Int) < ((a0.extract 1 a0.size).size : Int) := of_decide_eq_true (by first | (with_reducible assumption) | assumption); omega)
                          have hx31 : ∀ h : 1 < (a0.extract 1 a0.size).size, (((a0.extract 1 a0.size)[1]'h).toNat : Int) = bt (a0.extract 1 a0.size) 1 := bt_at (a0.extract 1 a0.size) 1
                          clear p31
                          have qi31 : (1 < ((a0.extract 1 a0.size).size : Int)) = True := eq_true (of_decide_eq_true (by first | (with_reducible assumption) | assumption))
                          replace q31 := eq_true q31
                          have qj31 := of_eq_true q31
                          (try simp only [ByteArray.size_extract, Nat.min_self] at qj31)
                          replace qj31 := eq_true qj31
                          have qk31 := of_eq_true qi31
                          (try simp only [ByteArray.size_extract, Nat.min_self] at qk31)
                          replace qk31 := eq_true qk31
                          have p33 : 0 ≤ (2 : Int) := (by omega)
                          have q33 : 2 < (a0.extract 1 a0.size).size := (by have : (2 : Int) < ((a0.extract 1 a0.size).size : Int) := of_decide_eq_true (by first | (with_reducible assumption) | assumption); omega)
                          have hx33 : ∀ h : 2 < (a0.extract 1 a0.size).size, (((a0.extract 1 a0.size)[2]'h).toNat : Int) = bt (a0.extract 1 a0.size) 2 := bt_at (a0.extract 1 a0.size) 2
                          clear p33
                          have qi33 : (2 < ((a0.extract 1 a0.size).size : Int)) = True := eq_true (of_decide_eq_true (by first | (with_reducible assumption) | assumption))
                          replace q33 := eq_true q33
                          have qj33 := of_eq_true q33
                          (try simp only [ByteArray.size_extract, Nat.min_self] at qj33)
                          replace qj33 := eq_true qj33
                          have qk33 := of_eq_true qi33
                          (try simp only [ByteArray.size_extract, Nat.min_self] at qk33)
                          replace qk33 := eq_true qk33
                          have p34 : 0 ≤ (2 : Int) := (by omega)
                          have q34 : 2 < (a0.extract 1 a0.size).size := (by have : (2 : Int) < ((a0.extract 1 a0.size).size : Int) := of_decide_eq_true (by first | (with_reducible assumption) | assumption); omega)
                          have hx34 : ∀ h : 2 < (a0.extract 1 a0.size).size, (((a0.extract 1 a0.size)[2]'h).toNat : Int) = bt (a0.extract 1 a0.size) 2 := bt_at (a0.extract 1 a0.size) 2
                          clear p34
                          have qi34 : (2 < ((a0.extract 1 a0.size).size : Int)) = True := eq_true (of_decide_eq_true (by first | (with_reducible assumption) | assumption))
                          replace q34 := eq_true q34
                          have qj34 := of_eq_true q34
                          (try simp only [ByteArray.size_extract, Nat.min_self] at qj34)
                          replace qj34 := eq_true qj34
                          have qk34 := of_eq_true qi34
                          (try simp only [ByteArray.size_extract, Nat.min_self] at qk34)
                          replace qk34 := eq_true qk34
                          refine start_ (n := 15) (S := fun w' => True) (ds := []) #[false, false, false, false, false, false, false, false, false, false, false, false, false, false, false] (by kernel_rfl) rfl rfl trivial (fun hHeld => ?_); refine with_tabW spec_ColourParse.tab10 spec_ColourParse.bits10 (fun HT_ HW_ => ?_)
                          generalize wc.drew = w35 at HB hHeld ⊢
                          refine pure_ (i := 0) (N := some 45) (v := ?_) (a' := ?_) #[true, false, false, false, false, false, false, false, false, false, false, false, false, false, false] rfl rfl (any_of HT_.out (by kernel_rfl)) (fun _ _ _ h => h) (Or.inl ⟨by rfl, ?_⟩) ?_ ?_
                          rotate_left
                          · intro w'
                            go_simp
                            with_reducible rfl
                          rotate_left
                          · simp only [Act.put, List.setIfInBounds_toArray, List.set_cons_zero, List.set_cons_succ, i64_w, i32_w]
                            rfl
                          refine pure_ (i := 2) (N := some 47) (v := ?_) (a' := ?_) #[true, false, true, false, false, false, false, false, false, false, false, false, false, false, false] rfl rfl (any_of HT_.out (by kernel_rfl)) (fun _ _ _ h => h) (Or.inl ⟨by rfl, ?_⟩) ?_ ?_
                          rotate_left
                          · intro w'
                            go_simp
                            with_reducible rfl
                          rotate_left
                          · simp only [Act.put, List.setIfInBounds_toArray, List.set_cons_zero, List.set_cons_succ, i64_w, i32_w]
                            rfl
                          refine pure_ (i := 4) (N := some 49) (v := ?_) (a' := ?_) #[true, false, true, false, true, false, false, false, false, false, false, false, false, false, false] rfl rfl (any_of HT_.out (by kernel_rfl)) (fun _ _ _ h => h) (Or.inl ⟨by rfl, ?_⟩) ?_ ?_
                          rotate_left
                          · intro w'
                            go_simp
                            with_reducible rfl
                          rotate_left
                          · simp only [Act.put, List.setIfInBounds_toArray, List.set_cons_zero, List.set_cons_succ, i64_w, i32_w]
                            rfl
                          refine pure_ (i := 6) (N := some 51) (v := ?_) (a' := ?_) #[true, false, true, false, true, false, true, false, false, false, false, false, false, false, false] rfl rfl (any_of HT_.out (by kernel_rfl)) (fun _ _ _ h => h) (Or.inl ⟨by rfl, ?_⟩) ?_ ?_
                          rotate_left
                          · intro w'
                            go_simp
                            with_reducible rfl
                          rotate_left
                          · simp only [Act.put, List.setIfInBounds_toArray, List.set_cons_zero, List.set_cons_succ, i64_w, i32_w]
                            rfl
                          refine pure_ (i := 8) (N := some 53) (v := ?_) (a' := ?_) #[true, false, true, false, true, false, true, false, true, false, false, false, false, false, false] rfl rfl (any_of HT_.out (by kernel_rfl)) (fun _ _ _ h => h) (Or.inl ⟨by rfl, ?_⟩) ?_ ?_
                          rotate_left
                          · intro w'
                            go_simp
                            with_reducible rfl
                          rotate_left
                          · simp only [Act.put, List.setIfInBounds_toArray, List.set_cons_zero, List.set_cons_succ, i64_w, i32_w]
                            rfl
                          refine pure_ (i := 10) (N := some 55) (v := ?_) (a' := ?_) #[true, false, true, false, true, false, true, false, true, false, true, false, false, false, false] rfl rfl (any_of HT_.out (by kernel_rfl)) (fun _ _ _ h => h) (Or.inl ⟨by rfl, ?_⟩) ?_ ?_
                          rotate_left
                          · intro w'
                            go_simp
                            with_reducible rfl
                          rotate_left
                          · simp only [Act.put, List.setIfInBounds_toArray, List.set_cons_zero, List.set_cons_succ, i64_w, i32_w]
                            rfl
                          refine take_ (i := 1) (N := some 46) (v := ?_) (a' := ?_) #[true, true, true, false, true, false, true, false, true, false, true, false, false, false, false] rfl rfl (take_ofW HT_.out HW_.out (by kernel_rfl)) (fun _ _ _ h => h) (Or.inl ⟨by rfl, ?_⟩) hHeld ?_ ?_
                          rotate_left
                          · intro w' _
                            go_simp
                            with_reducible rfl
                          rotate_left
                          · simp only [Act.put, List.setIfInBounds_toArray, List.set_cons_zero, List.set_cons_succ, i64_w, i32_w]
                            rfl
                          refine take_ (i := 3) (N := some 48) (v := ?_) (a' := ?_) #[true, true, true, true, true, false, true, false, true, false, true, false, false, false, false] rfl rfl (take_ofW HT_.out HW_.out (by kernel_rfl)) (fun _ _ _ h => h) (Or.inl ⟨by rfl, ?_⟩) hHeld ?_ ?_
                          rotate_left
                          · intro w' _
                            go_simp
                            with_reducible rfl
                          rotate_left
                          · simp only [Act.put, List.setIfInBounds_toArray, List.set_cons_zero, List.set_cons_succ, i64_w, i32_w]
                            rfl
                          refine take_ (i := 5) (N := some 50) (v := ?_) (a' := ?_) #[true, true, true, true, true, true, true, false, true, false, true, false, false, false, false] rfl rfl (take_ofW HT_.out HW_.out (by kernel_rfl)) (fun _ _ _ h => h) (Or.inl ⟨by rfl, ?_⟩) hHeld ?_ ?_
                          rotate_left
                          · intro w' _
                            go_simp
                            with_reducible rfl
                          rotate_left
                          · simp only [Act.put, List.setIfInBounds_toArray, List.set_cons_zero, List.set_cons_succ, i64_w, i32_w]
                            rfl
                          refine take_ (i := 7) (N := some 52) (v := ?_) (a' := ?_) #[true, true, true, true, true, true, true, true, true, false, true, false, false, false, false] rfl rfl (take_ofW HT_.out HW_.out (by kernel_rfl)) (fun _ _ _ h => h) (Or.inl ⟨by rfl, ?_⟩) hHeld ?_ ?_
                          rotate_left
                          · intro w' _
                            go_simp
                            with_reducible rfl
                          rotate_left
                          · simp only [Act.put, List.setIfInBounds_toArray, List.set_cons_zero, List.set_cons_succ, i64_w, i32_w]
                            rfl
                          refine take_ (i := 9) (N := some 54) (v := ?_) (a' := ?_) #[true, true, true, true, true, true, true, true, true, true, true, false, false, false, false] rfl rfl (take_ofW HT_.out HW_.out (by kernel_rfl)) (fun _ _ _ h => h) (Or.inl ⟨by rfl, ?_⟩) hHeld ?_ ?_
                          rotate_left
                          · intro w' _
                            go_simp
                            with_reducible rfl
                          rotate_left
                          · simp only [Act.put, List.setIfInBounds_toArray, List.set_cons_zero, List.set_cons_succ, i64_w, i32_w]
                            rfl
                          refine take_ (i := 11) (N := some 56) (v := ?_) (a' := ?_) #[true, true, true, true, true, true, true, true, true, true, true, true, false, false, false] rfl rfl (take_ofW HT_.out HW_.out (by kernel_rfl)) (fun _ _ _ h => h) (Or.inl ⟨by rfl, ?_⟩) hHeld ?_ ?_
                          rotate_left
                          · intro w' _
                            go_simp
                            with_reducible rfl
                          rotate_left
                          · simp only [Act.put, List.setIfInBounds_toArray, List.set_cons_zero, List.set_cons_succ, i64_w, i32_w]
                            rfl
                          refine one_ (i := 12) (N := some 57) #[true, true, true, true, true, true, true, true, true, true, true, true, true, false, false] rfl rfl (one_of HT_.out (by kernel_rfl)) (by decide) (fun K hK => ?_)
                          refine Kd.R_lit_step (Kd.int .u8) _ 5 ?hg (N := 57) ?hd (xs := ([bt (a0.extract 1 a0.size) 0, bt (a0.extract 1 a0.size) 0, bt (a0.extract 1 a0.size) 1, bt (a0.extract 1 a0.size) 1, bt (a0.extract 1 a0.size) 2, bt (a0.extract 1 a0.size) 2] : List Int)) (inner := [.int .u8 (bt (a0.extract 1 a0.size) 0), .int .u8 (bt (a0.extract 1 a0.size) 0), .int .u8 (bt (a0.extract 1 a0.size) 1), .int .u8 (bt (a0.extract 1 a0.size) 1), .int .u8 (bt (a0.extract 1 a0.size) 2), .int .u8 (bt (a0.extract 1 a0.size) 2)]) (ok := fun _ => True) (okp := fun _ => True) ?hr ?hp (fun _ hk => hk) trivial (Below.refl _ _) (Nat.le_refl _) (by simp) ?_; (case hd => rfl); (case hg => rfl); (case hr => first | (go_simp; done) | (go_simp; rfl)); (case hp => exact (Reps.one (show Kd.M (Kd.int .u8) _ _ _ (bt (a0.extract 1 a0.size) 0) [.int .u8 (bt (a0.extract 1 a0.size) 0)] from rfl) (Reps.one (show Kd.M (Kd.int .u8) _ _ _ (bt (a0.extract 1 a0.size) 0) [.int .u8 (bt (a0.extract 1 a0.size) 0)] from rfl) (Reps.one (show Kd.M (Kd.int .u8) _ _ _ (bt (a0.extract 1 a0.size) 1) [.int .u8 (bt (a0.extract 1 a0.size) 1)] from rfl) (Reps.one (show Kd.M (Kd.int .u8) _ _ _ (bt (a0.extract 1 a0.size) 1) [.int .u8 (bt (a0.extract 1 a0.size) 1)] from rfl) (Reps.one (show Kd.M (Kd.int .u8) _ _ _ (bt (a0.extract 1 a0.size) 2) [.int .u8 (bt (a0.extract 1 a0.size) 2)] from rfl) (Reps.one (show Kd.M (Kd.int .u8) _ _ _ (bt (a0.extract 1 a0.size) 2) [.int .u8 (bt (a0.extract 1 a0.size) 2)] from rfl) (Reps.none _ _))))))))
                          intro v119 w36 ho37 hb hg_ hnew_
                          clear hg_ hnew_
                          (first | rw [← Ny118.out] at ho37 | (simp only [Int.reduceToNat] at ho37; rw [← Ny118.out] at ho37))
                          have n0_ := Aside0.mk (Kd.R_lower ho37 (below_size (by repeat (first | (with_reducible first | exact HB.out | apply below_alloc | apply pw_below_drewN | apply below_drew1) | exact HB.out))))
                          have n1_ := Aside0.mk (below_step (by repeat (first | (with_reducible first | exact HB.out | apply below_alloc | apply pw_below_drewN | apply below_drew1) | exact HB.out)) hb)
                          clear HB
                          have HO120 := n0_
                          have HB := n1_
                          clear n0_ n1_
                          clear hb ho37
                          refine hK.out _ _ trivial (fun hHeld => ?_)
                          clear hK K
                          refine norm_ (a' := ?_) ?_ ?_
                          rotate_left
                          · show Act.put _ (some 57) _ = _
                            simp only [Act.put, List.setIfInBounds_toArray, List.set_cons_zero, List.set_cons_succ, i64_w, i32_w]
                            rfl
                          refine one_ (i := 13) (N := some 58) #[true, true, true, true, true, true, true, true, true, true, true, true, true, true, false] rfl rfl (one_of HT_.out (by kernel_rfl)) (by decide) (fun K hK => ?_)
                          have hcv38 := own_string (P := Tryz.prog) Tryz.underlying162 Tryz.underlying5 Tryz.underlying9 (Kd.own_of_R HO120.out)
                          refine value_ (w1 := ?_) (v := ?_) (by rfl) rfl ?_ ?_
                          rotate_left 2
                          · go_simp
                            constructor
                            · rfl
                            · rfl
                          clear hcv38
                          refine hK.out _ _ trivial (fun hHeld => ?_)
                          clear hK K
                          refine norm_ (a' := ?_) ?_ ?_
                          rotate_left
                          · show Act.put _ (some 58) _ = _
                            simp only [Act.put, List.setIfInBounds_toArray, List.set_cons_zero, List.set_cons_succ, i64_w, i32_w]
                            rfl
                          refine pure_ (i := 14) (N := some 0) (v := ?_) (a' := ?_) #[true, true, true, true, true, true, true, true, true, true, true, true, true, true, true] rfl rfl (any_of HT_.out (by kernel_rfl)) (fun _ _ _ h => h) (Or.inl ⟨by rfl, ?_⟩) ?_ ?_
                          rotate_left
                          · intro w'
                            go_simp
                            with_reducible rfl
                          rotate_left
                          · simp only [Act.put, List.setIfInBounds_toArray, List.set_cons_zero, List.set_cons_succ, i64_w, i32_w]
                            rfl
                          refine done_ (done_of HT_.out (by kernel_rfl)) ?_
                          try go_wp2
                          go_meet
                          case rel => exact ⟨_, (strOfNums y118), (by first | rfl | (simp; done) | (simp [*]; done)), H', ⟨by have := HK1.out; have := HJ17.out; first | omega | exact Nat.le_refl _⟩, ⟨by repeat (first | (with_reducible first | exact HB.out | apply below_alloc | apply pw_below_drewN | apply below_drew1) | exact HB.out)⟩⟩
                        · rw [if_neg c32] at H
                          exact absurd H (by simp)
                      · rw [if_neg c29] at H
                        exact absurd H (by simp)
                    · rw [if_neg c26] at H
                      exact absurd H (by simp)
                  · rw [if_neg c25] at H
                    have c25b0 : (((a0.extract 1 a0.size).size : Int) == 3) = false := beq_eq_false_iff_ne.mpr c25
                    have c25b1 : (((a0.extract 1 a0.size).size : Int) != 3) = true := bne_iff_ne.mpr c25
                    (try (have c25b2 := c25b0; simp only [ByteArray.size_extract, Nat.min_self] at c25b2)); (first | rw [c25b0] | (simp only [i64_w, i32_w]; rw [c25b0]) | rw [c25b1] | skip)
                    have H' := Aside0.mk H
                    clear H
                    go_wp2
                    go_meet
                    case rel => exact ⟨_, (a0.extract 1 a0.size), (by first | rfl | (simp; done) | (simp [*]; done)), H', ⟨by have := HK1.out; have := HJ17.out; first | omega | exact Nat.le_refl _⟩, ⟨by repeat (first | (with_reducible first | exact HB.out | apply below_alloc | apply pw_below_drewN | apply below_drew1) | exact HB.out)⟩⟩
                · rw [if_neg c24] at H
                  exact absurd H (by simp)
              · replace c23 := Bool.eq_false_iff.mpr c23
                subst c23
                have H1 : (spec_ColourParse.j2 kj17 a0) = some (r1, r2) := by rw [if_neg (show ¬ (false = true) by decide)] at H; exact H
                clear H
                have H := H1
                clear H1
                have H' := Aside0.mk H
                clear H
                go_wp2
                go_meet
                case rel => exact ⟨_, (a0), (by first | rfl | (simp; done) | (simp [*]; done)), H', ⟨by have := HK1.out; have := HJ17.out; first | omega | exact Nat.le_refl _⟩, ⟨by repeat (first | (with_reducible first | exact HB.out | apply below_alloc | apply pw_below_drewN | apply below_drew1) | exact HB.out)⟩⟩
            case rest =>
              clear HC22
              try clear c1
              try clear p1
              try clear q1
              try clear hx1
              try clear c2
              try clear p2
              try clear q2
              try clear hx2
              try clear qi2
              try clear c3
              try clear p3
              try clear q3
              try clear hx3
              try clear hcv3
              try clear qi3
              try clear c5
              try clear c5b0
              try clear c6
              try clear c6b0
              try clear p6
              try clear c7
              try clear c7b0
              try clear c8
              try clear c8b0
              try clear c8b1
              try clear c8b2
              try clear c9
              try clear c9b0
              try clear c9b1
              try clear p11
              try clear q11
              try clear hx11
              try clear c12
              try clear c12b0
              try clear c12b1
              try clear c12b2
              try clear c13
              try clear c13b0
              try clear c13b1
              try clear c19
              try clear c19b0
              try clear c19b1
              try clear c19b2
              try clear c20
              try clear c20b0
              try clear c20b1
              try clear p21
              try clear q21
              try clear hx21
              try clear qi21
              try clear c23
              try clear c24
              try clear c24b0
              try clear c24b1
              try clear c25
              try clear c25b0
              try clear c25b1
              try clear c25b2
              try clear c26
              try clear c26b0
              try clear c26b1
              try clear p27
              try clear q27
              try clear hx27
              try clear qi27
              try clear p28
              try clear q28
              try clear hx28
              try clear qi28
              try clear c29
              try clear c29b0
              try clear c29b1
              try clear p30
              try clear q30
              try clear hx30
              try clear qi30
              try clear p31
              try clear q31
              try clear hx31
              try clear qi31
              try clear c32
              try clear c32b0
              try clear c32b1
              try clear p33
              try clear q33
              try clear hx33
              try clear qi33
              try clear p34
              try clear q34
              try clear hx34
              try clear qi34
              try clear hcv38
              try clear hcz11_0
              try clear hcz11_1
              try clear hcz15_0
              try clear hcz15_1
              try clear hcz17_0
              try clear hcz17_1
              try clear hfz11_0
              try clear hfz11_1
              try clear hfz15_0
              try clear hfz15_1
              try clear hfz17_0
              try clear hfz17_1
              try clear hx116_0
              try clear hx116_1
              try clear p1
              try clear p11
              try clear p116
              try clear p2
              try clear p21
              try clear p27
              try clear p28
              try clear p30
              try clear p31
              try clear p33
              try clear p34
              try clear p6
              try clear q1
              try clear q11
              try clear q116
              try clear q2
              try clear q21
              try clear q27
              try clear q28
              try clear q30
              try clear q31
              try clear q33
              try clear q34
              obtain ⟨kq, x0_21, rfl, HA, HJ21, HB⟩ := hcut
              cases kq with
              | zero => exact absurd HA.out (by simp [spec_ColourParse.j2])
              | succ kj21 =>
                have H := HA.out
                clear HA
                simp only [spec_ColourParse.j2] at H
                by_cases c39 : x0_21.toList = ([] : List UInt8)
                · rw [if_pos c39] at H
                  have c39b0 : (x0_21.toList == ([] : List UInt8)) = true := beq_iff_eq.mpr c39
                  have c39b1 : (x0_21.toList != ([] : List UInt8)) = false := bne_eq_false_iff_eq.mpr c39
                  clear c39
                  simp only [Option.some.injEq, Prod.mk.injEq] at H
                  obtain ⟨rfl, rfl⟩ := H
                  go_wp2
                  go_ret2
                  exact ⟨by first | rfl | (simp [errW_none, errW_some] <;> rfl) | (simp [*, errW_none, errW_some] <;> rfl), by repeat (first | (with_reducible first | exact HB.out | apply below_alloc | apply pw_below_drewN | apply below_drew1) | exact HB.out)⟩
                · rw [if_neg c39] at H
                  have c39b0 : (x0_21.toList == ([] : List UInt8)) = false := beq_eq_false_iff_ne.mpr c39
                  have c39b1 : (x0_21.toList != ([] : List UInt8)) = true := bne_iff_ne.mpr c39
                  have H' := Aside0.mk H
                  clear H
                  go_wp2
                  go_loopg [6, 7, 8] kj21 (fun kq v6 v7 v8 w' => ∃ (x6_4 : Int) (x7_4 : Bool) (x8_4 : Int), v6 = .int .i64 x6_4 ∧ v7 = .bool x7_4 ∧ v8 = .int .i64 x8_4 ∧ Aside0 (spec_ColourParse.l1 kq x0_21 x6_4 x7_4 x8_4 = some (r1, r2)) ∧ Aside0 (kq ≤ kj21) ∧ Aside0 (Below w.heap.size w w'))
                  case atStart => exact ⟨(0), (false), (0), (by first | rfl | (simp; done) | (simp [*]; done)), (by first | rfl | (simp; done) | (simp [*]; done)), (by first | rfl | (simp; done) | (simp [*]; done)), H', ⟨Nat.le_refl _⟩, ⟨by repeat (first | (with_reducible first | exact HB.out | apply below_alloc | apply pw_below_drewN | apply below_drew1) | exact HB.out)⟩⟩
                  case round =>
                    clear H'
                    try clear c1
                    try clear p1
                    try clear q1
                    try clear hx1
                    try clear c2
                    try clear p2
                    try clear q2
                    try clear hx2
                    try clear qi2
                    try clear c3
                    try clear p3
                    try clear q3
                    try clear hx3
                    try clear hcv3
                    try clear qi3
                    try clear c5
                    try clear c5b0
                    try clear c6
                    try clear c6b0
                    try clear p6
                    try clear c7
                    try clear c7b0
                    try clear c8
                    try clear c8b0
                    try clear c8b1
                    try clear c8b2
                    try clear c9
                    try clear c9b0
                    try clear c9b1
                    try clear p11
                    try clear q11
                    try clear hx11
                    try clear c12
                    try clear c12b0
                    try clear c12b1
                    try clear c12b2
                    try clear c13
                    try clear c13b0
                    try clear c13b1
                    try clear c19
                    try clear c19b0
                    try clear c19b1
                    try clear c19b2
                    try clear c20
                    try clear c20b0
                    try clear c20b1
                    try clear p21
                    try clear q21
                    try clear hx21
                    try clear qi21
                    try clear c23
                    try clear c24
                    try clear c24b0
                    try clear c24b1
                    try clear c25
                    try clear c25b0
                    try clear c25b1
                    try clear c25b2
                    try clear c26
                    try clear c26b0
                    try clear c26b1
                    try clear p27
                    try clear q27
                    try clear hx27
                    try clear qi27
                    try clear p28
                    try clear q28
                    try clear hx28
                    try clear qi28
                    try clear c29
                    try clear c29b0
                    try clear c29b1
                    try clear p30
                    try clear q30
                    try clear hx30
                    try clear qi30
                    try clear p31
                    try clear q31
                    try clear hx31
                    try clear qi31
                    try clear c32
                    try clear c32b0
                    try clear c32b1
                    try clear p33
                    try clear q33
                    try clear hx33
                    try clear qi33
                    try clear p34
                    try clear q34
                    try clear hx34
                    try clear qi34
                    try clear hcv38
                    try clear c39
                    try clear c39b0
                    try clear c39b1
                    try clear hcz11_0
                    try clear hcz11_1
                    try clear hcz15_0
                    try clear hcz15_1
                    try clear hcz17_0
                    try clear hcz17_1
                    try clear hfz11_0
                    try clear hfz11_1
                    try clear hfz15_0
                    try clear hfz15_1
                    try clear hfz17_0
                    try clear hfz17_1
                    try clear hx116_0
                    try clear hx116_1
                    try clear p1
                    try clear p11
                    try clear p116
                    try clear p2
                    try clear p21
                    try clear p27
                    try clear p28
                    try clear p3
                    try clear p30
                    try clear p31
                    try clear p33
                    try clear p34
                    try clear p6
                    try clear q1
                    try clear q11
                    try clear q116
                    try clear q2
                    try clear q21
                    try clear q27
                    try clear q28
                    try clear q3
                    try clear q30
                    try clear q31
                    try clear q33
                    try clear q34
                    obtain ⟨x6_4, x7_4, x8_4, rfl, rfl, rfl, HA, HK4, HB⟩ := hrel
                    cases gk with
                    | zero => exact absurd HA.out (by simp [spec_ColourParse.l1])
                    | succ k4 =>
                      have H := HA.out
                      clear HA
                      simp only [spec_ColourParse.l1] at H
                      by_cases c40 : x8_4 < (x0_21.size : Int)
                      · rw [if_pos c40] at H
                        have c40b0 : decide (x8_4 < (x0_21.size : Int)) = true := decide_eq_true c40
                        clear c40
                        by_cases c41 : 0 ≤ x8_4
                        · rw [if_pos c41] at H
                          have c41b0 : decide (0 ≤ x8_4) = true := decide_eq_true c41
                          clear c41
                          replace H := Option.bind_eq_some_iff.mp H
                          obtain ⟨t121, A430, H⟩ := H
                          replace H : (if t121 < 0 then (some (0, 1)) else (if x7_4 = true then (spec_ColourParse.l1 k4 x0_21 x6_4 x7_4 (wrap64 (x8_4 + 1))) else (spec_ColourParse.l1 k4 x0_21 (wrap64 ((wrap64 (x6_4 * 16)) + t121)) (decide ((wrap64 ((wrap64 (x6_4 * 16)) + t121)) ≥ 16777216)) (wrap64 (x8_4 + 1))))) = some (r1, r2) := H
                          have A43 := Aside0.mk A430
                          clear A430
                          by_cases c44 : t121 < 0
                          · rw [if_pos c44] at H
                            have c44b0 : decide (t121 < 0) = true := decide_eq_true c44
                            clear c44
                            simp only [Option.some.injEq, Prod.mk.injEq] at H
                            obtain ⟨rfl, rfl⟩ := H
                            have p42 : 0 ≤ (x8_4 : Int) := of_decide_eq_true (by first | (with_reducible assumption) | assumption)
                            have q42 : x8_4 < (x0_21.size : Int) := of_decide_eq_true (by first | (with_reducible assumption) | assumption)
                            have hx42 := bt_at x0_21 x8_4
                            replace p42 := eq_true p42
                            replace q42 := eq_true q42
                            go_wp2_with (first | ((with_reducible refine gate_callee (f := 89) rfl ?_); refine goesL_ (some 70) rfl rfl Tryz.func89 (by kernel_rfl) rfl #[.int .u8 (bt x0_21 x8_4)] rfl (by (try simp only [List.map_toArray, List.map_cons, List.map_nil]); first | done | rfl | (simp only [List.length_drop, List.length_take]; rfl)) ?_; (with_reducible refine (spec_hex.calls k4 (bt x0_21 x8_4) t121 _ A43.out).mono ?_); rintro e w' ⟨rfl, ⟨nd, rfl⟩⟩; refine ⟨_, rfl, ?_⟩))
                            go_ret2
                            exact ⟨by first | rfl | (simp [errW_none, errW_some] <;> rfl) | (simp [*, errW_none, errW_some] <;> rfl), by repeat (first | (with_reducible first | exact HB.out | apply below_alloc | apply pw_below_drewN | apply below_drew1) | exact HB.out)⟩
                          · rw [if_neg c44] at H
                            have c44b0 : decide (t121 < 0) = false := decide_eq_false c44
                            clear c44
                            by_cases c45 : x7_4 = true
                            · subst c45
                              have H1 : (spec_ColourParse.l1 k4 x0_21 x6_4 true (wrap64 (x8_4 + 1))) = some (r1, r2) := by rw [if_pos rfl] at H; exact H
                              clear H
                              have H := H1
                              clear H1
                              have H' := Aside0.mk H
                              clear H
                              have p42 : 0 ≤ (x8_4 : Int) := of_decide_eq_true (by first | (with_reducible assumption) | assumption)
                              have q42 : x8_4 < (x0_21.size : Int) := of_decide_eq_true (by first | (with_reducible assumption) | assumption)
                              have hx42 := bt_at x0_21 x8_4
                              replace p42 := eq_true p42
                              replace q42 := eq_true q42
                              go_wp2_with (first | ((with_reducible refine gate_callee (f := 89) rfl ?_); refine goesL_ (some 70) rfl rfl Tryz.func89 (by kernel_rfl) rfl #[.int .u8 (bt x0_21 x8_4)] rfl (by (try simp only [List.map_toArray, List.map_cons, List.map_nil]); first | done | rfl | (simp only [List.length_drop, List.length_take]; rfl)) ?_; (with_reducible refine (spec_hex.calls k4 (bt x0_21 x8_4) t121 _ A43.out).mono ?_); rintro e w' ⟨rfl, ⟨nd, rfl⟩⟩; refine ⟨_, rfl, ?_⟩))
                              go_roundg k4
                              case measure => have := HK1.out; have := HJ17.out; have := HJ21.out; have := HK4.out; omega
                              case rel => exact ⟨(x6_4), (true), (wrap64 (x8_4 + 1)), (by first | rfl | (simp; done) | (simp [*]; done)), (by first | rfl | (simp; done) | (simp [*]; done)), (by first | rfl | (simp; done) | (simp [*]; done)), H', ⟨by have := HK1.out; have := HJ17.out; have := HJ21.out; have := HK4.out; omega⟩, ⟨by repeat (first | (with_reducible first | exact HB.out | apply below_alloc | apply pw_below_drewN | apply below_drew1) | exact HB.out)⟩⟩
                            · replace c45 := Bool.eq_false_iff.mpr c45
                              subst c45
                              have H1 : (spec_ColourParse.l1 k4 x0_21 (wrap64 ((wrap64 (x6_4 * 16)) + t121)) (decide ((wrap64 ((wrap64 (x6_4 * 16)) + t121)) ≥ 16777216)) (wrap64 (x8_4 + 1))) = some (r1, r2) := by rw [if_neg (show ¬ (false = true) by decide)] at H; exact H
                              clear H
                              have H := H1
                              clear H1
                              have H' := Aside0.mk H
                              clear H
                              have p42 : 0 ≤ (x8_4 : Int) := of_decide_eq_true (by first | (with_reducible assumption) | assumption)
                              have q42 : x8_4 < (x0_21.size : Int) := of_decide_eq_true (by first | (with_reducible assumption) | assumption)
                              have hx42 := bt_at x0_21 x8_4
                              replace p42 := eq_true p42
                              replace q42 := eq_true q42
                              go_wp2_with (first | ((with_reducible refine gate_callee (f := 89) rfl ?_); refine goesL_ (some 70) rfl rfl Tryz.func89 (by kernel_rfl) rfl #[.int .u8 (bt x0_21 x8_4)] rfl (by (try simp only [List.map_toArray, List.map_cons, List.map_nil]); first | done | rfl | (simp only [List.length_drop, List.length_take]; rfl)) ?_; (with_reducible refine (spec_hex.calls k4 (bt x0_21 x8_4) t121 _ A43.out).mono ?_); rintro e w' ⟨rfl, ⟨nd, rfl⟩⟩; refine ⟨_, rfl, ?_⟩))
                              go_roundg k4
                              case measure => have := HK1.out; have := HJ17.out; have := HJ21.out; have := HK4.out; omega
                              case rel => exact ⟨(wrap64 ((wrap64 (x6_4 * 16)) + t121)), (decide ((wrap64 ((wrap64 (x6_4 * 16)) + t121)) ≥ 16777216)), (wrap64 (x8_4 + 1)), (by first | rfl | (simp; done) | (simp [*]; done)), (by first | rfl | (simp; done) | (simp [*]; done)), (by first | rfl | (simp; done) | (simp [*]; done)), H', ⟨by have := HK1.out; have := HJ17.out; have := HJ21.out; have := HK4.out; omega⟩, ⟨by repeat (first | (with_reducible first | exact HB.out | apply below_alloc | apply pw_below_drewN | apply below_drew1) | exact HB.out)⟩⟩
                        · rw [if_neg c41] at H
                          exact absurd H (by simp)
                      · rw [if_neg c40] at H
                        have c40b0 : decide (x8_4 < (x0_21.size : Int)) = false := decide_eq_false c40
                        clear c40
                        by_cases c46 : x7_4 = true
                        · subst c46
                          have H1 : (some (0, 2)) = some (r1, r2) := by rw [if_pos rfl] at H; exact H
                          clear H
                          have H := H1
                          clear H1
                          simp only [Option.some.injEq, Prod.mk.injEq] at H
                          obtain ⟨rfl, rfl⟩ := H
                          go_wp2
                          go_ret2
                          exact ⟨by first | rfl | (simp [errW_none, errW_some] <;> rfl) | (simp [*, errW_none, errW_some] <;> rfl), by repeat (first | (with_reducible first | exact HB.out | apply below_alloc | apply pw_below_drewN | apply below_drew1) | exact HB.out)⟩
                        · replace c46 := Bool.eq_false_iff.mpr c46
                          subst c46
                          have H1 : (some (wrap32 (wrap64 (x6_4 + 1)), 1)) = some (r1, r2) := by rw [if_neg (show ¬ (false = true) by decide)] at H; exact H
                          clear H
                          have H := H1
                          clear H1
                          simp only [Option.some.injEq, Prod.mk.injEq] at H
                          obtain ⟨rfl, rfl⟩ := H
                          go_wp2
                          go_ret2
                          exact ⟨by first | rfl | (simp [errW_none, errW_some] <;> rfl) | (simp [*, errW_none, errW_some] <;> rfl), by repeat (first | (with_reducible first | exact HB.out | apply below_alloc | apply pw_below_drewN | apply below_drew1) | exact HB.out)⟩

end Go.Proofs.YtjemdgmihbmgeaaGreatDoor.S
