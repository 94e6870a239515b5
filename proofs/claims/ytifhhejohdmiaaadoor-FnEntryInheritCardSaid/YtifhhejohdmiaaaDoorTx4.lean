-- WRITTEN BY OUR myprint.py, a program of this session's over the kit's printer
import Derived.Test.YtifhhejohdmiaaaDoorTx0
import Derived.Test.YtifhhejohdmiaaaDoorTx1
import Derived.Test.YtifhhejohdmiaaaDoorTx2
import Derived.Test.YtifhhejohdmiaaaDoorTx3
namespace Go.Proofs.YtifhhejohdmiaaaDoor.T
open Go.RowKit Go.Proofs.YtifhhejohdmiaaaDoorW.PrintWords Go.Proofs.YtifhhejohdmiaaaDoorW.PrintLast Go.Proofs.YtifhhejohdmiaaaDoorW.PrintMore
attribute [local go_sem] max2_int min2_int max_two min_two max_three min_three max_four min_four   -- for this text's walks alone
set_option linter.unusedVariables false
set_option linter.unusedSimpArgs false

attribute [local go_sem high] eqA23
/-! ### laws_entries: function 20 -/
def laws_entries.toE (x : S23) : Go.Proofs.YtifhhejohdmiaaaDoorEnt.Ent := ⟨x.f0, x.f1, x.f2, x.f3, x.f4, x.f5, x.f6⟩
theorem laws_entries.ents {w : World} {A : Option Addr} {l : List (S23)} (h : Kd.C k23 w A l.length l) : l.map laws_entries.toE ≠ [] → ∃ g o, A = some ⟨g, o, none⟩ ∧ g < w.heap.size ∧ Go.Proofs.YtifhhejohdmiaaaDoorEnt.Ents w g o (l.map laws_entries.toE) := by
  intro hne
  have hpos : 0 < l.length := List.length_pos_iff.2 (fun e => hne (by rw [e]; rfl))
  have key : ∀ (i : Nat) (hi : i < l.length), ∃ ad : Addr, A = some ad ∧ ∀ j u, ([.int .i32 (l[i]).f0, .int .i32 (l[i]).f1, .int .i32 (l[i]).f2, .int .u8 (l[i]).f3, .int .u8 (l[i]).f4, .int .u8 (l[i]).f5, .bool (l[i]).f6] : List Value)[j]? = some u → w.cell? (ad.add (i * 7 + j)) = some u := by
    intro i hi
    obtain ⟨ad, c, e, _, hK, hc⟩ := Kd.C_get h z23 (i : Int) (by omega) (by omega)
    have hg : l.getD (i : Int).toNat z23 = l[i] := by
      rw [Int.toNat_natCast, List.getD_eq_getElem?_getD, List.getElem?_eq_getElem hi]; rfl
    rw [hg] at hK
    obtain rfl := k23_open hK
    exact ⟨ad, e, fun j u hu => hc j u hu⟩
  obtain ⟨ad, rfl, hc⟩ := key 0 hpos
  have h0 := hc 0 _ rfl
  have hsp : (ad.add 0).spot = none := World.cell?_spot h0
  obtain ⟨b, o, sp⟩ := ad
  have hsp' : sp = none := by simpa [Addr.add] using hsp
  subst hsp'
  have hadd : ∀ j, (⟨b, o, none⟩ : Addr).add j = ⟨b, o + j, none⟩ := fun j => by unfold Addr.add; split <;> simp_all
  have hlt := World.block_lt_of_cell? w _ h0
  rw [hadd] at hlt
  refine ⟨b, o, rfl, hlt, fun i hi => ?_⟩
  have hi' : i < l.length := by simpa using hi
  obtain ⟨ad, e, hc⟩ := key i hi'
  injection e with e
  subst e
  have c : ∀ j u, ([.int .i32 (l[i]).f0, .int .i32 (l[i]).f1, .int .i32 (l[i]).f2, .int .u8 (l[i]).f3, .int .u8 (l[i]).f4, .int .u8 (l[i]).f5, .bool (l[i]).f6] : List Value)[j]? = some u → w.cell? ⟨b, o + i * 7 + j, none⟩ = some u := fun j u hu => by
    have := hc j u hu
    rw [hadd, ← Nat.add_assoc] at this
    exact this
  rw [List.getElem_map]
  exact ⟨c 0 _ rfl, c 1 _ rfl, c 2 _ rfl, c 3 _ rfl, c 4 _ rfl, c 5 _ rfl, c 6 _ rfl⟩
theorem laws_entries.ft : ∀ (es : List Go.Proofs.YtifhhejohdmiaaaDoorEnt.Ent) (j : Nat) (hj : j < es.length), ((Go.Proofs.YtifhhejohdmiaaaDoorEnt.flat es).drop (j * 7)).take 7 = (Go.Proofs.YtifhhejohdmiaaaDoorEnt.cells es[j]).toList
  | e :: es, 0, hj => by
    have h : Go.Proofs.YtifhhejohdmiaaaDoorEnt.flat (e :: es) = (Go.Proofs.YtifhhejohdmiaaaDoorEnt.cells e).toList ++ Go.Proofs.YtifhhejohdmiaaaDoorEnt.flat es := by simp [Go.Proofs.YtifhhejohdmiaaaDoorEnt.flat]
    have h7 : (Go.Proofs.YtifhhejohdmiaaaDoorEnt.cells e).toList.length = 7 := rfl
    rw [h, Nat.zero_mul, List.drop_zero]
    exact List.take_left' h7
  | e :: es, j + 1, hj => by
    have h : Go.Proofs.YtifhhejohdmiaaaDoorEnt.flat (e :: es) = (Go.Proofs.YtifhhejohdmiaaaDoorEnt.cells e).toList ++ Go.Proofs.YtifhhejohdmiaaaDoorEnt.flat es := by simp [Go.Proofs.YtifhhejohdmiaaaDoorEnt.flat]
    have h7 : (Go.Proofs.YtifhhejohdmiaaaDoorEnt.cells e).toList.length = 7 := rfl
    rw [h, show (j + 1) * 7 = 7 + j * 7 by omega, ← List.drop_drop, List.drop_left' h7]
    exact laws_entries.ft es j (by simpa using hj)
def laws_entries.to26 (x : S23) : S26 := ⟨x.f0, x.f1, x.f2, x.f3, x.f4, x.f5, x.f6⟩
def laws_entries.f (l0 : List (S23)) : Option (List (S26)) := if l0.length ≤ 1000000 then some (l0.map laws_entries.to26) else none
theorem laws_entries.calls (A0 : Option Addr) (c0 : Nat) (l0 : List (S23)) (r : List (S26)) (w : World) (hr0 : Kd.C k23 w A0 l0.length l0) (hc0 : l0.length ≤ c0) (h : laws_entries.f l0 = some r) :
    Calls Tryd.prog 20 #[.slice A0 l0.length c0] w fun e w' => ∃ v0_ : Value, e = .returned (v0_) ∧ Kd.R k26 26 w' w.heap.size (fun _ => True) v0_ r ∧ Below w.heap.size w w' := by
  unfold laws_entries.f at h
  by_cases h0 : l0.length ≤ 1000000
  · rw [if_pos h0] at h
    obtain rfl := Option.some.inj h
    have hk := Go.Proofs.YtifhhejohdmiaaaDoorEnt.lawsEntries_c A0 c0 (l0.map laws_entries.toE) (by rw [List.length_map]; exact h0) (by rw [List.length_map]; exact hc0) w (laws_entries.ents hr0)
    rw [List.length_map] at hk
    refine hk.mono ?_
    rintro x w' ⟨v, rfl, ho, hb⟩
    refine ⟨v, rfl, ⟨fun _ _ => trivial, Go.Proofs.YtifhhejohdmiaaaDoorEnt.flat (l0.map laws_entries.toE), by rw [List.length_map]; exact ho, ?_, fun j p hjp => ?_⟩, hb⟩
    · rw [List.length_map]
      exact ho.1
    · rw [List.getElem?_map] at hjp
      by_cases hj : j < l0.length
      · rw [List.getElem?_eq_getElem hj] at hjp
        obtain rfl := Option.some.inj hjp
        have := laws_entries.ft (l0.map laws_entries.toE) j (by rw [List.length_map]; exact hj)
        rw [List.getElem_map] at this
        exact this ▸ k26_mkM _ _ _ _
      · rw [List.getElem?_eq_none (by omega)] at hjp; cases hjp
  · rw [if_neg h0] at h; cases h

/-! ### laws_FnEntryInherit: function 6 -/
def laws_FnEntryInherit.j0 : Nat → List (S23) → Bool → Int → Int → Int → Int → Int → Int → Bool → Option (Bool)
  | 0, _, _, _, _, _, _, _, _, _ => none
  | k + 1, x1, x15, x115000, x115001, x115002, x115003, x115004, x115005, x115006 => if x15 = true then (some true) else ((impl_EntryInherit.f x115000 x115001 x115002 x115003 x115004 x115005 x115006 x1).bind fun bt117 => ((laws_entries.f x1).bind fun t124 => ((spec_EntryInherit.f k x115000 x115001 x115002 x115003 x115004 x115005 x115006 t124).bind fun bt127 => (if (bt117.1 == bt127.1 && (bt117.2.1 == bt127.2.1 && (bt117.2.2.1 == bt127.2.2.1 && (bt117.2.2.2.1 == bt127.2.2.2.1 && (bt117.2.2.2.2.1 == bt127.2.2.2.2.1 && (bt117.2.2.2.2.2.1 == bt127.2.2.2.2.2.1 && (bt117.2.2.2.2.2.2 == bt127.2.2.2.2.2.2))))))) = true then ((laws_styled.f).bind fun t134 => (some t134)) else (some false)))))
def laws_FnEntryInherit.f (k : Nat) (a0_0 : Int) (a0_1 : Int) (a0_2 : Int) (a0_3 : Int) (a0_4 : Int) (a0_5 : Int) (a0_6 : Bool) (l1 : List (S23)) : Option (Bool) := if (l1.length : Int) > 2147483647 then (some true) else ((laws_usual.f k a0_0 a0_1 a0_2 a0_3 a0_4 a0_5 a0_6).bind fun t115 => (if t115 = true then ((laws_lines.f k l1).bind fun t116 => (laws_FnEntryInherit.j0 k l1 (!t116) a0_0 a0_1 a0_2 a0_3 a0_4 a0_5 a0_6)) else (laws_FnEntryInherit.j0 k l1 true a0_0 a0_1 a0_2 a0_3 a0_4 a0_5 a0_6)))
theorem laws_FnEntryInherit.mono_l : ∀ k, (∀ y0 y1 y2 y3 y4 y5 y6 y7 y8, LeO (laws_FnEntryInherit.j0 k y0 y1 y2 y3 y4 y5 y6 y7 y8) (laws_FnEntryInherit.j0 (k + 1) y0 y1 y2 y3 y4 y5 y6 y7 y8))
  | 0 => fun _ _ _ _ _ _ _ _ _ r h => by simp [laws_FnEntryInherit.j0] at h
  | k + 1 => by
    have ih0 := laws_FnEntryInherit.mono_l k
    · intro y0 y1 y2 y3 y4 y5 y6 y7 y8
      unfold laws_FnEntryInherit.j0
      repeat' first
      | (with_reducible exact ih0 _ _ _ _ _ _ _ _ _)
      | (with_reducible exact laws_lines.mono _ _)
      | (with_reducible exact laws_usual.mono _ _ _ _ _ _ _ _)
      | (with_reducible exact spec_EntryInherit.mono _ _ _ _ _ _ _ _ _)
      | (with_reducible exact LeO.refl _)
      | (with_reducible exact LeO.none _)
      | (with_reducible refine LeO.ite ?_ ?_)
      | (with_reducible refine LeO.bind ?_ (fun _ => ?_))
      | exact ih0 _ _ _ _ _ _ _ _ _
      | exact laws_lines.mono _ _
      | exact laws_usual.mono _ _ _ _ _ _ _ _
      | exact spec_EntryInherit.mono _ _ _ _ _ _ _ _ _
      | exact LeO.none _
      | refine LeO.ite ?_ ?_
      | refine LeO.bind ?_ (fun _ => ?_)
theorem laws_FnEntryInherit.mono : ∀ a0 a1 a2 a3 a4 a5 a6 a7 k, LeO (laws_FnEntryInherit.f k a0 a1 a2 a3 a4 a5 a6 a7) (laws_FnEntryInherit.f (k + 1) a0 a1 a2 a3 a4 a5 a6 a7) := by
  intro a0 a1 a2 a3 a4 a5 a6 a7 k
  have ih0 := laws_FnEntryInherit.mono_l k
  unfold laws_FnEntryInherit.f
  repeat' first
      | (with_reducible exact ih0 _ _ _ _ _ _ _ _ _)
      | (with_reducible exact laws_lines.mono _ _)
      | (with_reducible exact laws_usual.mono _ _ _ _ _ _ _ _)
      | (with_reducible exact spec_EntryInherit.mono _ _ _ _ _ _ _ _ _)
      | (with_reducible exact LeO.refl _)
      | (with_reducible exact LeO.none _)
      | (with_reducible refine LeO.ite ?_ ?_)
      | (with_reducible refine LeO.bind ?_ (fun _ => ?_))
      | exact ih0 _ _ _ _ _ _ _ _ _
      | exact laws_lines.mono _ _
      | exact laws_usual.mono _ _ _ _ _ _ _ _
      | exact spec_EntryInherit.mono _ _ _ _ _ _ _ _ _
      | exact LeO.none _
      | refine LeO.ite ?_ ?_
      | refine LeO.bind ?_ (fun _ => ?_)
def laws_FnEntryInherit.T5 : Bool × List (List Nat × List Nat) := (true, [([], []), ([], []), ([0, 1], [0, 1]), ([], []), ([], []), ([4, 2], [4]), ([3, 5, 5], [3, 5]), ([2, 6], [2, 6]), ([7, 6], [7]), ([8, 8], [8]), ([8, 9], [8, 9]), ([10, 9, 0, 1, 2, 3, 4, 5, 6, 7, 8, 9, 10], [10])])
def laws_FnEntryInherit.B5 : List Nat := [0, 0, 3, 0, 0, 23, 63, 127, 255, 511, 1023, 2047]
theorem laws_FnEntryInherit.tab5 : rtab .any (opsOf Tryd.f6 5) = laws_FnEntryInherit.T5 := by kernel_rfl
theorem laws_FnEntryInherit.bits5 : waitsOk laws_FnEntryInherit.T5.2 laws_FnEntryInherit.B5 = true := by kernel_rfl
set_option maxHeartbeats 8000000 in
set_option maxRecDepth 100000 in
theorem laws_FnEntryInherit.calls (k : Nat) (a0_0 : Int) (a0_1 : Int) (a0_2 : Int) (a0_3 : Int) (a0_4 : Int) (a0_5 : Int) (a0_6 : Bool) (A1 : Option Addr) (c1 : Nat) (l1 : List (S23)) (r : Bool) (w : World) (hr1 : Kd.C k23 w A1 l1.length l1) (hc1 : l1.length ≤ c1) (hV : Go.Proofs.YtifhhejohdmiaaaDoorFmt.VarsOK w) (h : laws_FnEntryInherit.f k a0_0 a0_1 a0_2 a0_3 a0_4 a0_5 a0_6 l1 = some r) :
    Calls Tryd.prog 6 #[.agg #[.int .i32 a0_0, .int .i32 a0_1, .int .i32 a0_2, .int .u8 a0_3, .int .u8 a0_4, .int .u8 a0_5, .bool a0_6], .slice A1 l1.length c1] w fun e w' => e = .returned (.bool r) ∧ Below w.heap.size w w' := by
  have hu23 := Tryd.underlying23
  have HR1 := Aside0.mk hr1
  have HC1 := Aside0.mk hc1
  clear hr1 hc1
  have HB := Aside0.mk (Below.refl w.heap.size w)
  have HV := Aside0.mk hV
  clear hV
  have H : (if (l1.length : Int) > 2147483647 then (some true) else ((laws_usual.f k a0_0 a0_1 a0_2 a0_3 a0_4 a0_5 a0_6).bind fun t115 => (if t115 = true then ((laws_lines.f k l1).bind fun t116 => (laws_FnEntryInherit.j0 k l1 (!t116) a0_0 a0_1 a0_2 a0_3 a0_4 a0_5 a0_6)) else (laws_FnEntryInherit.j0 k l1 true a0_0 a0_1 a0_2 a0_3 a0_4 a0_5 a0_6)))) = some r := h
  clear h
  by_cases c3 : (l1.length : Int) > 2147483647
  · rw [if_pos c3] at H
    have c3b0 : decide (2147483647 < (l1.length : Int)) = true := decide_eq_true c3
    have c3b1 : decide (2147483647 < l1.length) = true := decide_eq_true (by omega)
    clear c3
    obtain rfl := Option.some.inj H
    go_enter Tryd.func6, Tryd.ntmps6
    go_wp2_with (first | ((with_reducible refine gate_dst (N := 2) rfl ?_); refine box_event ?hg (N := 2) ?hd (cs := #[.int .i32 a0_0, .int .i32 a0_1, .int .i32 a0_2, .int .u8 a0_3, .int .u8 a0_4, .int .u8 a0_5, .bool a0_6]) (t := 23) ?hr ?_; (case hd => rfl); (case hg => rfl); (case hr => first | (go_simp; done) | (go_simp; rfl)); intro gb114 hg w4 hbox hb; have n0_ := Aside0.mk (below_step (by repeat (first | (with_reducible first | exact HB.out | apply below_alloc | apply pw_below_drewN | apply below_drew1) | exact HB.out)) hb); have n1_ := Aside0.mk (hbox); have n2_ := Aside0.mk ((by rw [hg]; exact (below_size (by repeat (first | (with_reducible first | exact HB.out | apply below_alloc | apply pw_below_drewN | apply below_drew1) | exact HB.out))) : w.heap.size ≤ gb114)); have n3_ := Aside0.mk ((by rw [hg]; exact (below_size (by repeat (first | (with_reducible first | exact HB.out | apply below_alloc | apply pw_below_drewN | apply below_drew1) | exact HB.out))) : w.heap.size ≤ gb114)); clear HB; have HB := n0_; have BK114 := n1_; have GW114 := n2_; have GE114 := n3_; clear n0_ n1_ n2_ n3_; clear hb hbox hg))
    go_ret
    exact ⟨by first | rfl | (simp [errW_none, errW_some] <;> rfl) | (simp [*, errW_none, errW_some] <;> rfl), by repeat (first | (with_reducible first | exact HB.out | apply below_alloc | apply pw_below_drewN | apply below_drew1 | refine below_set ?_ GE114.out) | exact HB.out)⟩
  · rw [if_neg c3] at H
    have c3b0 : decide (2147483647 < (l1.length : Int)) = false := decide_eq_false c3
    have c3b1 : decide (2147483647 < l1.length) = false := decide_eq_false (by omega)
    clear c3
    have HC5 := Aside0.mk H
    clear H
    go_enter Tryd.func6, Tryd.ntmps6
    go_upto_region 3 with (first | ((with_reducible refine gate_dst (N := 2) rfl ?_); refine box_event ?hg (N := 2) ?hd (cs := #[.int .i32 a0_0, .int .i32 a0_1, .int .i32 a0_2, .int .u8 a0_3, .int .u8 a0_4, .int .u8 a0_5, .bool a0_6]) (t := 23) ?hr ?_; (case hd => rfl); (case hg => rfl); (case hr => first | (go_simp; done) | (go_simp; rfl)); intro gb114 hg w6 hbox hb; have n0_ := Aside0.mk (below_step (by repeat (first | (with_reducible first | exact HB.out | apply below_alloc | apply pw_below_drewN | apply below_drew1) | exact HB.out)) hb); have n1_ := Aside0.mk (hbox); have n2_ := Aside0.mk ((by rw [hg]; exact (below_size (by repeat (first | (with_reducible first | exact HB.out | apply below_alloc | apply pw_below_drewN | apply below_drew1) | exact HB.out))) : w.heap.size ≤ gb114)); have n3_ := Aside0.mk ((by rw [hg]; exact (below_size (by repeat (first | (with_reducible first | exact HB.out | apply below_alloc | apply pw_below_drewN | apply below_drew1) | exact HB.out))) : w.heap.size ≤ gb114)); clear HB; have HB := n0_; have BK114 := n1_; have GW114 := n2_; have GE114 := n3_; clear n0_ n1_ n2_ n3_; clear hb hbox hg))
    (try simp only [Act.put, List.setIfInBounds_toArray, List.set_cons_zero, List.set_cons_succ])
    go_cut [15] (fun v15 wc => ∃ (kq : Nat) (x15_4 : Bool), v15 = .bool x15_4 ∧ Aside0 (laws_FnEntryInherit.j0 kq l1 x15_4 a0_0 a0_1 a0_2 a0_3 a0_4 a0_5 a0_6 = some r) ∧ Aside0 (kq ≤ k) ∧ Aside0 (wc.heap[gb114]? = some (.cells #[.int .i32 a0_0, .int .i32 a0_1, .int .i32 a0_2, .int .u8 a0_3, .int .u8 a0_4, .int .u8 a0_5, .bool a0_6] 23 (0, 0))) ∧ Aside0 (Below w.heap.size w wc))
    case first =>
      have H := HC5.out
      clear HC5
      replace H := Option.bind_eq_some_iff.mp H
      obtain ⟨t115, A70, H⟩ := H
      replace H : (if t115 = true then ((laws_lines.f k l1).bind fun t116 => (laws_FnEntryInherit.j0 k l1 (!t116) a0_0 a0_1 a0_2 a0_3 a0_4 a0_5 a0_6)) else (laws_FnEntryInherit.j0 k l1 true a0_0 a0_1 a0_2 a0_3 a0_4 a0_5 a0_6)) = some r := H
      have A7 := Aside0.mk A70
      clear A70
      by_cases c8 : t115 = true
      · subst c8
        have H1 : ((laws_lines.f k l1).bind fun t116 => (laws_FnEntryInherit.j0 k l1 (!t116) a0_0 a0_1 a0_2 a0_3 a0_4 a0_5 a0_6)) = some r := by rw [if_pos rfl] at H; exact H
        clear H
        have H := H1
        clear H1
        replace H := Option.bind_eq_some_iff.mp H
        obtain ⟨t116, A90, H⟩ := H
        replace H : (laws_FnEntryInherit.j0 k l1 (!t116) a0_0 a0_1 a0_2 a0_3 a0_4 a0_5 a0_6) = some r := H
        have A9 := Aside0.mk A90
        clear A90
        have H' := Aside0.mk H
        clear H
        have hcz10_0 : w6.cell? ⟨gb114, 0, none⟩ = some (.int .i32 a0_0) := (blk_cell BK114.out 0).trans rfl
        have hcz10_1 : w6.cell? ⟨gb114, 1, none⟩ = some (.int .i32 a0_1) := (blk_cell BK114.out 1).trans rfl
        have hcz10_2 : w6.cell? ⟨gb114, 2, none⟩ = some (.int .i32 a0_2) := (blk_cell BK114.out 2).trans rfl
        have hcz10_3 : w6.cell? ⟨gb114, 3, none⟩ = some (.int .u8 a0_3) := (blk_cell BK114.out 3).trans rfl
        have hcz10_4 : w6.cell? ⟨gb114, 4, none⟩ = some (.int .u8 a0_4) := (blk_cell BK114.out 4).trans rfl
        have hcz10_5 : w6.cell? ⟨gb114, 5, none⟩ = some (.int .u8 a0_5) := (blk_cell BK114.out 5).trans rfl
        have hcz10_6 : w6.cell? ⟨gb114, 6, none⟩ = some (.bool a0_6) := (blk_cell BK114.out 6).trans rfl
        have hfz10_0 := blk_frozen BK114.out 0
        have hfz10_1 := blk_frozen BK114.out 1
        have hfz10_2 := blk_frozen BK114.out 2
        have hfz10_3 := blk_frozen BK114.out 3
        have hfz10_4 := blk_frozen BK114.out 4
        have hfz10_5 := blk_frozen BK114.out 5
        have hfz10_6 := blk_frozen BK114.out 6
        go_wp2_with (first | ((with_reducible refine gate_callee (f := 16) rfl ?_); refine goesL_ (some 9) rfl rfl Tryd.func16 (by kernel_rfl) rfl #[.agg #[.int .i32 a0_0, .int .i32 a0_1, .int .i32 a0_2, .int .u8 a0_3, .int .u8 a0_4, .int .u8 a0_5, .bool a0_6]] rfl (by (try simp only [List.map_toArray, List.map_cons, List.map_nil]); first | done | rfl | (simp only [List.length_drop, List.length_take]; rfl)) ?_; (with_reducible refine (laws_usual.calls k a0_0 a0_1 a0_2 a0_3 a0_4 a0_5 a0_6 true _ A7.out).mono ?_); rintro e w11 ⟨rfl, hb⟩; refine ⟨_, rfl, ?_⟩; have n0_ := Aside0.mk (blk_below (g := gb114) (o := .cells #[.int .i32 a0_0, .int .i32 a0_1, .int .i32 a0_2, .int .u8 a0_3, .int .u8 a0_4, .int .u8 a0_5, .bool a0_6] 23 (0, 0)) (by (with_reducible repeat (first | refine blk_drewN ?_ _ | refine blk_drew ?_ | refine blk_alloc ?_ _)); exact BK114.out) hb); have n1_ := Aside0.mk (below_step (by repeat (first | (with_reducible first | exact HB.out | apply below_alloc | apply pw_below_drewN | apply below_drew1 | refine below_set ?_ GE114.out) | exact HB.out)) hb); clear BK114; clear HB; have BK114 := n0_; have HB := n1_; clear n0_ n1_; (try clear hb); (try clear hb2); (try clear hk); (try clear hi)) | (go_at_call 17; (with_reducible refine (laws_lines.calls k _ _ l1 t116 _ ?side1 ?side2 A9.out).mono ?_); (case side1 => repeat (first | exact (Kd.C_below HR1.out HB.out) | (with_reducible refine Kd.C_alloc ?_ _) | (with_reducible refine Kd.C_drewN ?_ _) | (with_reducible refine Kd.C_drew ?_))); (case side2 => exact HC1.out); rintro e w12 ⟨rfl, hb⟩; have n0_ := Aside0.mk (blk_below (g := gb114) (o := .cells #[.int .i32 a0_0, .int .i32 a0_1, .int .i32 a0_2, .int .u8 a0_3, .int .u8 a0_4, .int .u8 a0_5, .bool a0_6] 23 (0, 0)) (by (with_reducible repeat (first | refine blk_drewN ?_ _ | refine blk_drew ?_ | refine blk_alloc ?_ _)); exact BK114.out) hb); have n1_ := Aside0.mk (below_step (by repeat (first | (with_reducible first | exact HB.out | apply below_alloc | apply pw_below_drewN | apply below_drew1 | refine below_set ?_ GE114.out) | exact HB.out)) hb); clear BK114; clear HB; have BK114 := n0_; have HB := n1_; clear n0_ n1_; (try clear hb); (try clear hb2); (try clear hk); (try clear hi)))
        go_meet
        case rel => exact ⟨_, (!t116), (by first | rfl | (simp; done) | (simp [*]; done)), H', ⟨by first | omega | exact Nat.le_refl _⟩, ⟨by (with_reducible repeat (first | refine blk_drewN ?_ _ | refine blk_drew ?_ | refine blk_alloc ?_ _)); exact BK114.out⟩, ⟨by repeat (first | (with_reducible first | exact HB.out | apply below_alloc | apply pw_below_drewN | apply below_drew1 | refine below_set ?_ GE114.out) | exact HB.out)⟩⟩
      · replace c8 := Bool.eq_false_iff.mpr c8
        subst c8
        have H1 : (laws_FnEntryInherit.j0 k l1 true a0_0 a0_1 a0_2 a0_3 a0_4 a0_5 a0_6) = some r := by rw [if_neg (show ¬ (false = true) by decide)] at H; exact H
        clear H
        have H := H1
        clear H1
        have H' := Aside0.mk H
        clear H
        have hcz13_0 : w6.cell? ⟨gb114, 0, none⟩ = some (.int .i32 a0_0) := (blk_cell BK114.out 0).trans rfl
        have hcz13_1 : w6.cell? ⟨gb114, 1, none⟩ = some (.int .i32 a0_1) := (blk_cell BK114.out 1).trans rfl
        have hcz13_2 : w6.cell? ⟨gb114, 2, none⟩ = some (.int .i32 a0_2) := (blk_cell BK114.out 2).trans rfl
        have hcz13_3 : w6.cell? ⟨gb114, 3, none⟩ = some (.int .u8 a0_3) := (blk_cell BK114.out 3).trans rfl
        have hcz13_4 : w6.cell? ⟨gb114, 4, none⟩ = some (.int .u8 a0_4) := (blk_cell BK114.out 4).trans rfl
        have hcz13_5 : w6.cell? ⟨gb114, 5, none⟩ = some (.int .u8 a0_5) := (blk_cell BK114.out 5).trans rfl
        have hcz13_6 : w6.cell? ⟨gb114, 6, none⟩ = some (.bool a0_6) := (blk_cell BK114.out 6).trans rfl
        have hfz13_0 := blk_frozen BK114.out 0
        have hfz13_1 := blk_frozen BK114.out 1
        have hfz13_2 := blk_frozen BK114.out 2
        have hfz13_3 := blk_frozen BK114.out 3
        have hfz13_4 := blk_frozen BK114.out 4
        have hfz13_5 := blk_frozen BK114.out 5
        have hfz13_6 := blk_frozen BK114.out 6
        go_wp2_with (first | ((with_reducible refine gate_callee (f := 16) rfl ?_); refine goesL_ (some 9) rfl rfl Tryd.func16 (by kernel_rfl) rfl #[.agg #[.int .i32 a0_0, .int .i32 a0_1, .int .i32 a0_2, .int .u8 a0_3, .int .u8 a0_4, .int .u8 a0_5, .bool a0_6]] rfl (by (try simp only [List.map_toArray, List.map_cons, List.map_nil]); first | done | rfl | (simp only [List.length_drop, List.length_take]; rfl)) ?_; (with_reducible refine (laws_usual.calls k a0_0 a0_1 a0_2 a0_3 a0_4 a0_5 a0_6 false _ A7.out).mono ?_); rintro e w14 ⟨rfl, hb⟩; refine ⟨_, rfl, ?_⟩; have n0_ := Aside0.mk (blk_below (g := gb114) (o := .cells #[.int .i32 a0_0, .int .i32 a0_1, .int .i32 a0_2, .int .u8 a0_3, .int .u8 a0_4, .int .u8 a0_5, .bool a0_6] 23 (0, 0)) (by (with_reducible repeat (first | refine blk_drewN ?_ _ | refine blk_drew ?_ | refine blk_alloc ?_ _)); exact BK114.out) hb); have n1_ := Aside0.mk (below_step (by repeat (first | (with_reducible first | exact HB.out | apply below_alloc | apply pw_below_drewN | apply below_drew1 | refine below_set ?_ GE114.out) | exact HB.out)) hb); clear BK114; clear HB; have BK114 := n0_; have HB := n1_; clear n0_ n1_; (try clear hb); (try clear hb2); (try clear hk); (try clear hi)))
        go_meet
        case rel => exact ⟨_, (true), (by first | rfl | (simp; done) | (simp [*]; done)), H', ⟨by first | omega | exact Nat.le_refl _⟩, ⟨by (with_reducible repeat (first | refine blk_drewN ?_ _ | refine blk_drew ?_ | refine blk_alloc ?_ _)); exact BK114.out⟩, ⟨by repeat (first | (with_reducible first | exact HB.out | apply below_alloc | apply pw_below_drewN | apply below_drew1 | refine below_set ?_ GE114.out) | exact HB.out)⟩⟩
    case rest =>
      clear HC5
      try clear c1
      try clear p2
      try clear c3
      try clear c3b0
      try clear c3b1
      try clear c6
      try clear c8
      try clear hcz10_0
      try clear hcz10_1
      try clear hcz10_2
      try clear hcz10_3
      try clear hcz10_4
      try clear hcz10_5
      try clear hcz10_6
      try clear hcz13_0
      try clear hcz13_1
      try clear hcz13_2
      try clear hcz13_3
      try clear hcz13_4
      try clear hcz13_5
      try clear hcz13_6
      try clear hfz10_0
      try clear hfz10_1
      try clear hfz10_2
      try clear hfz10_3
      try clear hfz10_4
      try clear hfz10_5
      try clear hfz10_6
      try clear hfz13_0
      try clear hfz13_1
      try clear hfz13_2
      try clear hfz13_3
      try clear hfz13_4
      try clear hfz13_5
      try clear hfz13_6
      obtain ⟨kq, x15_4, rfl, HA, HJ4, BK114, HB⟩ := hcut
      cases kq with
      | zero => exact absurd HA.out (by simp [laws_FnEntryInherit.j0])
      | succ kj4 =>
        have H := HA.out
        clear HA
        simp only [laws_FnEntryInherit.j0] at H
        by_cases c15 : x15_4 = true
        · subst c15
          have H1 : (some true) = some r := by rw [if_pos rfl] at H; exact H
          clear H
          have H := H1
          clear H1
          obtain rfl := Option.some.inj H
          go_wp2
          go_ret
          exact ⟨by first | rfl | (simp [errW_none, errW_some] <;> rfl) | (simp [*, errW_none, errW_some] <;> rfl), by repeat (first | (with_reducible first | exact HB.out | apply below_alloc | apply pw_below_drewN | apply below_drew1 | refine below_set ?_ GE114.out) | exact HB.out)⟩
        · replace c15 := Bool.eq_false_iff.mpr c15
          subst c15
          have H1 : ((impl_EntryInherit.f a0_0 a0_1 a0_2 a0_3 a0_4 a0_5 a0_6 l1).bind fun bt117 => ((laws_entries.f l1).bind fun t124 => ((spec_EntryInherit.f kj4 a0_0 a0_1 a0_2 a0_3 a0_4 a0_5 a0_6 t124).bind fun bt127 => (if (bt117.1 == bt127.1 && (bt117.2.1 == bt127.2.1 && (bt117.2.2.1 == bt127.2.2.1 && (bt117.2.2.2.1 == bt127.2.2.2.1 && (bt117.2.2.2.2.1 == bt127.2.2.2.2.1 && (bt117.2.2.2.2.2.1 == bt127.2.2.2.2.2.1 && (bt117.2.2.2.2.2.2 == bt127.2.2.2.2.2.2))))))) = true then ((laws_styled.f).bind fun t134 => (some t134)) else (some false))))) = some r := by rw [if_neg (show ¬ (false = true) by decide)] at H; exact H
          clear H
          have H := H1
          clear H1
          replace H := Option.bind_eq_some_iff.mp H
          obtain ⟨⟨t117, t118, t119, t120, t121, t122, t123⟩, A160, H⟩ := H
          replace H : ((laws_entries.f l1).bind fun t124 => ((spec_EntryInherit.f kj4 a0_0 a0_1 a0_2 a0_3 a0_4 a0_5 a0_6 t124).bind fun bt127 => (if (t117 == bt127.1 && (t118 == bt127.2.1 && (t119 == bt127.2.2.1 && (t120 == bt127.2.2.2.1 && (t121 == bt127.2.2.2.2.1 && (t122 == bt127.2.2.2.2.2.1 && (t123 == bt127.2.2.2.2.2.2))))))) = true then ((laws_styled.f).bind fun t134 => (some t134)) else (some false)))) = some r := H
          have A16 := Aside0.mk A160
          clear A160
          replace H := Option.bind_eq_some_iff.mp H
          obtain ⟨t124, A170, H⟩ := H
          replace H : ((spec_EntryInherit.f kj4 a0_0 a0_1 a0_2 a0_3 a0_4 a0_5 a0_6 t124).bind fun bt127 => (if (t117 == bt127.1 && (t118 == bt127.2.1 && (t119 == bt127.2.2.1 && (t120 == bt127.2.2.2.1 && (t121 == bt127.2.2.2.2.1 && (t122 == bt127.2.2.2.2.2.1 && (t123 == bt127.2.2.2.2.2.2))))))) = true then ((laws_styled.f).bind fun t134 => (some t134)) else (some false))) = some r := H
          have A17 := Aside0.mk A170
          clear A170
          replace H := Option.bind_eq_some_iff.mp H
          obtain ⟨⟨t127, t128, t129, t130, t131, t132, t133⟩, A180, H⟩ := H
          replace H : (if (t117 == t127 && (t118 == t128 && (t119 == t129 && (t120 == t130 && (t121 == t131 && (t122 == t132 && (t123 == t133))))))) = true then ((laws_styled.f).bind fun t134 => (some t134)) else (some false)) = some r := H
          have A18 := Aside0.mk A180
          clear A180
          by_cases c19 : (t117 == t127 && (t118 == t128 && (t119 == t129 && (t120 == t130 && (t121 == t131 && (t122 == t132 && (t123 == t133))))))) = true
          · rw [if_pos c19] at H
            have c19b0 : (t117 == t127 && (t118 == t128 && (t119 == t129 && (t120 == t130 && (t121 == t131 && (t122 == t132 && (t123 == t133))))))) = true := c19
            (try (have c19b1 : decide (t117 = t127 && (t118 == t128 && (t119 == t129 && (t120 == t130 && (t121 == t131 && (t122 == t132 && (t123 == t133))))))) = true := by simpa using c19))
            (try (have c19b2 : (t117 == t127 && (t118 == t128 && (t119 == t129 && (t120 == t130 && (t121 == t131 && (t122 == t132 && (t123 == t133))))))) = true := by simpa using c19))
            clear c19
            replace H := Option.bind_eq_some_iff.mp H
            obtain ⟨t134, A200, H⟩ := H
            replace H : (some t134) = some r := H
            have A20 := Aside0.mk A200
            clear A200
            obtain rfl := Option.some.inj H
            try go_wp2
            have n0_ := Aside0.mk (blk_drew BK114.out)
            have n1_ := Aside0.mk (below_drew1 HB.out)
            clear BK114
            clear HB
            have BK114 := n0_
            have HB := n1_
            clear n0_ n1_
            refine start_ (n := 12) (S := fun w' => w'.cell? ⟨gb114, 0, none⟩ = some (.int .i32 a0_0) ∧ w'.cell? ⟨gb114, 1, none⟩ = some (.int .i32 a0_1) ∧ w'.cell? ⟨gb114, 2, none⟩ = some (.int .i32 a0_2) ∧ w'.cell? ⟨gb114, 3, none⟩ = some (.int .u8 a0_3) ∧ w'.cell? ⟨gb114, 4, none⟩ = some (.int .u8 a0_4) ∧ w'.cell? ⟨gb114, 5, none⟩ = some (.int .u8 a0_5) ∧ w'.cell? ⟨gb114, 6, none⟩ = some (.bool a0_6)) (ds := []) #[false, false, false, false, false, false, false, false, false, false, false, false] (by kernel_rfl) rfl rfl ⟨(blk_cell BK114.out 0).trans rfl, (blk_cell BK114.out 1).trans rfl, (blk_cell BK114.out 2).trans rfl, (blk_cell BK114.out 3).trans rfl, (blk_cell BK114.out 4).trans rfl, (blk_cell BK114.out 5).trans rfl, (blk_cell BK114.out 6).trans rfl⟩ (fun hHeld => ?_); refine with_tabW laws_FnEntryInherit.tab5 laws_FnEntryInherit.bits5 (fun HT_ HW_ => ?_)
            generalize wc.drew = w21 at BK114 HB hHeld ⊢
            refine pure_ (i := 1) (N := some 17) (v := ?_) (a' := ?_) #[false, true, false, false, false, false, false, false, false, false, false, false] rfl rfl (any_of HT_.out (by kernel_rfl)) (fun _ _ _ h => h) (Or.inl ⟨by rfl, ?_⟩) ?_ ?_
            rotate_left
            · intro w'
              go_simp
              first | with_reducible rfl | struct_eq
            rotate_left
            · simp only [Act.put, List.setIfInBounds_toArray, List.set_cons_zero, List.set_cons_succ, i64_w, i32_w]
              rfl
            refine pure_ (i := 4) (N := some 20) (v := ?_) (a' := ?_) #[false, true, false, false, true, false, false, false, false, false, false, false] rfl rfl (any_of HT_.out (by kernel_rfl)) (fun _ _ _ h => h) (Or.inl ⟨by rfl, ?_⟩) ?_ ?_
            rotate_left
            · intro w'
              go_simp
              first | with_reducible rfl | struct_eq
            rotate_left
            · simp only [Act.put, List.setIfInBounds_toArray, List.set_cons_zero, List.set_cons_succ, i64_w, i32_w]
              rfl
            refine take_ (i := 0) (N := some 16) (v := ?_) (a' := ?_) #[true, true, false, false, true, false, false, false, false, false, false, false] rfl rfl (take_ofW HT_.out HW_.out (by kernel_rfl)) (fun _ _ _ h => h) (Or.inl ⟨by rfl, ?_⟩) hHeld ?_ ?_
            rotate_left
            · rintro w' ⟨s0, s1, s2, s3, s4, s5, s6⟩
              go_simp
              first | with_reducible rfl | struct_eq
            rotate_left
            · simp only [Act.put, List.setIfInBounds_toArray, List.set_cons_zero, List.set_cons_succ, i64_w, i32_w]
              rfl
            refine take_ (i := 3) (N := some 19) (v := ?_) (a' := ?_) #[true, true, false, true, true, false, false, false, false, false, false, false] rfl rfl (take_ofW HT_.out HW_.out (by kernel_rfl)) (fun _ _ _ h => h) (Or.inl ⟨by rfl, ?_⟩) hHeld ?_ ?_
            rotate_left
            · rintro w' ⟨s0, s1, s2, s3, s4, s5, s6⟩
              go_simp
              first | with_reducible rfl | struct_eq
            rotate_left
            · simp only [Act.put, List.setIfInBounds_toArray, List.set_cons_zero, List.set_cons_succ, i64_w, i32_w]
              rfl
            refine one_ (i := 2) (N := some 18) #[true, true, true, true, true, false, false, false, false, false, false, false] rfl rfl (one_of HT_.out (by kernel_rfl)) (by decide) (fun K hK => ?_)
            refine goes_ Tryd.func18 (by kernel_rfl) rfl #[.agg #[.int .i32 a0_0, .int .i32 a0_1, .int .i32 a0_2, .int .u8 a0_3, .int .u8 a0_4, .int .u8 a0_5, .bool a0_6], .slice A1 l1.length c1] (by rfl) rfl rfl (by (try simp only [List.map_toArray, List.map_cons, List.map_nil]); first | done | rfl | (simp only [List.length_drop, List.length_take]; rfl)) ?_
            with_reducible refine (impl_EntryInherit.calls a0_0 a0_1 a0_2 a0_3 a0_4 a0_5 a0_6 _ _ l1 t117 t118 t119 t120 t121 t122 t123 _ ?side1 ?side2 A16.out).mono ?_
            (case side1 => repeat (first | exact (Kd.C_below HR1.out HB.out) | (with_reducible refine Kd.C_alloc ?_ _) | (with_reducible refine Kd.C_drewN ?_ _) | (with_reducible refine Kd.C_drew ?_)))
            (case side2 => exact HC1.out)
            rintro e w22 ⟨rfl, hb⟩
            refine ⟨_, rfl, ?_⟩
            have n0_ := Aside0.mk (blk_below (g := gb114) (o := .cells #[.int .i32 a0_0, .int .i32 a0_1, .int .i32 a0_2, .int .u8 a0_3, .int .u8 a0_4, .int .u8 a0_5, .bool a0_6] 23 (0, 0)) (by (with_reducible repeat (first | refine blk_drewN ?_ _ | refine blk_drew ?_ | refine blk_alloc ?_ _)); exact BK114.out) hb)
            have n1_ := Aside0.mk (below_step (by repeat (first | (with_reducible first | exact HB.out | apply below_alloc | apply pw_below_drewN | apply below_drew1 | refine below_set ?_ GE114.out) | exact HB.out)) hb)
            clear BK114
            clear HB
            have BK114 := n0_
            have HB := n1_
            clear n0_ n1_
            (try clear hb)
            (try clear hb2)
            (try clear hk)
            (try clear hi)
            refine hK.out _ _ ⟨(blk_cell BK114.out 0).trans rfl, (blk_cell BK114.out 1).trans rfl, (blk_cell BK114.out 2).trans rfl, (blk_cell BK114.out 3).trans rfl, (blk_cell BK114.out 4).trans rfl, (blk_cell BK114.out 5).trans rfl, (blk_cell BK114.out 6).trans rfl⟩ (fun hHeld => ?_)
            clear hK K
            refine norm_ (a' := ?_) ?_ ?_
            rotate_left
            · show Act.put _ (some 18) _ = _
              simp only [Act.put, List.setIfInBounds_toArray, List.set_cons_zero, List.set_cons_succ, i64_w, i32_w]
              rfl
            refine one_ (i := 5) (N := some 21) #[true, true, true, true, true, true, false, false, false, false, false, false] rfl rfl (one_of HT_.out (by kernel_rfl)) (by decide) (fun K hK => ?_)
            refine goes_ Tryd.func20 (by kernel_rfl) rfl #[.slice A1 l1.length c1] (by rfl) rfl rfl (by (try simp only [List.map_toArray, List.map_cons, List.map_nil]); first | done | rfl | (simp only [List.length_drop, List.length_take]; rfl)) ?_
            with_reducible refine (laws_entries.calls _ _ l1 t124 _ ?side1 ?side2 A17.out).mono ?_
            (case side1 => repeat (first | exact (Kd.C_below HR1.out HB.out) | (with_reducible refine Kd.C_alloc ?_ _) | (with_reducible refine Kd.C_drewN ?_ _) | (with_reducible refine Kd.C_drew ?_)))
            (case side2 => exact HC1.out)
            rintro e w23 ⟨v125, rfl, ho0, hb⟩
            refine ⟨_, rfl, ?_⟩
            have n0_ := Aside0.mk (Kd.R_lower ho0 (below_size (by repeat (first | (with_reducible first | exact HB.out | apply below_alloc | apply pw_below_drewN | apply below_drew1 | refine below_set ?_ GE114.out) | exact HB.out))))
            have n1_ := Aside0.mk (blk_below (g := gb114) (o := .cells #[.int .i32 a0_0, .int .i32 a0_1, .int .i32 a0_2, .int .u8 a0_3, .int .u8 a0_4, .int .u8 a0_5, .bool a0_6] 23 (0, 0)) (by (with_reducible repeat (first | refine blk_drewN ?_ _ | refine blk_drew ?_ | refine blk_alloc ?_ _)); exact BK114.out) hb)
            have n2_ := Aside0.mk (below_step (by repeat (first | (with_reducible first | exact HB.out | apply below_alloc | apply pw_below_drewN | apply below_drew1 | refine below_set ?_ GE114.out) | exact HB.out)) hb)
            clear BK114
            clear HB
            have HO126 := n0_
            have BK114 := n1_
            have HB := n2_
            clear n0_ n1_ n2_
            (try clear hb)
            (try clear hb2)
            (try clear hk)
            (try clear hi)
            (try clear ho0)
            obtain ⟨Ao24, co24, eo24⟩ := Kd.R_slice HO126.out
            (first | subst eo24 | (injection eo24 with f1_ f2_ f3_; have f4_ := f1_.symm; have f5_ := f3_.symm; clear f1_ f2_ f3_; subst f4_; subst f5_))
            refine hK.out _ _ ⟨(blk_cell BK114.out 0).trans rfl, (blk_cell BK114.out 1).trans rfl, (blk_cell BK114.out 2).trans rfl, (blk_cell BK114.out 3).trans rfl, (blk_cell BK114.out 4).trans rfl, (blk_cell BK114.out 5).trans rfl, (blk_cell BK114.out 6).trans rfl⟩ (fun hHeld => ?_)
            clear hK K
            refine norm_ (a' := ?_) ?_ ?_
            rotate_left
            · show Act.put _ (some 21) _ = _
              simp only [Act.put, List.setIfInBounds_toArray, List.set_cons_zero, List.set_cons_succ, i64_w, i32_w]
              rfl
            refine one_ (i := 6) (N := some 22) #[true, true, true, true, true, true, true, false, false, false, false, false] rfl rfl (one_of HT_.out (by kernel_rfl)) (by decide) (fun K hK => ?_)
            refine goes_ Tryd.func19 (by kernel_rfl) rfl #[.agg #[.int .i32 a0_0, .int .i32 a0_1, .int .i32 a0_2, .int .u8 a0_3, .int .u8 a0_4, .int .u8 a0_5, .bool a0_6], .slice Ao24 t124.length co24] (by rfl) rfl rfl (by (try simp only [List.map_toArray, List.map_cons, List.map_nil]); first | done | rfl | (simp only [List.length_drop, List.length_take]; rfl)) ?_
            with_reducible refine (spec_EntryInherit.calls kj4 a0_0 a0_1 a0_2 a0_3 a0_4 a0_5 a0_6 _ _ t124 t127 t128 t129 t130 t131 t132 t133 _ ?side1 ?side2 A18.out).mono ?_
            (case side1 => repeat (first | exact (Kd.R_reads' HO126.out).2.2 | (with_reducible refine Kd.C_alloc ?_ _) | (with_reducible refine Kd.C_drewN ?_ _) | (with_reducible refine Kd.C_drew ?_)))
            (case side2 => exact (Kd.R_reads' HO126.out).2.1)
            rintro e w25 ⟨rfl, hb⟩
            refine ⟨_, rfl, ?_⟩
            have n0_ := Aside0.mk (Kd.R_below (by (with_reducible repeat (first | apply Kd.R_alloc | apply Kd.R_drewN | apply Kd.R_drew)); exact HO126.out) hb)
            have n1_ := Aside0.mk (blk_below (g := gb114) (o := .cells #[.int .i32 a0_0, .int .i32 a0_1, .int .i32 a0_2, .int .u8 a0_3, .int .u8 a0_4, .int .u8 a0_5, .bool a0_6] 23 (0, 0)) (by (with_reducible repeat (first | refine blk_drewN ?_ _ | refine blk_drew ?_ | refine blk_alloc ?_ _)); exact BK114.out) hb)
            have n2_ := Aside0.mk (below_step (by repeat (first | (with_reducible first | exact HB.out | apply below_alloc | apply pw_below_drewN | apply below_drew1 | refine below_set ?_ GE114.out) | exact HB.out)) hb)
            clear HO126
            clear BK114
            clear HB
            have HO126 := n0_
            have BK114 := n1_
            have HB := n2_
            clear n0_ n1_ n2_
            (try clear hb)
            (try clear hb2)
            (try clear hk)
            (try clear hi)
            refine hK.out _ _ ⟨(blk_cell BK114.out 0).trans rfl, (blk_cell BK114.out 1).trans rfl, (blk_cell BK114.out 2).trans rfl, (blk_cell BK114.out 3).trans rfl, (blk_cell BK114.out 4).trans rfl, (blk_cell BK114.out 5).trans rfl, (blk_cell BK114.out 6).trans rfl⟩ (fun hHeld => ?_)
            clear hK K
            refine norm_ (a' := ?_) ?_ ?_
            rotate_left
            · show Act.put _ (some 22) _ = _
              simp only [Act.put, List.setIfInBounds_toArray, List.set_cons_zero, List.set_cons_succ, i64_w, i32_w]
              rfl
            refine pure_ (i := 7) (N := some 23) (v := ?_) (a' := ?_) #[true, true, true, true, true, true, true, true, false, false, false, false] rfl rfl (any_of HT_.out (by kernel_rfl)) (fun _ _ _ h => h) (Or.inl ⟨by rfl, ?_⟩) ?_ ?_
            rotate_left
            · intro w'
              go_simp
              first | with_reducible rfl | struct_eq
            rotate_left
            · simp only [Act.put, List.setIfInBounds_toArray, List.set_cons_zero, List.set_cons_succ, i64_w, i32_w]
              rfl
            refine pure_ (i := 8) (N := some 24) (v := ?_) (a' := ?_) #[true, true, true, true, true, true, true, true, true, false, false, false] rfl rfl (any_of HT_.out (by kernel_rfl)) (fun _ _ _ h => h) (Or.inl ⟨by rfl, ?_⟩) ?_ ?_
            rotate_left
            · intro w'
              go_simp
              first | with_reducible rfl | struct_eq
            rotate_left
            · simp only [Act.put, List.setIfInBounds_toArray, List.set_cons_zero, List.set_cons_succ, i64_w, i32_w]
              rfl
            refine one_ (i := 9) (N := some 25) #[true, true, true, true, true, true, true, true, true, true, false, false] rfl rfl (one_of HT_.out (by kernel_rfl)) (by decide) (fun K hK => ?_)
            refine goes_ Tryd.func13 (by kernel_rfl) rfl #[] (by rfl) rfl rfl (by (try simp only [List.map_toArray, List.map_cons, List.map_nil]); first | done | rfl | (simp only [List.length_drop, List.length_take]; rfl)) ?_
            with_reducible refine (laws_styled.calls  t134 _ ?side1 A20.out).mono ?_
            (case side1 => exact Go.Proofs.YtifhhejohdmiaaaDoorFmt.VarsOK.below HV.out (by repeat (first | (with_reducible first | exact HB.out | apply below_alloc | apply pw_below_drewN | apply below_drew1 | refine below_set ?_ GE114.out) | exact HB.out)))
            rintro e w26 ⟨rfl, hb⟩
            refine ⟨_, rfl, ?_⟩
            have n0_ := Aside0.mk (Kd.R_below (by (with_reducible repeat (first | apply Kd.R_alloc | apply Kd.R_drewN | apply Kd.R_drew)); exact HO126.out) hb)
            have n1_ := Aside0.mk (blk_below (g := gb114) (o := .cells #[.int .i32 a0_0, .int .i32 a0_1, .int .i32 a0_2, .int .u8 a0_3, .int .u8 a0_4, .int .u8 a0_5, .bool a0_6] 23 (0, 0)) (by (with_reducible repeat (first | refine blk_drewN ?_ _ | refine blk_drew ?_ | refine blk_alloc ?_ _)); exact BK114.out) hb)
            have n2_ := Aside0.mk (below_step (by repeat (first | (with_reducible first | exact HB.out | apply below_alloc | apply pw_below_drewN | apply below_drew1 | refine below_set ?_ GE114.out) | exact HB.out)) hb)
            clear HO126
            clear BK114
            clear HB
            have HO126 := n0_
            have BK114 := n1_
            have HB := n2_
            clear n0_ n1_ n2_
            (try clear hb)
            (try clear hb2)
            (try clear hk)
            (try clear hi)
            refine hK.out _ _ ⟨(blk_cell BK114.out 0).trans rfl, (blk_cell BK114.out 1).trans rfl, (blk_cell BK114.out 2).trans rfl, (blk_cell BK114.out 3).trans rfl, (blk_cell BK114.out 4).trans rfl, (blk_cell BK114.out 5).trans rfl, (blk_cell BK114.out 6).trans rfl⟩ (fun hHeld => ?_)
            clear hK K
            refine norm_ (a' := ?_) ?_ ?_
            rotate_left
            · show Act.put _ (some 25) _ = _
              simp only [Act.put, List.setIfInBounds_toArray, List.set_cons_zero, List.set_cons_succ, i64_w, i32_w]
              rfl
            refine pure_ (i := 10) (N := some 26) (v := ?_) (a' := ?_) #[true, true, true, true, true, true, true, true, true, true, true, false] rfl rfl (any_of HT_.out (by kernel_rfl)) (fun _ _ _ h => h) (Or.inl ⟨by rfl, ?_⟩) ?_ ?_
            rotate_left
            · intro w'
              go_simp
              first | with_reducible rfl | struct_eq
            rotate_left
            · simp only [Act.put, List.setIfInBounds_toArray, List.set_cons_zero, List.set_cons_succ, i64_w, i32_w]
              rfl
            refine pure_ (i := 11) (N := some 4) (v := ?_) (a' := ?_) #[true, true, true, true, true, true, true, true, true, true, true, true] rfl rfl (any_of HT_.out (by kernel_rfl)) (fun _ _ _ h => h) (Or.inl ⟨by rfl, ?_⟩) ?_ ?_
            rotate_left
            · intro w'
              go_simp
              first | with_reducible rfl | struct_eq
            rotate_left
            · simp only [Act.put, List.setIfInBounds_toArray, List.set_cons_zero, List.set_cons_succ, i64_w, i32_w]
              rfl
            refine done_ (done_of HT_.out (by kernel_rfl)) ?_
            try go_wp2
            go_ret
            exact ⟨by first | rfl | (simp [errW_none, errW_some] <;> rfl) | (simp [*, errW_none, errW_some] <;> rfl), by repeat (first | (with_reducible first | exact HB.out | apply below_alloc | apply pw_below_drewN | apply below_drew1 | refine below_set ?_ GE114.out) | exact HB.out)⟩
          · rw [if_neg c19] at H
            have c19b0 : (t117 == t127 && (t118 == t128 && (t119 == t129 && (t120 == t130 && (t121 == t131 && (t122 == t132 && (t123 == t133))))))) = false := by simpa using c19
            (try (have c19b1 : decide (t117 = t127 && (t118 == t128 && (t119 == t129 && (t120 == t130 && (t121 == t131 && (t122 == t132 && (t123 == t133))))))) = false := by simpa using c19))
            (try (have c19b2 : (t117 == t127 && (t118 == t128 && (t119 == t129 && (t120 == t130 && (t121 == t131 && (t122 == t132 && (t123 == t133))))))) = false := by simpa using c19))
            (try (have c19b3 : ¬ (t117 = t127 && (t118 == t128 && (t119 == t129 && (t120 == t130 && (t121 == t131 && (t122 == t132 && (t123 == t133))))))) := by simpa using c19))
            clear c19
            obtain rfl := Option.some.inj H
            try go_wp2
            have n0_ := Aside0.mk (blk_drew BK114.out)
            have n1_ := Aside0.mk (below_drew1 HB.out)
            clear BK114
            clear HB
            have BK114 := n0_
            have HB := n1_
            clear n0_ n1_
            refine start_ (n := 12) (S := fun w' => w'.cell? ⟨gb114, 0, none⟩ = some (.int .i32 a0_0) ∧ w'.cell? ⟨gb114, 1, none⟩ = some (.int .i32 a0_1) ∧ w'.cell? ⟨gb114, 2, none⟩ = some (.int .i32 a0_2) ∧ w'.cell? ⟨gb114, 3, none⟩ = some (.int .u8 a0_3) ∧ w'.cell? ⟨gb114, 4, none⟩ = some (.int .u8 a0_4) ∧ w'.cell? ⟨gb114, 5, none⟩ = some (.int .u8 a0_5) ∧ w'.cell? ⟨gb114, 6, none⟩ = some (.bool a0_6)) (ds := []) #[false, false, false, false, false, false, false, false, false, false, false, false] (by kernel_rfl) rfl rfl ⟨(blk_cell BK114.out 0).trans rfl, (blk_cell BK114.out 1).trans rfl, (blk_cell BK114.out 2).trans rfl, (blk_cell BK114.out 3).trans rfl, (blk_cell BK114.out 4).trans rfl, (blk_cell BK114.out 5).trans rfl, (blk_cell BK114.out 6).trans rfl⟩ (fun hHeld => ?_); refine with_tabW laws_FnEntryInherit.tab5 laws_FnEntryInherit.bits5 (fun HT_ HW_ => ?_)
            generalize wc.drew = w27 at BK114 HB hHeld ⊢
            refine pure_ (i := 1) (N := some 17) (v := ?_) (a' := ?_) #[false, true, false, false, false, false, false, false, false, false, false, false] rfl rfl (any_of HT_.out (by kernel_rfl)) (fun _ _ _ h => h) (Or.inl ⟨by rfl, ?_⟩) ?_ ?_
            rotate_left
            · intro w'
              go_simp
              first | with_reducible rfl | struct_eq
            rotate_left
            · simp only [Act.put, List.setIfInBounds_toArray, List.set_cons_zero, List.set_cons_succ, i64_w, i32_w]
              rfl
            refine pure_ (i := 4) (N := some 20) (v := ?_) (a' := ?_) #[false, true, false, false, true, false, false, false, false, false, false, false] rfl rfl (any_of HT_.out (by kernel_rfl)) (fun _ _ _ h => h) (Or.inl ⟨by rfl, ?_⟩) ?_ ?_
            rotate_left
            · intro w'
              go_simp
              first | with_reducible rfl | struct_eq
            rotate_left
            · simp only [Act.put, List.setIfInBounds_toArray, List.set_cons_zero, List.set_cons_succ, i64_w, i32_w]
              rfl
            refine take_ (i := 0) (N := some 16) (v := ?_) (a' := ?_) #[true, true, false, false, true, false, false, false, false, false, false, false] rfl rfl (take_ofW HT_.out HW_.out (by kernel_rfl)) (fun _ _ _ h => h) (Or.inl ⟨by rfl, ?_⟩) hHeld ?_ ?_
            rotate_left
            · rintro w' ⟨s0, s1, s2, s3, s4, s5, s6⟩
              go_simp
              first | with_reducible rfl | struct_eq
            rotate_left
            · simp only [Act.put, List.setIfInBounds_toArray, List.set_cons_zero, List.set_cons_succ, i64_w, i32_w]
              rfl
            refine take_ (i := 3) (N := some 19) (v := ?_) (a' := ?_) #[true, true, false, true, true, false, false, false, false, false, false, false] rfl rfl (take_ofW HT_.out HW_.out (by kernel_rfl)) (fun _ _ _ h => h) (Or.inl ⟨by rfl, ?_⟩) hHeld ?_ ?_
            rotate_left
            · rintro w' ⟨s0, s1, s2, s3, s4, s5, s6⟩
              go_simp
              first | with_reducible rfl | struct_eq
            rotate_left
            · simp only [Act.put, List.setIfInBounds_toArray, List.set_cons_zero, List.set_cons_succ, i64_w, i32_w]
              rfl
            refine one_ (i := 2) (N := some 18) #[true, true, true, true, true, false, false, false, false, false, false, false] rfl rfl (one_of HT_.out (by kernel_rfl)) (by decide) (fun K hK => ?_)
            refine goes_ Tryd.func18 (by kernel_rfl) rfl #[.agg #[.int .i32 a0_0, .int .i32 a0_1, .int .i32 a0_2, .int .u8 a0_3, .int .u8 a0_4, .int .u8 a0_5, .bool a0_6], .slice A1 l1.length c1] (by rfl) rfl rfl (by (try simp only [List.map_toArray, List.map_cons, List.map_nil]); first | done | rfl | (simp only [List.length_drop, List.length_take]; rfl)) ?_
            with_reducible refine (impl_EntryInherit.calls a0_0 a0_1 a0_2 a0_3 a0_4 a0_5 a0_6 _ _ l1 t117 t118 t119 t120 t121 t122 t123 _ ?side1 ?side2 A16.out).mono ?_
            (case side1 => repeat (first | exact (Kd.C_below HR1.out HB.out) | (with_reducible refine Kd.C_alloc ?_ _) | (with_reducible refine Kd.C_drewN ?_ _) | (with_reducible refine Kd.C_drew ?_)))
            (case side2 => exact HC1.out)
            rintro e w28 ⟨rfl, hb⟩
            refine ⟨_, rfl, ?_⟩
            have n0_ := Aside0.mk (blk_below (g := gb114) (o := .cells #[.int .i32 a0_0, .int .i32 a0_1, .int .i32 a0_2, .int .u8 a0_3, .int .u8 a0_4, .int .u8 a0_5, .bool a0_6] 23 (0, 0)) (by (with_reducible repeat (first | refine blk_drewN ?_ _ | refine blk_drew ?_ | refine blk_alloc ?_ _)); exact BK114.out) hb)
            have n1_ := Aside0.mk (below_step (by repeat (first | (with_reducible first | exact HB.out | apply below_alloc | apply pw_below_drewN | apply below_drew1 | refine below_set ?_ GE114.out) | exact HB.out)) hb)
            clear BK114
            clear HB
            have BK114 := n0_
            have HB := n1_
            clear n0_ n1_
            (try clear hb)
            (try clear hb2)
            (try clear hk)
            (try clear hi)
            refine hK.out _ _ ⟨(blk_cell BK114.out 0).trans rfl, (blk_cell BK114.out 1).trans rfl, (blk_cell BK114.out 2).trans rfl, (blk_cell BK114.out 3).trans rfl, (blk_cell BK114.out 4).trans rfl, (blk_cell BK114.out 5).trans rfl, (blk_cell BK114.out 6).trans rfl⟩ (fun hHeld => ?_)
            clear hK K
            refine norm_ (a' := ?_) ?_ ?_
            rotate_left
            · show Act.put _ (some 18) _ = _
              simp only [Act.put, List.setIfInBounds_toArray, List.set_cons_zero, List.set_cons_succ, i64_w, i32_w]
              rfl
            refine one_ (i := 5) (N := some 21) #[true, true, true, true, true, true, false, false, false, false, false, false] rfl rfl (one_of HT_.out (by kernel_rfl)) (by decide) (fun K hK => ?_)
            refine goes_ Tryd.func20 (by kernel_rfl) rfl #[.slice A1 l1.length c1] (by rfl) rfl rfl (by (try simp only [List.map_toArray, List.map_cons, List.map_nil]); first | done | rfl | (simp only [List.length_drop, List.length_take]; rfl)) ?_
            with_reducible refine (laws_entries.calls _ _ l1 t124 _ ?side1 ?side2 A17.out).mono ?_
            (case side1 => repeat (first | exact (Kd.C_below HR1.out HB.out) | (with_reducible refine Kd.C_alloc ?_ _) | (with_reducible refine Kd.C_drewN ?_ _) | (with_reducible refine Kd.C_drew ?_)))
            (case side2 => exact HC1.out)
            rintro e w29 ⟨v125, rfl, ho0, hb⟩
            refine ⟨_, rfl, ?_⟩
            have n0_ := Aside0.mk (Kd.R_lower ho0 (below_size (by repeat (first | (with_reducible first | exact HB.out | apply below_alloc | apply pw_below_drewN | apply below_drew1 | refine below_set ?_ GE114.out) | exact HB.out))))
            have n1_ := Aside0.mk (blk_below (g := gb114) (o := .cells #[.int .i32 a0_0, .int .i32 a0_1, .int .i32 a0_2, .int .u8 a0_3, .int .u8 a0_4, .int .u8 a0_5, .bool a0_6] 23 (0, 0)) (by (with_reducible repeat (first | refine blk_drewN ?_ _ | refine blk_drew ?_ | refine blk_alloc ?_ _)); exact BK114.out) hb)
            have n2_ := Aside0.mk (below_step (by repeat (first | (with_reducible first | exact HB.out | apply below_alloc | apply pw_below_drewN | apply below_drew1 | refine below_set ?_ GE114.out) | exact HB.out)) hb)
            clear BK114
            clear HB
            have HO126 := n0_
            have BK114 := n1_
            have HB := n2_
            clear n0_ n1_ n2_
            (try clear hb)
            (try clear hb2)
            (try clear hk)
            (try clear hi)
            (try clear ho0)
            obtain ⟨Ao30, co30, eo30⟩ := Kd.R_slice HO126.out
            (first | subst eo30 | (injection eo30 with f1_ f2_ f3_; have f4_ := f1_.symm; have f5_ := f3_.symm; clear f1_ f2_ f3_; subst f4_; subst f5_))
            refine hK.out _ _ ⟨(blk_cell BK114.out 0).trans rfl, (blk_cell BK114.out 1).trans rfl, (blk_cell BK114.out 2).trans rfl, (blk_cell BK114.out 3).trans rfl, (blk_cell BK114.out 4).trans rfl, (blk_cell BK114.out 5).trans rfl, (blk_cell BK114.out 6).trans rfl⟩ (fun hHeld => ?_)
            clear hK K
            refine norm_ (a' := ?_) ?_ ?_
            rotate_left
            · show Act.put _ (some 21) _ = _
              simp only [Act.put, List.setIfInBounds_toArray, List.set_cons_zero, List.set_cons_succ, i64_w, i32_w]
              rfl
            refine one_ (i := 6) (N := some 22) #[true, true, true, true, true, true, true, false, false, false, false, false] rfl rfl (one_of HT_.out (by kernel_rfl)) (by decide) (fun K hK => ?_)
            refine goes_ Tryd.func19 (by kernel_rfl) rfl #[.agg #[.int .i32 a0_0, .int .i32 a0_1, .int .i32 a0_2, .int .u8 a0_3, .int .u8 a0_4, .int .u8 a0_5, .bool a0_6], .slice Ao30 t124.length co30] (by rfl) rfl rfl (by (try simp only [List.map_toArray, List.map_cons, List.map_nil]); first | done | rfl | (simp only [List.length_drop, List.length_take]; rfl)) ?_
            with_reducible refine (spec_EntryInherit.calls kj4 a0_0 a0_1 a0_2 a0_3 a0_4 a0_5 a0_6 _ _ t124 t127 t128 t129 t130 t131 t132 t133 _ ?side1 ?side2 A18.out).mono ?_
            (case side1 => repeat (first | exact (Kd.R_reads' HO126.out).2.2 | (with_reducible refine Kd.C_alloc ?_ _) | (with_reducible refine Kd.C_drewN ?_ _) | (with_reducible refine Kd.C_drew ?_)))
            (case side2 => exact (Kd.R_reads' HO126.out).2.1)
            rintro e w31 ⟨rfl, hb⟩
            refine ⟨_, rfl, ?_⟩
            have n0_ := Aside0.mk (Kd.R_below (by (with_reducible repeat (first | apply Kd.R_alloc | apply Kd.R_drewN | apply Kd.R_drew)); exact HO126.out) hb)
            have n1_ := Aside0.mk (blk_below (g := gb114) (o := .cells #[.int .i32 a0_0, .int .i32 a0_1, .int .i32 a0_2, .int .u8 a0_3, .int .u8 a0_4, .int .u8 a0_5, .bool a0_6] 23 (0, 0)) (by (with_reducible repeat (first | refine blk_drewN ?_ _ | refine blk_drew ?_ | refine blk_alloc ?_ _)); exact BK114.out) hb)
            have n2_ := Aside0.mk (below_step (by repeat (first | (with_reducible first | exact HB.out | apply below_alloc | apply pw_below_drewN | apply below_drew1 | refine below_set ?_ GE114.out) | exact HB.out)) hb)
            clear HO126
            clear BK114
            clear HB
            have HO126 := n0_
            have BK114 := n1_
            have HB := n2_
            clear n0_ n1_ n2_
            (try clear hb)
            (try clear hb2)
            (try clear hk)
            (try clear hi)
            refine hK.out _ _ ⟨(blk_cell BK114.out 0).trans rfl, (blk_cell BK114.out 1).trans rfl, (blk_cell BK114.out 2).trans rfl, (blk_cell BK114.out 3).trans rfl, (blk_cell BK114.out 4).trans rfl, (blk_cell BK114.out 5).trans rfl, (blk_cell BK114.out 6).trans rfl⟩ (fun hHeld => ?_)
            clear hK K
            refine norm_ (a' := ?_) ?_ ?_
            rotate_left
            · show Act.put _ (some 22) _ = _
              simp only [Act.put, List.setIfInBounds_toArray, List.set_cons_zero, List.set_cons_succ, i64_w, i32_w]
              rfl
            refine pure_ (i := 7) (N := some 23) (v := ?_) (a' := ?_) #[true, true, true, true, true, true, true, true, false, false, false, false] rfl rfl (any_of HT_.out (by kernel_rfl)) (fun _ _ _ h => h) (Or.inl ⟨by rfl, ?_⟩) ?_ ?_
            rotate_left
            · intro w'
              go_simp
              first | with_reducible rfl | struct_eq
            rotate_left
            · simp only [Act.put, List.setIfInBounds_toArray, List.set_cons_zero, List.set_cons_succ, i64_w, i32_w]
              rfl
            refine pure_ (i := 8) (N := some 24) (v := ?_) (a' := ?_) #[true, true, true, true, true, true, true, true, true, false, false, false] rfl rfl (any_of HT_.out (by kernel_rfl)) (fun _ _ _ h => h) (Or.inl ⟨by rfl, ?_⟩) ?_ ?_
            rotate_left
            · intro w'
              go_simp
              first | with_reducible rfl | struct_eq
            rotate_left
            · simp only [Act.put, List.setIfInBounds_toArray, List.set_cons_zero, List.set_cons_succ, i64_w, i32_w]
              rfl
            refine pure_ (i := 9) (N := some 25) (v := undef) (a' := ?_) #[true, true, true, true, true, true, true, true, true, true, false, false] rfl rfl (any_of HT_.out (by kernel_rfl)) (fun _ _ _ h => h) (Or.inr ⟨by rfl, rfl⟩) ?_ ?_
            rotate_left
            · simp only [Act.put, List.setIfInBounds_toArray, List.set_cons_zero, List.set_cons_succ, i64_w, i32_w]
              rfl
            refine pure_ (i := 10) (N := some 26) (v := ?_) (a' := ?_) #[true, true, true, true, true, true, true, true, true, true, true, false] rfl rfl (any_of HT_.out (by kernel_rfl)) (fun _ _ _ h => h) (Or.inl ⟨by rfl, ?_⟩) ?_ ?_
            rotate_left
            · intro w'
              go_simp
              first | with_reducible rfl | struct_eq
            rotate_left
            · simp only [Act.put, List.setIfInBounds_toArray, List.set_cons_zero, List.set_cons_succ, i64_w, i32_w]
              rfl
            refine pure_ (i := 11) (N := some 4) (v := ?_) (a' := ?_) #[true, true, true, true, true, true, true, true, true, true, true, true] rfl rfl (any_of HT_.out (by kernel_rfl)) (fun _ _ _ h => h) (Or.inl ⟨by rfl, ?_⟩) ?_ ?_
            rotate_left
            · intro w'
              go_simp
              first | with_reducible rfl | struct_eq
            rotate_left
            · simp only [Act.put, List.setIfInBounds_toArray, List.set_cons_zero, List.set_cons_succ, i64_w, i32_w]
              rfl
            refine done_ (done_of HT_.out (by kernel_rfl)) ?_
            try go_wp2
            go_ret
            exact ⟨by first | rfl | (simp [errW_none, errW_some] <;> rfl) | (simp [*, errW_none, errW_some] <;> rfl), by repeat (first | (with_reducible first | exact HB.out | apply below_alloc | apply pw_below_drewN | apply below_drew1 | refine below_set ?_ GE114.out) | exact HB.out)⟩
def wf_S23 (x : S23) : Prop := (IntKind.i32.min ≤ x.f0 ∧ x.f0 ≤ IntKind.i32.max) ∧ (IntKind.i32.min ≤ x.f1 ∧ x.f1 ≤ IntKind.i32.max) ∧ (IntKind.i32.min ≤ x.f2 ∧ x.f2 ≤ IntKind.i32.max) ∧ (IntKind.u8.min ≤ x.f3 ∧ x.f3 ≤ IntKind.u8.max) ∧ (IntKind.u8.min ≤ x.f4 ∧ x.f4 ≤ IntKind.u8.max) ∧ (IntKind.u8.min ≤ x.f5 ∧ x.f5 ≤ IntKind.u8.max) ∧ (True)
def laws_FnEntryInherit.Pure : Prop := ∀ (a0_0 : Int) (a0_1 : Int) (a0_2 : Int) (a0_3 : Int) (a0_4 : Int) (a0_5 : Int) (a0_6 : Bool) (l1 : List (S23)), wf_S23 (⟨a0_0, a0_1, a0_2, a0_3, a0_4, a0_5, a0_6⟩ : S23) → (l1.length ≤ 9223372036854775807 ∧ ∀ x ∈ l1, wf_S23 x) → ∃ k, laws_FnEntryInherit.f k a0_0 a0_1 a0_2 a0_3 a0_4 a0_5 a0_6 l1 = some true

end Go.Proofs.YtifhhejohdmiaaaDoor.T
