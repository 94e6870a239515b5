/- sort.Sort over a few lexers that are one and the same, walked. -/
import Derived.Test.YtibjlefenodhaaaDoorRegN
set_option linter.unusedVariables false
set_option linter.unusedSimpArgs false
namespace Go.Proofs.YtibjlefenodhaaaDoorReg
open Go.RowKit Go.Proofs.YtibjlefenodhaaaDoorW.PrintWords Go.Proofs.YtibjlefenodhaaaDoor.T Go.Proofs.YtibjlefenodhaaaDoorFmt Go.Proofs.YtibjlefenodhaaaDoorMapI
theorem order_self (d : Ieee.Datum) : Ieee.Datum.order d d ≠ some .gt := by
  cases d with
  | nan => simp [Ieee.Datum.order]
  | infinity s => simp [Ieee.Datum.order, compareOfLessAndEq, instOrdNat]
  | number s m i => simp [Ieee.Datum.order, compareOfLessAndEq, instOrdInt]
theorem gtr_self (p : Nat) (w : World) : (Go.binOp .gtr 53 (.float .f32 p) (.float .f32 p)).run Tryd.prog w = .ok (.bool false) w := by
  have h : (FloatKind.format .f32).order p p ≠ some .gt := order_self _
  have h2 : ((FloatKind.format .f32).order p p == some .gt) = false := beq_eq_false_iff_ne.2 h
  simp [Go.binOp, Op.floatCmp, h2]
theorem eql_some (p q : Nat) : ∃ t : Bool, ∀ w : World, (Go.binOp .eql 53 (.float .f32 p) (.float .f32 q)).run Tryd.prog w = .ok (.bool t) w := ⟨_, fun w => by simp [Go.binOp, Op.floatCmp]; rfl⟩
/-- A row of one lexer. -/
structure MA (w : World) (g n b : Nat) : Prop where
  r : ∀ j : Nat, j < n → w.cell? ⟨g, j, none⟩ = some (lx b)
  g : g < w.heap.size
  p : ∃ p, w.cell? ⟨b, 9, none⟩ = some (.float .f32 p)
  b : b < w.heap.size
theorem MA.below {w w' : World} {g n b : Nat} (h : MA w g n b) (hB : Below w.heap.size w w') : MA w' g n b := by
  obtain ⟨p, hp⟩ := h.p
  exact ⟨fun j hj => (World.cell?_of_block (a := ⟨g, j, none⟩) (hB.block _ h.g)).trans (h.r j hj), Nat.lt_of_lt_of_le h.g hB.size, ⟨p, (World.cell?_of_block (a := ⟨b, 9, none⟩) (hB.block _ h.b)).trans hp⟩, Nat.lt_of_lt_of_le h.b hB.size⟩
theorem len_c (A : Option Addr) (n c : Nat) (w : World) : Calls Tryd.prog 116 #[.slice A n c] w fun e w' => e = .returned (.int .i64 n) ∧ Below w.heap.size w w' := by
  go_enter Tryd.func116, Tryd.ntmps116
  go_wp2
  go_ret
  exact ⟨rfl, Below.refl _ _⟩
set_option maxRecDepth 100000 in
set_option maxHeartbeats 4000000 in
theorem less_c (g n c b i j : Nat) (hi : i < n) (hj : j < n) (hn : n ≤ 12) (w : World) (h : MA w g n b) :
    Calls Tryd.prog 117 #[.slice (some ⟨g, 0, none⟩) n c, .int .i64 (i : Int), .int .i64 (j : Int)] w fun e w' => e = .returned (.bool false) ∧ Below w.heap.size w w' := by
  have hm := meth_conf
  have hu := Tryd.underlying58
  obtain ⟨p, hp⟩ := h.p
  have ci := h.r i hi
  have hg := h.g
  have hi0 : (0 : Int) ≤ (i : Int) := by omega
  have hj0 : (0 : Int) ≤ (j : Int) := by omega
  have hi1 : (i : Int) < (n : Int) := by omega
  have hj1 : (j : Int) < (n : Int) := by omega
  have HCf : Aside0 (∀ W, Below w.heap.size w W → W.cell? ⟨b, 9, none⟩ = some (.float .f32 p) ∧ W.cell? ⟨g, j, none⟩ = some (lx b) ∧ b < W.heap.size ∧ g < W.heap.size) := ⟨fun W hB => ⟨(World.cell?_of_block (a := ⟨b, 9, none⟩) (hB.block _ h.b)).trans hp, (h.below hB).r j hj, (h.below hB).b, (h.below hB).g⟩⟩
  obtain ⟨t, ht⟩ := eql_some p 0
  have hgt := gtr_self
  have h0 := Nat.zero_add j
  clear h hp hi hj
  cases t
  · go_enter Tryd.func117, Tryd.ntmps117
    go_wp2_with (first | (go_at_call 109; refine (conf_c b w).mono ?_; rintro e w1 ⟨rfl, hB⟩; obtain ⟨d1, d2, d3, d4⟩ := HCf.out w1 hB; have HB1 := Aside0.mk hB; clear hB) | (go_at_call 109; refine (conf_c b w1).mono ?_; rintro e w2 ⟨rfl, hB⟩; obtain ⟨e1, e2, e3, e4⟩ := HCf.out w2 (below_step HB1.out hB); have HB2 := Aside0.mk (below_step HB1.out hB); clear hB))
    go_ret
    exact ⟨rfl, HB2.out⟩
  · go_enter Tryd.func117, Tryd.ntmps117
    go_wp2_with (first | (go_at_call 109; refine (conf_c b w).mono ?_; rintro e w1 ⟨rfl, hB⟩; obtain ⟨d1, d2, d3, d4⟩ := HCf.out w1 hB; have HB1 := Aside0.mk hB; clear hB) | (go_at_call 109; refine (conf_c b w1).mono ?_; rintro e w2 ⟨rfl, hB⟩; obtain ⟨e1, e2, e3, e4⟩ := HCf.out w2 (below_step HB1.out hB); have HB2 := Aside0.mk (below_step HB1.out hB); clear hB))
    go_ret
    exact ⟨rfl, HB2.out⟩
theorem meth_less (A : Option Addr) (n c : Nat) (w : World) : (method 286 73 (.slice A n c) "Less").run Tryd.prog w = .ok (117, .slice A n c) w := by kernel_rfl
theorem meth_len (A : Option Addr) (n c : Nat) (w : World) : (method 286 73 (.slice A n c) "Len").run Tryd.prog w = .ok (116, .slice A n c) w := by kernel_rfl
set_option maxRecDepth 100000 in
set_option maxHeartbeats 4000000 in
theorem ins_c (g n c b : Nat) (hn : n ≤ 12) (w : World) (h : MA w g n b) :
    Calls Tryd.prog 54 #[.iface 73 (.slice (some ⟨g, 0, none⟩) n c), .int .i64 0, .int .i64 (n : Int)] w fun e w' => e = .returned (.tuple #[]) ∧ Below w.heap.size w w' := by
  have hml := meth_less (some ⟨g, 0, none⟩) n c
  have HM := Aside0.mk h
  clear h
  go_enter Tryd.func54, Tryd.ntmps54
  go_wp2
  go_loopg [6] 13 (fun kq v6 wr => ∃ (k : Nat), v6 = .int .i64 (k : Int) ∧ 1 ≤ k ∧ Aside0 (k ≤ 13 ∧ 13 - k < kq) ∧ Aside0 (Below w.heap.size w wr))
  case atStart => exact ⟨1, rfl, by omega, ⟨by omega, by omega⟩, ⟨Below.refl _ _⟩⟩
  case round =>
    obtain ⟨k, rfl, hk1, HK, HB⟩ := hrel
    cases gk with
    | zero => have := HK.out; omega
    | succ k1 =>
      by_cases hlt : k < n
      · have hk2 : k ≤ 12 := by omega
        have d1 : decide ((k : Int) < (n : Int)) = true := decide_eq_true (by omega)
        have d2 : decide (k < n) = true := decide_eq_true hlt
        have d3 : decide ((0 : Int) < (k : Int)) = true := decide_eq_true (by omega)
        have d4 : decide (0 < k) = true := decide_eq_true (by omega)
        have hw1 : wrap64 ((k : Int) - 1) = ((k - 1 : Nat) : Int) := by unfold wrap64; omega
        have hw2 : wrap64 ((k : Int) + 1) = ((k + 1 : Nat) : Int) := by unfold wrap64; omega
        have hw3 : (k : Int) - 1 = ((k - 1 : Nat) : Int) := by omega
        have HL : Aside0 (k < n ∧ k - 1 < n) := ⟨hlt, by omega⟩
        clear hlt
        go_wp2
        go_loopw [7] (fun v7 wx => v7 = .int .i64 (k : Int) ∧ Aside0 (Below w.heap.size w wx)) (fun _ _ => 0)
        case atStart => exact ⟨rfl, HB⟩
        case round =>
          obtain ⟨rfl, HB2⟩ := hrel
          go_wp2_with (go_at_call 117; refine (less_c g n c b k (k - 1) HL.out.1 HL.out.2 hn wr (HM.out.below HB2.out)).mono ?_; rintro e w1 ⟨rfl, hB⟩; have HB3 := Aside0.mk (below_step HB2.out hB); clear hB)
          go_roundg k1
          case measure => omega
          case rel => exact ⟨k + 1, by first | rfl | (rw [Int.natCast_add]; rfl), by omega, ⟨by omega, by have := HK.out; omega⟩, HB3⟩
      · have d1 : decide ((k : Int) < (n : Int)) = false := decide_eq_false (by omega)
        have d2 : decide (k < n) = false := decide_eq_false hlt
        go_wp2
        go_end0
        exact ⟨rfl, HB.out⟩
set_option maxRecDepth 100000 in
set_option maxHeartbeats 4000000 in
theorem pdq_c (g n c b : Nat) (l : Int) (hn : n ≤ 12) (w : World) (h : MA w g n b) :
    Calls Tryd.prog 43 #[.iface 73 (.slice (some ⟨g, 0, none⟩) n c), .int .i64 0, .int .i64 (n : Int), .int .i64 l] w fun e w' => e = .returned (.tuple #[]) ∧ Below w.heap.size w w' := by
  have d1 : decide ((n : Int) ≤ 12) = true := decide_eq_true (by omega)
  have d2 : decide (n ≤ 12) = true := decide_eq_true hn
  have hw : wrap64 ((n : Int) - 0) = (n : Int) := by unfold wrap64; omega
  have hw2 : wrap64 (n : Int) = (n : Int) := by unfold wrap64; omega
  have HM := Aside0.mk h
  clear h
  go_enter Tryd.func43, Tryd.ntmps43
  go_wp2
  go_loopw [1, 2, 3] (fun v1 v2 v3 wx => v1 = .int .i64 0 ∧ v2 = .int .i64 (n : Int) ∧ v3 = .int .i64 l ∧ Aside0 (wx = w)) (fun _ _ _ _ => 0)
  case atStart => exact ⟨rfl, rfl, rfl, ⟨rfl⟩⟩
  case round =>
    obtain ⟨rfl, rfl, rfl, HW⟩ := hrel
    obtain rfl := HW.out
    go_wp2_with (go_at_call 54; refine (ins_c g n c b hn _ HM.out).mono ?_; rintro e w1 ⟨rfl, hB⟩; have HB := Aside0.mk hB; clear hB)
    ((try simp only [Exit.inBlock, Exit.then]); refine bodyPost_ret (results_none rfl _ _ _) rfl ?_)
    exact ⟨rfl, HB.out⟩
set_option maxRecDepth 100000 in
set_option maxHeartbeats 4000000 in
theorem sort_c (g n c b : Nat) (hn : n ≤ 12) (w : World) (h : MA w g n b) :
    Calls Tryd.prog 33 #[.iface 73 (.slice (some ⟨g, 0, none⟩) n c)] w fun e w' => e = .returned (.tuple #[]) ∧ Below w.heap.size w w' := by
  have hml := meth_len (some ⟨g, 0, none⟩) n c
  have HM := Aside0.mk h
  clear h
  by_cases h1 : n ≤ 1
  · have d1 : decide ((n : Int) ≤ 1) = true := decide_eq_true (by omega)
    have d2 : decide (n ≤ 1) = true := decide_eq_true h1
    go_enter Tryd.func33, Tryd.ntmps33
    go_wp2_with (go_at_call 116; refine (len_c _ n c w).mono ?_; rintro e w1 ⟨rfl, hB⟩; have HB := Aside0.mk hB; clear hB)
    ((try simp only [Exit.inBlock, Exit.then]); refine bodyPost_ret (results_none rfl _ _ _) rfl ?_)
    exact ⟨rfl, HB.out⟩
  · have d1 : decide ((n : Int) ≤ 1) = false := decide_eq_false (by omega)
    have d2 : decide (n ≤ 1) = false := decide_eq_false h1
    have hn0 : (0 : Int) ≤ (n : Int) := by omega
    have hn1 : (n : Int) ≤ 18446744073709551615 := by omega
    have hbl := Tryd.bits_Len (n : Int)
    clear h1
    have HBL : Aside0 (∀ w : World, Calls Tryd.prog 42 #[.int .u64 (n : Int)] w fun e w' => e = .returned (.int .i64 (Lib.bitLen (n : Int).toNat)) ∧ w' = w) := ⟨fun w => hbl w hn0 hn1⟩
    clear hbl
    go_enter Tryd.func33, Tryd.ntmps33
    go_wp2_with (first | (go_at_call 116; refine (len_c _ n c w).mono ?_; rintro e w1 ⟨rfl, hB⟩; have HB := Aside0.mk hB; clear hB) | (go_at_call 42; refine (HBL.out _).mono ?_; rintro e w2 ⟨rfl, rfl⟩) | (go_at_call 43; refine (pdq_c g n c b _ hn _ (HM.out.below HB.out)).mono ?_; rintro e w3 ⟨rfl, hB⟩; have HB3 := Aside0.mk (below_step HB.out hB); clear hB))
    go_end0
    exact ⟨rfl, HB3.out⟩
end Go.Proofs.YtibjlefenodhaaaDoorReg
