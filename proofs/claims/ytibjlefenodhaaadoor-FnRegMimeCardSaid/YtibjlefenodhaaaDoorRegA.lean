/- Lexers by their configs: slices.Index over them, impl.which, chroma.NewLexerRegistry, walked. -/
import Derived.Test.YtibjlefenodhaaaDoorTx0
import Derived.Test.YtibjlefenodhaaaDoorFmt
import Derived.Test.YtibjlefenodhaaaDoorMapS
import Derived.LaidEqlPtr
set_option linter.unusedVariables false
set_option linter.unusedSimpArgs false
namespace Go.Proofs.YtibjlefenodhaaaDoorReg
open Go.RowKit Go.Proofs.YtibjlefenodhaaaDoorW.PrintWords Go.Proofs.YtibjlefenodhaaaDoor.T Go.Proofs.YtibjlefenodhaaaDoorFmt Go.Proofs.YtibjlefenodhaaaDoorMapI
abbrev I := S28
/-- The lexer with the config in block b. -/
abbrev gv (b : Nat) : Value := .agg #[.pointer (some ⟨b, 0, none⟩), .func (.func 29) #[] #[]]
abbrev lx (b : Nat) : Value := .iface 63 (gv b)
abbrev pX (b : Nat) : Value := .pointer (some ⟨b, 0, none⟩)
abbrev kX : Kd Nat := Kd.scalar lx (fun _ => rfl)
abbrev kP : Kd Nat := Kd.scalar pX (fun _ => rfl)
theorem infoX : (Tryd.prog.info? 46).map (fun i => (i.zero, i.size, i.bytes)) = some (some .nilIface, 1, 16) := by kernel_rfl
theorem infoP : (Tryd.prog.info? 52).map (fun i => (i.zero, i.size, i.bytes)) = some (some (.pointer none), 1, 8) := by kernel_rfl
/-- Where b first stands, from place i on. -/
def ixL : List Nat → Nat → Nat → Int
  | [], _, _ => -1
  | x :: r, b, i => if x = b then (i : Int) else ixL r b (i + 1)
theorem at_kP {w : World} {A : Option Addr} {n : Nat} {xs : List Nat} (h : Kd.C kP w A n xs) (i : Int) (h0 : 0 ≤ i) (h1 : i < n) : ∃ ad, A = some ad ∧ w.cell? (ad.add i.toNat) = some (pX (xs.getD i.toNat 0)) := by
  obtain ⟨ad, c, e, _, hK, hc0⟩ := Kd.C_get h 0 i h0 h1
  have hK' : c = [pX (xs.getD i.toNat 0)] := hK
  subst hK'
  refine ⟨ad, e, ?_⟩
  have := hc0 0 _ rfl
  exact (show ad.add (i.toNat * 1 + 0) = ad.add i.toNat by rw [Nat.mul_one, Nat.add_zero]) ▸ this
theorem infoC : ∃ j, Tryd.prog.info? 58 = some j ∧ j.size ≠ 0 := by
  have h : (Tryd.prog.info? 58).map (fun i => i.size) = some 11 := by kernel_rfl
  obtain ⟨j, h1, h2⟩ := Option.map_eq_some_iff.1 h
  exact ⟨j, h1, by rw [h2]; decide⟩
theorem ptr_eq (b : Nat) (w : World) : (Go.binOp .eql 52 (pX b) (pX b)).run Tryd.prog w = .ok (.bool true) w := by
  obtain ⟨j, h1, _⟩ := infoC
  exact Go.run_eql_ptr_same w _ Tryd.underlying52 h1
theorem ptr_ne {b c : Nat} {w : World} {cb cc : Array Value} {tb tc : TypeId} (hb : w.heap[b]? = some (.cells cb tb (0, 0))) (hc : w.heap[c]? = some (.cells cc tc (0, 0))) (h : b ≠ c) : (Go.binOp .eql 52 (pX b) (pX c)).run Tryd.prog w = .ok (.bool false) w := by
  obtain ⟨j, h1, h2⟩ := infoC
  exact Go.run_eql_ptr_other w Tryd.underlying52 h1 h2 (fun e => h (by injection e)) hb hc
theorem drop_ix {xs : List Nat} {i : Int} (h0 : 0 ≤ i) (h1 : i < xs.length) : xs.drop i.toNat = xs.getD i.toNat 0 :: xs.drop (i.toNat + 1) := by
  have h : i.toNat < xs.length := by omega
  rw [List.drop_eq_getElem_cons h, List.getD_eq_getElem?_getD, List.getElem?_eq_getElem h]; rfl
set_option maxRecDepth 100000 in
set_option maxHeartbeats 8000000 in
theorem index_c (A : Option Addr) (c : Nat) (bs : List Nat) (b : Nat) (w : World) (hC : Kd.C kP w A bs.length bs) (hc : bs.length ≤ c) (hL : ∀ x, x ∈ bs ∨ x = b → ∃ cs t, w.heap[x]? = some (.cells cs t (0, 0))) :
    Calls Tryd.prog 30 #[.slice A bs.length c, pX b] w fun e w' => e = .returned (.int .i64 (ixL bs b 0)) ∧ Below w.heap.size w w' := by
  have hmax : bs.length ≤ 9223372036854775807 := hC.2.1
  have HC := Aside0.mk hC
  have HL := Aside0.mk hL
  clear hC hL
  go_enter Tryd.func30, Tryd.ntmps30
  go_wp2
  go_loopg [8] (bs.length + 1) (fun kq v8 wr => ∃ (x8 : Int), v8 = .int .i64 x8 ∧ Aside0 (0 ≤ x8 ∧ x8 ≤ bs.length ∧ bs.length - x8.toNat < kq) ∧ Aside0 (Below w.heap.size w wr) ∧ Aside0 (ixL (bs.drop x8.toNat) b x8.toNat = ixL bs b 0))
  case atStart => exact ⟨0, rfl, ⟨by omega, by omega, by simp⟩, ⟨Below.refl _ _⟩, ⟨rfl⟩⟩
  case round =>
    obtain ⟨x8, rfl, HK, HB, HE⟩ := hrel
    cases gk with
    | zero => have := HK.out; omega
    | succ k1 =>
      by_cases hlt : x8 < (bs.length : Int)
      · have hx0 : 0 ≤ x8 := HK.out.1
        have c2b0 : decide (x8 < (bs.length : Int)) = true := decide_eq_true hlt
        have c3b0 : decide (0 ≤ x8) = true := decide_eq_true hx0
        obtain ⟨ad, e, hy0⟩ := at_kP (Kd.C_below HC.out HB.out) x8 hx0 hlt
        cases e
        have HD := Aside0.mk (drop_ix hx0 hlt)
        have hla := World.block_lt_of_cell? wr _ hy0
        have hwr : wrap64 (x8 + 1) = x8 + 1 := by unfold wrap64; omega
        have p1 := eq_true hx0
        have q1 := eq_true hlt
        generalize hrow : bs.getD x8.toNat 0 = row at *
        clear hx0 hlt
        have hmem : row ∈ bs := by
          have h2 : x8.toNat < bs.length := by have := of_eq_true q1; have := HK.out; omega
          have h3 := hrow
          rw [List.getD_eq_getElem?_getD, List.getElem?_eq_getElem h2] at h3
          rw [← h3]; exact List.getElem_mem h2
        by_cases hq : row = b
        · have hpe : (Go.binOp .eql 52 (pX b) (pX row)).run Tryd.prog wr = .ok (.bool true) wr := by rw [hq]; exact ptr_eq b wr
          have HQ := Aside0.mk hq
          clear hq hmem
          go_wp2
          go_ret
          have e1 : ixL bs b 0 = x8 := by
            rw [← HE.out, HD.out, ixL, if_pos HQ.out]
            have := HK.out; omega
          exact ⟨by rw [e1]; rfl, HB.out⟩
        · obtain ⟨cb, tb, hb1⟩ := HL.out b (.inr rfl)
          obtain ⟨cr, tr, hr1⟩ := HL.out row (.inl hmem)
          have hpe : (Go.binOp .eql 52 (pX b) (pX row)).run Tryd.prog wr = .ok (.bool false) wr := ptr_ne ((HB.out.block _ (blk_lt hb1)).trans hb1) ((HB.out.block _ (blk_lt hr1)).trans hr1) (fun e => hq e.symm)
          have HQ := Aside0.mk hq
          clear hq hmem hb1 hr1
          go_wp2
          go_roundg k1
          case measure => omega
          case rel =>
            have hk := HK.out
            have e1 : (wrap64 (x8 + 1)).toNat = x8.toNat + 1 := by rw [hwr]; omega
            refine ⟨wrap64 (x8 + 1), rfl, ⟨by rw [hwr]; have := of_eq_true q1; omega⟩, HB, ⟨?_⟩⟩
            rw [e1, ← HE.out, HD.out, ixL, if_neg HQ.out]
      · have hxe : bs.length ≤ x8.toNat := by have := HK.out; omega
        have c2b0 : decide (x8 < (bs.length : Int)) = false := decide_eq_false hlt
        have e1 : Aside0 (ixL bs b 0 = -1) := ⟨by rw [← HE.out, List.drop_eq_nil_of_le hxe]; rfl⟩
        go_wp2
        go_ret
        exact ⟨by rw [e1.out]; rfl, HB.out⟩
theorem conf_c (b : Nat) (w : World) : Calls Tryd.prog 109 #[gv b] w fun e w' => e = .returned (pX b) ∧ Below w.heap.size w w' := by
  go_enter Tryd.func109, Tryd.ntmps109
  go_wp2
  go_ret
  exact ⟨rfl, (Below.refl _ _).alloc (Nat.le_refl _) _⟩
theorem meth_conf (b : Nat) (w : World) : (method 286 63 (gv b) "Config").run Tryd.prog w = .ok (109, gv b) w := by kernel_rfl
set_option maxRecDepth 100000 in
set_option maxHeartbeats 4000000 in
theorem which_c (A : Option Addr) (c : Nat) (bs : List Nat) (b : Nat) (w : World) (hC : Kd.C kP w A bs.length bs) (hc : bs.length ≤ c) (hL : ∀ x, x ∈ bs ∨ x = b → ∃ cs t, w.heap[x]? = some (.cells cs t (0, 0))) :
    Calls Tryd.prog 19 #[.slice A bs.length c, lx b] w fun e w' => e = .returned (.int .i64 (ixL bs b 0)) ∧ Below w.heap.size w w' := by
  have hm := meth_conf b
  have HC := Aside0.mk (And.intro hC (And.intro hc hL))
  clear hC hc hL
  go_enter Tryd.func19, Tryd.ntmps19
  go_wp2_with (first | (go_at_call 109; refine (conf_c _ _).mono ?_; rintro e w1 ⟨rfl, hB1⟩; have HB1 := Aside0.mk hB1; clear hB1) | (go_at_call 30; refine (index_c A c bs b w1 (Kd.C_below HC.out.1 HB1.out) HC.out.2.1 (fun x hx => by obtain ⟨cs, t, h⟩ := HC.out.2.2 x hx; exact ⟨cs, t, (HB1.out.block _ (blk_lt h)).trans h⟩)).mono ?_; rintro e w2 ⟨rfl, hB2⟩; have HB2 := Aside0.mk hB2; clear hB2))
  go_ret
  exact ⟨rfl, below_step HB1.out HB2.out⟩
theorem which_nil (A : Option Addr) (c n : Nat) (w : World) :
    Calls Tryd.prog 19 #[.slice A n c, .nilIface] w fun e w' => e = .returned (.int .i64 (-1)) ∧ Below w.heap.size w w' := by
  have hnn : ∀ (w : World), (Go.binOp .eql 46 .nilIface .nilIface).run Tryd.prog w = .ok (.bool true) w := fun w => run_eql_nil_nil (P := Tryd.prog) w 46 (by kernel_rfl)
  have HB := Aside0.mk (Below.refl w.heap.size w)
  go_enter Tryd.func19, Tryd.ntmps19
  go_wp2
  go_ret
  exact ⟨rfl, HB.out⟩
/-- The registry's block n0 + 2 and its two maps. -/
structure Rg (w : World) (n0 cN cA : Nat) (vL : Value) (fN fA : ByteArray → Option Value) (bs : List Nat) : Prop where
  hr : w.heap[n0 + 2]? = some (.cells #[vL, .map (some n0), .map (some (n0 + 1))] 70 (0, 0))
  hN : MapS Tryd.prog 9 w n0 cN fN
  hA : MapS Tryd.prog 9 w (n0 + 1) cA fA
  hL : Kd.R kX 46 w (n0 + 3) (fun _ => True) vL bs
theorem Rg.below {w w' : World} {n0 cN cA : Nat} {vL : Value} {fN fA : ByteArray → Option Value} {bs : List Nat} (h : Rg w n0 cN cA vL fN fA bs) (hB : Below w.heap.size w w') : Rg w' n0 cN cA vL fN fA bs :=
  ⟨(hB.block _ (blk_lt h.hr)).trans h.hr, h.hN.below hB h.hN.lt, h.hA.below hB h.hA.lt, Kd.R_below h.hL hB⟩
theorem new_c (w : World) : Calls Tryd.prog 25 #[] w fun e w' => e = .returned (.pointer (some ⟨w.heap.size + 2, 0, none⟩)) ∧ Rg w' w.heap.size 0 0 (.slice none 0 0) (fun _ => none) (fun _ => none) [] ∧ Below w.heap.size w w' := by
  have hu := Tryd.underlying70
  go_enter Tryd.func25, Tryd.ntmps25
  have hmk := @run_makeMap Tryd.prog
  go_wp2
  go_ret
  refine ⟨by rfl, ⟨?_, ?_, ?_, Kd.R_nil _ _ _ _ _⟩, (((Below.refl _ _).alloc (Nat.le_refl _) _).alloc (by simp) _).alloc (by simp; omega) _⟩
  · have := blk_new ((w.alloc (.map #[] 0)).alloc (.map #[] 0)) (.cells #[.slice none 0 0, .map (some w.heap.size), .map (some (w.heap.size + 1))] 70)
    rw [World.size_alloc, World.size_alloc] at this
    exact this
  · exact ((MapS.made w).same (blk_alloc (blk_new w (.map #[] 0)) _ |>.trans (blk_new w (.map #[] 0)).symm)).same (Below.heap_alloc _ _ _ (by simp; omega))
  · have := MapS.made (P := Tryd.prog) (kt := 9) (w.alloc (.map #[] 0))
    rw [World.size_alloc] at this
    exact this.same (Below.heap_alloc _ _ _ (by simp))
end Go.Proofs.YtibjlefenodhaaaDoorReg
