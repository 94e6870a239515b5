/- chroma.add, walked. -/
import Derived.Test.YtibjlefenodhaaaDoorRegA
set_option linter.unusedVariables false
set_option linter.unusedSimpArgs false
namespace Go.Proofs.YtibjlefenodhaaaDoorReg
open Go.RowKit Go.Proofs.YtibjlefenodhaaaDoorW.PrintWords Go.Proofs.YtibjlefenodhaaaDoor.T Go.Proofs.YtibjlefenodhaaaDoorFmt Go.Proofs.YtibjlefenodhaaaDoorMapI
/-- All blocks below the end but one are as they were. -/
structure Gr (w w' : World) (row : Option Nat) : Prop where
  st : w'.os = w.os ∧ w'.tape = w.tape ∧ w'.output = w.output
  size : w.heap.size ≤ w'.heap.size
  block : ∀ k, k < w.heap.size → some k ≠ row → w'.heap[k]? = w.heap[k]?
theorem Gr.of {w w' : World} {row : Option Nat} (h : w.grownBy w' row) : Gr w w' row := ⟨⟨h.os, h.tape, h.output⟩, h.size, fun k hk hr => h.block k hk hr⟩
theorem Gr.after {w w1 w' : World} {row : Option Nat} (hB : Below w.heap.size w w1) (h : Gr w1 w' row) : Gr w w' row :=
  ⟨⟨h.st.1.trans hB.os, h.st.2.1.trans hB.tape, h.st.2.2.trans hB.output⟩, Nat.le_trans hB.size h.size, fun k hk hr => (h.block k (Nat.lt_of_lt_of_le hk hB.size) hr).trans (hB.block k hk)⟩
/-- Block b holds a config with this name. -/
def Cfg (w : World) (b : Nat) (nm : ByteArray) : Prop := ∃ cs : Array Value, w.heap[b]? = some (.cells cs 58 (0, 0)) ∧ cs[0]? = some (.string nm)
theorem Cfg.below {w w' : World} {b : Nat} {nm : ByteArray} (h : Cfg w b nm) (hB : Below w.heap.size w w') : Cfg w' b nm := by
  obtain ⟨cs, h1, h2⟩ := h
  exact ⟨cs, (hB.block _ (blk_lt h1)).trans h1, h2⟩
theorem at_kX {w : World} {A : Option Addr} {n : Nat} {xs : List Nat} (h : Kd.C kX w A n xs) (i : Int) (h0 : 0 ≤ i) (h1 : i < n) : ∃ ad, A = some ad ∧ w.cell? (ad.add i.toNat) = some (lx (xs.getD i.toNat 0)) := by
  obtain ⟨ad, c, e, _, hK, hc0⟩ := Kd.C_get h 0 i h0 h1
  have hK' : c = [lx (xs.getD i.toNat 0)] := hK
  subst hK'
  refine ⟨ad, e, ?_⟩
  have := hc0 0 _ rfl
  exact (show ad.add (i.toNat * 1 + 0) = ad.add i.toNat by rw [Nat.mul_one, Nat.add_zero]) ▸ this
theorem toList_inj {a b : ByteArray} (h : a.toList = b.toList) : a = b := by
  rw [Go.ByteArray.toList_eq, Go.ByteArray.toList_eq] at h
  cases a; cases b
  congr
  exact Array.toList_inj.1 h
theorem Cfg.cell {w : World} {b : Nat} {nm : ByteArray} (h : Cfg w b nm) : w.cell? ⟨b, 0, none⟩ = some (.string nm) := by
  obtain ⟨cs, h1, h2⟩ := h
  exact (blk_cell h1 0).trans h2
theorem Cfg.lt {w : World} {b : Nat} {nm : ByteArray} (h : Cfg w b nm) : b < w.heap.size := by
  obtain ⟨cs, h1, h2⟩ := h
  exact blk_lt h1
set_option maxRecDepth 100000 in
set_option maxHeartbeats 8000000 in
theorem add_c (base : Nat) (v : Value) (bs : List Nat) (nm : Nat → ByteArray) (b : Nat) (w : World) (hO : Kd.R kX 46 w base (fun _ => True) v bs) (hb : base ≤ w.heap.size) (hl : bs.length ≤ 100000) (hc : ∀ x ∈ bs, Cfg w x (nm x) ∧ nm x ≠ nm b) (hcb : Cfg w b (nm b)) :
    Calls Tryd.prog 34 #[v, lx b] w fun e w' => ∃ v1, e = .returned v1 ∧ Kd.R kX 46 w' base (fun _ => True) v1 (bs ++ [b]) ∧ Gr w w' v.ownBlock ∧ (v1.ownBlock = v.ownBlock ∨ ∃ k, v1.ownBlock = some k ∧ w.heap.size ≤ k) := by
  obtain ⟨A, c, rfl, hcl, hC⟩ := Kd.R_reads hO
  have hm := meth_conf
  have hu := Tryd.underlying58
  have HC := Aside0.mk (And.intro hC hcl)
  have HO := Aside0.mk hO
  have HF := Aside0.mk (And.intro hc hcb)
  have HB0 := Aside0.mk (And.intro hb hl)
  clear hC hcl hO hc hcb hb hl
  go_enter Tryd.func34, Tryd.ntmps34
  go_wp2
  go_loopg [9] (bs.length + 1) (fun kq v9 wr => ∃ (x9 : Int), v9 = .int .i64 x9 ∧ Aside0 (0 ≤ x9 ∧ x9 ≤ bs.length ∧ bs.length - x9.toNat < kq) ∧ Aside0 (Below w.heap.size w wr))
  case atStart => exact ⟨0, rfl, ⟨by omega, by omega, by simp⟩, ⟨Below.refl _ _⟩⟩
  case round =>
    obtain ⟨x9, rfl, HK, HB⟩ := hrel
    cases gk with
    | zero => have := HK.out; omega
    | succ k1 =>
      by_cases hlt : x9 < (bs.length : Int)
      · have hx0 : 0 ≤ x9 := HK.out.1
        have c2b0 : decide (x9 < (bs.length : Int)) = true := decide_eq_true hlt
        have c3b0 : decide (0 ≤ x9) = true := decide_eq_true hx0
        obtain ⟨ad, e, hy0⟩ := at_kX (Kd.C_below HC.out.1 HB.out) x9 hx0 hlt
        cases e
        have hla := World.block_lt_of_cell? wr _ hy0
        have hwr : wrap64 (x9 + 1) = x9 + 1 := by have := HB0.out.2; unfold wrap64; omega
        have p1 := eq_true hx0
        have q1 := eq_true hlt
        generalize hrow : bs.getD x9.toNat 0 = row at *
        clear hx0 hlt
        have hmem : row ∈ bs := by
          have h2 : x9.toNat < bs.length := by have := of_eq_true q1; have := HK.out; omega
          have h3 := hrow
          rw [List.getD_eq_getElem?_getD, List.getElem?_eq_getElem h2] at h3
          rw [← h3]; exact List.getElem_mem h2
        have HFr := Aside0.mk (HF.out.1 row hmem)
        have hne : ((nm row).toList == (nm b).toList) = false := beq_eq_false_iff_ne.2 (fun e => HFr.out.2 (toList_inj e))
        clear hmem
        have HN : Aside0 (∀ W, Below wr.heap.size wr W → Cfg W row (nm row) ∧ Cfg W b (nm b)) := ⟨fun W hW => ⟨(HFr.out.1.below HB.out).below hW, (HF.out.2.below HB.out).below hW⟩⟩
        go_wp2
        go_region_with (with_reducible first | (go_at_call 109; refine (conf_c row _).mono ?_; rintro e w1 ⟨rfl, hB0⟩; have hB := below_step (Below.refl wr.heap.size wr).drew hB0; clear hB0; have X1 := Aside0.mk hB; have w1r := (HN.out w1 hB).1.cell; have w1b := (HN.out w1 hB).2.cell; have l1r := (HN.out w1 hB).1.lt; have l1b := (HN.out w1 hB).2.lt; clear hB) | (go_at_call 109; refine (conf_c b w1).mono ?_; rintro e w2 ⟨rfl, hB⟩; have X2 := Aside0.mk (below_step X1.out hB); have w2r := (HN.out w2 X2.out).1.cell; have w2b := (HN.out w2 X2.out).2.cell; have l2r := (HN.out w2 X2.out).1.lt; have l2b := (HN.out w2 X2.out).2.lt; clear hB))
        all_goals
          go_wp2
          go_roundg k1
          case measure => omega
          case rel =>
            have hk := HK.out
            have e1 : (wrap64 (x9 + 1)).toNat = x9.toNat + 1 := by rw [hwr]; omega
            exact ⟨wrap64 (x9 + 1), rfl, ⟨by rw [hwr]; have := of_eq_true q1; omega⟩, ⟨below_step HB.out X2.out⟩⟩
      · have c2b0 : decide (x9 < (bs.length : Int)) = false := decide_eq_false hlt
        have HOr : Aside0 (Kd.R kX 46 wr base (fun _ => True) (.slice A bs.length c) bs) := ⟨Kd.R_below HO.out HB.out⟩
        have HBs : Aside0 (base ≤ wr.heap.size ∧ (bs.length + 1) * 16 ≤ 140737488355328) := ⟨Nat.le_trans HB0.out.1 HB.out.size, by have := HB0.out.2; omega⟩
        clear hlt
        go_wp2_with ((with_reducible refine gate_builtin (b := .append) (xs := #[.tmp 33, .tmp 35]) rfl ?_); at_builtin; refine Kd.R_append kX (w0 := wr) base rfl (.tmp 33) (.tmp 35) 67 46 .nilIface 16 rfl Tryd.underlying67 infoX rfl (by decide) (by omega) (.slice A bs.length c) bs b [lx b] (fun _ => True) (fun _ => False) rfl (by first | (go_simp; done) | (go_simp; rfl)) ?aP (fun _ hk => hk.elim) ?aF ?aO ?aB ?aS ?aL ?_; (case aP => exact rfl); (case aB => exact Below.refl _ _); (case aF => exact (fun _ _ => trivial)); (case aO => exact HOr.out); (case aS => exact HBs.out.1); (case aL => exact HBs.out.2); intro v1 w8 ho hb8 hg hat; have HO8 := Aside0.mk ho; have HG8 := Aside0.mk (Gr.after HB.out (Gr.of hg)); have HA8 := Aside0.mk hat; have HS8 := Aside0.mk HB.out.size; clear ho hb8 hg hat)
        go_ret
        refine ⟨v1, rfl, HO8.out, HG8.out, ?_⟩
        rcases HA8.out with h | ⟨k, h1, h2⟩
        · exact .inl h
        · exact .inr ⟨k, h1, Nat.le_trans HS8.out h2⟩
end Go.Proofs.YtibjlefenodhaaaDoorReg
