/- chroma.LexerRegistry.Register, walked. -/
import Derived.Test.YtibjlefenodhaaaDoorRegC
set_option linter.unusedVariables false
set_option linter.unusedSimpArgs false
namespace Go.Proofs.YtibjlefenodhaaaDoorReg
open Go.RowKit Go.Proofs.YtibjlefenodhaaaDoorW.PrintWords Go.Proofs.YtibjlefenodhaaaDoor.T Go.Proofs.YtibjlefenodhaaaDoorFmt Go.Proofs.YtibjlefenodhaaaDoorMapI
theorem rowS_ch {w w' : World} {n0 : Nat} {vL v : Value} {xs : List ByteArray} {bs : List Nat} (hv : Kd.string.R 9 w (n0 + 3) (fun _ => True) v xs) (hL : Kd.R kX 46 w (n0 + 3) (fun _ => True) vL bs) (hc : Ch (Sr n0 vL) w w') : Kd.string.R 9 w' (n0 + 3) (fun _ => True) v xs := by
  refine Kd.R_mono (Kd.R_step (Kd.R_bound hv) (fun k hk hlt => hc.block k hlt (fun hs => ?_))) (fun _ _ => trivial)
  rcases hs with hs | hs
  · have := hk.2.1; omega
  · obtain ⟨cs, hcs⟩ := Kd.R_typed hL k hs.symm
    obtain ⟨q, hq, cells, hcells⟩ := hk.2.2.2
    rw [hcs] at hcells
    injection hcells with hcells
    injection hcells with _ hcells
    subst hcells
    rcases List.mem_cons.1 hq with e | hq
    · revert e; decide
    · cases hq
theorem blkC_ch {w w' : World} {n0 b : Nat} {vL : Value} {cs : Array Value} {bs : List Nat} (h1 : w.heap[b]? = some (.cells cs 58 (0, 0))) (hb : n0 + 3 ≤ b) (hL : Kd.R kX 46 w (n0 + 3) (fun _ => True) vL bs) (hc : Ch (Sr n0 vL) w w') : w'.heap[b]? = some (.cells cs 58 (0, 0)) := by
  refine (hc.block b (blk_lt h1) (fun hs => ?_)).trans h1
  rcases hs with hs | hs
  · omega
  · obtain ⟨cs', hcs⟩ := Kd.R_typed hL b hs.symm
    rw [hcs] at h1
    injection h1 with h1
    injection h1 with _ h1
    revert h1; decide
theorem Rg.rows {w w' : World} {n0 : Nat} {vL : Value} {bs : List Nat} (h : Kd.R kX 46 w (n0 + 3) (fun _ => True) vL bs) {r : Option Nat} (hg : w.grownBy w' r) (hr : ∀ k, r = some k → k < n0 + 3) : Kd.R kX 46 w' (n0 + 3) (fun _ => True) vL bs :=
  Kd.R_mono (Kd.R_step (Kd.R_bound h) (fun k hk hlt => hg.block k hlt (fun e => by have := hr k e.symm; have := hk.2.1; omega))) (fun _ _ => trivial)
theorem Rg.putN {w w' : World} {n0 cN cA cN' : Nat} {vL : Value} {fN fA fN' : ByteArray → Option Value} {bs : List Nat} (h : Rg w n0 cN cA vL fN fA bs) (hm : MapS Tryd.prog 9 w' n0 cN' fN') (hg : w.grownBy w' (some n0)) : Rg w' n0 cN' cA vL fN' fA bs :=
  ⟨(hg.block _ (blk_lt h.hr) (fun e => by injection e with e; omega)).trans h.hr, hm, h.hA.same (hg.block _ h.hA.lt (fun e => by injection e with e; omega)), Rg.rows h.hL hg (fun k e => by injection e with e; omega)⟩
theorem Rg.putA {w w' : World} {n0 cN cA cA' : Nat} {vL : Value} {fN fA fA' : ByteArray → Option Value} {bs : List Nat} (h : Rg w n0 cN cA vL fN fA bs) (hm : MapS Tryd.prog 9 w' (n0 + 1) cA' fA') (hg : w.grownBy w' (some (n0 + 1))) : Rg w' n0 cN cA' vL fN fA' bs :=
  ⟨(hg.block _ (blk_lt h.hr) (fun e => by injection e with e; omega)).trans h.hr, h.hN.same (hg.block _ h.hN.lt (fun e => by injection e with e; omega)), hm, Rg.rows h.hL hg (fun k e => by injection e with e; omega)⟩
theorem Cfg.ch {w w' : World} {n0 b : Nat} {nm : ByteArray} {vL : Value} {bs : List Nat} (h : Cfg w b nm) (hb : n0 + 3 ≤ b) (hL : Kd.R kX 46 w (n0 + 3) (fun _ => True) vL bs) (hc : Ch (Sr n0 vL) w w') : Cfg w' b nm := by
  obtain ⟨cs, h1, h2⟩ := h
  exact ⟨cs, blkC_ch h1 hb hL hc, h2⟩
/-- The registry while a lexer is registered. -/
structure RI (n0 : Nat) (vL : Value) (b : Nat) (cs : Array Value) (A1 : Option Addr) (c1 : Nat) (als : List ByteArray) (bs : List Nat) (w wr : World) (cN cA : Nat) (fN fA : ByteArray → Option Value) : Prop where
  hc : Ch (Sr n0 vL) w wr
  hg : Rg wr n0 cN cA vL fN fA bs
  hb : wr.heap[b]? = some (.cells cs 58 (0, 0))
  hr : Kd.string.R 9 wr (n0 + 3) (fun _ => True) (.slice A1 als.length c1) als
section
variable {n0 : Nat} {vL : Value} {b : Nat} {cs : Array Value} {A1 : Option Addr} {c1 : Nat} {als : List ByteArray} {bs : List Nat} {w wr w' : World} {cN cA : Nat} {fN fA : ByteArray → Option Value}
theorem RI.below (h : RI n0 vL b cs A1 c1 als bs w wr cN cA fN fA) (hB : Below wr.heap.size wr w') : RI n0 vL b cs A1 c1 als bs w w' cN cA fN fA :=
  ⟨h.hc.trans (Ch.below hB), h.hg.below hB, (hB.block _ (blk_lt h.hb)).trans h.hb, Kd.R_below h.hr hB⟩
theorem RI.putN (h : RI n0 vL b cs A1 c1 als bs w wr cN cA fN fA) (hb : n0 + 3 ≤ b) (hN : cN < maxLen) {k : ByteArray} (hk : k.size ≤ maxLen) (v : Value) :
    ∃ w', (Instr.mapUpdate 68 (.map (some n0)) (.string k) v).run Tryd.prog wr = .ok () w' ∧ RI n0 vL b cs A1 c1 als bs w w' (cN + 1) cA (updS fN k v) fA := by
  obtain ⟨w', h1, h2, h3⟩ := h.hg.hN.store (mt := 68) (et := 46) Tryd.underlying9 Tryd.underlying68 hN hk v
  have hc : Ch (Sr n0 vL) wr w' := Ch.grown h3 (fun k e => by injection e with e; left; omega)
  exact ⟨w', h1, h.hc.trans hc, h.hg.putN h2 h3, blkC_ch h.hb hb h.hg.hL hc, rowS_ch h.hr h.hg.hL hc⟩
theorem RI.putA (h : RI n0 vL b cs A1 c1 als bs w wr cN cA fN fA) (hb : n0 + 3 ≤ b) (hN : cA < maxLen) {k : ByteArray} (hk : k.size ≤ maxLen) (v : Value) :
    ∃ w', (Instr.mapUpdate 68 (.map (some (n0 + 1))) (.string k) v).run Tryd.prog wr = .ok () w' ∧ RI n0 vL b cs A1 c1 als bs w w' cN (cA + 1) fN (updS fA k v) := by
  obtain ⟨w', h1, h2, h3⟩ := h.hg.hA.store (mt := 68) (et := 46) Tryd.underlying9 Tryd.underlying68 hN hk v
  have hc : Ch (Sr n0 vL) wr w' := Ch.grown h3 (fun k e => by injection e with e; left; omega)
  exact ⟨w', h1, h.hc.trans hc, h.hg.putA h2 h3, blkC_ch h.hb hb h.hg.hL hc, rowS_ch h.hr h.hg.hL hc⟩
theorem RI.done (h : RI n0 vL b cs A1 c1 als bs w wr cN cA fN fA) {bs' : List Nat} {v1 : Value} (hg : Gr wr w' vL.ownBlock) (hL : Kd.R kX 46 w' (n0 + 3) (fun _ => True) v1 bs') :
    Rg (w'.setCell ⟨n0 + 2, 0, none⟩ v1) n0 cN cA v1 fN fA bs' ∧ Ch (Sr n0 vL) w (w'.setCell ⟨n0 + 2, 0, none⟩ v1) := by
  have hne : ∀ k, k < n0 + 3 → some k ≠ vL.ownBlock := fun k hk e => by have := Kd.R_base h.hg.hL k e.symm; omega
  have b2 : w'.heap[n0 + 2]? = some (.cells #[vL, .map (some n0), .map (some (n0 + 1))] 70 (0, 0)) := (hg.block _ (blk_lt h.hg.hr) (hne _ (by omega))).trans h.hg.hr
  have far : ∀ k, k ≠ n0 + 2 → (w'.setCell ⟨n0 + 2, 0, none⟩ v1).heap[k]? = w'.heap[k]? := fun k hk => Below.heap_setCell _ ⟨n0 + 2, 0, none⟩ _ k hk
  refine ⟨⟨blk_put b2 0 _ rfl, h.hg.hN.same ((far _ (by omega)).trans (hg.block _ h.hg.hN.lt (hne _ (by omega)))), h.hg.hA.same ((far _ (by omega)).trans (hg.block _ h.hg.hA.lt (hne _ (by omega)))), ?_⟩, (h.hc.trans (Ch.gr hg (fun k e => .inr e.symm))).trans (Ch.set (.inl (by omega)))⟩
  exact Kd.R_mono (Kd.R_step (Kd.R_bound hL) (fun k hk _ => far k (by have := hk.2.1; omega))) (fun _ _ => trivial)
theorem RI.r0 (h : RI n0 vL b cs A1 c1 als bs w wr cN cA fN fA) : wr.cell? ⟨n0 + 2, 0, none⟩ = some vL := (blk_cell h.hg.hr 0).trans rfl
theorem RI.r1 (h : RI n0 vL b cs A1 c1 als bs w wr cN cA fN fA) : wr.cell? ⟨n0 + 2, 1, none⟩ = some (.map (some n0)) := (blk_cell h.hg.hr 1).trans rfl
theorem RI.r2 (h : RI n0 vL b cs A1 c1 als bs w wr cN cA fN fA) : wr.cell? ⟨n0 + 2, 2, none⟩ = some (.map (some (n0 + 1))) := (blk_cell h.hg.hr 2).trans rfl
theorem RI.rl (h : RI n0 vL b cs A1 c1 als bs w wr cN cA fN fA) : n0 + 2 < wr.heap.size := blk_lt h.hg.hr
theorem RI.k0 (h : RI n0 vL b cs A1 c1 als bs w wr cN cA fN fA) {s : ByteArray} (h0 : cs[0]? = some (.string s)) : wr.cell? ⟨b, 0, none⟩ = some (.string s) := (blk_cell h.hb 0).trans h0
theorem RI.k1 (h : RI n0 vL b cs A1 c1 als bs w wr cN cA fN fA) {v : Value} (h0 : cs[1]? = some v) : wr.cell? ⟨b, 1, none⟩ = some v := (blk_cell h.hb 1).trans h0
theorem RI.kl (h : RI n0 vL b cs A1 c1 als bs w wr cN cA fN fA) : b < wr.heap.size := blk_lt h.hb
end
set_option maxRecDepth 100000 in
set_option maxHeartbeats 8000000 in
theorem reg_c (n0 : Nat) (vL : Value) (b : Nat) (cs : Array Value) (A1 : Option Addr) (c1 : Nat) (nmb : ByteArray) (als : List ByteArray) (bs : List Nat) (nm : Nat → ByteArray) (w : World) (cN cA : Nat) (fN fA : ByteArray → Option Value)
    (h : RI n0 vL b cs A1 c1 als bs w w cN cA fN fA) (hb : n0 + 3 ≤ b) (h0 : cs[0]? = some (.string nmb)) (h1 : cs[1]? = some (.slice A1 als.length c1)) (hl0 : Low nmb) (hl1 : ∀ a ∈ als, Low a) (hn : cN ≤ 100000) (ha : cA + 2 * als.length ≤ 100000) (hla : als.length ≤ 1000) (hlb : bs.length ≤ 1000)
    (hnb : nm b = nmb) (hc : ∀ x ∈ bs, Cfg w x (nm x) ∧ nm x ≠ nmb ∧ n0 + 3 ≤ x) :
    Calls Tryd.prog 28 #[.pointer (some ⟨n0 + 2, 0, none⟩), lx b] w fun e w' => e = .returned (lx b) ∧ ∃ vL', Rg w' n0 (cN + 2) (cA + 2 * als.length) vL' (updS fN nmb (lx b)) (alsF fA als b) (bs ++ [b]) ∧ Ch (Sr n0 vL) w w' ∧ (vL'.ownBlock = vL.ownBlock ∨ ∃ k, vL'.ownBlock = some k ∧ w.heap.size ≤ k) := by
  have hm := meth_conf
  have hm2 := meth_setr
  have hu := Tryd.underlying58
  have hu2 := Tryd.underlying70
  have R0 := Aside0.mk h
  have H0 := Aside0.mk (And.intro h0 h1)
  have HL := Aside0.mk (And.intro hl0 hl1)
  have HN := Aside0.mk (And.intro hb (And.intro hn (And.intro ha (And.intro hla hlb))))
  have HC := Aside0.mk (And.intro hnb hc)
  have RZ := Aside0.mk h.hg.hL
  have HM : Aside0 (nmb.size ≤ maxLen ∧ ∀ a ∈ als, a.size ≤ maxLen) := ⟨by have := hl0.sz; unfold maxLen; omega, fun a h => by have := (hl1 a h).sz; unfold maxLen; omega⟩
  clear h h0 h1 hl0 hl1 hb hn ha hla hlb hc hnb
  go_enter Tryd.func28, Tryd.ntmps28
  go_wp2_with (first | (go_at_call 111; refine (setreg_c b _ _).mono ?_; rintro e w1 ⟨rfl, hB⟩; have R1 := Aside0.mk (R0.out.below hB); clear hB) | (go_at_call 109; refine (conf_c b _).mono ?_; rintro e w2 ⟨rfl, hB⟩; have R2 := Aside0.mk (R1.out.below hB); clear hB))
  have R3 := Aside0.mk (R2.out.below ((Below.refl _ _).drew))
  obtain ⟨w4, hup, hR4⟩ := R3.out.putN HN.out.1 (by have := HN.out.2.1; unfold maxLen; omega) HM.out.1 (lx b)
  have R4 := Aside0.mk hR4
  have e1 := R2.out.r1
  have e2 := R2.out.rl
  have e3 := R2.out.k0 H0.out.1
  have e4 := R2.out.kl
  clear hR4
  go_region_held3 (fun w' => w'.cell? ⟨n0 + 2, 1, none⟩ = some (.map (some n0)) ∧ w'.cell? ⟨b, 0, none⟩ = some (.string nmb)) (first | go_keep | exact ⟨R4.out.r1, R4.out.k0 H0.out.1⟩) (first | fail)
  clear e1 e2 e3 e4 hup
  have e1 := R4.out.r1
  have e2 := R4.out.rl
  have e3 := R4.out.k0 H0.out.1
  have e4 := R4.out.kl
  go_upto_region 4 with (fail)
  go_cut [31] (fun v31 wc => v31 = lx b ∧ Aside0 (RI n0 vL b cs A1 c1 als bs w wc (cN + 2) cA (updS fN nmb (lx b)) fA))
  case first =>
    go_region_with (go_at_call 31; refine (low_c nmb HL.out.1 _).mono ?_; rintro e w5 ⟨rfl, hB0⟩; have hB := below_step (Below.refl w4.heap.size w4).drew hB0; have R5 := Aside0.mk (R4.out.below hB); clear hB hB0; obtain ⟨w6, hup, hR6⟩ := R5.out.putN HN.out.1 (by have := HN.out.2.1; unfold maxLen; omega) HM.out.1 (lx b); have R6 := Aside0.mk hR6; have f1 := R5.out.r1; have f2 := R5.out.rl; have f3 := R5.out.k0 H0.out.1; have f4 := R5.out.kl; clear hR6)
    all_goals
      go_wp2
      go_meet
      case rel => exact ⟨rfl, ⟨by have := R6.out; rw [updS_twice] at this; exact this⟩⟩
  case rest =>
    obtain ⟨rfl, R6⟩ := hcut
    clear R0 R1 R2 R3 R4 e1 e2 e3 e4
    have e5 := R6.out.k1 H0.out.2
    have e6 := R6.out.kl
    have RS := R6
    go_wp2
    go_loopg [37] (als.length + 1) (fun kq v37 wr => ∃ (x37 : Int), v37 = .int .i64 x37 ∧ Aside0 (0 ≤ x37 ∧ x37 ≤ als.length ∧ als.length - x37.toNat < kq) ∧ Aside0 (RI n0 vL b cs A1 c1 als bs w wr (cN + 2) (cA + 2 * x37.toNat) (updS fN nmb (lx b)) (alsF fA (als.take x37.toNat) b)))
    case atStart => exact ⟨0, rfl, ⟨by omega, by omega, by simp⟩, RS⟩
    case round =>
      obtain ⟨x37, rfl, HK, R7⟩ := hrel
      clear R6 RS e5 e6
      cases gk with
      | zero => have := HK.out; omega
      | succ k1 =>
        by_cases hlt : x37 < (als.length : Int)
        · have hx0 : 0 ≤ x37 := HK.out.1
          have c2b0 : decide (x37 < (als.length : Int)) = true := decide_eq_true hlt
          have c3b0 : decide (0 ≤ x37) = true := decide_eq_true hx0
          obtain ⟨_, _, eC, _, hC⟩ := Kd.R_reads R7.out.hr
          injection eC with eA _ eC2
          subst eA
          subst eC2
          obtain ⟨ad, e, hy0⟩ := Kd.at_string hC x37 hx0 hlt
          cases e
          have hla := World.block_lt_of_cell? wr _ hy0
          have hwr : wrap64 (x37 + 1) = x37 + 1 := by have := HN.out.2.2.2.1; unfold wrap64; omega
          have p1 := eq_true hx0
          have q1 := eq_true hlt
          have HT : Aside0 (als.take (x37.toNat + 1) = als.take x37.toNat ++ [rdOf ByteArray.empty als x37] ∧ rdOf ByteArray.empty als x37 ∈ als) := ⟨by
            have h : x37.toNat < als.length := by omega
            have e : rdOf ByteArray.empty als x37 = als[x37.toNat] := by simp [rdOf, List.getD_eq_getElem?_getD, h]
            rw [e]
            exact ⟨List.take_succ_eq_append_getElem h, List.getElem_mem h⟩⟩
          generalize rdOf ByteArray.empty als x37 = a at *
          clear hx0 hlt hC
          have f1 := R7.out.r2
          have f2 := R7.out.rl
          obtain ⟨w8, hup8, hR8⟩ := R7.out.putA HN.out.1 (by have := HN.out.2.2.1; have := HK.out; unfold maxLen; omega) (HM.out.2 a HT.out.2) (lx b)
          have R8 := Aside0.mk hR8
          have f3 := R8.out.r2
          have f4 := R8.out.rl
          clear hR8
          go_upto_region 9 with (fail)
          go_region_with (go_at_call 31; refine (low_c a (HL.out.2 a HT.out.2) _).mono ?_; rintro e w9 ⟨rfl, hB0⟩; have hB := below_step (Below.refl w8.heap.size w8).drew hB0; have R9 := Aside0.mk (R8.out.below hB); clear hB hB0; obtain ⟨w10, hup, hR10⟩ := R9.out.putA HN.out.1 (by have := HN.out.2.2.1; have := HK.out; have := of_eq_true q1; unfold maxLen; omega) (HM.out.2 a HT.out.2) (lx b); have R10 := Aside0.mk hR10; have g1 := R9.out.r2; have g2 := R9.out.rl; clear hR10)
          all_goals
            go_wp2
            go_roundg k1
            case measure => omega
            case rel =>
              have hk := HK.out
              have e1 : (wrap64 (x37 + 1)).toNat = x37.toNat + 1 := by rw [hwr]; omega
              refine ⟨wrap64 (x37 + 1), rfl, ⟨by rw [hwr]; have := of_eq_true q1; omega⟩, ⟨?_⟩⟩
              have h := R10.out
              rw [updS_twice] at h
              rw [e1, HT.out.1]
              unfold alsF at h ⊢
              rw [List.foldl_append]
              exact h
        · have hxe : als.length ≤ x37.toNat := by have := HK.out; omega
          have c2b0 : decide (x37 < (als.length : Int)) = false := decide_eq_false hlt
          have R8 : Aside0 (RI n0 vL b cs A1 c1 als bs w wr (cN + 2) (cA + 2 * als.length) (updS fN nmb (lx b)) (alsF fA als b)) := ⟨by
            have h := R7.out
            rw [List.take_of_length_le hxe, show x37.toNat = als.length by have := HK.out; omega] at h
            exact h⟩
          have hs := Aside0.mk R8.out.hc.size
          have f0 := R8.out.r0
          have fl := R8.out.rl
          have hbs : Aside0 (n0 + 3 ≤ wr.heap.size) := ⟨by have := R8.out.kl; have := HN.out.1; omega⟩
          have hz : Aside0 (some (n0 + 2) ≠ vL.ownBlock) := ⟨fun e => by have := Kd.R_base R8.out.hg.hL (n0 + 2) e.symm; omega⟩
          have hcb : Aside0 (Cfg wr b (nm b)) := ⟨by rw [HC.out.1]; exact ⟨cs, R8.out.hb, H0.out.1⟩⟩
          have hcx : Aside0 (∀ x ∈ bs, Cfg wr x (nm x) ∧ nm x ≠ nm b) := ⟨fun x hx => by
            obtain ⟨h1, h2, h3⟩ := HC.out.2 x hx
            exact ⟨h1.ch h3 RZ.out R8.out.hc, by rw [HC.out.1]; exact h2⟩⟩
          clear hlt hxe R7
          go_wp2_with (go_at_call 34; refine (add_c (n0 + 3) vL bs nm b wr R8.out.hg.hL hbs.out (by have := HN.out.2.2.2.2; omega) hcx.out hcb.out).mono ?_; rintro e w9 ⟨v1, rfl, hL, hg, ho⟩; obtain ⟨A9, c9, hv1⟩ := Kd.R_slice hL; obtain ⟨n9, hn9⟩ : ∃ n9, n9 = (bs ++ [b]).length := ⟨_, rfl⟩; rw [← hn9] at hv1; subst hv1; clear hn9; have D := Aside0.mk (R8.out.done hg hL); have HO := Aside0.mk ho; have z0 : w9.cell? ⟨n0 + 2, 0, none⟩ = some vL := (World.cell?_of_block (a := ⟨n0 + 2, 0, none⟩) (hg.block _ (blk_lt R8.out.hg.hr) hz.out)).trans f0; have zf : w9.frozen? ⟨n0 + 2, 0, none⟩ = false := blk_frozen ((hg.block _ (blk_lt R8.out.hg.hr) hz.out).trans R8.out.hg.hr) 0; have zl : n0 + 2 < w9.heap.size := Nat.lt_of_lt_of_le fl hg.size; clear hL hg ho)
          go_ret
          refine ⟨rfl, _, D.out.1, D.out.2, ?_⟩
          rcases HO.out with h | ⟨k, h1, h2⟩
          · exact .inl h
          · exact .inr ⟨k, h1, Nat.le_trans hs.out h2⟩
end Go.Proofs.YtibjlefenodhaaaDoorReg
