/- sort.Strings over a row of the call's own; chroma.LexerRegistry.Names and Aliases, impl.RegNames and RegAliases, walked. -/
import Derived.Test.YtibjlefenodhaaaDoorRegH
import Derived.Sort.OwnSorted
set_option linter.unusedVariables false
set_option linter.unusedSimpArgs false
namespace Go.Proofs.YtibjlefenodhaaaDoorReg
open Go.RowKit Go.Proofs.YtibjlefenodhaaaDoorW.PrintWords Go.Proofs.YtibjlefenodhaaaDoor.T Go.Proofs.YtibjlefenodhaaaDoorFmt Go.Proofs.YtibjlefenodhaaaDoorMapI
/-- Texts in their order. -/
def msB (l : List ByteArray) : List ByteArray := ((l.map fun s => s.data.toList).mergeSort fun x y => decide (x ≤ y)).map fun s => ⟨s.toArray⟩
theorem msB_len (l : List ByteArray) : (msB l).length = l.length := by unfold msB; rw [List.length_map, List.length_mergeSort, List.length_map]
theorem enc_lists (l : List ByteArray) : l.map Value.string = (l.map fun s => s.data.toList).map Go.Proofs.encStr := by
  rw [List.map_map]
  exact List.map_congr_left fun s _ => rfl
theorem strings_c (v : Value) (l : List ByteArray) (base : Nat) (w : World) (h : w.ownsRow base 9 1 v l.length (encs Value.string l)) (hl : l.length ≤ 100000) :
    Calls Tryd.prog 32 #[v] w fun e w' => e = .returned (.tuple #[]) ∧ w'.ownsRow base 9 1 v (msB l).length (encs Value.string (msB l)) ∧ w.grownBy w' v.ownBlock := by
  rcases h.2 with ⟨rfl, hn⟩ | ⟨g, cap, cur, rfl, hb, hh, hnc, hcm, hcs, ht⟩
  · obtain rfl := List.eq_nil_of_length_eq_zero hn
    refine (Tryd.sort_Strings_none none 0 w).mono ?_
    rintro e w' ⟨rfl, rfl⟩
    refine ⟨rfl, ?_, ⟨rfl, rfl, rfl, Nat.le_refl _, fun _ _ _ => rfl⟩⟩
    have : msB [] = [] := by unfold msB; simp
    rw [this]
    exact h
  · have hlen : (l.map fun s => s.data.toList).length = l.length := List.length_map _
    have ht' : cur.toList.take (l.map fun s => s.data.toList).length = (l.map fun s => s.data.toList).map Go.Proofs.encStr := by
      rw [hlen, ← enc_lists]
      rw [Nat.mul_one] at ht
      exact ht
    have hc := Tryd.sort_Strings g 0 cap (l.map fun s => s.data.toList) w (Go.holds_of_block hh ht') (blk_lt hh) (by rw [hlen]; omega)
    rw [hlen] at hc
    refine hc.mono ?_
    rintro e w' ⟨rfl, n, os, rfl⟩
    refine ⟨rfl, ?_, Go.grownBy_sorted _⟩
    have ho := Go.ownsRow_sorted (w := w) (base := base) (n := n) (os := os) (cap := cap) (ts := (l.map fun s => s.data.toList).mergeSort fun x y => decide (x ≤ y)) (ss := l.map fun s => s.data.toList) (List.length_mergeSort _) hb hh (by rw [hlen]; exact hnc) hcm hcs
    rw [hlen] at ho
    have e2 : encs Value.string (msB l) = ((l.map fun s => s.data.toList).mergeSort fun x y => decide (x ≤ y)).map Go.Proofs.encStr := by
      unfold encs msB
      rw [List.map_map]
      exact List.map_congr_left fun s _ => rfl
    rw [e2, msB_len]
    exact ho
/-- The names that are asked for. -/
def nmL (al : Bool) (l : List I) : List ByteArray := l.flatMap fun x => if al then x.f0 :: x.f1 else [x.f0]
def alL (sk : Bool) (l : List I) : List ByteArray := l.flatMap fun x => if x.f1.length = 0 then (if sk then [] else [x.f0]) else x.f1
theorem lit_none (W : World) : (W.alloc (.cells #[] 9)).ownsRow W.heap.size 9 1 (.slice (some ⟨W.heap.size, 0, none⟩) 0 0) ([] : List ByteArray).length (encs Value.string []) :=
  ⟨rfl, .inr ⟨W.heap.size, 0, #[], rfl, Nat.le_refl _, blk_new _ _, Nat.le_refl _, by decide, rfl, rfl⟩⟩
theorem nmL_snoc (al : Bool) (l : List I) (x : I) : nmL al (l ++ [x]) = nmL al l ++ (if al then x.f0 :: x.f1 else [x.f0]) := by unfold nmL; rw [List.flatMap_append]; simp
theorem alL_snoc (sk : Bool) (l : List I) (x : I) : alL sk (l ++ [x]) = alL sk l ++ (if x.f1.length = 0 then (if sk then [] else [x.f0]) else x.f1) := by unfold alL; rw [List.flatMap_append]; simp
/-- A row that is made while the registry is read. -/
def OuAt (w wr : World) (v : Value) (l : List ByteArray) (n : Nat) : Prop := Kd.string.R 9 wr w.heap.size (fun _ => True) v l ∧ Below w.heap.size w wr ∧ l.length ≤ n
theorem OuAt.below {w wr w' : World} {v : Value} {l : List ByteArray} {n : Nat} (h : OuAt w wr v l n) (hB : Below wr.heap.size wr w') : OuAt w w' v l n := ⟨Kd.R_below h.1 hB, below_step h.2.1 hB, h.2.2⟩
/-- A config that is read. -/
theorem cfg_rd {w : World} {base b : Nat} {x : I} (h : CfgAt w base b x) : ∃ A1 c1 A4 c4, x.f1.length ≤ c1 ∧ x.f4.length ≤ c4 ∧ ∀ W, Below w.heap.size w W → W.cell? ⟨b, 0, none⟩ = some (.string x.f0) ∧ W.cell? ⟨b, 1, none⟩ = some (.slice A1 x.f1.length c1) ∧ W.cell? ⟨b, 4, none⟩ = some (.slice A4 x.f4.length c4) ∧ b < W.heap.size ∧ Kd.string.C W A1 x.f1.length x.f1 ∧ Kd.string.C W A4 x.f4.length x.f4 := by
  obtain ⟨v1, v2, v3, v4, p, h1, h2, h3, h4⟩ := h
  obtain ⟨A1, c1, rfl, l1, k1⟩ := Kd.R_reads h3
  obtain ⟨A4, c4, rfl, l4, k4⟩ := Kd.R_reads h4
  refine ⟨A1, c1, A4, c4, l1, l4, fun W hB => ?_⟩
  have hb := (hB.block _ (blk_lt h1)).trans h1
  exact ⟨(blk_cell hb 0).trans rfl, (blk_cell hb 1).trans rfl, (blk_cell hb 4).trans rfl, blk_lt hb, Kd.C_below k1 hB, Kd.C_below k4 hB⟩
set_option maxRecDepth 100000 in
set_option maxHeartbeats 8000000 in
theorem names_c (n0 cN cA : Nat) (vL : Value) (fN fA : ByteArray → Option Value) (ps : List (I × Nat)) (al : Bool) (w : World) (hg : Rg w n0 cN cA vL fN fA (ps.map (·.2))) (hC : ∀ p ∈ ps, CfgAt w (n0 + 3) p.2 p.1) (hl : ps.length ≤ 20) (ha : ∀ p ∈ ps, p.1.f1.length ≤ 5) :
    Calls Tryd.prog 21 #[.pointer (some ⟨n0 + 2, 0, none⟩), .bool al] w fun e w' => ∃ v, e = .returned v ∧ Kd.string.R 9 w' w.heap.size (fun _ => True) v (msB (nmL al (ps.map (·.1)))) ∧ Below w.heap.size w w' := by
  have hm := meth_conf
  have hu2 := Tryd.underlying70
  have hu := Tryd.underlying58
  obtain ⟨A, c, hvL, hcl, hLC⟩ := Kd.R_reads hg.hL
  have hps : (ps.map (·.2)).length = ps.length := List.length_map _
  have r0 : w.cell? ⟨n0 + 2, 0, none⟩ = some (.slice A ps.length c) := by have := (blk_cell hg.hr 0).trans rfl; rw [hvL, hps] at this; exact this
  have rl := blk_lt hg.hr
  rw [hps] at hLC
  have HLC := Aside0.mk hLC
  have HC := Aside0.mk hC
  have HL := Aside0.mk (And.intro hl ha)
  clear hg hC hl ha hvL hcl hLC hps
  go_enter Tryd.func21, Tryd.ntmps21
  go_wp2
  clear r0 rl
  go_loopg [5, 15] (ps.length + 1) (fun kq v5 v15 wr => ∃ (x15 : Int), v15 = .int .i64 x15 ∧ Aside0 (0 ≤ x15 ∧ x15 ≤ ps.length ∧ ps.length - x15.toNat < kq) ∧ Aside0 (OuAt w wr v5 (nmL al ((ps.take x15.toNat).map (·.1))) (6 * x15.toNat)))
  case atStart => exact ⟨0, rfl, ⟨by omega, by omega, by simp⟩, ⟨Kd.R_of_own (lit_none w) (fun _ _ => trivial), (Below.refl _ _).alloc (Nat.le_refl _) _, by simp [nmL]⟩⟩
  case round =>
    obtain ⟨x15, rfl, HK, HO⟩ := hrel
    cases gk with
    | zero => have := HK.out; omega
    | succ k1 =>
      by_cases hlt : x15 < (ps.length : Int)
      · have hx0 : 0 ≤ x15 := HK.out.1
        have c2b0 : decide (x15 < (ps.length : Int)) = true := decide_eq_true hlt
        obtain ⟨ad, e, hy0⟩ := at_kX (Kd.C_below HLC.out HO.out.2.1) x15 hx0 hlt
        cases e
        have hla := World.block_lt_of_cell? wr _ hy0
        have hwr : wrap64 (x15 + 1) = x15 + 1 := by have := HL.out.1; unfold wrap64; omega
        have p1 := eq_true hx0
        have q1 := eq_true hlt
        have h4 : x15.toNat < ps.length := by omega
        have h5 : (ps.map (·.2)).getD x15.toNat 0 = ps[x15.toNat].2 := by rw [List.getD_eq_getElem?_getD, List.getElem?_map, List.getElem?_eq_getElem h4]; rfl
        rw [h5] at hy0
        have HT : Aside0 (nmL al ((ps.take (x15.toNat + 1)).map (·.1)) = nmL al ((ps.take x15.toNat).map (·.1)) ++ (if al then ps[x15.toNat].1.f0 :: ps[x15.toNat].1.f1 else [ps[x15.toNat].1.f0])) := ⟨by rw [List.take_succ_eq_append_getElem h4, List.map_append]; exact nmL_snoc al _ _⟩
        obtain ⟨A1, c1, A4, c4, l1, _, hcf⟩ := cfg_rd (HC.out _ (List.getElem_mem h4))
        have HCf := Aside0.mk hcf
        have HL1 : Aside0 (ps[x15.toNat].1.f1.length ≤ 5) := ⟨HL.out.2 _ (List.getElem_mem h4)⟩
        clear h5 hcf hx0 hlt
        generalize ps[x15.toNat] = p at *
        clear h4
        obtain ⟨x, b⟩ := p
        simp only at hy0 HT HCf HL1 l1
        obtain ⟨l5, hl5⟩ : ∃ l, l = nmL al ((ps.take x15.toNat).map (·.1)) := ⟨_, rfl⟩
        rw [← hl5] at HO HT
        clear hl5
        obtain ⟨B5, c5, hv5⟩ := Kd.R_slice HO.out.1
        subst hv5
        have HN1 : Aside0 (∃ n, n = x.f1.length) := ⟨⟨_, rfl⟩⟩
        obtain ⟨n1, hn1⟩ := HN1.out
        rw [← hn1] at HCf HL1 l1
        try rw [← hn1] at HT
        have Hn1 := Aside0.mk hn1
        have HLn : Aside0 ((l5.length + 1) * 16 ≤ 140737488355328 ∧ (l5.length + 1 + n1) * 16 ≤ 140737488355328 ∧ (l5.length + n1) * 16 ≤ 140737488355328) := ⟨by have := HO.out.2.2; have := HK.out; have := HL.out.1; have := HL1.out; omega⟩
        clear hn1 l1 HN1
        cases al
        · replace HT := Aside0.mk (HT.out.trans (show _ = l5 ++ [x.f0] by simp))
          go_wp2_with (first | (go_at_call 109; refine (conf_c b _).mono ?_; rintro e w1 ⟨rfl, hB⟩; have HO1 := Aside0.mk (HO.out.below hB); obtain ⟨d0, d1, _, d2, d3, _⟩ := HCf.out w1 HO1.out.2.1; have HD3 := Aside0.mk d3; have HZ1 := Aside0.mk HO1.out.2.1.size; clear hB d3) | ((with_reducible refine gate_builtin (b := .append) (xs := #[.tmp 21, .tmp 26]) rfl ?_); at_builtin; refine Kd.R_append Kd.string (w0 := w) w.heap.size rfl (.tmp 21) (.tmp 26) 25 9 (.string ⟨#[]⟩) 16 rfl Tryd.underlying25 infoS rfl (by decide) (by omega) (.slice B5 l5.length c5) l5 x.f0 [.string x.f0] (fun _ => True) (fun _ => False) rfl (by first | (go_simp; done) | (go_simp; rfl)) ?aP (fun _ hk => hk.elim) ?aF ?aO ?aB ?aS ?aL ?_; (case aP => exact rfl); (case aF => exact (fun _ _ => trivial)); (case aO => exact HO1.out.1); (case aB => exact HO1.out.2.1); (case aS => exact HZ1.out); (case aL => exact HLn.out.1); intro v6 w6 ho hb6 hg hat; obtain ⟨l6, hl6⟩ : ∃ l, l = l5 ++ [x.f0] := ⟨_, rfl⟩; rw [← hl6] at ho; have HL6 := Aside0.mk hl6; have HS6 : Aside0 (l6.length = l5.length + 1) := ⟨by rw [hl6]; simp⟩; clear hl6; obtain ⟨B6, c6, hv6⟩ := Kd.R_slice ho; have HO6 := Aside0.mk (And.intro ho hb6); obtain ⟨e0, e1, _, e2, e3, _⟩ := HCf.out w6 hb6; have HE3 := Aside0.mk e3; have HZ6 := Aside0.mk hb6.size; subst hv6; clear ho hb6 hg hat e3))
          go_roundg k1
          case measure => omega
          case rel =>
            have hk := HK.out
            have hq := of_eq_true q1
            have e5 : (x15 + 1).toNat = x15.toNat + 1 := by omega
            refine ⟨x15 + 1, by rw [hwr], ⟨by omega⟩, ⟨?_⟩⟩
            rw [e5, HT.out]
            exact ⟨by rw [← HL6.out]; exact HO6.out.1, HO6.out.2, by have := HO.out.2.2; rw [List.length_append]; show _ + 1 ≤ _; omega⟩
        · replace HT := Aside0.mk (HT.out.trans (show _ = l5 ++ (x.f0 :: x.f1) by simp))
          go_wp2_with (first | (go_at_call 109; refine (conf_c b _).mono ?_; rintro e w1 ⟨rfl, hB⟩; have HO1 := Aside0.mk (HO.out.below hB); obtain ⟨d0, d1, _, d2, d3, _⟩ := HCf.out w1 HO1.out.2.1; have HD3 := Aside0.mk d3; have HZ1 := Aside0.mk HO1.out.2.1.size; clear hB d3) | ((with_reducible refine gate_builtin (b := .append) (xs := #[.tmp 21, .tmp 26]) rfl ?_); at_builtin; refine Kd.R_append Kd.string (w0 := w) w.heap.size rfl (.tmp 21) (.tmp 26) 25 9 (.string ⟨#[]⟩) 16 rfl Tryd.underlying25 infoS rfl (by decide) (by omega) (.slice B5 l5.length c5) l5 x.f0 [.string x.f0] (fun _ => True) (fun _ => False) rfl (by first | (go_simp; done) | (go_simp; rfl)) ?aP (fun _ hk => hk.elim) ?aF ?aO ?aB ?aS ?aL ?_; (case aP => exact rfl); (case aF => exact (fun _ _ => trivial)); (case aO => exact HO1.out.1); (case aB => exact HO1.out.2.1); (case aS => exact HZ1.out); (case aL => exact HLn.out.1); intro v6 w6 ho hb6 hg hat; obtain ⟨l6, hl6⟩ : ∃ l, l = l5 ++ [x.f0] := ⟨_, rfl⟩; rw [← hl6] at ho; have HL6 := Aside0.mk hl6; have HS6 : Aside0 (l6.length = l5.length + 1) := ⟨by rw [hl6]; simp⟩; clear hl6; obtain ⟨B6, c6, hv6⟩ := Kd.R_slice ho; have HO6 := Aside0.mk (And.intro ho hb6); obtain ⟨e0, e1, _, e2, e3, _⟩ := HCf.out w6 hb6; have HE3 := Aside0.mk e3; have HZ6 := Aside0.mk hb6.size; subst hv6; clear ho hb6 hg hat e3) | ((with_reducible refine gate_builtin (b := .append) (xs := #[.tmp 29, .tmp 33]) rfl ?_); at_builtin; refine Kd.R_append_row Value.string ByteArray.empty (h1 := fun _ => rfl) (w0 := w) w.heap.size rfl (.tmp 29) (.tmp 33) 25 9 (.string ⟨#[]⟩) 16 rfl Tryd.underlying25 infoS rfl (by decide) (.slice B6 l6.length c6) l6 x.f1 A1 n1 c1 (fun _ => True) rfl rfl (fun _ _ => trivial) HO6.out.1 HE3.out HO6.out.2 HZ6.out (by rw [HS6.out]; exact HLn.out.2.1) ?_; intro v7 w7 ho hb7 hg hat; have HO7 := Aside0.mk (And.intro ho hb7); clear ho hb7 hg hat))
          go_roundg k1
          case measure => omega
          case rel =>
            have hk := HK.out
            have hq := of_eq_true q1
            have e5 : (x15 + 1).toNat = x15.toNat + 1 := by omega
            refine ⟨x15 + 1, by rw [hwr], ⟨by omega⟩, ⟨?_⟩⟩
            rw [e5, HT.out]
            exact ⟨by have := HO7.out.1; rw [HL6.out, List.append_assoc] at this; exact this, HO7.out.2, by have := HO.out.2.2; have := HL1.out; have := Hn1.out; rw [List.length_append]; show _ + (x.f1.length + 1) ≤ _; omega⟩

      · have hxe : ps.length ≤ x15.toNat := by have := HK.out; omega
        have c2b0 : decide (x15 < (ps.length : Int)) = false := decide_eq_false hlt
        obtain ⟨l5, hl5⟩ : ∃ l, l = nmL al (ps.map (·.1)) := ⟨_, rfl⟩
        have HO9 : Aside0 (OuAt w wr u5 l5 120) := ⟨by
          have h := HO.out
          rw [List.take_of_length_le hxe, ← hl5] at h
          exact ⟨h.1, h.2.1, by have := h.2.2; have := HK.out; have := HL.out.1; omega⟩⟩
        have HL5 := Aside0.mk hl5
        clear hl5 HO hlt hxe
        obtain ⟨B5, c5, hv5⟩ := Kd.R_slice HO9.out.1
        subst hv5
        have HSt := Aside0.mk (strings_c _ l5 w.heap.size wr (Kd.own_of_R HO9.out.1) (by have := HO9.out.2.2; omega))
        have HBs : Aside0 (∀ k, (Value.slice B5 l5.length c5).ownBlock = some k → w.heap.size ≤ k) := ⟨fun k hk => Kd.R_base HO9.out.1 k hk⟩
        go_wp2_with (go_at_call 32; with_reducible refine HSt.out.mono ?_; rintro e w9 ⟨rfl, ho9, hg9⟩; have HO10 := Aside0.mk ho9; have HG10 := Aside0.mk hg9; clear ho9 hg9)
        go_ret
        exact ⟨_, rfl, by rw [← HL5.out]; exact Kd.R_of_own HO10.out (fun _ _ => trivial), HO9.out.2.1.grown HG10.out HO9.out.2.1.size HBs.out⟩
set_option maxRecDepth 100000 in
set_option maxHeartbeats 8000000 in
theorem aliases_c (n0 cN cA : Nat) (vL : Value) (fN fA : ByteArray → Option Value) (ps : List (I × Nat)) (sk : Bool) (w : World) (hg : Rg w n0 cN cA vL fN fA (ps.map (·.2))) (hC : ∀ p ∈ ps, CfgAt w (n0 + 3) p.2 p.1) (hl : ps.length ≤ 20) (ha : ∀ p ∈ ps, p.1.f1.length ≤ 5) :
    Calls Tryd.prog 22 #[.pointer (some ⟨n0 + 2, 0, none⟩), .bool sk] w fun e w' => ∃ v, e = .returned v ∧ Kd.string.R 9 w' w.heap.size (fun _ => True) v (msB (alL sk (ps.map (·.1)))) ∧ Below w.heap.size w w' := by
  have hm := meth_conf
  have hu2 := Tryd.underlying70
  have hu := Tryd.underlying58
  obtain ⟨A, c, hvL, hcl, hLC⟩ := Kd.R_reads hg.hL
  have hps : (ps.map (·.2)).length = ps.length := List.length_map _
  have r0 : w.cell? ⟨n0 + 2, 0, none⟩ = some (.slice A ps.length c) := by have := (blk_cell hg.hr 0).trans rfl; rw [hvL, hps] at this; exact this
  have rl := blk_lt hg.hr
  rw [hps] at hLC
  have HLC := Aside0.mk hLC
  have HC := Aside0.mk hC
  have HL := Aside0.mk (And.intro hl ha)
  clear hg hC hl ha hvL hcl hLC hps
  go_enter Tryd.func22, Tryd.ntmps22
  go_wp2
  clear r0 rl
  go_loopg [5, 15] (ps.length + 1) (fun kq v5 v15 wr => ∃ (x15 : Int), v15 = .int .i64 x15 ∧ Aside0 (0 ≤ x15 ∧ x15 ≤ ps.length ∧ ps.length - x15.toNat < kq) ∧ Aside0 (OuAt w wr v5 (alL sk ((ps.take x15.toNat).map (·.1))) (6 * x15.toNat)))
  case atStart => exact ⟨0, rfl, ⟨by omega, by omega, by simp⟩, ⟨Kd.R_of_own (lit_none w) (fun _ _ => trivial), (Below.refl _ _).alloc (Nat.le_refl _) _, by simp [alL]⟩⟩
  case round =>
    obtain ⟨x15, rfl, HK, HO⟩ := hrel
    cases gk with
    | zero => have := HK.out; omega
    | succ k1 =>
      by_cases hlt : x15 < (ps.length : Int)
      · have hx0 : 0 ≤ x15 := HK.out.1
        have c2b0 : decide (x15 < (ps.length : Int)) = true := decide_eq_true hlt
        obtain ⟨ad, e, hy0⟩ := at_kX (Kd.C_below HLC.out HO.out.2.1) x15 hx0 hlt
        cases e
        have hla := World.block_lt_of_cell? wr _ hy0
        have hwr : wrap64 (x15 + 1) = x15 + 1 := by have := HL.out.1; unfold wrap64; omega
        have p1 := eq_true hx0
        have q1 := eq_true hlt
        have h4 : x15.toNat < ps.length := by omega
        have h5 : (ps.map (·.2)).getD x15.toNat 0 = ps[x15.toNat].2 := by rw [List.getD_eq_getElem?_getD, List.getElem?_map, List.getElem?_eq_getElem h4]; rfl
        rw [h5] at hy0
        have HT : Aside0 (alL sk ((ps.take (x15.toNat + 1)).map (·.1)) = alL sk ((ps.take x15.toNat).map (·.1)) ++ (if ps[x15.toNat].1.f1.length = 0 then (if sk then [] else [ps[x15.toNat].1.f0]) else ps[x15.toNat].1.f1)) := ⟨by rw [List.take_succ_eq_append_getElem h4, List.map_append]; exact alL_snoc sk _ _⟩
        obtain ⟨A1, c1, A4, c4, l1, _, hcf⟩ := cfg_rd (HC.out _ (List.getElem_mem h4))
        have HCf := Aside0.mk hcf
        have HL1 : Aside0 (ps[x15.toNat].1.f1.length ≤ 5) := ⟨HL.out.2 _ (List.getElem_mem h4)⟩
        clear h5 hcf hx0 hlt
        generalize ps[x15.toNat] = p at *
        clear h4
        obtain ⟨x, b⟩ := p
        simp only at hy0 HT HCf HL1 l1
        obtain ⟨l5, hl5⟩ : ∃ l, l = alL sk ((ps.take x15.toNat).map (·.1)) := ⟨_, rfl⟩
        rw [← hl5] at HO HT
        clear hl5
        obtain ⟨B5, c5, hv5⟩ := Kd.R_slice HO.out.1
        subst hv5
        have HN1 : Aside0 (∃ n, n = x.f1.length) := ⟨⟨_, rfl⟩⟩
        obtain ⟨n1, hn1⟩ := HN1.out
        rw [← hn1] at HCf HL1 l1
        try rw [← hn1] at HT
        have Hn1 := Aside0.mk hn1
        have HLn : Aside0 ((l5.length + 1) * 16 ≤ 140737488355328 ∧ (l5.length + 1 + n1) * 16 ≤ 140737488355328 ∧ (l5.length + n1) * 16 ≤ 140737488355328) := ⟨by have := HO.out.2.2; have := HK.out; have := HL.out.1; have := HL1.out; omega⟩
        clear hn1 l1 HN1
        by_cases hz : n1 = 0
        · have hz1 : decide ((n1 : Int) = 0) = true := decide_eq_true (by omega)
          have hz2 : ((n1 : Int) == 0) = true := beq_iff_eq.2 (by omega)
          have hz3 : (n1 == 0) = true := beq_iff_eq.2 (by omega)
          have Hf1 : Aside0 (x.f1 = []) := ⟨List.eq_nil_of_length_eq_zero (by rw [← Hn1.out]; exact hz)⟩
          rw [if_pos hz] at HT
          clear hz
          cases sk
          · replace HT := Aside0.mk (HT.out.trans (show _ = l5 ++ [x.f0] by simp))
            go_wp2_with (first | (go_at_call 109; refine (conf_c b _).mono ?_; rintro e w1 ⟨rfl, hB⟩; have HO1 := Aside0.mk (HO.out.below hB); obtain ⟨d0, d1, _, d2, d3, _⟩ := HCf.out w1 HO1.out.2.1; have HD3 := Aside0.mk d3; have HZ1 := Aside0.mk HO1.out.2.1.size; clear hB d3) | ((with_reducible refine gate_builtin (b := .append) (xs := #[.tmp 28, .tmp 33]) rfl ?_); at_builtin; refine Kd.R_append Kd.string (w0 := w) w.heap.size rfl (.tmp 28) (.tmp 33) 25 9 (.string ⟨#[]⟩) 16 rfl Tryd.underlying25 infoS rfl (by decide) (by omega) (.slice B5 l5.length c5) l5 x.f0 [.string x.f0] (fun _ => True) (fun _ => False) rfl (by first | (go_simp; done) | (go_simp; rfl)) ?aP (fun _ hk => hk.elim) ?aF ?aO ?aB ?aS ?aL ?_; (case aP => exact rfl); (case aF => exact (fun _ _ => trivial)); (case aO => exact HO1.out.1); (case aB => exact HO1.out.2.1); (case aS => exact HZ1.out); (case aL => exact HLn.out.1); intro v6 w6 ho hb6 hg hat; obtain ⟨l6, hl6⟩ : ∃ l, l = l5 ++ [x.f0] := ⟨_, rfl⟩; rw [← hl6] at ho; have HL6 := Aside0.mk hl6; have HS6 : Aside0 (l6.length = l5.length + 1) := ⟨by rw [hl6]; simp⟩; clear hl6; obtain ⟨B6, c6, hv6⟩ := Kd.R_slice ho; have HO6 := Aside0.mk (And.intro ho hb6); obtain ⟨e0, e1, _, e2, e3, _⟩ := HCf.out w6 hb6; have HE3 := Aside0.mk e3; have HZ6 := Aside0.mk hb6.size; subst hv6; clear ho hb6 hg hat e3) | ((with_reducible refine gate_builtin (b := .append) (xs := #[.tmp 35, .tmp 39]) rfl ?_); at_builtin; refine Kd.R_append_row Value.string ByteArray.empty (h1 := fun _ => rfl) (w0 := w) w.heap.size rfl (.tmp 35) (.tmp 39) 25 9 (.string ⟨#[]⟩) 16 rfl Tryd.underlying25 infoS rfl (by decide) (.slice B6 l6.length c6) l6 x.f1 A1 n1 c1 (fun _ => True) rfl rfl (fun _ _ => trivial) HO6.out.1 HE3.out HO6.out.2 HZ6.out (by rw [HS6.out]; exact HLn.out.2.1) ?_; intro v7 w7 ho hb7 hg hat; have HO7 := Aside0.mk (And.intro ho hb7); clear ho hb7 hg hat))
            go_roundg k1
            case measure => omega
            case rel =>
              have hk := HK.out
              have hq := of_eq_true q1
              have e5 : (x15 + 1).toNat = x15.toNat + 1 := by omega
              refine ⟨x15 + 1, by rw [hwr], ⟨by omega⟩, ⟨?_⟩⟩
              rw [e5, HT.out]
              exact ⟨by have := HO7.out.1; rw [Hf1.out, List.append_nil, HL6.out] at this; exact this, HO7.out.2, by have := HO.out.2.2; rw [List.length_append]; show _ + 1 ≤ _; omega⟩

          · replace HT := Aside0.mk (HT.out.trans (show _ = l5 by simp))
            go_wp2_with (go_at_call 109; refine (conf_c b _).mono ?_; rintro e w1 ⟨rfl, hB⟩; have HO1 := Aside0.mk (HO.out.below hB); obtain ⟨d0, d1, _, d2, d3, _⟩ := HCf.out w1 HO1.out.2.1; have HD3 := Aside0.mk d3; have HZ1 := Aside0.mk HO1.out.2.1.size; clear hB d3)
            go_roundg k1
            case measure => omega
            case rel =>
              have hk := HK.out
              have hq := of_eq_true q1
              have e5 : (x15 + 1).toNat = x15.toNat + 1 := by omega
              refine ⟨x15 + 1, by rw [hwr], ⟨by omega⟩, ⟨?_⟩⟩
              rw [e5, HT.out]
              exact ⟨HO1.out.1, HO1.out.2.1, by have := HO.out.2.2; omega⟩

        · have hz1 : decide ((n1 : Int) = 0) = false := decide_eq_false (by omega)
          have hz2 : ((n1 : Int) == 0) = false := beq_eq_false_iff_ne.2 (by omega)
          have hz3 : (n1 == 0) = false := beq_eq_false_iff_ne.2 (by omega)
          rw [if_neg hz] at HT
          have HZn := Aside0.mk hz
          clear hz
          go_wp2_with (first | (go_at_call 109; refine (conf_c b _).mono ?_; rintro e w1 ⟨rfl, hB⟩; have HO1 := Aside0.mk (HO.out.below hB); obtain ⟨d0, d1, _, d2, d3, _⟩ := HCf.out w1 HO1.out.2.1; have HD3 := Aside0.mk d3; have HZ1 := Aside0.mk HO1.out.2.1.size; clear hB d3) | ((with_reducible refine gate_builtin (b := .append) (xs := #[.tmp 35, .tmp 39]) rfl ?_); at_builtin; refine Kd.R_append_row Value.string ByteArray.empty (h1 := fun _ => rfl) (w0 := w) w.heap.size rfl (.tmp 35) (.tmp 39) 25 9 (.string ⟨#[]⟩) 16 rfl Tryd.underlying25 infoS rfl (by decide) (.slice B5 l5.length c5) l5 x.f1 A1 n1 c1 (fun _ => True) rfl rfl (fun _ _ => trivial) HO1.out.1 HD3.out HO1.out.2.1 HZ1.out HLn.out.2.2 ?_; intro v7 w7 ho hb7 hg hat; have HO7 := Aside0.mk (And.intro ho hb7); clear ho hb7 hg hat))
          go_roundg k1
          case measure => omega
          case rel =>
            have hk := HK.out
            have hq := of_eq_true q1
            have e5 : (x15 + 1).toNat = x15.toNat + 1 := by omega
            refine ⟨x15 + 1, by rw [hwr], ⟨by omega⟩, ⟨?_⟩⟩
            rw [e5, HT.out]
            exact ⟨HO7.out.1, HO7.out.2, by have := HO.out.2.2; have := HL1.out; have := Hn1.out; rw [List.length_append]; omega⟩

      · have hxe : ps.length ≤ x15.toNat := by have := HK.out; omega
        have c2b0 : decide (x15 < (ps.length : Int)) = false := decide_eq_false hlt
        obtain ⟨l5, hl5⟩ : ∃ l, l = alL sk (ps.map (·.1)) := ⟨_, rfl⟩
        have HO9 : Aside0 (OuAt w wr u5 l5 120) := ⟨by
          have h := HO.out
          rw [List.take_of_length_le hxe, ← hl5] at h
          exact ⟨h.1, h.2.1, by have := h.2.2; have := HK.out; have := HL.out.1; omega⟩⟩
        have HL5 := Aside0.mk hl5
        clear hl5 HO hlt hxe
        obtain ⟨B5, c5, hv5⟩ := Kd.R_slice HO9.out.1
        subst hv5
        have HSt := Aside0.mk (strings_c _ l5 w.heap.size wr (Kd.own_of_R HO9.out.1) (by have := HO9.out.2.2; omega))
        have HBs : Aside0 (∀ k, (Value.slice B5 l5.length c5).ownBlock = some k → w.heap.size ≤ k) := ⟨fun k hk => Kd.R_base HO9.out.1 k hk⟩
        go_wp2_with (go_at_call 32; with_reducible refine HSt.out.mono ?_; rintro e w9 ⟨rfl, ho9, hg9⟩; have HO10 := Aside0.mk ho9; have HG10 := Aside0.mk hg9; clear ho9 hg9)
        go_ret
        exact ⟨_, rfl, by rw [← HL5.out]; exact Kd.R_of_own HO10.out (fun _ _ => trivial), HO9.out.2.1.grown HG10.out HO9.out.2.1.size HBs.out⟩
end Go.Proofs.YtibjlefenodhaaaDoorReg
