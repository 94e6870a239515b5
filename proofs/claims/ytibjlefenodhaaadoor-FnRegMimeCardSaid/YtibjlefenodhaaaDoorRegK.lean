/- chroma.LexerRegistry.MatchMimeType; impl.RegMime, RegNames, RegAliases, walked. -/
import Derived.Test.YtibjlefenodhaaaDoorRegM
set_option linter.unusedVariables false
set_option linter.unusedSimpArgs false
namespace Go.Proofs.YtibjlefenodhaaaDoorReg
open Go.RowKit Go.Proofs.YtibjlefenodhaaaDoorW.PrintWords Go.Proofs.YtibjlefenodhaaaDoor.T Go.Proofs.YtibjlefenodhaaaDoorFmt Go.Proofs.YtibjlefenodhaaaDoorMapI
theorem lit_noneX (W : World) : (W.alloc (.cells #[] 46)).ownsRow W.heap.size 46 1 (.slice (some ⟨W.heap.size, 0, none⟩) 0 0) (List.replicate 0 (0 : Nat)).length (encs lx (List.replicate 0 0)) :=
  ⟨rfl, .inr ⟨W.heap.size, 0, #[], rfl, Nat.le_refl _, blk_new _ _, Nat.le_refl _, by decide, rfl, rfl⟩⟩
/-- A row of one lexer, made while the registry is read. -/
def OmAt (w wr : World) (v : Value) (b m : Nat) : Prop := Kd.R kX 46 wr w.heap.size (fun _ => True) v (List.replicate m b) ∧ Below w.heap.size w wr
theorem OmAt.below {w wr w' : World} {v : Value} {b m : Nat} (h : OmAt w wr v b m) (hB : Below wr.heap.size wr w') : OmAt w w' v b m := ⟨Kd.R_below h.1 hB, below_step h.2 hB⟩
theorem OmAt.ma {w wr : World} {v : Value} {b m base : Nat} {x : I} (h : OmAt w wr v b m) (hm : 1 ≤ m) (hC : CfgAt w base b x) : ∃ g c, v = .slice (some ⟨g, 0, none⟩) m c ∧ MA wr g m b := by
  have ho := Kd.own_of_R h.1
  rw [List.length_replicate] at ho
  rcases ho.2 with ⟨_, h0⟩ | ⟨g, cap, cur, rfl, hb, hh, hnc, hcm, hcs, ht⟩
  · omega
  · obtain ⟨v1, v2, v3, v4, p, h1, _⟩ := hC
    have hb1 := (h.2.block _ (blk_lt h1)).trans h1
    refine ⟨g, cap, rfl, ⟨fun j hj => ?_, blk_lt hh, ⟨p, (blk_cell hb1 9).trans rfl⟩, blk_lt hb1⟩⟩
    have := World.ownsRow.cellAt ho j (by omega)
    rw [this]
    simp [encs, List.getElem?_replicate, hj]
set_option maxRecDepth 100000 in
set_option maxHeartbeats 8000000 in
theorem mime_c (n0 cN cA : Nat) (vL : Value) (fN fA : ByteArray → Option Value) (ps : List (I × Nat)) (s : ByteArray) (k : Nat) (w : World) (hg : Rg w n0 cN cA vL fN fA (ps.map (·.2))) (hC : ∀ p ∈ ps, CfgAt w (n0 + 3) p.2 p.1) (hl : ps.length ≤ 20) (ha : ∀ p ∈ ps, p.1.f4.length ≤ 5)
    (hk : k < ps.length) (hs : s ∈ ps[k].1.f4) (hu : ∀ i (hi : i < ps.length), s ∈ ps[i].1.f4 → i = k) :
    Calls Tryd.prog 23 #[.pointer (some ⟨n0 + 2, 0, none⟩), .string s] w fun e w' => e = .returned (lx ps[k].2) ∧ Below w.heap.size w w' := by
  have hm := meth_conf
  have hu2 := Tryd.underlying70
  have hu3 := Tryd.underlying58
  have hu4 := Tryd.underlying73
  obtain ⟨A, c, hvL, hcl, hLC⟩ := Kd.R_reads hg.hL
  have hps : (ps.map (·.2)).length = ps.length := List.length_map _
  have r0 : w.cell? ⟨n0 + 2, 0, none⟩ = some (.slice A ps.length c) := by have := (blk_cell hg.hr 0).trans rfl; rw [hvL, hps] at this; exact this
  have rl := blk_lt hg.hr
  rw [hps] at hLC
  have HLC := Aside0.mk hLC
  have HC := Aside0.mk hC
  have HL := Aside0.mk (And.intro hl ha)
  have HU := Aside0.mk hu
  have HK0 := Aside0.mk hk
  obtain ⟨bk, hbk⟩ : ∃ b, b = ps[k].2 := ⟨_, rfl⟩
  rw [← hbk]
  have HBk : Aside0 (ps[k].1.f4.length ≤ 5 ∧ CfgAt w (n0 + 3) bk ps[k].1 ∧ s ∈ ps[k].1.f4 ∧ bk = ps[k].2) := ⟨ha _ (List.getElem_mem hk), by rw [hbk]; exact hC _ (List.getElem_mem hk), hs, hbk⟩
  clear hg hC hl ha hvL hcl hLC hps hu hs hbk
  go_enter Tryd.func23, Tryd.ntmps23
  go_wp2
  clear r0 rl
  go_loopg [5, 16] (ps.length + 1) (fun kq v5 v16 wr => ∃ (x16 : Int) (m : Nat), v16 = .int .i64 x16 ∧ Aside0 (0 ≤ x16 ∧ x16 ≤ ps.length ∧ ps.length - x16.toNat < kq) ∧ Aside0 (OmAt w wr v5 bk m) ∧ Aside0 ((x16.toNat ≤ k → m = 0) ∧ (k < x16.toNat → 1 ≤ m ∧ m ≤ 5)))
  case atStart => exact ⟨0, 0, rfl, ⟨by omega, by omega, by simp⟩, ⟨Kd.R_of_own (lit_noneX w) (fun _ _ => trivial), (Below.refl _ _).alloc (Nat.le_refl _) _⟩, ⟨fun _ => rfl, fun h => by simp at h⟩⟩
  case round =>
    obtain ⟨x16, m, rfl, HK, HO, HM⟩ := hrel
    cases gk with
    | zero => have := HK.out; omega
    | succ k1 =>
      by_cases hlt : x16 < (ps.length : Int)
      · have hx0 : 0 ≤ x16 := HK.out.1
        have c2b0 : decide (x16 < (ps.length : Int)) = true := decide_eq_true hlt
        obtain ⟨ad, e, hy0⟩ := at_kX (Kd.C_below HLC.out HO.out.2) x16 hx0 hlt
        cases e
        have hla := World.block_lt_of_cell? wr _ hy0
        have hwr : wrap64 (x16 + 1) = x16 + 1 := by have := HL.out.1; unfold wrap64; omega
        have p1 := eq_true hx0
        have q1 := eq_true hlt
        have h4 : x16.toNat < ps.length := by omega
        have h5 : (ps.map (·.2)).getD x16.toNat 0 = ps[x16.toNat].2 := by rw [List.getD_eq_getElem?_getD, List.getElem?_map, List.getElem?_eq_getElem h4]; rfl
        rw [h5] at hy0
        have HUi : Aside0 (s ∈ ps[x16.toNat].1.f4 → x16.toNat = k) := ⟨HU.out _ h4⟩
        have HIk : Aside0 (x16.toNat = k → ps[x16.toNat].2 = bk ∧ s ∈ ps[x16.toNat].1.f4) := ⟨fun e => by subst e; exact ⟨HBk.out.2.2.2.symm, HBk.out.2.2.1⟩⟩
        obtain ⟨A1, c1, A4, c4, _, l4, hcf⟩ := cfg_rd (HC.out _ (List.getElem_mem h4))
        have HCf := Aside0.mk hcf
        have HL1 : Aside0 (ps[x16.toNat].1.f4.length ≤ 5) := ⟨HL.out.2 _ (List.getElem_mem h4)⟩
        clear h5 hcf hx0 hlt
        generalize ps[x16.toNat] = p at *
        clear h4
        obtain ⟨x, b⟩ := p
        simp only at hy0 HUi HIk HCf HL1 l4
        have HN1 : Aside0 (∃ n, n = x.f4.length) := ⟨⟨_, rfl⟩⟩
        obtain ⟨n4, hn4⟩ := HN1.out
        rw [← hn4] at HCf HL1 l4
        have Hn4 := Aside0.mk hn4
        have hn45 : n4 ≤ 5 := HL1.out
        clear hn4 l4 HN1
        go_wp2_with (go_at_call 109; refine (conf_c b _).mono ?_; rintro e w1 ⟨rfl, hB⟩; have HO1 := Aside0.mk (HO.out.below hB); obtain ⟨_, _, d4, d5, _, d6⟩ := HCf.out w1 HO1.out.2; have HD6 := Aside0.mk d6; clear hB d6)
        clear hy0 hla d4 d5
        go_loopg [5, 26] (n4 + 1) (fun kp v5 v26 ws => ∃ (x26 : Int) (q : Nat), v26 = .int .i64 x26 ∧ Aside0 (0 ≤ x26 ∧ x26 ≤ n4 ∧ n4 - x26.toNat < kp) ∧ Aside0 (OmAt w ws v5 bk q) ∧ Aside0 ((x16.toNat < k → q = 0) ∧ (k < x16.toNat → 1 ≤ q ∧ q ≤ 5) ∧ (x16.toNat = k → q ≤ x26.toNat ∧ (s ∈ x.f4.take x26.toNat → 1 ≤ q))))
        case atStart => exact ⟨0, m, rfl, ⟨by omega, by omega, by simp⟩, HO1, ⟨fun h => HM.out.1 (by omega), HM.out.2, fun h => ⟨by have := HM.out.1 (by omega); omega, fun h => by simp at h⟩⟩⟩
        case round =>
          obtain ⟨x26, q, rfl, HK2, HO2, HM2⟩ := hrel
          cases gk with
          | zero => have := HK2.out; omega
          | succ k2 =>
            obtain ⟨M, hM⟩ : ∃ M, M = List.replicate q bk := ⟨_, rfl⟩
            have HMq : Aside0 (M = List.replicate q bk ∧ M.length = q) := ⟨hM, by rw [hM, List.length_replicate]⟩
            have HOr : Aside0 (Kd.R kX 46 wr w.heap.size (fun _ => True) u5 M) := ⟨by rw [hM]; exact HO2.out.1⟩
            clear hM
            obtain ⟨B5, c5, hv5⟩ := Kd.R_slice HOr.out
            subst hv5
            have HBs : Aside0 (w.heap.size ≤ wr.heap.size ∧ (M.length + 1) * 16 ≤ 140737488355328) := ⟨HO2.out.2.size, by
              have h := HM2.out
              have h2 := HMq.out.2
              have h3 := HK2.out
              rcases Nat.lt_trichotomy x16.toNat k with e | e | e
              · have := h.1 e; omega
              · have := (h.2.2 e).1; omega
              · have := (h.2.1 e).2; omega⟩
            by_cases hlt2 : x26 < (n4 : Int)
            · have hy0 : 0 ≤ x26 := HK2.out.1
              have e1 : decide (x26 < (n4 : Int)) = true := decide_eq_true hlt2
              have HD6r : Aside0 (Kd.string.C wr A4 n4 x.f4) := ⟨(HCf.out wr HO2.out.2).2.2.2.2.2⟩
              obtain ⟨ad2, e, hz0⟩ := Kd.at_string HD6r.out x26 hy0 hlt2
              cases e
              have hlz := World.block_lt_of_cell? wr _ hz0
              have hwr2 : wrap64 (x26 + 1) = x26 + 1 := by unfold wrap64; omega
              have p2 := eq_true hy0
              have q2 := eq_true hlt2
              have h4 : x26.toNat < x.f4.length := by have := Hn4.out; omega
              have h5 : rdOf ByteArray.empty x.f4 x26 = x.f4[x26.toNat] := by simp [rdOf, List.getD_eq_getElem?_getD, h4]
              have HT3 : Aside0 (x.f4.take (x26.toNat + 1) = x.f4.take x26.toNat ++ [rdOf ByteArray.empty x.f4 x26] ∧ rdOf ByteArray.empty x.f4 x26 ∈ x.f4) := ⟨by rw [h5]; exact ⟨List.take_succ_eq_append_getElem h4, List.getElem_mem h4⟩⟩
              clear h4 h5
              generalize rdOf ByteArray.empty x.f4 x26 = t at *
              clear hy0 hlt2
              by_cases hst : s = t
              · have hb3 : (s.toList == t.toList) = true := by rw [hst]; exact beq_self_eq_true _
                have HIe : Aside0 (x16.toNat = k) := ⟨HUi.out (by rw [hst]; exact HT3.out.2)⟩
                have Hbb : Aside0 (b = bk) := ⟨(HIk.out HIe.out).1⟩
                clear hst
                go_wp2_with ((with_reducible refine gate_builtin (b := .append) (xs := #[.tmp 33, .tmp 35]) rfl ?_); at_builtin; refine Kd.R_append kX (w0 := w) w.heap.size rfl (.tmp 33) (.tmp 35) 73 46 .nilIface 16 rfl Tryd.underlying73 infoX rfl (by decide) (by omega) (.slice B5 M.length c5) M b [lx b] (fun _ => True) (fun _ => False) rfl (by first | (go_simp; done) | (go_simp; rfl)) ?aP (fun _ hk => hk.elim) ?aF ?aO ?aB ?aS ?aL ?_; (case aP => exact rfl); (case aF => exact (fun _ _ => trivial)); (case aO => exact HOr.out); (case aB => exact HO2.out.2); (case aS => exact HBs.out.1); (case aL => exact HBs.out.2); intro v6 w6 ho hb6 hg hat; have HO6 := Aside0.mk (And.intro ho hb6); clear ho hb6 hg hat)
                go_roundg k2
                case measure => omega
                case rel =>
                  have hk := HK2.out
                  have hq := of_eq_true q2
                  have e5 : (x26 + 1).toNat = x26.toNat + 1 := by omega
                  refine ⟨x26 + 1, q + 1, by first | rfl | rw [hwr2], ⟨by omega⟩, ⟨?_, HO6.out.2⟩, ⟨fun h => ?_, fun h => ?_, fun h => ⟨?_, fun _ => by omega⟩⟩⟩
                  · have h := HO6.out.1
                    rw [HMq.out.1, Hbb.out] at h
                    rw [List.replicate_succ']
                    exact h
                  · have := HIe.out; omega
                  · have := HIe.out; omega
                  · have := (HM2.out.2.2 h).1; omega
              · have hb3 : (s.toList == t.toList) = false := beq_eq_false_iff_ne.2 (fun e => hst (toList_inj e))
                have HST := Aside0.mk hst
                clear hst
                go_wp2
                go_roundg k2
                case measure => omega
                case rel =>
                  have hk := HK2.out
                  have hq := of_eq_true q2
                  have e5 : (x26 + 1).toNat = x26.toNat + 1 := by omega
                  refine ⟨x26 + 1, q, by first | rfl | rw [hwr2], ⟨by omega⟩, ⟨by rw [← HMq.out.1]; exact HOr.out, HO2.out.2⟩, ⟨HM2.out.1, HM2.out.2.1, fun h => ⟨?_, fun h2 => ?_⟩⟩⟩
                  · have := (HM2.out.2.2 h).1; omega
                  · rw [e5, HT3.out.1, List.mem_append, List.mem_singleton] at h2
                    rcases h2 with h2 | h2
                    · exact (HM2.out.2.2 h).2 h2
                    · exact absurd h2 HST.out
            · have hxe : x26.toNat = n4 := by have := HK2.out; omega
              have e1 : decide (x26 < (n4 : Int)) = false := decide_eq_false hlt2
              have HTk : Aside0 (x.f4.take x26.toNat = x.f4) := ⟨by rw [hxe]; exact List.take_of_length_le (by have := Hn4.out; omega)⟩
              have HXe := Aside0.mk hxe
              clear hlt2 hxe
              go_wp2
              go_roundg k1
              case measure => omega
              case rel =>
                have hk := HK.out
                have hq := of_eq_true q1
                have e5 : (x16 + 1).toNat = x16.toNat + 1 := by omega
                refine ⟨x16 + 1, q, by first | rfl | rw [hwr], ⟨by omega⟩, ⟨by rw [← HMq.out.1]; exact HOr.out, HO2.out.2⟩, ⟨fun h => ?_, fun h => ?_⟩⟩
                · rw [e5] at h
                  exact HM2.out.1 (by omega)
                · rw [e5] at h
                  rcases Nat.lt_or_ge k x16.toNat with e | e
                  · exact HM2.out.2.1 e
                  · have e2 : x16.toNat = k := by omega
                    have h3 := HM2.out.2.2 e2
                    exact ⟨h3.2 (by rw [HTk.out]; exact (HIk.out e2).2), by have := HXe.out; omega⟩
      · have hxe : ps.length ≤ x16.toNat := by have := HK.out; omega
        have c2b0 : decide (x16 < (ps.length : Int)) = false := decide_eq_false hlt
        have hm2 := HM.out.2 (by have := HK0.out; omega)
        obtain ⟨g, c9, hv, hma⟩ := HO.out.ma hm2.1 HBk.out.2.1
        subst hv
        have HMA := Aside0.mk hma
        have n1 : (m : Int) ≠ 0 := by omega
        have n2 : ((m : Int) != 0) = true := bne_iff_ne.2 n1
        have n3 : (m != 0) = true := bne_iff_ne.2 (by omega)
        have n4 : decide ((m : Int) = 0) = false := decide_eq_false n1
        have n5 : (0 : Int) < (m : Int) := by omega
        have n6 : 0 < m := by omega
        have Hm12 : Aside0 (m ≤ 12) := ⟨by omega⟩
        clear n1 hm2 hma hlt hxe
        go_wp2_with (go_at_call 33; refine (sort_c g m c9 bk Hm12.out _ HMA.out).mono ?_; rintro e w9 ⟨rfl, hB⟩; have hc0 := (HMA.out.below hB).r 0 n6; have hg9 := (HMA.out.below hB).g; have HB9 := Aside0.mk (below_step HO.out.2 hB); clear hB)
        go_ret
        exact ⟨rfl, HB9.out⟩
set_option maxRecDepth 100000 in
set_option maxHeartbeats 4000000 in
theorem regmime_c (A : Option Addr) (c : Nat) (xs : List I) (s : ByteArray) (w : World) (hC : Kd.C k28 w A xs.length xs) (hc : xs.length ≤ c) (hok : regOK xs = true) (k : Nat) (hk : k < xs.length) (hs : s ∈ xs[k].f4) (hu : ∀ i (hi : i < xs.length), s ∈ xs[i].f4 → i = k) :
    Calls Tryd.prog 15 #[.slice A xs.length c, .string s] w fun e w' => e = .returned (.int .i64 (k : Int)) ∧ Below w.heap.size w w' := by
  have hF := regOK_facts hok
  have h1 := registry_c A c xs w hC hc hF.1 (fun x hx => (hF.2.1 x hx).ok) (regOK_nd hok)
  have key : ∀ (w1 : World) (vP : Value) (ps : List (I × Nat)), RS w w1 vP ps → ps.map (·.1) = xs → ∃ b, Aside0 (∀ B d n, vP = .slice B n d → (∀ w2, Below w1.heap.size w1 w2 → Calls Tryd.prog 19 #[.slice B n d, lx b] w2 fun e w' => e = .returned (.int .i64 (k : Int)) ∧ Below w2.heap.size w2 w')) ∧ Aside0 (Calls Tryd.prog 23 #[.pointer (some ⟨w.heap.size + 2, 0, none⟩), .string s] w1 fun e w' => e = .returned (lx b) ∧ Below w1.heap.size w1 w') := by
    intro w1 vP ps hR hps
    have hkp : k < ps.length := by rw [← hps, List.length_map] at hk; exact hk
    have hpl : ps.length = xs.length := by rw [← hps, List.length_map]
    have hxi : ∀ i (hi : i < ps.length), ps[i].1 = xs[i]'(by omega) := fun i hi => by subst hps; simp
    refine ⟨ps[k].2, ⟨fun B d n hv w2 hB => ?_⟩, ⟨?_⟩⟩
    · have hix := ixL_at (ps.map (·.2)) k 0 (by rw [List.length_map]; exact hkp) hR.nd
      have hbk : ps[k].2 = (ps.map (·.2))[k]'(by rw [List.length_map]; exact hkp) := by simp
      rw [← hbk] at hix
      have hcf : ∀ x, x ∈ ps.map (·.2) ∨ x = ps[k].2 → ∃ cs t, w2.heap[x]? = some (.cells cs t (0, 0)) := fun x hx => by
        have hx' : x ∈ ps.map (·.2) := by
          rcases hx with h | rfl
          · exact h
          · exact List.mem_map.2 ⟨ps[k], List.getElem_mem hkp, rfl⟩
        obtain ⟨p, hp, rfl⟩ := List.mem_map.1 hx'
        obtain ⟨cs, h, _⟩ := ((hR.hC p hp).below hB).cfg
        exact ⟨cs, _, h⟩
      obtain ⟨A', c', e, hc', hC'⟩ := Kd.R_reads hR.hP
      clear hbk
      generalize ps.map (·.2) = bs at *
      generalize ps[k].2 = b at *
      rw [hv] at e
      injection e with e1 e2 e3
      subst e1; subst e2; subst e3
      have h := which_c B d bs b w2 (Kd.C_below hC' hB) hc' hcf
      rw [hix] at h
      exact h
    · obtain ⟨vL, cN, cA, hg, _⟩ := hR.hR
      exact mime_c w.heap.size cN cA vL _ _ ps s k w1 hg hR.hC (by omega) (fun p hp => by
        obtain ⟨i, hi, rfl⟩ := List.getElem_of_mem hp
        rw [hxi i hi]
        exact (hF.2.1 _ (List.getElem_mem _)).n4) hkp (by rw [hxi k hkp]; exact hs) (fun i hi h => by rw [hxi i hi] at h; exact hu i _ h)
  have H1 := Aside0.mk h1
  have HK := Aside0.mk key
  clear h1 key hF hC hc hok hs hu
  go_enter Tryd.func15, Tryd.ntmps15
  go_wp2_with (first | (go_at_call 18; with_reducible refine H1.out.mono ?_; rintro e w1 ⟨vP, ps, rfl, hR, hps⟩; obtain ⟨b, hw, hgt⟩ := HK.out w1 vP ps hR hps; obtain ⟨B, d, hv⟩ := Kd.R_slice hR.hP; generalize (ps.map (·.2)).length = n at hv; have HB1 := Aside0.mk hR.hB; have HW := Aside0.mk (hw.out B d _ hv); subst hv; clear hR hps hw) | (go_at_call 23; with_reducible refine hgt.out.mono ?_; rintro e w2 ⟨rfl, hB⟩; have HB2 := Aside0.mk hB; clear hB) | (go_at_call 19; with_reducible refine (HW.out w2 HB2.out).mono ?_; rintro e w3 ⟨rfl, hB⟩; have HB3 := Aside0.mk hB; clear hB))
  go_ret
  exact ⟨rfl, below_step HB1.out (below_step HB2.out HB3.out)⟩
set_option maxRecDepth 100000 in
set_option maxHeartbeats 4000000 in
theorem regnames_c (A : Option Addr) (c : Nat) (xs : List I) (al : Bool) (w : World) (hC : Kd.C k28 w A xs.length xs) (hc : xs.length ≤ c) (hok : regOK xs = true) :
    Calls Tryd.prog 13 #[.slice A xs.length c, .bool al] w fun e w' => ∃ v, e = .returned v ∧ Kd.string.R 9 w' w.heap.size (fun _ => True) v (msB (nmL al xs)) ∧ Below w.heap.size w w' := by
  have hF := regOK_facts hok
  have h1 := registry_c A c xs w hC hc hF.1 (fun x hx => (hF.2.1 x hx).ok) (regOK_nd hok)
  have key : ∀ (w1 : World) (vP : Value) (ps : List (I × Nat)), RS w w1 vP ps → ps.map (·.1) = xs → Aside0 (Calls Tryd.prog 21 #[.pointer (some ⟨w.heap.size + 2, 0, none⟩), .bool al] w1 fun e w' => ∃ v, e = .returned v ∧ Kd.string.R 9 w' w1.heap.size (fun _ => True) v (msB (nmL al xs)) ∧ Below w1.heap.size w1 w') := by
    intro w1 vP ps hR hps
    have hpl : ps.length = xs.length := by rw [← hps, List.length_map]
    have hxi : ∀ i (hi : i < ps.length), ps[i].1 = xs[i]'(by omega) := fun i hi => by subst hps; simp
    obtain ⟨vL, cN, cA, hg, _⟩ := hR.hR
    rw [← hps]
    exact ⟨names_c w.heap.size cN cA vL _ _ ps al w1 hg hR.hC (by omega) (fun p hp => by
        obtain ⟨i, hi, rfl⟩ := List.getElem_of_mem hp
        rw [hxi i hi]
        exact (hF.2.1 _ (List.getElem_mem _)).n1)⟩
  have H1 := Aside0.mk h1
  have HK := Aside0.mk key
  clear h1 key hF hC hc hok
  go_enter Tryd.func13, Tryd.ntmps13
  go_wp2_with (first | (go_at_call 18; with_reducible refine H1.out.mono ?_; rintro e w1 ⟨vP, ps, rfl, hR, hps⟩; have hgt := HK.out w1 vP ps hR hps; obtain ⟨B, d, hv⟩ := Kd.R_slice hR.hP; generalize (ps.map (·.2)).length = n at hv; have HB1 := Aside0.mk hR.hB; subst hv; clear hR hps) | (go_at_call 21; with_reducible refine hgt.out.mono ?_; rintro e w2 ⟨v, rfl, hRv, hB⟩; have HB2 := Aside0.mk (And.intro hRv hB); clear hRv hB))
  go_ret
  exact ⟨v, rfl, Kd.R_lower HB2.out.1 HB1.out.size, below_step HB1.out HB2.out.2⟩
set_option maxRecDepth 100000 in
set_option maxHeartbeats 4000000 in
theorem regaliases_c (A : Option Addr) (c : Nat) (xs : List I) (sk : Bool) (w : World) (hC : Kd.C k28 w A xs.length xs) (hc : xs.length ≤ c) (hok : regOK xs = true) :
    Calls Tryd.prog 14 #[.slice A xs.length c, .bool sk] w fun e w' => ∃ v, e = .returned v ∧ Kd.string.R 9 w' w.heap.size (fun _ => True) v (msB (alL sk xs)) ∧ Below w.heap.size w w' := by
  have hF := regOK_facts hok
  have h1 := registry_c A c xs w hC hc hF.1 (fun x hx => (hF.2.1 x hx).ok) (regOK_nd hok)
  have key : ∀ (w1 : World) (vP : Value) (ps : List (I × Nat)), RS w w1 vP ps → ps.map (·.1) = xs → Aside0 (Calls Tryd.prog 22 #[.pointer (some ⟨w.heap.size + 2, 0, none⟩), .bool sk] w1 fun e w' => ∃ v, e = .returned v ∧ Kd.string.R 9 w' w1.heap.size (fun _ => True) v (msB (alL sk xs)) ∧ Below w1.heap.size w1 w') := by
    intro w1 vP ps hR hps
    have hpl : ps.length = xs.length := by rw [← hps, List.length_map]
    have hxi : ∀ i (hi : i < ps.length), ps[i].1 = xs[i]'(by omega) := fun i hi => by subst hps; simp
    obtain ⟨vL, cN, cA, hg, _⟩ := hR.hR
    rw [← hps]
    exact ⟨aliases_c w.heap.size cN cA vL _ _ ps sk w1 hg hR.hC (by omega) (fun p hp => by
        obtain ⟨i, hi, rfl⟩ := List.getElem_of_mem hp
        rw [hxi i hi]
        exact (hF.2.1 _ (List.getElem_mem _)).n1)⟩
  have H1 := Aside0.mk h1
  have HK := Aside0.mk key
  clear h1 key hF hC hc hok
  go_enter Tryd.func14, Tryd.ntmps14
  go_wp2_with (first | (go_at_call 18; with_reducible refine H1.out.mono ?_; rintro e w1 ⟨vP, ps, rfl, hR, hps⟩; have hgt := HK.out w1 vP ps hR hps; obtain ⟨B, d, hv⟩ := Kd.R_slice hR.hP; generalize (ps.map (·.2)).length = n at hv; have HB1 := Aside0.mk hR.hB; subst hv; clear hR hps) | (go_at_call 22; with_reducible refine hgt.out.mono ?_; rintro e w2 ⟨v, rfl, hRv, hB⟩; have HB2 := Aside0.mk (And.intro hRv hB); clear hRv hB))
  go_ret
  exact ⟨v, rfl, Kd.R_lower HB2.out.1 HB1.out.size, below_step HB1.out HB2.out.2⟩
end Go.Proofs.YtibjlefenodhaaaDoorReg
