/- laws.FnRegMime, walked: true at every input. -/
import Derived.Test.YtibjlefenodhaaaDoorRpu
set_option linter.unusedVariables false
set_option linter.unusedSimpArgs false
namespace Go.Proofs.YtibjlefenodhaaaDoor.Pure
open Go.RowKit Go.Proofs.YtibjlefenodhaaaDoorEvt Go.Proofs.YtibjlefenodhaaaDoor.M Go.Proofs.YtibjlefenodhaaaDoorW.PrintWords
open Go.Proofs.YtibjlefenodhaaaDoorReg (regOK regOK_facts nms FitI regmime_c toList_inj)
/-- An element of a row of infos, by its cells. -/
theorem at_I {w : World} {A : Option Addr} {ln : Nat} {L : List (S28)} (h : Kd.C k28 w A ln L) (i : Nat) (hi : i < ln) (hl : i < L.length) :
    ∃ ad A1 c1 A2 c2 A3 c3 A4 c4, A = some ad ∧ w.cell? (ad.add (i * 6)) = some (.string L[i].f0) ∧ w.cell? ⟨(ad.add (i * 6)).block, (ad.add (i * 6)).off + 1, none⟩ = some (.slice A1 L[i].f1.length c1) ∧ w.cell? ⟨(ad.add (i * 6)).block, (ad.add (i * 6)).off + 2, none⟩ = some (.slice A2 L[i].f2.length c2) ∧ w.cell? ⟨(ad.add (i * 6)).block, (ad.add (i * 6)).off + 3, none⟩ = some (.slice A3 L[i].f3.length c3) ∧ w.cell? ⟨(ad.add (i * 6)).block, (ad.add (i * 6)).off + 4, none⟩ = some (.slice A4 L[i].f4.length c4) ∧ w.cell? ⟨(ad.add (i * 6)).block, (ad.add (i * 6)).off + 5, none⟩ = some (.int .u64 L[i].f5) ∧ L[i].f4.length ≤ c4 ∧ Kd.string.C w A4 L[i].f4.length L[i].f4 ∧ ad.block < w.heap.size := by
  obtain ⟨ad, A1, c1, A2, c2, A3, c3, A4, c4, e, h0, h1, h2, h3, h4, h5, _, _, _, _, _, _, l4, g4⟩ := at_T28 h (i : Int) (by omega) (by omega)
  rw [rdI L i hl, Int.toNat_natCast] at *
  refine ⟨ad, A1, c1, A2, c2, A3, c3, A4, c4, e, h0, h1, h2, h3, h4, h5, l4, g4, ?_⟩
  have := World.block_lt_of_cell? w _ h0
  rwa [add_block] at this
set_option maxRecDepth 100000 in
set_option maxHeartbeats 8000000 in
theorem mime_law (A : Option Addr) (c : Nat) (L : List (S28)) (a1 : Int) (w : World) (hC : Kd.C k28 w A L.length L) (hc : L.length ≤ c) (hV : Go.Proofs.YtibjlefenodhaaaDoorFmt.VarsOK w) (hs : ∀ x ∈ L, x.f0.size ≤ 9223372036854775807 ∧ ∀ s ∈ x.f1, s.size ≤ 9223372036854775807) (w1 : 0 ≤ a1 ∧ a1 ≤ 255) :
    Calls Tryd.prog 5 #[.slice A L.length c, .int .u8 a1] w fun e w' => e = .returned (.bool true) ∧ Below w.heap.size w w' := by
  have hu := Tryd.underlying28
  obtain ⟨b, hb, hbl⟩ := fits18 L
  obtain ⟨k0, hk0⟩ := hb.get
  have F1 := Aside0.mk (laws_zzFits18.calls k0 A c L b w hC hc hk0)
  cases b with
  | false =>
    clear hb hbl hk0 hC hc hs w1
    go_enter Tryd.func5, Tryd.ntmps5
    go_wp2_with (go_at_call 6; refine F1.out.mono ?_; rintro e w2 ⟨rfl, hB⟩; have HB2 := Aside0.mk hB; clear hB)
    go_ret
    exact ⟨rfl, HB2.out⟩
  | true =>
    have hr := reg_f L (hbl rfl) hs
    have F2 : Aside0 (∀ w2, Below w.heap.size w w2 → Calls Tryd.prog 7 #[.slice A L.length c] w2 fun e w' => e = .returned (.bool (regOK (L.map tI))) ∧ Below w2.heap.size w2 w') := ⟨fun w2 hB => laws_registered.calls A c L _ w2 (Kd.C_below hC hB) hc hr⟩
    clear hr
    cases hok : regOK (L.map tI) with
    | false =>
      rw [hok] at F2
      clear hok hb hbl hk0 hC hc hs w1
      go_enter Tryd.func5, Tryd.ntmps5
      go_wp2_with (first | (go_at_call 6; refine F1.out.mono ?_; rintro e w2 ⟨rfl, hB⟩; have HB2 := Aside0.mk hB; clear hB) | (go_at_call 7; refine (F2.out w2 HB2.out).mono ?_; rintro e w3 ⟨rfl, hB⟩; have HB3 := Aside0.mk (below_step HB2.out hB); clear hB))
      go_ret
      exact ⟨rfl, HB3.out⟩
    | true =>
      rw [hok] at F2
      have hF := regOK_facts hok
      have hlen : (L.map tI).length = L.length := List.length_map _
      have F3 : Aside0 (∀ (n : Nat) (hn : n < L.length) (s : ByteArray), s ∈ L[n].f4 → (∀ i (hi : i < L.length), s ∈ L[i].f4 → i = n) → ∀ w2, Below w.heap.size w w2 → Calls Tryd.prog 15 #[.slice A L.length c, .string s] w2 fun e w' => e = .returned (.int .i64 (n : Int)) ∧ Below w2.heap.size w2 w') := ⟨fun n hn s h1 h2 w2 hB => by
        have h := regmime_c A c (L.map tI) s w2 (impl_RegGet.infos (Kd.C_below hC hB)) (by rw [hlen]; exact hc) hok n (by rw [hlen]; exact hn) (by rw [List.getElem_map]; exact h1) (fun i hi h => h2 i (by rw [hlen] at hi; exact hi) (by rw [List.getElem_map] at h; exact h))
        rw [hlen] at h
        exact h⟩
      have F4 : Aside0 (∀ w2, Below w.heap.size w w2 → Calls Tryd.prog 10 #[] w2 fun e w' => e = .returned (.bool true) ∧ Below w2.heap.size w2 w') := ⟨fun w2 hB => laws_found.calls true w2 (hV.below hB) found_f⟩
      have HC := Aside0.mk (And.intro hC hc)
      have HFit : Aside0 (L.length ≤ 20 ∧ ∀ i (hi : i < L.length), L[i].f4.length ≤ 5) := ⟨by rw [hlen] at hF; exact hF.1, fun i hi => (hF.2.1 (tI L[i]) (List.mem_map.2 ⟨L[i], List.getElem_mem hi, rfl⟩)).n4⟩
      clear hok hb hbl hk0 hC hc hs hF hlen hV
      obtain ⟨ln, hln⟩ : ∃ ln, ln = L.length := ⟨_, rfl⟩
      have HLn := Aside0.mk hln
      have hl20 : ln ≤ 20 := by rw [hln]; exact HFit.out.1
      rw [← hln]
      rw [← hln] at F1 F2
      have F3' : Aside0 (∀ (n : Nat) (hn : n < L.length) (s : ByteArray), s ∈ L[n].f4 → (∀ i (hi : i < L.length), s ∈ L[i].f4 → i = n) → ∀ w2, Below w.heap.size w w2 → Calls Tryd.prog 15 #[.slice A ln c, .string s] w2 fun e w' => e = .returned (.int .i64 (n : Int)) ∧ Below w2.heap.size w2 w') := ⟨fun n hn s h1 h2 w2 hB => by rw [hln]; exact F3.out n hn s h1 h2 w2 hB⟩
      clear F3
      have HC' : Aside0 (Kd.C k28 w A ln L) := ⟨by rw [hln]; exact HC.out.1⟩
      clear HC hln
      by_cases h0 : ln = 0
      · have z1 : ((ln : Int) == 0) = true := beq_iff_eq.2 (by omega)
        have z2 : (ln == 0) = true := beq_iff_eq.2 h0
        clear h0 w1
        go_enter Tryd.func5, Tryd.ntmps5
        go_wp2_with (first | (go_at_call 6; refine F1.out.mono ?_; rintro e w2 ⟨rfl, hB⟩; have HB2 := Aside0.mk hB; clear hB) | (go_at_call 7; refine (F2.out w2 HB2.out).mono ?_; rintro e w3 ⟨rfl, hB⟩; have HB3 := Aside0.mk (below_step HB2.out hB); clear hB))
        go_ret
        exact ⟨rfl, HB3.out⟩
      · have z1 : ((ln : Int) == 0) = false := beq_eq_false_iff_ne.2 (by omega)
        have z2 : (ln == 0) = false := beq_eq_false_iff_ne.2 h0
        have z3 : ¬ (ln : Int) = 0 := by omega
        have e1 : wrap64 a1 = a1 := wrap_in (by omega) (by omega)
        obtain ⟨n, hn, hnl⟩ : ∃ n : Nat, Int.tmod (a1) (ln : Int) = (n : Int) ∧ n < ln := by
          rw [Int.tmod_eq_emod_of_nonneg w1.1]
          refine ⟨(a1 % (ln : Int)).toNat, ?_, ?_⟩
          · have := Int.emod_nonneg a1 z3; omega
          · have := Int.emod_nonneg a1 z3
            have := Int.emod_lt_of_pos a1 (show (0 : Int) < (ln : Int) by omega); omega
        have hnl' : n < L.length := by rw [← HLn.out]; exact hnl
        have HN := Aside0.mk (And.intro hn hnl)
        have hna : a1 % (ln : Int) = (n : Int) := by rw [← hn, Int.tmod_eq_emod_of_nonneg w1.1]
        have w1a := w1.1
        have w1b := w1.2
        have g1 : (0 : Int) ≤ (n : Int) := by omega
        have g2 : (n : Int) < (ln : Int) := by omega
        clear h0 w1 hnl
        obtain ⟨ad, A1, c1, A2, c2, A3, c3, A4, c4, hA, x0, x1, x2, x3, x4, x5, l4, g4, lad⟩ := at_I HC'.out n HN.out.2 hnl'
        subst hA
        have hn5 := HFit.out.2 n hnl'
        have HG4 := Aside0.mk (And.intro g4 l4)
        obtain ⟨n4, hn4⟩ : ∃ n4, n4 = L[n].f4.length := ⟨_, rfl⟩
        rw [← hn4] at x4 hn5
        have Hn4 := Aside0.mk hn4
        clear hn4 g4 l4 x0 x1 x2 x3 x5
        have lad2 : (ad.add (n * 6)).block < w.heap.size := by rw [add_block]; exact lad
        have HCell : Aside0 (∀ W, Below w.heap.size w W → W.cell? ⟨(ad.add (n * 6)).block, (ad.add (n * 6)).off + 4, none⟩ = some (.slice A4 n4 c4) ∧ (ad.add (n * 6)).block < W.heap.size) := ⟨fun W hB => ⟨(hB.cell (p := ⟨(ad.add (n * 6)).block, (ad.add (n * 6)).off + 4, none⟩) lad2).trans x4, Nat.lt_of_lt_of_le lad2 hB.size⟩⟩
        clear x4 lad2
        have e2 : a1.tmod (ln : Int) = (n : Int) := hn
        clear hn
        go_enter Tryd.func5, Tryd.ntmps5
        go_upto_region 6 with (first | (go_at_call 6; refine F1.out.mono ?_; rintro e w2 ⟨rfl, hB⟩; have HB2 := Aside0.mk hB; clear hB) | (go_at_call 7; refine (F2.out w2 HB2.out).mono ?_; rintro e w3 ⟨rfl, hB⟩; have HB3 := Aside0.mk (below_step HB2.out hB); clear hB))
        have q4 := (HCell.out w3 HB3.out).1
        have q4l := (HCell.out w3 HB3.out).2
        have HE2 := Aside0.mk e2
        clear e2 hna z1 z2 z3 e1 w1a w1b
        by_cases hz4 : n4 = 0
        · have y1 : ((n4 : Int) == 0) = true := beq_iff_eq.2 (by omega)
          have y2 : (n4 == 0) = true := beq_iff_eq.2 hz4
          clear hz4
          go_wp2
          go_ret
          exact ⟨rfl, HB3.out⟩
        · have y1 : ((n4 : Int) == 0) = false := beq_eq_false_iff_ne.2 (by omega)
          have y2 : (n4 == 0) = false := beq_eq_false_iff_ne.2 hz4
          have y3 : (0 : Int) < (n4 : Int) := by omega
          have y4 : 0 < n4 := by omega
          have h04 : 0 < L[n].f4.length := by rw [← Hn4.out]; exact y4
          obtain ⟨ad4, e, t0⟩ := Kd.at_string (Kd.C_below HG4.out.1 HB3.out) 0 (by omega) (by omega)
          subst e
          rw [show ((0 : Int)).toNat = 0 from rfl, Addr.add_zero'] at t0
          have t0l := World.block_lt_of_cell? w3 _ t0
          have HS : Aside0 (rdOf ByteArray.empty L[n].f4 0 ∈ L[n].f4) := ⟨by
            have := rdW L[n].f4 0 h04
            rw [show ((0 : Nat) : Int) = 0 from rfl] at this
            rw [this]; exact List.getElem_mem h04⟩
          generalize rdOf ByteArray.empty L[n].f4 0 = s at *
          have HNn := Aside0.mk hnl'
          clear hz4 h04
          go_wp2
          clear y1 y2 t0 t0l q4 q4l
          go_loopg [43] (ln + 1) (fun kq v43 wr => ∃ i : Nat, v43 = .int .i64 (i : Int) ∧ Aside0 (i ≤ ln ∧ ln - i < kq) ∧ Aside0 (Below w.heap.size w wr) ∧ Aside0 (∀ j (hj : j < L.length), j < i → s ∈ L[j].f4 → j = n))
          case atStart => exact ⟨0, rfl, ⟨by omega, by omega⟩, HB3, ⟨fun j _ h => by omega⟩⟩
          case round =>
            clear HB2 HB3
            obtain ⟨i, rfl, HK, HB, HU⟩ := hrel
            cases gk with
            | zero => have := HK.out; omega
            | succ k1 =>
              by_cases hlt : i < ln
              · have hi' : i < L.length := by rw [← HLn.out]; exact hlt
                have i1 : (0 : Int) ≤ (i : Int) := by omega
                have i2 : (i : Int) < (ln : Int) := by omega
                have d1 : decide ((i : Int) < (ln : Int)) = true := decide_eq_true i2
                have d2 : decide (i < ln) = true := decide_eq_true hlt
                have l0 : 0 < L.length := by omega
                obtain ⟨adx, X1, k1', X2, k2', X3, k3', X4, k4', hA, x0, x1, x2, x3, x4, x5, m4', g4', lad'⟩ := at_I (Kd.C_below HC'.out HB.out) i hlt hi'
                obtain rfl := Option.some.inj hA
                obtain ⟨p0, y5⟩ : ∃ p0, wr.cell? ⟨ad.block, ad.off + 5, none⟩ = some (.int .u64 p0) := by
                  obtain ⟨ady, Y1, j1', Y2, j2', Y3, j3', Y4, j4', hA2, _, _, _, _, _, y5, _, _, _⟩ := at_I (Kd.C_below HC'.out HB.out) 0 (by omega) l0
                  obtain rfl := Option.some.inj hA2
                  rw [Nat.zero_mul, Addr.add_zero'] at y5
                  exact ⟨_, y5⟩
                have HD : Aside0 (∀ t ∈ L[i].f4, t = s → s ∈ L[i].f4) := ⟨fun t ht e => e ▸ ht⟩
                have HM5 : Aside0 (L[i].f4.length ≤ 5) := ⟨HFit.out.2 i hi'⟩
                clear hA
                have HI := Aside0.mk hi'
                have HUi : Aside0 (∀ x, x = L[i] → (∀ t ∈ x.f4, t = s → i = n) → ∀ j (hj : j < L.length), j < i + 1 → s ∈ L[j].f4 → j = n) := ⟨fun x hx h j hj hji hs => by
                  rcases Nat.lt_or_ge j i with hl | hl
                  · exact HU.out j hj hl hs
                  · obtain rfl : j = i := by omega
                    exact h s (by rw [hx]; exact hs) rfl⟩
                obtain ⟨x, hx⟩ : ∃ x, x = L[i] := ⟨_, rfl⟩
                rw [← hx] at x0 x1 x2 x3 x4 x5 m4' g4' HM5
                have HX1 := Aside0.mk (HUi.out x hx)
                clear hx HUi hlt hi' l0 HD
                obtain ⟨m4, hm4⟩ : ∃ m4, m4 = x.f4.length := ⟨_, rfl⟩
                rw [← hm4] at x4 g4' HM5 m4'
                have HG := Aside0.mk (And.intro g4' hm4)
                have hm45 : m4 ≤ 5 := HM5.out
                generalize x.f1.length = m1 at *
                generalize x.f2.length = m2 at *
                generalize x.f3.length = m3 at *
                clear g4' hm4 m4'
                obtain ⟨W, hW⟩ : ∃ W, W = wr.alloc (.cells #[.string x.f0, .slice X1 m1 k1', .slice X2 m2 k2', .slice X3 m3 k3', .slice X4 m4 k4', .int .u64 x.f5] 28) := ⟨_, rfl⟩
                have HXb : Aside0 (W.heap[wr.heap.size]? = some (.cells #[.string x.f0, .slice X1 m1 k1', .slice X2 m2 k2', .slice X3 m3 k3', .slice X4 m4 k4', .int .u64 x.f5] 28 (0, 0))) := ⟨by rw [hW]; exact blk_new _ _⟩
                have HWB : Aside0 (Below wr.heap.size wr W) := ⟨by rw [hW]; exact (Below.refl _ _).alloc (Nat.le_refl _) _⟩
                have hla := World.block_lt_of_cell? wr _ x0
                go_upto_region 12 with (fail)
                rw [← hW]
                clear hW x0 x1 x2 x3 x4 x5
                have lad3 : ad.block < wr.heap.size := lad'
                have W5 := (blk_cell HXb.out 5).trans rfl
                have Wl := blk_lt HXb.out
                have Y5 : W.cell? ⟨ad.block, ad.off + 5, none⟩ = some (.int .u64 p0) := (HWB.out.cell (p := ⟨ad.block, ad.off + 5, none⟩) lad3).trans y5
                have Yl : ad.block < W.heap.size := Nat.lt_of_lt_of_le lad3 HWB.out.size
                clear y5 hla lad3 lad'
                go_cut [54] (fun v54 wc => v54 = .bool (x.f5 != p0) ∧ Aside0 (Below W.heap.size W wc))
                case first =>
                  cases hne : (x.f5 != p0)
                  · have HNe := Aside0.mk hne
                    go_quiet (fail)
                    go_wp2
                    go_meet
                    case rel => exact ⟨by rw [HNe.out], ⟨pw_below_drewN (Below.refl _ _) _⟩⟩
                  · have HNe := Aside0.mk hne
                    go_quiet (fail)
                    go_wp2
                    go_meet
                    case rel => exact ⟨by rw [HNe.out], ⟨pw_below_drewN (Below.refl _ _) _⟩⟩
                case rest =>
                  obtain ⟨rfl, HBc⟩ := hcut
                  have hbc := (HBc.out.block _ (blk_lt HXb.out)).trans HXb.out
                  have c4' := (blk_cell hbc 4).trans rfl
                  have cl := blk_lt hbc
                  have HBw : Aside0 (Below w.heap.size w wc) := ⟨below_step HB.out (below_step HWB.out HBc.out)⟩
                  have HGc : Aside0 (Kd.string.C wc X4 m4 x.f4) := ⟨Kd.C_below HG.out.1 (below_step HWB.out HBc.out)⟩
                  clear hbc W5 Wl Y5 Yl
                  obtain ⟨bb, hbb⟩ : ∃ bb, bb = (x.f5 != p0) := ⟨_, rfl⟩
                  rw [← hbb]
                  clear hbb
                  cases bb
                  case true =>
                    go_wp2
                    go_ret
                    exact ⟨rfl, HBw.out⟩
                  case false =>
                    go_wp2
                    clear c4' cl
                    go_loop [58] (fun v58 => ∃ j : Nat, v58 = .int .i64 (j : Int) ∧ Aside0 (j ≤ m4 ∧ ∀ t ∈ x.f4.take j, t = s → i = n)) (fun v58 => m4 - (intOf v58).toNat)
                    case atStart => exact ⟨0, rfl, ⟨by omega, fun t ht => by simp at ht⟩⟩
                    case round =>
                      obtain ⟨j, rfl, HJ⟩ := hrel
                      have hjl := HJ.out.1
                      by_cases hj : j < m4
                      · have j1 : (0 : Int) ≤ (j : Int) := by omega
                        have j2 : (j : Int) < (m4 : Int) := by omega
                        have e1 : decide ((j : Int) < (m4 : Int)) = true := decide_eq_true j2
                        have e2 : decide (j < m4) = true := decide_eq_true hj
                        obtain ⟨adj, e, t1⟩ := Kd.at_string HGc.out (j : Int) j1 j2
                        subst e
                        rw [Int.toNat_natCast] at t1
                        have t1l := World.block_lt_of_cell? wc _ t1
                        have h4 : j < x.f4.length := by rw [← HG.out.2]; exact hj
                        have h5 : rdOf ByteArray.empty x.f4 (j : Int) = x.f4[j] := rdW _ _ h4
                        have HT : Aside0 (x.f4.take (j + 1) = x.f4.take j ++ [rdOf ByteArray.empty x.f4 (j : Int)]) := ⟨by rw [h5]; exact List.take_succ_eq_append_getElem h4⟩
                        generalize rdOf ByteArray.empty x.f4 (j : Int) = t at *
                        clear h4 h5 hj
                        by_cases hts : t = s
                        · have b1 : (t.toList == s.toList) = true := by rw [hts]; exact beq_self_eq_true _
                          have HTs := Aside0.mk hts
                          clear hts
                          by_cases hin : i = n
                          · have n1 : ((i : Int) != (n : Int)) = false := bne_eq_false_iff_eq.2 (by omega)
                            have n2 : (i != n) = false := bne_eq_false_iff_eq.2 hin
                            have HIn := Aside0.mk hin
                            clear hin
                            go_wp2
                            refine ⟨⟨j + 1, by first | rfl | (rw [Int.natCast_add]; rfl), ⟨by have := of_decide_eq_true e2; omega, fun y hy _ => HIn.out⟩⟩, ?_⟩
                            have := of_decide_eq_true e2
                            simp [intOf]; omega
                          · have n1 : ((i : Int) != (n : Int)) = true := bne_iff_ne.2 (by omega)
                            have n2 : (i != n) = true := bne_iff_ne.2 hin
                            clear hin
                            go_wp2
                            go_ret
                            exact ⟨rfl, HBw.out⟩
                        · have b1 : (t.toList == s.toList) = false := beq_eq_false_iff_ne.2 (fun e => hts (toList_inj e))
                          have HTs := Aside0.mk hts
                          clear hts
                          go_wp2
                          refine ⟨⟨j + 1, by first | rfl | (rw [Int.natCast_add]; rfl), ⟨by have := of_decide_eq_true e2; omega, fun y hy e => ?_⟩⟩, ?_⟩
                          · rw [HT.out, List.mem_append, List.mem_singleton] at hy
                            rcases hy with hy | hy
                            · exact HJ.out.2 y hy e
                            · exact absurd (hy ▸ e) HTs.out
                          · have := of_decide_eq_true e2
                            simp [intOf]; omega
                      · have e1 : decide ((j : Int) < (m4 : Int)) = false := decide_eq_false (by omega)
                        have e2 : decide (j < m4) = false := decide_eq_false hj
                        have HAll : Aside0 (∀ t ∈ x.f4, t = s → i = n) := ⟨fun t ht e => HJ.out.2 t (by rw [List.take_of_length_le (by rw [← HG.out.2]; omega)]; exact ht) e⟩
                        clear hj
                        go_wp2
                        go_roundg k1
                        case measure => omega
                        case rel =>
                          have := of_decide_eq_true d2
                          have := HK.out
                          exact ⟨i + 1, by first | rfl | (rw [Int.natCast_add]; rfl), ⟨by omega, by omega⟩, HBw, ⟨HX1.out HAll.out⟩⟩
              · have d1 : decide ((i : Int) < (ln : Int)) = false := decide_eq_false (by omega)
                have d2 : decide (i < ln) = false := decide_eq_false hlt
                have HUn : Aside0 (∀ j (hj : j < L.length), s ∈ L[j].f4 → j = n) := ⟨fun j hj h => HU.out j hj (by have := HLn.out; omega) h⟩
                have n1 : ((n : Int) == (n : Int)) = true := beq_self_eq_true _
                have n2 : (n == n) = true := beq_self_eq_true _
                clear hlt
                by_cases hse : s.toList = []
                · have b1 : (s.toList == []) = true := by rw [hse]; rfl
                  clear hse
                  go_wp2
                  go_ret
                  exact ⟨rfl, HB.out⟩
                · have b1 : (s.toList == []) = false := beq_eq_false_iff_ne.2 hse
                  go_wp2_with (first | (go_at_call 15; refine (F3'.out n HNn.out s HS.out HUn.out wr HB.out).mono ?_; rintro e w5 ⟨rfl, hB⟩; have HB5 := Aside0.mk (below_step HB.out hB); clear hB) | (go_at_call 10; refine (F4.out w5 HB5.out).mono ?_; rintro e w6 ⟨rfl, hB⟩; have HB6 := Aside0.mk (below_step HB5.out hB); clear hB))
                  go_ret
                  exact ⟨rfl, HB6.out⟩
end Go.Proofs.YtibjlefenodhaaaDoor.Pure
