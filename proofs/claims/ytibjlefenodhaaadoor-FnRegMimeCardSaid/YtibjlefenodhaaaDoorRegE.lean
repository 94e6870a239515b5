/- slices.Clone of texts; impl.registry, walked. -/
import Derived.Test.YtibjlefenodhaaaDoorRegD
import Derived.Deep.RegionHeldLaw
set_option linter.unusedVariables false
set_option linter.unusedSimpArgs false
namespace Go.Proofs.YtibjlefenodhaaaDoorReg
open Go.RowKit Go.Proofs.YtibjlefenodhaaaDoorW.PrintWords Go.Proofs.YtibjlefenodhaaaDoor.T Go.Proofs.YtibjlefenodhaaaDoorFmt Go.Proofs.YtibjlefenodhaaaDoorMapI
set_option maxRecDepth 100000 in
theorem clone_c (A : Option Addr) (c : Nat) (xs : List ByteArray) (w : World) (hC : Kd.C Kd.string w A xs.length xs) (hl : xs.length ≤ 100000) :
    Calls Tryd.prog 26 #[.slice A xs.length c] w fun e w' => ∃ v, e = .returned v ∧ Kd.string.R 9 w' w.heap.size (fun _ => True) v xs ∧ Below w.heap.size w w' := by
  have fin : ∀ {w' : World} {v : Value}, w'.ownsRow w.heap.size 9 1 v xs.length (xs.map Value.string) → Kd.string.R 9 w' w.heap.size (fun _ => True) v xs := fun h =>
    Kd.R_of_own (enc := Value.string) (h1 := fun _ => rfl) h (fun _ _ => trivial)
  cases A with
  | none =>
    have h0 : xs = [] := by
      cases xs with
      | nil => rfl
      | cons x r =>
        obtain ⟨ad, e, _⟩ := hC.2.2 (by simp)
        cases e
    subst h0
    refine (Tryd.slices_Clone_string_nil 0 c w).mono ?_
    rintro e w' ⟨rfl, rfl⟩
    exact ⟨_, rfl, Kd.R_nil _ _ _ _ _, Below.refl _ _⟩
  | some a =>
    cases xs with
    | nil =>
      refine (Tryd.slices_Clone_string_zero a c w).mono ?_
      rintro e w' ⟨v, rfl, h1, _, h2⟩
      exact ⟨v, rfl, fin h1, h2⟩
    | cons x r =>
      obtain ⟨ad, e, hc⟩ := hC.2.2 (by simp)
      obtain rfl := Option.some.inj e
      have key : ∀ j (hj : j < (x :: r).length), w.cell? (a.add j) = some (.string ((x :: r).getD j ByteArray.empty)) := fun j hj => by
        obtain ⟨cs, _, hK, hcs⟩ := hc j _ (List.getElem?_eq_getElem hj)
        have hK' : cs = [.string (x :: r)[j]] := hK
        subst hK'
        have this : w.cell? (a.add (j * 1 + 0)) = some (.string (x :: r)[j]) := hcs 0 _ rfl
        rw [Nat.mul_one, Nat.add_zero] at this
        rw [this, List.getD_eq_getElem?_getD, List.getElem?_eq_getElem hj]; rfl
      have h0 := key 0 (by simp)
      have hsp : (a.add 0).spot = none := World.cell?_spot h0
      obtain ⟨b, o, sp⟩ := a
      have hsp' : sp = none := by simpa [Addr.add] using hsp
      subst hsp'
      have hadd : ∀ j, (⟨b, o, none⟩ : Addr).add j = ⟨b, o + j, none⟩ := fun j => by unfold Addr.add; split <;> simp_all
      refine (Tryd.slices_Clone_string b o (x :: r).length c (x :: r) w (Nat.le_refl _) (by omega) (fun j hj => by rw [← hadd]; exact key j hj)).mono ?_
      rintro e w' ⟨v, rfl, h1, _, h2⟩
      rw [List.take_length] at h1
      exact ⟨v, rfl, fin h1, h2⟩
theorem run_frombits (n : Int) (w : World) : (callFunc 27 #[.int .u64 n]).run Tryd.prog w = .ok (.value (.float .f64 n.toNat)) w := by
  rw [run_callFunc_extern (P := Tryd.prog) (e := Extern.MathFloatBits.float64frombits) Tryd.func27 (by decide +kernel) rfl (by rfl) (by rfl)]
  rfl
theorem choose_c (q : Question) (w : World) : ∃ m w', (do pure (Value.float .f32 (← choose q)) : Sem Value).run Tryd.prog w = .ok (.float .f32 m) w' ∧ Below w.heap.size w w' := by
  by_cases hf : q.forced = true
  · exact ⟨0, w, by simp [hf], Below.refl _ _⟩
  · exact ⟨q.cut (w.tape w.drawn q), w.drew, by simp [hf], (Below.refl _ _).drew⟩
/-- float32(x) of a float64: some number; a draw, perhaps. -/
theorem conv_c (n : Nat) (w : World) : ∃ m w', (Go.convert 54 53 (.float .f64 n)).run Tryd.prog w = .ok (.float .f32 m) w' ∧ Below w.heap.size w w' := by
  have h1 := Tryd.underlying54
  have h2 := Tryd.underlying53
  have e : (Go.convert 54 53 (.float .f64 n)).run Tryd.prog w = (Conv.floatToFloat .f64 n .f32).run Tryd.prog w := by
    simp [convert, run_underlying h1, run_underlying h2]
  rw [e]
  unfold Conv.floatToFloat
  rw [if_neg (by decide)]
  split
  · exact choose_c _ w
  · exact ⟨_, w, rfl, Below.refl _ _⟩
  · dsimp only
    split
    · exact choose_c _ w
    · exact ⟨_, w, rfl, Below.refl _ _⟩
/-- The lexers' names and aliases, the newer ahead of the elder. -/
def fNs (ps : List (I × Nat)) : ByteArray → Option Value := ps.foldl (fun f p => updS f p.1.f0 (lx p.2)) (fun _ => none)
def fAs (ps : List (I × Nat)) : ByteArray → Option Value := ps.foldl (fun f p => alsF f p.1.f1 p.2) (fun _ => none)
/-- The registry of some lexers, and the row of their configs. -/
structure RS (w wr : World) (vP : Value) (ps : List (I × Nat)) : Prop where
  hB : Below w.heap.size w wr
  hR : ∃ vL cN cA, Rg wr w.heap.size cN cA vL (fNs ps) (fAs ps) (ps.map (·.2)) ∧ cN ≤ 2 * ps.length ∧ cA ≤ 2000 * ps.length
  hP : Kd.R kP 52 wr (w.heap.size + 3) (fun _ => True) vP (ps.map (·.2))
  hC : ∀ p ∈ ps, CfgAt wr (w.heap.size + 3) p.2 p.1
  nd : (ps.map (·.2)).Nodup
theorem CfgAt.below {w w' : World} {base b : Nat} {x : I} (h : CfgAt w base b x) (hB : Below w.heap.size w w') : CfgAt w' base b x := by
  obtain ⟨v1, v2, v3, v4, p, h1, h2, h3, h4⟩ := h
  exact ⟨v1, v2, v3, v4, p, (hB.block _ (blk_lt h1)).trans h1, h2, Kd.R_below h3 hB, Kd.R_below h4 hB⟩
theorem RS.below {w wr w' : World} {vP : Value} {ps : List (I × Nat)} (h : RS w wr vP ps) (hB : Below wr.heap.size wr w') : RS w w' vP ps := by
  obtain ⟨vL, cN, cA, h1, h2, h3⟩ := h.hR
  exact ⟨below_step h.hB hB, ⟨vL, cN, cA, h1.below hB, h2, h3⟩, Kd.R_below h.hP hB, fun p hp => (h.hC p hp).below hB, h.nd⟩
/-- A row of another type is written: what lies in blocks of other types stays. -/
theorem typ_ne {w : World} {e t : Nat} {α : Type} {d : Kd α} {base : Nat} {ok : Nat → Prop} {v : Value} {xs : List α} (h : Kd.R d e w base ok v xs) {k : Nat} {cs : Array Value} (hk : w.heap[k]? = some (.cells cs t (0, 0))) (ht : t ≠ e) : some k ≠ v.ownBlock := fun he => by
  obtain ⟨cs', hcs⟩ := Kd.R_typed h k he.symm
  rw [hcs] at hk
  injection hk with hk
  injection hk with _ hk
  exact ht hk.symm
theorem rowT {w w' : World} {e t : Nat} {α β : Type} {d : Kd α} {d' : Kd β} {base base' : Nat} {ok : Nat → Prop} {v u : Value} {xs : List α} {ys : List β} (h : Kd.R d e w base ok v xs) (hu : Kd.R d' t w base' (fun _ => True) u ys) (hE : d'.E = []) (ht : t ≠ e) (hg : w.grownBy w' v.ownBlock) : Kd.R d' t w' base' (fun _ => True) u ys := by
  refine Kd.R_mono (Kd.R_step (Kd.R_bound hu) (fun k hk hlt => hg.block k hlt ?_)) (fun _ _ => trivial)
  obtain ⟨q, hq, cells, hcells⟩ := hk.2.2.2
  rw [hE] at hq
  rcases List.mem_cons.1 hq with rfl | hq
  · exact typ_ne h hcells ht
  · cases hq
theorem Rg.grP {w w' : World} {n0 cN cA : Nat} {vL vP : Value} {fN fA : ByteArray → Option Value} {bs : List Nat} {qs : List Nat} (h : Rg w n0 cN cA vL fN fA bs) (hP : Kd.R kP 52 w (n0 + 3) (fun _ => True) vP qs) (hg : w.grownBy w' vP.ownBlock) : Rg w' n0 cN cA vL fN fA bs := by
  have hne : ∀ k, k < n0 + 3 → some k ≠ vP.ownBlock := fun k hk e => by have := Kd.R_base hP k e.symm; omega
  exact ⟨(hg.block _ (blk_lt h.hr) (hne _ (by omega))).trans h.hr, h.hN.same (hg.block _ h.hN.lt (hne _ (by omega))), h.hA.same (hg.block _ h.hA.lt (hne _ (by omega))), rowT hP h.hL rfl (by decide) hg⟩
theorem CfgAt.grP {w w' : World} {base b : Nat} {x : I} {vP : Value} {qs : List Nat} {base' : Nat} (h : CfgAt w base b x) (hP : Kd.R kP 52 w base' (fun _ => True) vP qs) (hg : w.grownBy w' vP.ownBlock) : CfgAt w' base b x := by
  obtain ⟨v1, v2, v3, v4, p, h1, h2, h3, h4⟩ := h
  exact ⟨v1, v2, v3, v4, p, (hg.block _ (blk_lt h1) (typ_ne hP h1 (by decide))).trans h1, h2, rowT hP h3 rfl (by decide) hg, rowT hP h4 rfl (by decide) hg⟩
theorem fNs_snoc (ps : List (I × Nat)) (x : I) (b : Nat) : fNs (ps ++ [(x, b)]) = updS (fNs ps) x.f0 (lx b) := by unfold fNs; rw [List.foldl_append]; rfl
theorem fAs_snoc (ps : List (I × Nat)) (x : I) (b : Nat) : fAs (ps ++ [(x, b)]) = alsF (fAs ps) x.f1 b := by unfold fAs; rw [List.foldl_append]; rfl
open Classical in
theorem reg_step {w wc w8 : World} {vP v1 : Value} {ps : List (I × Nat)} {x : I} {b : Nat} (R : RS w wc vP ps) (hx : CfgAt wc (w.heap.size + 3) b x) (hn : Low x.f0) (ha : ∀ s ∈ x.f1, Low s) (hla : x.f1.length ≤ 1000) (hps : ps.length ≤ 20) (hnew : b ∉ ps.map (·.2)) (hnm : ∀ p ∈ ps, p.1.f0 ≠ x.f0)
    (hg : wc.grownBy w8 vP.ownBlock) (hv : Kd.R kP 52 w8 (w.heap.size + 3) (fun _ => True) v1 (ps.map (·.2) ++ [b])) (hB8 : Below w.heap.size w w8) :
    Calls Tryd.prog 28 #[.pointer (some ⟨w.heap.size + 2, 0, none⟩), lx b] w8 fun e w' => e = .returned (lx b) ∧ RS w w' v1 (ps ++ [(x, b)]) := by
  obtain ⟨vL, cN, cA, hR, hcN, hcA⟩ := R.hR
  have hR8 := hR.grP R.hP hg
  have hx8 := hx.grP R.hP hg
  have hC8 : ∀ p ∈ ps, CfgAt w8 (w.heap.size + 3) p.2 p.1 := fun p hp => (R.hC p hp).grP R.hP hg
  obtain ⟨a1, a2, a3, a4, p, k1, k2, k3, k4⟩ := hx8
  obtain ⟨A1, c1, rfl⟩ := Kd.R_slice k3
  have hch : ∀ y, ∃ n : ByteArray, (y = b → n = x.f0) ∧ (y ∈ ps.map (·.2) → Cfg w8 y n ∧ n ≠ x.f0 ∧ w.heap.size + 3 ≤ y) := fun y => by
    by_cases hy : y ∈ ps.map (·.2)
    · obtain ⟨q, hq, rfl⟩ := List.mem_map.1 hy
      refine ⟨q.1.f0, fun e => absurd (e ▸ hy) hnew, fun _ => ⟨(hC8 q hq).cfg, hnm q hq, ?_⟩⟩
      obtain ⟨_, _, _, _, _, _, h, _⟩ := hC8 q hq
      exact h
    · exact ⟨x.f0, fun _ => rfl, fun h => absurd h hy⟩
  obtain ⟨nm, hnm'⟩ := Classical.axiomOfChoice hch
  have h := reg_c w.heap.size vL b _ A1 c1 x.f0 x.f1 (ps.map (·.2)) nm w8 cN cA (fNs ps) (fAs ps) ⟨Ch.refl _ _, hR8, k1, k3⟩ k2 rfl rfl hn ha (by omega) (by omega) hla (by rw [List.length_map]; omega) ((hnm' b).1 rfl) (fun y hy => (hnm' y).2 hy)
  refine h.mono ?_
  rintro e w' ⟨rfl, vL', hR', hCh, _⟩
  have hlo : Below w.heap.size w8 w' := ⟨hCh.st.1, hCh.st.2.1, hCh.st.2.2, hCh.size, fun k hk => hCh.block k (Nat.lt_of_lt_of_le hk hB8.size) (fun hs => by
    rcases hs with hs | hs
    · omega
    · have := Kd.R_base hR8.hL k hs.symm; omega)⟩
  have hx9 : CfgAt w' (w.heap.size + 3) b x := CfgAt.ch (cN := 0) (cA := 0) (fN := fun _ => none) (fA := fun _ => none) ⟨_, a2, a3, a4, p, k1, k2, k3, k4⟩ hR8.hL hCh
  refine ⟨rfl, hB8.trans hlo, ⟨vL', cN + 2, cA + 2 * x.f1.length, ?_, ?_, ?_⟩, ?_, fun q hq => ?_, ?_⟩
  · rw [fNs_snoc, fAs_snoc, List.map_append]; exact hR'
  · rw [List.length_append]; show _ ≤ 2 * (_ + 1); omega
  · rw [List.length_append]; show _ ≤ 2000 * (_ + 1); omega
  · rw [List.map_append]
    refine Kd.R_mono (Kd.R_step (Kd.R_bound hv) (fun k hk hlt => hCh.block k hlt (fun hs => ?_))) (fun _ _ => trivial)
    rcases hs with hs | hs
    · have := hk.2.1; omega
    · obtain ⟨q, hq, cells, hcells⟩ := hk.2.2.2
      rcases List.mem_cons.1 hq with rfl | hq
      · exact typ_ne hR8.hL hcells (by decide) hs
      · cases hq
  · rcases List.mem_append.1 hq with hq | hq
    · exact CfgAt.ch (cN := 0) (cA := 0) (fN := fun _ => none) (fA := fun _ => none) (hC8 q hq) hR8.hL hCh
    · rw [List.mem_singleton.1 hq]; exact hx9
  · rw [List.map_append]
    refine List.nodup_append.2 ⟨R.nd, List.nodup_cons.2 ⟨by simp, List.nodup_nil⟩, fun a ha c hc e => ?_⟩
    have e2 : a = b := e.trans (List.mem_singleton.1 hc)
    rw [e2] at ha
    exact hnew ha
/-- What is asked of a lexer's info. -/
structure OkI (x : I) : Prop where
  n : Low x.f0
  a : ∀ s ∈ x.f1, Low s
  la : x.f1.length ≤ 1000
  l2 : x.f2.length ≤ 1000
  l3 : x.f3.length ≤ 1000
  l4 : x.f4.length ≤ 1000
set_option maxRecDepth 100000 in
set_option maxHeartbeats 8000000 in
theorem registry_c (A : Option Addr) (c : Nat) (xs : List I) (w : World) (hC : Kd.C k28 w A xs.length xs) (hc : xs.length ≤ c) (hl : xs.length ≤ 20) (hok : ∀ x ∈ xs, OkI x) (hnd : (xs.map (·.f0)).Nodup) :
    Calls Tryd.prog 18 #[.slice A xs.length c] w fun e w' => ∃ vP ps, e = .returned (.tuple #[.pointer (some ⟨w.heap.size + 2, 0, none⟩), vP]) ∧ RS w w' vP ps ∧ ps.map (·.1) = xs := by
  have hu := Tryd.underlying28
  have hu2 := Tryd.underlying58
  have hu3 := Tryd.underlying63
  have hfb := run_frombits
  have HC := Aside0.mk (And.intro hC hc)
  have HK0 := Aside0.mk (And.intro hl (And.intro hok hnd))
  clear hC hc hok hnd hl
  go_enter Tryd.func18, Tryd.ntmps18
  go_wp2_with (go_at_call 25; go_loud (refine (new_c w).mono ?_; rintro e w1 ⟨rfl, hR, hB⟩; have R0 : Aside0 (RS w w1 (.slice none 0 0) []) := ⟨⟨hB, ⟨_, 0, 0, hR, Nat.zero_le _, Nat.zero_le _⟩, Kd.R_nil _ _ _ _ _, (fun p hp => (by cases hp)), List.nodup_nil⟩⟩; clear hR hB))
  go_loopg [5, 12] (xs.length + 1) (fun kq v5 v12 wr => ∃ (x12 : Int) (ps : List (I × Nat)), v12 = .int .i64 x12 ∧ Aside0 (0 ≤ x12 ∧ x12 ≤ xs.length ∧ xs.length - x12.toNat < kq) ∧ Aside0 (RS w wr v5 ps ∧ ps.map (·.1) = xs.take x12.toNat))
  case atStart => exact ⟨0, [], rfl, ⟨by omega, by omega, by simp⟩, ⟨R0.out, rfl⟩⟩
  case round =>
    obtain ⟨x12, ps, rfl, HK, RR⟩ := hrel
    clear R0
    cases gk with
    | zero => have := HK.out; omega
    | succ k1 =>
      by_cases hlt : x12 < (xs.length : Int)
      · have hx0 : 0 ≤ x12 := HK.out.1
        have c2b0 : decide (x12 < (xs.length : Int)) = true := decide_eq_true hlt
        obtain ⟨ad, A1, c1, A2, c2, A3, c3, A4, c4, e, hy0, hy1, hy2, hy3, hy4, hy5, l1, g1, l2, g2, l3, g3, l4, g4⟩ := at_T28 (Kd.C_below HC.out.1 RR.out.1.hB) x12 hx0 hlt
        cases e
        have hla := World.block_lt_of_cell? wr _ hy0
        have hwr : wrap64 (x12 + 1) = x12 + 1 := by have := HK0.out.1; unfold wrap64; omega
        have p1 := eq_true hx0
        have q1 := eq_true hlt
        generalize hrow : rd_T28 xs x12 = x at *
        have HG := Aside0.mk (And.intro g1 (And.intro g2 (And.intro g3 g4)))
        clear hx0 hlt g1 g2 g3 g4 l1 l2 l3 l4
        obtain ⟨W, hW⟩ : ∃ W, W = wr.alloc (.cells #[.string x.f0, .slice A1 x.f1.length c1, .slice A2 x.f2.length c2, .slice A3 x.f3.length c3, .slice A4 x.f4.length c4, .int .u64 x.f5] 28) := ⟨_, rfl⟩
        have HW := Aside0.mk hW
        have HX : Aside0 (wr.heap.size < W.heap.size ∧ W.heap[wr.heap.size]? = some (.cells #[.string x.f0, .slice A1 x.f1.length c1, .slice A2 x.f2.length c2, .slice A3 x.f3.length c3, .slice A4 x.f4.length c4, .int .u64 x.f5] 28 (0, 0))) := ⟨by rw [hW]; exact ⟨by simp, blk_new _ _⟩⟩
        have HWB : Aside0 (Below wr.heap.size wr W) := ⟨by rw [hW]; exact (Below.refl _ _).alloc (Nat.le_refl _) _⟩
        have HQ : Aside0 (Kd.C Kd.string W A1 x.f1.length x.f1 ∧ Kd.C Kd.string W A2 x.f2.length x.f2 ∧ Kd.C Kd.string W A3 x.f3.length x.f3 ∧ Kd.C Kd.string W A4 x.f4.length x.f4) := ⟨Kd.C_below HG.out.1 HWB.out, Kd.C_below HG.out.2.1 HWB.out, Kd.C_below HG.out.2.2.1 HWB.out, Kd.C_below HG.out.2.2.2 HWB.out⟩
        have hmem : x ∈ xs := by
          have h2 : x12.toNat < xs.length := by have := of_eq_true q1; have := HK.out; omega
          have h3 : rd_T28 xs x12 = xs[x12.toNat] := by simp [rd_T28, List.getD_eq_getElem?_getD, h2]
          rw [← hrow, h3]; exact List.getElem_mem h2
        have HOk := Aside0.mk (HK0.out.2.1 x hmem)
        have HL : Aside0 (x.f1.length ≤ 100000 ∧ x.f2.length ≤ 100000 ∧ x.f3.length ≤ 100000 ∧ x.f4.length ≤ 100000) := ⟨by have h := HOk.out; have := h.la; have := h.l2; have := h.l3; have := h.l4; omega⟩
        go_upto_region 6 with (fail)
        rw [← hW]
        clear hW hmem
        have Wb := HX.out.2
        have W0 := (blk_cell Wb 0).trans rfl
        have W1 := (blk_cell Wb 1).trans rfl
        have W2 := (blk_cell Wb 2).trans rfl
        have W3 := (blk_cell Wb 3).trans rfl
        have W4 := (blk_cell Wb 4).trans rfl
        have W5 := (blk_cell Wb 5).trans rfl
        have Wl := blk_lt Wb
        clear Wb hy0 hy1 hy2 hy3 hy4 hy5
        go_cut [8] (fun v8 wc => ∃ b, v8 = pX b ∧ Aside0 (Below W.heap.size W wc ∧ CfgAt wc (w.heap.size + 3) b x ∧ W.heap.size ≤ b))
        case first =>
          go_region_held_law (fun w' => w'.cell? ⟨wr.heap.size, 0, none⟩ = some (.string x.f0) ∧ w'.cell? ⟨wr.heap.size, 1, none⟩ = some (.slice A1 x.f1.length c1) ∧ w'.cell? ⟨wr.heap.size, 2, none⟩ = some (.slice A2 x.f2.length c2) ∧ w'.cell? ⟨wr.heap.size, 3, none⟩ = some (.slice A3 x.f3.length c3) ∧ w'.cell? ⟨wr.heap.size, 4, none⟩ = some (.slice A4 x.f4.length c4) ∧ w'.cell? ⟨wr.heap.size, 5, none⟩ = some (.int .u64 x.f5)) (first | go_keep | exact Kw1.out | exact Kw2.out | exact Kw3.out | exact Kw4.out | exact Kw5.out) (first | (go_at_call 26; with_reducible refine (clone_c A1 c1 x.f1 _ (Kd.C_below HQ.out.1 ((Below.refl W.heap.size W).drew)) HL.out.1).mono ?_; rintro e w1 ⟨v1, rfl, hR0, hB0⟩; obtain ⟨B1, d1, hv⟩ := Kd.R_slice hR0; subst hv; have hB := below_step (Below.refl W.heap.size W).drew hB0; have hR := hR0; have X1 := Aside0.mk hB; have Y1 := Aside0.mk hR; have Z1 := Aside0.mk hB0; clear hB hB0 hR hR0; have Kw1 : Aside0 (w1.cell? ⟨wr.heap.size, 0, none⟩ = some (.string x.f0) ∧ w1.cell? ⟨wr.heap.size, 1, none⟩ = some (.slice A1 x.f1.length c1) ∧ w1.cell? ⟨wr.heap.size, 2, none⟩ = some (.slice A2 x.f2.length c2) ∧ w1.cell? ⟨wr.heap.size, 3, none⟩ = some (.slice A3 x.f3.length c3) ∧ w1.cell? ⟨wr.heap.size, 4, none⟩ = some (.slice A4 x.f4.length c4) ∧ w1.cell? ⟨wr.heap.size, 5, none⟩ = some (.int .u64 x.f5)) := ⟨(by have hb := (X1.out.block wr.heap.size HX.out.1).trans HX.out.2; exact ⟨(blk_cell hb 0).trans rfl, (blk_cell hb 1).trans rfl, (blk_cell hb 2).trans rfl, (blk_cell hb 3).trans rfl, (blk_cell hb 4).trans rfl, (blk_cell hb 5).trans rfl⟩)⟩) | (go_at_call 26; with_reducible refine (clone_c A2 c2 x.f2 _ (Kd.C_below HQ.out.2.1 (X1.out)) HL.out.2.1).mono ?_; rintro e w2 ⟨v2, rfl, hR0, hB0⟩; obtain ⟨B2, d2, hv⟩ := Kd.R_slice hR0; subst hv; have hB := below_step X1.out hB0; have hR := Kd.R_lower hR0 X1.out.size; have X2 := Aside0.mk hB; have Y2 := Aside0.mk hR; have Z2 := Aside0.mk hB0; clear hB hB0 hR hR0; have Kw2 : Aside0 (w2.cell? ⟨wr.heap.size, 0, none⟩ = some (.string x.f0) ∧ w2.cell? ⟨wr.heap.size, 1, none⟩ = some (.slice A1 x.f1.length c1) ∧ w2.cell? ⟨wr.heap.size, 2, none⟩ = some (.slice A2 x.f2.length c2) ∧ w2.cell? ⟨wr.heap.size, 3, none⟩ = some (.slice A3 x.f3.length c3) ∧ w2.cell? ⟨wr.heap.size, 4, none⟩ = some (.slice A4 x.f4.length c4) ∧ w2.cell? ⟨wr.heap.size, 5, none⟩ = some (.int .u64 x.f5)) := ⟨(by have hb := (X2.out.block wr.heap.size HX.out.1).trans HX.out.2; exact ⟨(blk_cell hb 0).trans rfl, (blk_cell hb 1).trans rfl, (blk_cell hb 2).trans rfl, (blk_cell hb 3).trans rfl, (blk_cell hb 4).trans rfl, (blk_cell hb 5).trans rfl⟩)⟩) | (go_at_call 26; with_reducible refine (clone_c A3 c3 x.f3 _ (Kd.C_below HQ.out.2.2.1 (X2.out)) HL.out.2.2.1).mono ?_; rintro e w3 ⟨v3, rfl, hR0, hB0⟩; obtain ⟨B3, d3, hv⟩ := Kd.R_slice hR0; subst hv; have hB := below_step X2.out hB0; have hR := Kd.R_lower hR0 X2.out.size; have X3 := Aside0.mk hB; have Y3 := Aside0.mk hR; have Z3 := Aside0.mk hB0; clear hB hB0 hR hR0; have Kw3 : Aside0 (w3.cell? ⟨wr.heap.size, 0, none⟩ = some (.string x.f0) ∧ w3.cell? ⟨wr.heap.size, 1, none⟩ = some (.slice A1 x.f1.length c1) ∧ w3.cell? ⟨wr.heap.size, 2, none⟩ = some (.slice A2 x.f2.length c2) ∧ w3.cell? ⟨wr.heap.size, 3, none⟩ = some (.slice A3 x.f3.length c3) ∧ w3.cell? ⟨wr.heap.size, 4, none⟩ = some (.slice A4 x.f4.length c4) ∧ w3.cell? ⟨wr.heap.size, 5, none⟩ = some (.int .u64 x.f5)) := ⟨(by have hb := (X3.out.block wr.heap.size HX.out.1).trans HX.out.2; exact ⟨(blk_cell hb 0).trans rfl, (blk_cell hb 1).trans rfl, (blk_cell hb 2).trans rfl, (blk_cell hb 3).trans rfl, (blk_cell hb 4).trans rfl, (blk_cell hb 5).trans rfl⟩)⟩) | (go_at_call 26; with_reducible refine (clone_c A4 c4 x.f4 _ (Kd.C_below HQ.out.2.2.2 (X3.out)) HL.out.2.2.2).mono ?_; rintro e w4 ⟨v4, rfl, hR0, hB0⟩; obtain ⟨B4, d4, hv⟩ := Kd.R_slice hR0; subst hv; have hB := below_step X3.out hB0; have hR := Kd.R_lower hR0 X3.out.size; have X4 := Aside0.mk hB; have Y4 := Aside0.mk hR; have Z4 := Aside0.mk hB0; clear hB hB0 hR hR0; have Kw4 : Aside0 (w4.cell? ⟨wr.heap.size, 0, none⟩ = some (.string x.f0) ∧ w4.cell? ⟨wr.heap.size, 1, none⟩ = some (.slice A1 x.f1.length c1) ∧ w4.cell? ⟨wr.heap.size, 2, none⟩ = some (.slice A2 x.f2.length c2) ∧ w4.cell? ⟨wr.heap.size, 3, none⟩ = some (.slice A3 x.f3.length c3) ∧ w4.cell? ⟨wr.heap.size, 4, none⟩ = some (.slice A4 x.f4.length c4) ∧ w4.cell? ⟨wr.heap.size, 5, none⟩ = some (.int .u64 x.f5)) := ⟨(by have hb := (X4.out.block wr.heap.size HX.out.1).trans HX.out.2; exact ⟨(blk_cell hb 0).trans rfl, (blk_cell hb 1).trans rfl, (blk_cell hb 2).trans rfl, (blk_cell hb 3).trans rfl, (blk_cell hb 4).trans rfl, (blk_cell hb 5).trans rfl⟩)⟩; obtain ⟨m5, w5, hcv, hB5⟩ := conv_c x.f5.toNat w4; have X5 := Aside0.mk (below_step X4.out hB5); have Z5 := Aside0.mk hB5; clear hB5; have Kw5 : Aside0 (w5.cell? ⟨wr.heap.size, 0, none⟩ = some (.string x.f0) ∧ w5.cell? ⟨wr.heap.size, 1, none⟩ = some (.slice A1 x.f1.length c1) ∧ w5.cell? ⟨wr.heap.size, 2, none⟩ = some (.slice A2 x.f2.length c2) ∧ w5.cell? ⟨wr.heap.size, 3, none⟩ = some (.slice A3 x.f3.length c3) ∧ w5.cell? ⟨wr.heap.size, 4, none⟩ = some (.slice A4 x.f4.length c4) ∧ w5.cell? ⟨wr.heap.size, 5, none⟩ = some (.int .u64 x.f5)) := ⟨(by have hb := (X5.out.block wr.heap.size HX.out.1).trans HX.out.2; exact ⟨(blk_cell hb 0).trans rfl, (blk_cell hb 1).trans rfl, (blk_cell hb 2).trans rfl, (blk_cell hb 3).trans rfl, (blk_cell hb 4).trans rfl, (blk_cell hb 5).trans rfl⟩)⟩))
          all_goals
            have D := Aside0.mk (below_step Z2.out (below_step Z3.out (below_step Z4.out Z5.out)))
            have N3 : Aside0 (w.heap.size + 3 ≤ W.heap.size) := ⟨by obtain ⟨vL, cN, cA, h, _⟩ := RR.out.1.hR; have := blk_lt h.hr; have := HX.out.1; omega⟩
            have NC : Aside0 (CfgAt (w5.alloc (.cells #[.string x.f0, .slice B1 x.f1.length d1, .slice B2 x.f2.length d2, .slice B3 x.f3.length d3, .slice B4 x.f4.length d4, .bool false, .bool false, .bool false, .bool false, .float .f32 m5, .pointer none] 58)) (w.heap.size + 3) w5.heap.size x) := ⟨⟨_, _, _, _, _, blk_new _ _, Nat.le_trans N3.out X5.out.size, Kd.R_lower (Kd.R_alloc (Kd.R_below Y1.out D.out) _) N3.out, Kd.R_lower (Kd.R_alloc (Kd.R_below Y4.out Z5.out) _) N3.out⟩⟩
            have NB := Aside0.mk (X5.out.alloc X5.out.size (.cells #[.string x.f0, .slice B1 x.f1.length d1, .slice B2 x.f2.length d2, .slice B3 x.f3.length d3, .slice B4 x.f4.length d4, .bool false, .bool false, .bool false, .bool false, .float .f32 m5, .pointer none] 58))
            go_wp2
            go_meet
            case rel => exact ⟨w5.heap.size, rfl, ⟨NB.out, NC.out, X5.out.size⟩⟩
        case rest =>
          obtain ⟨b, rfl, HB⟩ := hcut
          have R1 : Aside0 (RS w wc u5 ps) := ⟨RR.out.1.below (below_step HWB.out HB.out.1)⟩
          have HLn : Aside0 (((ps.map (·.2)).length + 1) * 8 ≤ 140737488355328 ∧ w.heap.size + 3 ≤ wc.heap.size ∧ ps.length ≤ 20) := ⟨by
            have h1 := congrArg List.length RR.out.2
            rw [List.length_map, List.length_take] at h1
            have h2 := HK0.out.1
            have h3 : w.heap.size + 3 ≤ b := by obtain ⟨v1, v2, v3, v4, p, _, h, _⟩ := HB.out.2.1; exact h
            have h4 := HB.out.2.1.cfg.lt
            rw [List.length_map]
            omega⟩
          have HNw : Aside0 (b ∉ ps.map (·.2)) := ⟨fun h => by
            obtain ⟨q, hq, e⟩ := List.mem_map.1 h
            have h1 := (RR.out.1.hC q hq).cfg.lt
            have h2 := HB.out.2.2
            have h3 := HX.out.1
            rw [e] at h1
            omega⟩
          have HTk : Aside0 (xs.take (x12.toNat + 1) = xs.take x12.toNat ++ [x]) := ⟨by
            have h2 : x12.toNat < xs.length := by have := of_eq_true q1; have := HK.out; omega
            have h3 : rd_T28 xs x12 = xs[x12.toNat] := by simp [rd_T28, List.getD_eq_getElem?_getD, h2]
            rw [← hrow, h3]
            exact List.take_succ_eq_append_getElem h2⟩
          have HNm : Aside0 (∀ p ∈ ps, p.1.f0 ≠ x.f0) := ⟨fun p hp e => by
            have h1 : (xs.take (x12.toNat + 1)).map (·.f0) = (xs.take x12.toNat).map (·.f0) ++ [x.f0] := by rw [HTk.out, List.map_append]; rfl
            have h2 : ((xs.take (x12.toNat + 1)).map (·.f0)).Nodup := List.Nodup.sublist ((List.take_sublist _ _).map _) HK0.out.2.2
            rw [h1, List.nodup_append] at h2
            refine h2.2.2 p.1.f0 (List.mem_map.2 ⟨p.1, ?_, rfl⟩) x.f0 (List.mem_singleton.2 rfl) e
            rw [← RR.out.2]
            exact List.mem_map.2 ⟨p, hp, rfl⟩⟩
          have HBl : Aside0 (∀ w8, wc.grownBy w8 u5.ownBlock → Below w.heap.size w w8) := ⟨fun w8 hg => R1.out.hB.grown hg R1.out.hB.size (fun k e => by have := Kd.R_base R1.out.hP k e; omega)⟩
          clear W0 W1 W2 W3 W4 W5 Wl
          obtain ⟨bs, hbs⟩ : ∃ bs, bs = ps.map (·.2) := ⟨_, rfl⟩
          have HP : Aside0 (Kd.R kP 52 wc (w.heap.size + 3) (fun _ => True) u5 bs ∧ (bs.length + 1) * 8 ≤ 140737488355328) := ⟨by rw [hbs]; exact ⟨R1.out.hP, HLn.out.1⟩⟩
          have HBs := Aside0.mk hbs
          clear hbs
          go_wp2_with (first | ((with_reducible refine gate_builtin (b := .append) (xs := #[.tmp 36, .tmp 38]) rfl ?_); at_builtin; refine Kd.R_append kP (w0 := wc) (w.heap.size + 3) rfl (.tmp 36) (.tmp 38) 41 52 (.pointer none) 8 rfl Tryd.underlying41 infoP rfl (by decide) (by omega) u5 bs b [pX b] (fun _ => True) (fun _ => False) rfl (by first | (go_simp; done) | (go_simp; rfl)) ?aP (fun _ hk => hk.elim) ?aF ?aO ?aB ?aS ?aL ?_; (case aP => exact rfl); (case aB => exact Below.refl _ _); (case aF => exact (fun _ _ => trivial)); (case aO => exact HP.out.1); (case aS => exact HLn.out.2.1); (case aL => exact HP.out.2); intro v1 w8 ho hb8 hg hat; have HO8 := Aside0.mk ho; have HG8 := Aside0.mk hg; clear ho hb8 hg hat) | (go_at_call 28; refine (reg_step R1.out HB.out.2.1 HOk.out.n HOk.out.a HOk.out.la HLn.out.2.2 HNw.out HNm.out HG8.out (by rw [← HBs.out]; exact HO8.out) (HBl.out w8 HG8.out)).mono ?_; rintro e w9 ⟨rfl, hR⟩; have R9 := Aside0.mk hR; clear hR))
          go_roundg k1
          case measure => omega
          case rel =>
            have hk := HK.out
            have e1 : (wrap64 (x12 + 1)).toNat = x12.toNat + 1 := by rw [hwr]; omega
            refine ⟨wrap64 (x12 + 1), ps ++ [(x, b)], rfl, ⟨by rw [hwr]; have := of_eq_true q1; omega⟩, ⟨R9.out, ?_⟩⟩
            rw [e1, List.map_append, RR.out.2, HTk.out]
            rfl
      · have hxe : xs.length ≤ x12.toNat := by have := HK.out; omega
        have c2b0 : decide (x12 < (xs.length : Int)) = false := decide_eq_false hlt
        have HE : Aside0 (ps.map (·.1) = xs) := ⟨by have := RR.out.2; rw [List.take_of_length_le hxe] at this; exact this⟩
        go_wp2
        go_ret2
        exact ⟨_, rfl, ps, RR.out.1, HE.out⟩
end Go.Proofs.YtibjlefenodhaaaDoorReg
