/- chroma.Tokenise over a coalescer. -/
import Derived.Test.YtmldahejeobohaaDoorCoaL
set_option linter.unusedVariables false
set_option linter.unusedSimpArgs false
namespace Go.Proofs.YtmldahejeobohaaDoorTake
open Go.RowKit Go.Proofs.YtmldahejeobohaaDoorW.PrintWords Go.Proofs.YtmldahejeobohaaDoor.A Go.Proofs.YtmldahejeobohaaDoorFmt
/-- A coalescer that is to give the tokens xs. -/
def CoI (b0 b1 Bp Bi : Nat) (W : World) (xs : List C) : Prop :=
  ∃ Bt g p l, CoAt W b0 b1 Bp Bi Bt g p l ∧ runsL p l = xs ∧ (∀ x ∈ l, x.f0 ≠ 0) ∧ (isE p = true ∨ p.f0 ≠ 0) ∧ p.f1.size + szL l ≤ 8191
theorem CoI.same {W W' : World} {b0 b1 Bp Bi : Nat} {xs : List C} (h : CoI b0 b1 Bp Bi W xs) (hk : ∀ k, k < b1 → k < W.heap.size → W'.heap[k]? = W.heap[k]?) : CoI b0 b1 Bp Bi W' xs := by
  obtain ⟨Bt, g, p, l, h1, h2⟩ := h
  exact ⟨Bt, g, p, l, h1.same hk, h2⟩
theorem coi_c (b0 b1 Bp Bi : Nat) (xs : List C) (w : World) (hV : VarsOK w) (hE : 0 < b0) (h : CoI b0 b1 Bp Bi w xs) (hb0 : b0 ≤ b1) (hb : b1 ≤ w.heap.size) :
    Calls Tryd.prog 90 #[.pointer (some ⟨Bi, 0, none⟩), .pointer (some ⟨Bp, 0, none⟩)] w fun e w' => e = .returned (.agg #[.int .i64 (hd xs).f0, .string (hd xs).f1]) ∧ CoI b0 b1 Bp Bi w' xs.tail ∧ Fr b0 b1 w w' := by
  obtain ⟨Bt, g, p, l, h1, rfl, h3, h4, h5⟩ := h
  refine (coal_c b0 b1 Bp Bi Bt g p l w hV hE h1 hb0 hb h3 h4 h5).mono ?_
  rintro e w' ⟨rfl, h6, h7⟩
  obtain ⟨s1, s2, s3⟩ := coalN_sz l p
  refine ⟨by rw [coalN_hd], ⟨Bt, g, _, _, h6, coalN_tail l p, (s3 h3).1, (s3 h3).2, by omega⟩, h7⟩
structure TLc (b0 b1 Bp Bi : Nat) (ps : List C) (w : World) (v : Value) (Bx : Nat) (dn rest : List C) (wr : World) : Prop where
  hf : ps = dn ++ rest
  hx : wr.heap[Bx]? = some (.cells #[.int .i64 (hd rest).f0, .string (hd rest).f1] 65 (0, 0))
  hxo : some Bx ≠ v.ownBlock
  hc : CoI b0 b1 Bp Bi wr rest.tail
  hF : Fr b0 b1 w wr
  hR : RC wr w.heap.size v dn
theorem tlc_append {b0 b1 Bp Bi Bx : Nat} {ps : List C} {w wr w8 : World} {v v1 : Value} {dn : List C} {x : C} {r : List C} (hb : b1 ≤ w.heap.size) (H : TLc b0 b1 Bp Bi ps w v Bx dn (x :: r) wr) (hg : wr.grownBy w8 v.ownBlock) (ho : RC w8 w.heap.size v1 (dn ++ [x])) :
    w8.heap[Bx]? = some (.cells #[.int .i64 x.f0, .string x.f1] 65 (0, 0)) ∧ CoI b0 b1 Bp Bi w8 r ∧ Fr b0 b1 w w8 := by
  have hsz := H.hF.size
  refine ⟨blk_grown H.hx hg H.hxo, H.hc.same (fun k hk hlt => hg.block k hlt (fun e => ?_)), ⟨hg.os.trans H.hF.os, hg.tape.trans H.hF.tape, hg.output.trans H.hF.output, Nat.le_trans hsz hg.size, fun k hk hkb => (hg.block k (by omega) (fun e => ?_)).trans (H.hF.block k hk hkb)⟩⟩
  · have := Kd.R_base H.hR k e.symm
    omega
  · have := Kd.R_base H.hR k e.symm
    omega
theorem tlc_next {b0 b1 Bp Bi Bx : Nat} {ps : List C} {w wr w8 w9 : World} {v v1 : Value} {dn : List C} {x : C} {r : List C} (hb : b1 ≤ w.heap.size) (H : TLc b0 b1 Bp Bi ps w v Bx dn (x :: r) wr) (hF8 : Fr b0 b1 w w8) (ho : RC w8 w.heap.size v1 (dn ++ [x]))
    (b9 : w9.heap[w8.heap.size]? = some (.cells #[.int .i64 x.f0, .string x.f1] 65 (0, 0))) (hC9 : CoI b0 b1 Bp Bi w9 r.tail) (hF9 : Fr b0 b1 (w8.alloc (.cells #[.int .i64 x.f0, .string x.f1] 65)) w9) :
    TLc b0 b1 Bp Bi ps w v1 w8.heap.size (dn ++ [x]) r ((w9.setCell ⟨w8.heap.size, 0, none⟩ (.int .i64 (hd r).f0)).setCell ⟨w8.heap.size, 1, none⟩ (.string (hd r).f1)) := by
  have h8 := hF8.size
  have h9 := hF9.size
  rw [World.size_alloc] at h9
  have far : ∀ k, k ≠ w8.heap.size → ((w9.setCell ⟨w8.heap.size, 0, none⟩ (.int .i64 (hd r).f0)).setCell ⟨w8.heap.size, 1, none⟩ (.string (hd r).f1)).heap[k]? = w9.heap[k]? := fun k hk =>
    (Below.heap_setCell _ ⟨w8.heap.size, 1, none⟩ _ k hk).trans (Below.heap_setCell _ ⟨w8.heap.size, 0, none⟩ _ k hk)
  have hF := (hF8.trans (Fr.alloc _ _)).trans hF9
  refine ⟨by rw [H.hf]; simp, blk_put (blk_put b9 0 _ rfl) 1 _ rfl, fun e => ?_, hC9.same (fun k hk hlt => far k (by omega)), ⟨hF.os, hF.tape, hF.output, by rw [World.size_setCell, World.size_setCell]; exact hF.size, fun k hk hkb => (far k (by omega)).trans (hF.block k hk hkb)⟩, ?_⟩
  · have := Kd.R_lt ho _ e.symm
    omega
  · exact Kd.R_mono (Kd.R_step (Kd.R_bound ho) (fun k hk hlt => ((far k (by omega)).trans (hF9.block k (by simp; omega) (.inr (Nat.le_trans hb hk.2.1)))).trans (Below.heap_alloc _ _ k hlt))) (fun _ _ => trivial)
theorem tlc_box {b0 b1 : Nat} {w w8 w9 : World} (hb : b1 ≤ w.heap.size) (hF : Fr b0 b1 w w8) (o' : Obj) (h9 : Fr b0 b1 (w8.alloc o') w9) : w9.heap[w8.heap.size]? = some o' :=
  (h9.block _ (by simp) (.inr (Nat.le_trans hb hF.size))).trans (blk_new w8 o')
theorem meth_co (Br : Nat) (w : World) : (method 267 135 (.pointer (some ⟨Br, 0, none⟩)) "Tokenise").run Tryd.prog w = .ok (89, .pointer (some ⟨Br, 0, none⟩)) w := by kernel_rfl
set_option maxRecDepth 100000 in
set_option maxHeartbeats 8000000 in
theorem tk_c (Br Bk : Nat) (A0 : Option Addr) (c0 : Nat) (l : List T) (s : ByteArray) (w : World) (cfg : Option Addr) (hV : VarsOK w) (h : TokB w Bk A0 c0 l) (hl : l.length ≤ 90000) (hz : ∀ x ∈ l, x.f0 ≠ 0) (hs : szL (l.map toCC) ≤ 8191) (hr : w.heap[Br]? = some (.cells #[lxV cfg Bk] 137 (0, 0))) :
    Calls Tryd.prog 28 #[.iface 135 (.pointer (some ⟨Br, 0, none⟩)), .pointer none, .string s] w fun e w' => ∃ v, e = .returned (.tuple #[v, .nilIface]) ∧ RC w' w.heap.size v (runsL eof (l.map toCC)) ∧ Below w.heap.size w w' := by
  have hu := Tryd.underlying65
  have hm := meth_co Br
  have hnn : ∀ (w : World), (Go.binOp .neq 67 .nilIface .nilIface).run Tryd.prog w = .ok (.bool false) w := fun w => run_neq_nil_nil (P := Tryd.prog) w 67 (by kernel_rfl)
  have HK0 := Aside0.mk (ct_c Br Bk A0 c0 l s w cfg h (by omega) hr)
  have hE := vars_lt hV
  have HZ := Aside0.mk hz
  have HS := Aside0.mk hs
  have hgood := Aside0.mk (runsL_good (l.map toCC) eof (fun x hx => by obtain ⟨y, hy, rfl⟩ := List.mem_map.1 hx; exact hz y hy) (.inl rfl))
  have hlen := Aside0.mk (runsL_len (l.map toCC) eof)
  clear h hr hz hs
  go_enter Tryd.func28, Tryd.ntmps28
  go_wp2_with (first | (go_at_call 89; refine HK0.out.mono ?_; rintro e w1 ⟨Bi, Bp, Bt, g, rfl, hP⟩; have HP := Aside0.mk hP; clear hP) | (go_at_call 90; refine (coi_c w.heap.size w1.heap.size Bp Bi (runsL eof (l.map toCC)) w1 (vars_kept hV (HP.out.2.block _ hE)) hE ⟨Bt, g, eof, _, HP.out.1, rfl, (fun x hx => by obtain ⟨y, hy, rfl⟩ := List.mem_map.1 hx; exact HZ.out y hy), .inl rfl, by have := HS.out; show 0 + _ ≤ _; omega⟩ HP.out.2.size (Nat.le_refl _)).mono ?_; rintro e w2 ⟨rfl, hQ⟩; have HQ := Aside0.mk hQ; clear hQ))
  have hV1 : Aside0 (VarsOK w1) := ⟨vars_kept hV (HP.out.2.block _ hE)⟩
  have hs1 : Aside0 (w.heap.size ≤ w1.heap.size) := ⟨HP.out.2.size⟩
  have HL : Aside0 (TLc w.heap.size w1.heap.size Bp Bi (runsL eof (l.map toCC)) w1 (.slice none 0 0) w2.heap.size [] (runsL eof (l.map toCC)) (w2.alloc (.cells #[.int .i64 (hd (runsL eof (l.map toCC))).f0, .string (hd (runsL eof (l.map toCC))).f1] 65))) :=
    ⟨⟨rfl, blk_new _ _, by simp [Value.ownBlock], HQ.out.1.same (fun k hk hlt => Below.heap_alloc _ _ _ hlt), HQ.out.2.trans (Fr.alloc _ _), Kd.R_nil _ _ _ _ _⟩⟩
  generalize hxs : runsL eof (l.map toCC) = xs at HL hgood hlen ⊢
  clear HQ HZ HS HK0
  go_loopg [8, 11] (xs.length + 1) (fun kq v8 v11 wr => ∃ (Bx : Nat) (dn rest : List C), v11 = .pointer (some ⟨Bx, 0, none⟩) ∧ Aside0 (rest.length < kq) ∧ Aside0 (TLc w.heap.size w1.heap.size Bp Bi xs w1 v8 Bx dn rest wr))
  case atStart => exact ⟨_, [], xs, rfl, ⟨Nat.lt_succ_self _⟩, HL⟩
  case round =>
    obtain ⟨Bx, dn, rest, rfl, HK, HH⟩ := hrel
    clear HL
    cases gk with
    | zero => have := HK.out; omega
    | succ k1 =>
      have H := HH.out
      have V := co_vars hV1.out hE H.hF
      have v0 := V.e0
      have v1 := V.e1
      have lv := vars_lt V
      have lx := blk_lt H.hx
      cases rest with
      | nil =>
        have x0 : wr.cell? ⟨Bx, 0, none⟩ = some (.int .i64 0) := (blk_cell H.hx 0).trans rfl
        have x1 : wr.cell? ⟨Bx, 1, none⟩ = some (.string ⟨#[]⟩) := (blk_cell H.hx 1).trans rfl
        clear H V
        go_wp2
        go_ret2
        have H := HH.out
        have hxd : xs = dn := by rw [H.hf, List.append_nil]
        exact ⟨u8, rfl, by rw [hxs, hxd]; exact Kd.R_lower H.hR hs1.out, H.hF.below HP.out.2 hs1.out⟩
      | cons x r =>
        have x0 : wr.cell? ⟨Bx, 0, none⟩ = some (.int .i64 x.f0) := (blk_cell H.hx 0).trans rfl
        have x1 : wr.cell? ⟨Bx, 1, none⟩ = some (.string x.f1) := (blk_cell H.hx 1).trans rfl
        have hxz : x.f0 ≠ 0 := hgood.out x (by rw [H.hf]; simp)
        have hxb : (x.f0 == 0) = false := beq_eq_false_iff_ne.2 hxz
        have hL : Aside0 (dn.length < 1000000) := ⟨by have := congrArg List.length H.hf; have := hlen.out; simp at *; omega⟩
        have hbs : Aside0 (w1.heap.size ≤ wr.heap.size) := ⟨H.hF.size⟩
        clear H V
        go_wp2_with (first | ((with_reducible refine gate_builtin (b := .append) (xs := #[.tmp 29, .tmp 31]) rfl ?_); at_builtin; refine Kd.R_append kC (w0 := wr) w1.heap.size rfl (.tmp 29) (.tmp 31) 50 65 (.agg #[(.int .i64 0), (.string ⟨#[]⟩)]) 24 rfl Tryd.underlying50 info65 rfl (by decide) (by omega) u8 dn x [.int .i64 x.f0, .string x.f1] (fun _ => True) (fun _ => False) rfl (by first | (go_simp; done) | (go_simp; rfl)) ?aP (fun _ hk => hk.elim) ?aF ?aO ?aB ?aS ?aL ?_; (case aP => exact k65_mkM _ _ _ x); (case aB => exact Below.refl _ _); (case aF => exact (fun _ _ => trivial)); (case aO => exact HH.out.hR); (case aS => exact hbs.out); (case aL => have := hL.out; omega); intro v1 w8 ho hb8 hg hat; have hP8 := Aside0.mk (tlc_append (Nat.le_refl _) HH.out hg ho); have hO := Aside0.mk ho; have hx8 := hP8.out.1; have y0 : w8.cell? ⟨Bx, 0, none⟩ = some (.int .i64 x.f0) := (blk_cell hx8 0).trans rfl; have y1 : w8.cell? ⟨Bx, 1, none⟩ = some (.string x.f1) := (blk_cell hx8 1).trans rfl; have lx8 := blk_lt hx8; clear hx8 ho hb8 hg hat) | (go_at_call 90; refine (coi_c w.heap.size w1.heap.size Bp Bi r _ (co_vars hV1.out hE (hP8.out.2.2.trans (Fr.alloc _ _))) hE (hP8.out.2.1.same (fun k hk hlt => Below.heap_alloc _ _ _ hlt)) hs1.out (by have := hP8.out.2.2.size; simp; omega)).mono ?_; rintro e w9 ⟨rfl, hC9, hF9⟩; have b9 := tlc_box (Nat.le_refl _) hP8.out.2.2 (.cells #[.int .i64 x.f0, .string x.f1] 65) hF9; have z0 : w9.cell? ⟨w8.heap.size, 0, none⟩ = some (.int .i64 x.f0) := (blk_cell b9 0).trans rfl; have z1 : w9.cell? ⟨w8.heap.size, 1, none⟩ = some (.string x.f1) := (blk_cell b9 1).trans rfl; have zf0 := blk_frozen b9 0; have zf1 := blk_frozen b9 1; have Q1 := Aside0.mk b9; have Q3 := Aside0.mk hC9; have Q4 := Aside0.mk hF9; clear b9 hC9 hF9))
        go_roundg k1
        case measure => omega
        case rel => exact ⟨w8.heap.size, dn ++ [x], r, rfl, ⟨by have := HK.out; simp at this; omega⟩, ⟨tlc_next (Nat.le_refl _) HH.out hP8.out.2.2 hO.out Q1.out Q3.out Q4.out⟩⟩
abbrev RT (w : World) (base : Nat) (v : Value) (xs : List T) : Prop := Kd.R kT 27 w base (fun _ => True) v xs
set_option maxHeartbeats 4000000 in
theorem lit_c (A0 : Option Addr) (n c : Nat) (w : World) : Calls Tryd.prog 24 #[.slice A0 n c] w fun e w' => ∃ cfg, e = .returned (lxV cfg w.heap.size) ∧ Below w.heap.size w w' ∧ w'.heap[w.heap.size]? = some (.cells #[.slice A0 n c] 23 (0, 0)) := by
  have hmf : ∀ (fn : Fn) (first cap : Array Value) (w : World), (Instr.makeFunc fn first cap).run Tryd.prog w = .ok (.func fn first cap) w := fun _ _ _ _ => rfl
  go_enter Tryd.func24, Tryd.ntmps24
  go_wp2
  go_ret
  exact ⟨_, rfl, ((Below.refl w.heap.size w).alloc (Nat.le_refl _) _).alloc (by simp) _, blk_alloc (blk_new w _) _⟩
set_option maxHeartbeats 4000000 in
theorem co_c (x : Value) (tx : TypeId) (w : World) : Calls Tryd.prog 73 #[.iface tx x] w fun e w' => e = .returned (.iface 135 (.pointer (some ⟨w.heap.size, 0, none⟩))) ∧ w' = w.alloc (.cells #[.iface tx x] 137) := by
  go_enter Tryd.func73, Tryd.ntmps73
  go_wp2
  go_ret
  exact ⟨rfl, rfl⟩
set_option maxHeartbeats 4000000 in
theorem lexed_c (Br Bk : Nat) (A0 : Option Addr) (c0 : Nat) (l : List T) (s : ByteArray) (w : World) (cfg : Option Addr) (hV : VarsOK w) (h : TokB w Bk A0 c0 l) (hl : l.length ≤ 90000) (hz : ∀ x ∈ l, x.f0 ≠ 0) (hs : szL (l.map toCC) ≤ 8191) (hr : w.heap[Br]? = some (.cells #[lxV cfg Bk] 137 (0, 0))) :
    Calls Tryd.prog 22 #[.iface 135 (.pointer (some ⟨Br, 0, none⟩)), .string s] w fun e w' => ∃ v, e = .returned (.tuple #[v, .bool true]) ∧ RT w' w.heap.size v ((runsL eof (l.map toCC)).map toTT) ∧ Below w.heap.size w w' := by
  have hnn : ∀ (w : World), (Go.binOp .neq 67 .nilIface .nilIface).run Tryd.prog w = .ok (.bool false) w := fun w => run_neq_nil_nil (P := Tryd.prog) w 67 (by kernel_rfl)
  have HT := Aside0.mk (tk_c Br Bk A0 c0 l s w cfg hV h hl hz hs hr)
  have hlen := runsL_len (l.map toCC) eof
  rw [List.length_map] at hlen
  obtain ⟨k, hk⟩ := outer_some (runsL eof (l.map toCC)) (by omega)
  clear h hr hs hz hlen
  go_enter Tryd.func22, Tryd.ntmps22
  go_wp2_with (first | (go_at_call 28; refine HT.out.mono ?_; rintro e w1 ⟨v1, rfl, hR1, hB1⟩; obtain ⟨A1, c1, rfl⟩ := Kd.R_slice hR1; have hq := Kd.R_reads' hR1; have HQ := Aside0.mk hq; have HR1 := Aside0.mk hR1; have HB1 := Aside0.mk hB1; clear hq hR1 hB1) | (go_at_call 29; refine (impl_outer.calls k A1 c1 _ _ _ HQ.out.2.2 HQ.out.2.1 hk).mono ?_; rintro e w2 ⟨v2, rfl, hR2, hB2⟩; have HR2 := Aside0.mk hR2; have HB2 := Aside0.mk hB2; clear hR2 hB2))
  go_ret2
  exact ⟨_, rfl, Kd.R_lower HR2.out HB1.out.size, below_step HB1.out HB2.out⟩
end Go.Proofs.YtmldahejeobohaaDoorTake
