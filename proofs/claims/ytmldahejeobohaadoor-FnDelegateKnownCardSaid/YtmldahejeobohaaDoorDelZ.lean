/- A delegating lexer: lexed over it, impl.Delegate, and what it makes of each byte. -/
import Derived.Test.YtmldahejeobohaaDoorDelT
import Derived.Test.YtmldahejeobohaaDoorDelA
import Derived.Test.YtmldahejeobohaaDoorEvt
set_option linter.unusedVariables false
set_option linter.unusedSimpArgs false
namespace Go.Proofs.YtmldahejeobohaaDoorTake
open Go.RowKit Go.Proofs.YtmldahejeobohaaDoorW.PrintWords Go.Proofs.YtmldahejeobohaaDoor.A Go.Proofs.YtmldahejeobohaaDoorFmt
/-- A Literator that is to give the tokens xs. -/
def LiI (b0 b1 Bt g : Nat) (W : World) (xs : List C) : Prop := LitAt W Bt g xs ∧ (b0 ≤ Bt ∧ Bt < b1) ∧ g < b1
theorem LiI.same {W W' : World} {b0 b1 Bt g : Nat} {xs : List C} (h : LiI b0 b1 Bt g W xs) (hk : ∀ k, k < b1 → k < W.heap.size → W'.heap[k]? = W.heap[k]?) : LiI b0 b1 Bt g W' xs :=
  ⟨h.1.same (hk _ h.2.1.2 h.1.lt) (hk _ h.2.2 (lit_g h.1)), h.2⟩
theorem lii_c (b0 b1 Bt g : Nat) (xs : List C) (w : World) (hV : VarsOK w) (h : LiI b0 b1 Bt g w xs) :
    Calls Tryd.prog 64 #[.pointer (some ⟨Bt, 0, none⟩)] w fun e w' => e = .returned (.agg #[.int .i64 (hd xs).f0, .string (hd xs).f1]) ∧ LiI b0 b1 Bt g w' xs.tail ∧ Fr b0 b1 w w' :=
  (next_c Bt g xs w hV h.1).mono fun e w' k => ⟨k.1, ⟨k.2.1, h.2⟩, Fr.of_grown k.2.2.1 h.2.1.1 h.2.1.2⟩
structure TLd (b0 b1 Bt g : Nat) (ps : List C) (w : World) (v : Value) (Bx : Nat) (dn rest : List C) (wr : World) : Prop where
  hf : ps = dn ++ rest
  hx : wr.heap[Bx]? = some (.cells #[.int .i64 (hd rest).f0, .string (hd rest).f1] 65 (0, 0))
  hxo : some Bx ≠ v.ownBlock
  hc : LiI b0 b1 Bt g wr rest.tail
  hF : Fr b0 b1 w wr
  hR : RC wr w.heap.size v dn
theorem tld_append {b0 b1 Bt g Bx : Nat} {ps : List C} {w wr w8 : World} {v v1 : Value} {dn : List C} {x : C} {r : List C} (hb : b1 ≤ w.heap.size) (H : TLd b0 b1 Bt g ps w v Bx dn (x :: r) wr) (hg : wr.grownBy w8 v.ownBlock) (ho : RC w8 w.heap.size v1 (dn ++ [x])) :
    w8.heap[Bx]? = some (.cells #[.int .i64 x.f0, .string x.f1] 65 (0, 0)) ∧ LiI b0 b1 Bt g w8 r ∧ Fr b0 b1 w w8 := by
  have hsz := H.hF.size
  refine ⟨blk_grown H.hx hg H.hxo, H.hc.same (fun k hk hlt => hg.block k hlt (fun e => ?_)), ⟨hg.os.trans H.hF.os, hg.tape.trans H.hF.tape, hg.output.trans H.hF.output, Nat.le_trans hsz hg.size, fun k hk hkb => (hg.block k (by omega) (fun e => ?_)).trans (H.hF.block k hk hkb)⟩⟩
  · have := Kd.R_base H.hR k e.symm
    omega
  · have := Kd.R_base H.hR k e.symm
    omega
theorem tld_next {b0 b1 Bt g Bx : Nat} {ps : List C} {w wr w8 w9 : World} {v v1 : Value} {dn : List C} {x : C} {r : List C} (hb : b1 ≤ w.heap.size) (H : TLd b0 b1 Bt g ps w v Bx dn (x :: r) wr) (hF8 : Fr b0 b1 w w8) (ho : RC w8 w.heap.size v1 (dn ++ [x]))
    (b9 : w9.heap[w8.heap.size]? = some (.cells #[.int .i64 x.f0, .string x.f1] 65 (0, 0))) (hC9 : LiI b0 b1 Bt g w9 r.tail) (hF9 : Fr b0 b1 (w8.alloc (.cells #[.int .i64 x.f0, .string x.f1] 65)) w9) :
    TLd b0 b1 Bt g ps w v1 w8.heap.size (dn ++ [x]) r ((w9.setCell ⟨w8.heap.size, 0, none⟩ (.int .i64 (hd r).f0)).setCell ⟨w8.heap.size, 1, none⟩ (.string (hd r).f1)) := by
  have h8 := hF8.size
  have h9 := hF9.size
  rw [World.size_alloc] at h9
  have far : ∀ k, k ≠ w8.heap.size → ((w9.setCell ⟨w8.heap.size, 0, none⟩ (.int .i64 (hd r).f0)).setCell ⟨w8.heap.size, 1, none⟩ (.string (hd r).f1)).heap[k]? = w9.heap[k]? := fun k hk =>
    (Below.heap_setCell _ ⟨w8.heap.size, 1, none⟩ _ k hk).trans (Below.heap_setCell _ ⟨w8.heap.size, 0, none⟩ _ k hk)
  have hF := (hF8.trans (Fr.alloc _ _)).trans hF9
  refine ⟨by rw [H.hf]; simp, blk_put (blk_put b9 0 _ rfl) 1 _ rfl, fun e => ?_, hC9.same (fun k hk hlt => far k (by omega)), ⟨hF.os, hF.tape, hF.output, by rw [World.size_setCell, World.size_setCell]; exact hF.size, fun k hk hkb => (far k (by omega)).trans (hF.block k hk hkb)⟩, ?_⟩
  · have := Kd.R_lt ho _ e.symm
    omega
  · exact Kd.R_mono (Kd.R_step (Kd.R_bound ho) (fun k hk hlt => ((far k (by omega)).trans (hF9.block k (by simp; omega) (.inr (Nat.le_trans hb hk.2.1)))).trans (Below.heap_alloc _ _ k hlt))) (fun _ _ => trivial)
theorem tld_box {b0 b1 : Nat} {w w8 w9 : World} (hb : b1 ≤ w.heap.size) (hF : Fr b0 b1 w w8) (o' : Obj) (h9 : Fr b0 b1 (w8.alloc o') w9) : w9.heap[w8.heap.size]? = some o' :=
  (h9.block _ (by simp) (.inr (Nat.le_trans hb hF.size))).trans (blk_new w8 o')
theorem meth_de (Br : Nat) (w : World) : (method 267 71 (.pointer (some ⟨Br, 0, none⟩)) "Tokenise").run Tryd.prog w = .ok (72, .pointer (some ⟨Br, 0, none⟩)) w := by kernel_rfl
set_option maxRecDepth 100000 in
set_option maxHeartbeats 8000000 in
theorem tkD_c (Br : Nat) (l : List C) (s : ByteArray) (w : World) (hV : VarsOK w)
    (hK : Calls Tryd.prog 72 #[.pointer (some ⟨Br, 0, none⟩), .pointer none, .string s] w fun e w' => ∃ Bt g, e = .returned (.tuple #[.func (.func 64) #[] #[.pointer (some ⟨Bt, 0, none⟩)], .nilIface]) ∧ LitAt w' Bt g l ∧ w.heap.size ≤ Bt ∧ w.heap.size ≤ g ∧ g < w'.heap.size ∧ Below w.heap.size w w')
    (hl : l.length ≤ 990000) (hz : ∀ x ∈ l, x.f0 ≠ 0) :
    Calls Tryd.prog 28 #[.iface 71 (.pointer (some ⟨Br, 0, none⟩)), .pointer none, .string s] w fun e w' => ∃ v, e = .returned (.tuple #[v, .nilIface]) ∧ RC w' w.heap.size v l ∧ Below w.heap.size w w' := by
  have hu := Tryd.underlying65
  have hm := meth_de Br
  have hnn : ∀ (w : World), (Go.binOp .neq 67 .nilIface .nilIface).run Tryd.prog w = .ok (.bool false) w := fun w => run_neq_nil_nil (P := Tryd.prog) w 67 (by kernel_rfl)
  have HK0 := Aside0.mk hK
  have hE := vars_lt hV
  have HZ := Aside0.mk hz
  have hgood := Aside0.mk hz
  have hlen := Aside0.mk hl
  clear hK hz hl
  go_enter Tryd.func28, Tryd.ntmps28
  go_wp2_with (first | (go_at_call 72; refine HK0.out.mono ?_; rintro e w1 ⟨Bt, g, rfl, hP⟩; have HP := Aside0.mk hP; clear hP) | (go_at_call 64; refine (lii_c w.heap.size w1.heap.size Bt g l w1 (vars_kept hV (HP.out.2.2.2.2.block _ hE)) ⟨HP.out.1, ⟨HP.out.2.1, HP.out.1.lt⟩, HP.out.2.2.2.1⟩).mono ?_; rintro e w2 ⟨rfl, hQ⟩; have HQ := Aside0.mk hQ; clear hQ))
  have hV1 : Aside0 (VarsOK w1) := ⟨vars_kept hV (HP.out.2.2.2.2.block _ hE)⟩
  have hs1 : Aside0 (w.heap.size ≤ w1.heap.size) := ⟨HP.out.2.2.2.2.size⟩
  have HL : Aside0 (TLd w.heap.size w1.heap.size Bt g l w1 (.slice none 0 0) w2.heap.size [] l (w2.alloc (.cells #[.int .i64 (hd l).f0, .string (hd l).f1] 65))) :=
    ⟨⟨rfl, blk_new _ _, by simp [Value.ownBlock], HQ.out.1.same (fun k hk hlt => Below.heap_alloc _ _ _ hlt), HQ.out.2.trans (Fr.alloc _ _), Kd.R_nil _ _ _ _ _⟩⟩
  generalize hxs : l = xs at HL hgood hlen ⊢
  clear HQ HZ HK0
  go_loopg [8, 11] (xs.length + 1) (fun kq v8 v11 wr => ∃ (Bx : Nat) (dn rest : List C), v11 = .pointer (some ⟨Bx, 0, none⟩) ∧ Aside0 (rest.length < kq) ∧ Aside0 (TLd w.heap.size w1.heap.size Bt g xs w1 v8 Bx dn rest wr))
  case atStart => exact ⟨_, [], xs, rfl, ⟨Nat.lt_succ_self _⟩, HL⟩
  case round =>
    obtain ⟨Bx, dn, rest, rfl, HK, HH⟩ := hrel
    clear HL
    cases gk with
    | zero => have := HK.out; omega
    | succ k1 =>
      have H := HH.out
      have V := co_vars hV1.out hE H.hF
      have v0 := V.e0
      have v1 := V.e1
      have lv := vars_lt V
      have lx := blk_lt H.hx
      cases rest with
      | nil =>
        have x0 : wr.cell? ⟨Bx, 0, none⟩ = some (.int .i64 0) := (blk_cell H.hx 0).trans rfl
        have x1 : wr.cell? ⟨Bx, 1, none⟩ = some (.string ⟨#[]⟩) := (blk_cell H.hx 1).trans rfl
        clear H V
        go_wp2
        go_ret2
        have H := HH.out
        have hxd : xs = dn := by rw [H.hf, List.append_nil]
        exact ⟨u8, rfl, by rw [hxs, hxd]; exact Kd.R_lower H.hR hs1.out, H.hF.below HP.out.2.2.2.2 hs1.out⟩
      | cons x r =>
        have x0 : wr.cell? ⟨Bx, 0, none⟩ = some (.int .i64 x.f0) := (blk_cell H.hx 0).trans rfl
        have x1 : wr.cell? ⟨Bx, 1, none⟩ = some (.string x.f1) := (blk_cell H.hx 1).trans rfl
        have hxz : x.f0 ≠ 0 := hgood.out x (by rw [H.hf]; simp)
        have hxb : (x.f0 == 0) = false := beq_eq_false_iff_ne.2 hxz
        have hL : Aside0 (dn.length < 1000000) := ⟨by have := congrArg List.length H.hf; have := hlen.out; simp at *; omega⟩
        have hbs : Aside0 (w1.heap.size ≤ wr.heap.size) := ⟨H.hF.size⟩
        clear H V
        go_wp2_with (first | ((with_reducible refine gate_builtin (b := .append) (xs := #[.tmp 29, .tmp 31]) rfl ?_); at_builtin; refine Kd.R_append kC (w0 := wr) w1.heap.size rfl (.tmp 29) (.tmp 31) 50 65 (.agg #[(.int .i64 0), (.string ⟨#[]⟩)]) 24 rfl Tryd.underlying50 info65 rfl (by decide) (by omega) u8 dn x [.int .i64 x.f0, .string x.f1] (fun _ => True) (fun _ => False) rfl (by first | (go_simp; done) | (go_simp; rfl)) ?aP (fun _ hk => hk.elim) ?aF ?aO ?aB ?aS ?aL ?_; (case aP => exact k65_mkM _ _ _ x); (case aB => exact Below.refl _ _); (case aF => exact (fun _ _ => trivial)); (case aO => exact HH.out.hR); (case aS => exact hbs.out); (case aL => have := hL.out; omega); intro v1 w8 ho hb8 hg hat; have hP8 := Aside0.mk (tld_append (Nat.le_refl _) HH.out hg ho); have hO := Aside0.mk ho; have hx8 := hP8.out.1; have y0 : w8.cell? ⟨Bx, 0, none⟩ = some (.int .i64 x.f0) := (blk_cell hx8 0).trans rfl; have y1 : w8.cell? ⟨Bx, 1, none⟩ = some (.string x.f1) := (blk_cell hx8 1).trans rfl; have lx8 := blk_lt hx8; clear hx8 ho hb8 hg hat) | (go_at_call 64; refine (lii_c w.heap.size w1.heap.size Bt g r _ (co_vars hV1.out hE (hP8.out.2.2.trans (Fr.alloc _ _))) (hP8.out.2.1.same (fun k hk hlt => Below.heap_alloc _ _ _ hlt))).mono ?_; rintro e w9 ⟨rfl, hC9, hF9⟩; have b9 := tld_box (Nat.le_refl _) hP8.out.2.2 (.cells #[.int .i64 x.f0, .string x.f1] 65) hF9; have z0 : w9.cell? ⟨w8.heap.size, 0, none⟩ = some (.int .i64 x.f0) := (blk_cell b9 0).trans rfl; have z1 : w9.cell? ⟨w8.heap.size, 1, none⟩ = some (.string x.f1) := (blk_cell b9 1).trans rfl; have zf0 := blk_frozen b9 0; have zf1 := blk_frozen b9 1; have Q1 := Aside0.mk b9; have Q3 := Aside0.mk hC9; have Q4 := Aside0.mk hF9; clear b9 hC9 hF9))
        go_roundg k1
        case measure => omega
        case rel => exact ⟨w8.heap.size, dn ++ [x], r, rfl, ⟨by have := HK.out; simp at this; omega⟩, ⟨tld_next (Nat.le_refl _) HH.out hP8.out.2.2 hO.out Q1.out Q3.out Q4.out⟩⟩
set_option maxHeartbeats 4000000 in
theorem lexedD_c (Br : Nat) (l : List C) (s : ByteArray) (w : World)
    (hT : Calls Tryd.prog 28 #[.iface 71 (.pointer (some ⟨Br, 0, none⟩)), .pointer none, .string s] w fun e w' => ∃ v, e = .returned (.tuple #[v, .nilIface]) ∧ RC w' w.heap.size v l ∧ Below w.heap.size w w') (hl : l.length ≤ 990000) :
    Calls Tryd.prog 22 #[.iface 71 (.pointer (some ⟨Br, 0, none⟩)), .string s] w fun e w' => ∃ v, e = .returned (.tuple #[v, .bool true]) ∧ RT w' w.heap.size v (l.map toTT) ∧ Below w.heap.size w w' := by
  have hnn : ∀ (w : World), (Go.binOp .neq 67 .nilIface .nilIface).run Tryd.prog w = .ok (.bool false) w := fun w => run_neq_nil_nil (P := Tryd.prog) w 67 (by kernel_rfl)
  have HT := Aside0.mk hT
  obtain ⟨k, hk⟩ := outer_some l (by omega)
  clear hT
  go_enter Tryd.func22, Tryd.ntmps22
  go_wp2_with (first | (go_at_call 28; refine HT.out.mono ?_; rintro e w1 ⟨v1, rfl, hR1, hB1⟩; obtain ⟨A1, c1, rfl⟩ := Kd.R_slice hR1; have hq := Kd.R_reads' hR1; have HQ := Aside0.mk hq; have HR1 := Aside0.mk hR1; have HB1 := Aside0.mk hB1; clear hq hR1 hB1) | (go_at_call 29; refine (impl_outer.calls k A1 c1 _ _ _ HQ.out.2.2 HQ.out.2.1 hk).mono ?_; rintro e w2 ⟨v2, rfl, hR2, hB2⟩; have HR2 := Aside0.mk hR2; have HB2 := Aside0.mk hB2; clear hR2 hB2))
  go_ret2
  exact ⟨_, rfl, Kd.R_lower HR2.out HB1.out.size, below_step HB1.out HB2.out⟩
set_option maxHeartbeats 4000000 in
theorem dl_c (x y : Value) (tx ty : TypeId) (w : World) : Calls Tryd.prog 23 #[.iface tx x, .iface ty y] w fun e w' => e = .returned (.iface 71 (.pointer (some ⟨w.heap.size, 0, none⟩))) ∧ w' = w.alloc (.cells #[.iface tx x, .iface ty y] 73) := by
  go_enter Tryd.func23, Tryd.ntmps23
  go_wp2
  go_ret
  exact ⟨rfl, rfl⟩
end Go.Proofs.YtmldahejeobohaaDoorTake
set_option linter.unusedVariables false
set_option linter.unusedSimpArgs false
namespace Go.Proofs.YtmldahejeobohaaDoorTake
open Go.RowKit Go.Proofs.YtmldahejeobohaaDoorW.PrintWords Go.Proofs.YtmldahejeobohaaDoor.A Go.Proofs.YtmldahejeobohaaDoorFmt
theorem pcs_sz (xs : List Ct) (s : ByteArray) : szL (pcsL xs s) = s.size := by
  have h := congrArg List.length (pcs_bys xs s)
  rw [bys_len] at h
  rw [← h, ← bt2_len]
  unfold bt2 btk
  simp only [List.length_flatMap, List.length_map]
mutual
theorem tk_L (R : List C) (off : Nat) (h : ∀ x ∈ R, x.f0 ≠ 0) : ∀ i ∈ insL off R, ∀ x ∈ i.tk, x.f0 ≠ 0 := by
  match R with
  | [] => intro i hi; cases hi
  | t :: r =>
    intro i hi
    have hr : ∀ x ∈ r, x.f0 ≠ 0 := fun x hx => h x (List.mem_cons_of_mem _ hx)
    rw [insL] at hi
    split at hi
    · exact tk_L r _ hr i hi
    · exact tk_O r _ [t] _ hr (fun x hx => by rw [List.mem_singleton.1 hx]; exact h t List.mem_cons_self) i hi
theorem tk_O (R : List C) (st : Nat) (tk : List C) (off : Nat) (h : ∀ x ∈ R, x.f0 ≠ 0) (ht : ∀ x ∈ tk, x.f0 ≠ 0) : ∀ i ∈ insO st tk off R, ∀ x ∈ i.tk, x.f0 ≠ 0 := by
  match R with
  | [] =>
    intro i hi
    rw [insO] at hi
    rw [List.mem_singleton.1 hi]
    exact ht
  | t :: r =>
    intro i hi
    have hr : ∀ x ∈ r, x.f0 ≠ 0 := fun x hx => h x (List.mem_cons_of_mem _ hx)
    rw [insO] at hi
    split at hi
    · rcases List.mem_cons.1 hi with rfl | hi
      · exact ht
      · exact tk_L r _ hr i hi
    · exact tk_O r st (tk ++ [t]) _ hr (fun x hx => by
        rcases List.mem_append.1 hx with hx | hx
        · exact ht x hx
        · rw [List.mem_singleton.1 hx]; exact h t List.mem_cons_self) i hi
end
theorem merge_nz (q : List C) (is : List Ins) (m : Nat) (hq : ∀ x ∈ q, x.f0 ≠ 0) (hi : ∀ i ∈ is, ∀ x ∈ i.tk, x.f0 ≠ 0) : ∀ x ∈ merge q is m, x.f0 ≠ 0 := by
  match q, is with
  | q, [] => rw [merge]; exact hq
  | [], i :: r =>
    intro x hx
    rw [merge] at hx
    rcases List.mem_append.1 hx with hx | hx
    · exact hi i List.mem_cons_self x hx
    · exact merge_nz [] r _ hq (fun i h => hi i (List.mem_cons_of_mem _ h)) x hx
  | t :: q, i :: r =>
    intro x hx
    have ht := hq t List.mem_cons_self
    have hq' : ∀ x ∈ q, x.f0 ≠ 0 := fun x hx => hq x (List.mem_cons_of_mem _ hx)
    have hr : ∀ i ∈ r, ∀ x ∈ i.tk, x.f0 ≠ 0 := fun i h => hi i (List.mem_cons_of_mem _ h)
    rw [merge] at hx
    split at hx
    · split at hx
      · rcases List.mem_append.1 hx with hx | hx
        · exact hi i List.mem_cons_self x hx
        · exact merge_nz (t :: q) r _ hq hr x hx
      · rcases List.mem_cons.1 hx with rfl | hx
        · exact ht
        · rcases List.mem_append.1 hx with hx | hx
          · exact hi i List.mem_cons_self x hx
          · exact merge_nz (⟨t.f0, rig t.f1 (i.st - m)⟩ :: q) r _ (fun x hx => by
              rcases List.mem_cons.1 hx with rfl | hx
              · exact ht
              · exact hq' x hx) hr x hx
    · rcases List.mem_cons.1 hx with rfl | hx
      · exact ht
      · exact merge_nz q (i :: r) _ hq' hi x hx
termination_by (is.length, q.length)
theorem delL_facts (root : List Ct) (l : List C) (s : ByteArray) (hr : root.length ≤ 1000) (hrz : ∀ c ∈ root, c.f0 ≠ 0) (hl : l.length ≤ 1000) (hz : ∀ x ∈ l, x.f0 ≠ 0) : (delL (pcsL root) l s).length ≤ 990000 ∧ ∀ x ∈ delL (pcsL root) l s, x.f0 ≠ 0 := by
  unfold delL
  have h0 := runsL_len l eof
  have hR : ∀ x ∈ runsL eof l, x.f0 ≠ 0 := runsL_good l eof hz (.inl rfl)
  split
  · have := pcs_len root s
    exact ⟨by omega, pcs_nz root s hrz⟩
  · have h1 := pcs_len root ⟨(othL (runsL eof l)).toArray⟩
    have h2 := runsL_len (pcsL root ⟨(othL (runsL eof l)).toArray⟩) eof
    have h3 := merge_len (runsL eof (pcsL root ⟨(othL (runsL eof l)).toArray⟩)) (insL 0 (runsL eof l)) 0
    have h4 := tks_L (runsL eof l) 0
    exact ⟨by omega, merge_nz _ _ _ (runsL_good _ _ (pcs_nz root _ hrz) (.inl rfl)) (tk_L _ 0 hR)⟩
theorem lexdel_c (Bd Bk Bc : Nat) (cfg cfgR : Option Addr) (Ar : Option Addr) (cr : Nat) (root : List Ct) (Al : Option Addr) (cl : Nat) (l : List T) (txt : ByteArray) (w : World) (hV : VarsOK w) (hT : TokB w Bk Al cl l) (hC : CutB w Bc Ar cr root)
    (hlr : root.length ≤ 1000) (hrz : ∀ c ∈ root, c.f0 ≠ 0) (hl : l.length ≤ 1000) (hz : ∀ x ∈ l, x.f0 ≠ 0) (hs : szL (l.map toCC) ≤ 8191)
    (hd : w.heap[Bd]? = some (.cells #[gV cfgR (.func 20) #[] #[.pointer (some ⟨Bc, 0, none⟩)], lxV cfg Bk] 73 (0, 0))) :
    Calls Tryd.prog 22 #[.iface 71 (.pointer (some ⟨Bd, 0, none⟩)), .string txt] w fun e w' => ∃ v, e = .returned (.tuple #[v, .bool true]) ∧ RT w' w.heap.size v ((delL (pcsL root) (l.map toCC) txt).map toTT) ∧ Below w.heap.size w w' := by
  have hzc : ∀ x ∈ l.map toCC, x.f0 ≠ 0 := fun x hx => by obtain ⟨y, hy, rfl⟩ := List.mem_map.1 hx; exact hz y hy
  have hf := delL_facts root (l.map toCC) txt hlr hrz (by rw [List.length_map]; exact hl) hzc
  have hdel := del_c Bd cfg cfgR (.func 30) (.func 20) #[] #[.pointer (some ⟨Bk, 0, none⟩)] #[] #[.pointer (some ⟨Bc, 0, none⟩)] (l.map toCC) (pcsL root) txt w hV
    (fun s => givC_lit cfg Bk Al cl l s w hT (by omega)) (fun s => givC_root cfgR Bc Ar cr root s w hC (by omega)) (by rw [List.length_map]; omega) hzc hs (fun s => by have := pcs_len root s; omega) (fun s => pcs_nz root s hrz) (fun s => pcs_sz root s) hd
  exact lexedD_c Bd _ txt w (tkD_c Bd _ txt w hV hdel hf.1 hf.2) hf.1
set_option maxRecDepth 100000 in
set_option maxHeartbeats 8000000 in
theorem delg_c (Ar : Option Addr) (cr : Nat) (root : List Ct) (Al : Option Addr) (cl : Nat) (l : List T) (txt : ByteArray) (ks : Nat) (w : World) (hV : VarsOK w) (hrr : Kd.C k29 w Ar root.length root) (hcr : root.length ≤ cr) (hr0 : Kd.C kT w Al l.length l) (hc0 : l.length ≤ cl)
    (hlr : root.length ≤ 1000) (hrz : ∀ c ∈ root, c.f0 ≠ 0) (hl : l.length ≤ 1000) (hz : ∀ x ∈ l, x.f0 ≠ 0) (hs : szL (l.map toCC) ≤ 8191) (ht : impl_Stringify.f ks l = some txt) :
    Calls Tryd.prog 11 #[.slice Ar root.length cr, .slice Al l.length cl] w fun e w' => ∃ v : Value, e = .returned (.tuple #[v, .bool true]) ∧ RT w' w.heap.size v ((delL (pcsL root) (l.map toCC) txt).map toTT) ∧ Below w.heap.size w w' := by
  have hu := Tryd.underlying54
  have hu2 := Tryd.underlying49
  have hmf : ∀ (fn : Fn) (first cap : Array Value) (w : World), (Instr.makeFunc fn first cap).run Tryd.prog w = .ok (.func fn first cap) w := fun _ _ _ _ => rfl
  have hsf : ∀ (a : Addr) (fn : Fn) (x y : Array Value) (m : Mode) (w : World), (store a (.func fn x y) m).run Tryd.prog w = stored Tryd.prog w a (.func fn x y) m := fun a fn x y m w => run_store Tryd.prog w a _ m rfl
  have HR := Aside0.mk (And.intro hrr hcr)
  have HC := Aside0.mk (And.intro hr0 hc0)
  have HV := Aside0.mk hV
  clear hrr hcr hr0 hc0 hV
  go_enter Tryd.func11, Tryd.ntmps11
  go_wp2
  obtain ⟨W, hW⟩ : ∃ W, W = ((w.alloc (.cells #[.slice Ar root.length cr] 22)).alloc (.cells #[.string ⟨#[114, 111, 111, 116]⟩, .slice none 0 0, .slice none 0 0, .slice none 0 0, .slice none 0 0, .bool false, .bool false, .bool false, .bool false, .float .f32 0, .pointer none] 49)).alloc (.cells #[.pointer (some ⟨w.heap.size + 1, 0, none⟩), .func (.func 20) #[] #[.pointer (some ⟨w.heap.size, 0, none⟩)]] 54) := ⟨_, rfl⟩
  rw [← hW]
  have h1 := (Below.refl w.heap.size w).alloc (Nat.le_refl _) (.cells #[.slice Ar root.length cr] 22)
  have h2 := h1.alloc h1.size (.cells #[.string ⟨#[114, 111, 111, 116]⟩, .slice none 0 0, .slice none 0 0, .slice none 0 0, .slice none 0 0, .bool false, .bool false, .bool false, .bool false, .float .f32 0, .pointer none] 49)
  have HB : Aside0 (Below w.heap.size w W) := ⟨by rw [hW]; exact h2.alloc h2.size _⟩
  have hg : W.heap[w.heap.size + 1 + 1]? = some (.cells #[.pointer (some ⟨w.heap.size + 1, 0, none⟩), .func (.func 20) #[] #[.pointer (some ⟨w.heap.size, 0, none⟩)]] 54 (0, 0)) := by
    rw [hW]
    have := blk_new ((w.alloc (.cells #[.slice Ar root.length cr] 22)).alloc (.cells #[.string ⟨#[114, 111, 111, 116]⟩, .slice none 0 0, .slice none 0 0, .slice none 0 0, .slice none 0 0, .bool false, .bool false, .bool false, .bool false, .float .f32 0, .pointer none] 49)) (.cells #[.pointer (some ⟨w.heap.size + 1, 0, none⟩), .func (.func 20) #[] #[.pointer (some ⟨w.heap.size, 0, none⟩)]] 54)
    rw [World.size_alloc, World.size_alloc] at this
    exact this
  have HCb : Aside0 (CutB W w.heap.size Ar cr root) := ⟨⟨by rw [hW]; exact blk_alloc (blk_alloc (blk_new w _) _) _, Kd.C_below HR.out.1 HB.out, HR.out.2⟩⟩
  have HCl : Aside0 (Kd.C kT W Al l.length l ∧ l.length ≤ cl) := ⟨Kd.C_below HC.out.1 HB.out, HC.out.2⟩
  have HVW : Aside0 (VarsOK W) := ⟨vars_kept HV.out (HB.out.block _ (vars_lt HV.out))⟩
  have HGl := Aside0.mk hg
  have HTx : Aside0 (impl_Stringify.f ks l = some txt) := ⟨ht⟩
  have HZ := Aside0.mk (And.intro hrz (And.intro hz hs))
  have g0 : W.cell? ⟨w.heap.size + 1 + 1, 0, none⟩ = some (.pointer (some ⟨w.heap.size + 1, 0, none⟩)) := (blk_cell hg 0).trans rfl
  have g1 : W.cell? ⟨w.heap.size + 1 + 1, 1, none⟩ = some (.func (.func 20) #[] #[.pointer (some ⟨w.heap.size, 0, none⟩)]) := (blk_cell hg 1).trans rfl
  have lg := blk_lt hg
  clear hW h1 h2 hg ht hrz hz hs
  go_region_with (first | (go_at_call 24; refine (lit_c _ _ _ _).mono ?_; rintro e w1 ⟨cfg, rfl, hP⟩; have HP : Aside0 (Below W.heap.size W w1 ∧ w1.heap[W.heap.size]? = some (.cells #[.slice Al l.length cl] 23 (0, 0))) := ⟨⟨below_step (Below.refl W.heap.size W).drew hP.1, hP.2⟩⟩; have hg1 := (HP.out.1.block _ (blk_lt HGl.out)).trans HGl.out; have w1g0 : w1.cell? ⟨w.heap.size + 1 + 1, 0, none⟩ = some (.pointer (some ⟨w.heap.size + 1, 0, none⟩)) := (blk_cell hg1 0).trans rfl; have w1g1 : w1.cell? ⟨w.heap.size + 1 + 1, 1, none⟩ = some (.func (.func 20) #[] #[.pointer (some ⟨w.heap.size, 0, none⟩)]) := (blk_cell hg1 1).trans rfl; have w1lg := blk_lt hg1; clear hP hg1) | (go_at_call 23; refine (dl_c _ _ _ _ _).mono ?_; rintro e w2 ⟨rfl, rfl⟩) | (go_at_call 25; refine (impl_Stringify.calls ks Al cl l txt _ (Kd.C_below (Kd.C_below HCl.out.1 HP.out.1) ((Below.refl _ _).alloc (Nat.le_refl _) _)) HCl.out.2 HTx.out).mono ?_; rintro e w3 ⟨rfl, hB3⟩; have HB3 := Aside0.mk hB3; clear hB3) | (go_at_call 22; have hBW := below_step (HP.out.1.alloc HP.out.1.size (.cells #[gV (some ⟨w.heap.size + 1, 0, none⟩) (.func 20) #[] #[.pointer (some ⟨w.heap.size, 0, none⟩)], lxV cfg W.heap.size] 73)) HB3.out; have HBW := Aside0.mk hBW; clear hBW; refine (lexdel_c w1.heap.size W.heap.size w.heap.size cfg (some ⟨w.heap.size + 1, 0, none⟩) Ar cr root Al cl l txt w3 (vars_kept HVW.out (HBW.out.block _ (vars_lt HVW.out))) ⟨(HB3.out.block _ (by rw [World.size_alloc]; have := blk_lt HP.out.2; omega)).trans (blk_alloc HP.out.2 _), Kd.C_below HCl.out.1 HBW.out, HCl.out.2⟩ (HCb.out.below HBW.out) hlr HZ.out.1 hl HZ.out.2.1 HZ.out.2.2 ((HB3.out.block _ (by rw [World.size_alloc]; omega)).trans (blk_new w1 _))).mono ?_; rintro e w4 ⟨v4, rfl, hQ⟩; have HQ := Aside0.mk hQ; clear hQ))
  all_goals
    go_wp2
    go_ret2
    have s1 := HB.out.size
    have s2 := HBW.out.size
    exact ⟨_, rfl, Kd.R_lower HQ.out.1 (by omega), below_step (below_step HB.out HBW.out) HQ.out.2⟩
end Go.Proofs.YtmldahejeobohaaDoorTake
set_option linter.unusedVariables false
set_option linter.unusedSimpArgs false
namespace Go.Proofs.YtmldahejeobohaaDoorTake
open Go.RowKit Go.Proofs.YtmldahejeobohaaDoorW.PrintWords Go.Proofs.YtmldahejeobohaaDoor.A Go.Proofs.YtmldahejeobohaaDoorFmt
theorem C_map {α β : Type} {d : Kd α} {f : β → α} {w : World} {A : Option Addr} {n : Nat} {xs : List β} (h : (Kd.iso d f).C w A n xs) : d.C w A n (xs.map f) := by
  obtain ⟨h1, h2, h3⟩ := h
  refine ⟨by rw [List.length_map]; exact h1, h2, fun hn => ?_⟩
  obtain ⟨ad, e, hc⟩ := h3 hn
  refine ⟨ad, e, fun j p hp => ?_⟩
  rw [List.getElem?_map] at hp
  obtain ⟨x, hx, rfl⟩ := Option.map_eq_some_iff.1 hp
  exact hc j x hx
theorem C_unmap {α β : Type} {d : Kd α} {f : β → α} {w : World} {A : Option Addr} {n : Nat} {xs : List β} (h : d.C w A n (xs.map f)) : (Kd.iso d f).C w A n xs := by
  obtain ⟨h1, h2, h3⟩ := h
  rw [List.length_map] at h1
  refine ⟨h1, h2, fun hn => ?_⟩
  obtain ⟨ad, e, hc⟩ := h3 hn
  refine ⟨ad, e, fun j p hp => hc j (f p) ?_⟩
  rw [List.getElem?_map, hp]; rfl
theorem R_map {α β : Type} {d : Kd α} {f : β → α} {e : Nat} {w : World} {base : Nat} {ok : Nat → Prop} {v : Value} {xs : List β} (h : (Kd.iso d f).R e w base ok v xs) : d.R e w base ok v (xs.map f) := by
  obtain ⟨h0, inner, h1, h2, h3⟩ := h
  refine ⟨h0, inner, by rw [List.length_map]; exact h1, by rw [List.length_map]; exact h2, fun j p hp => ?_⟩
  rw [List.getElem?_map] at hp
  obtain ⟨x, hx, rfl⟩ := Option.map_eq_some_iff.1 hp
  exact h3 j x hx
theorem R_unmap {α β : Type} {d : Kd α} {f : β → α} {e : Nat} {w : World} {base : Nat} {ok : Nat → Prop} {v : Value} {xs : List β} (h : d.R e w base ok v (xs.map f)) : (Kd.iso d f).R e w base ok v xs := by
  obtain ⟨h0, inner, h1, h2, h3⟩ := h
  rw [List.length_map] at h1 h2
  refine ⟨h0, inner, h1, h2, fun j p hp => h3 j (f p) ?_⟩
  rw [List.getElem?_map, hp]; rfl
/-! ### the text -/
theorem rdA_T (xs : List T) (i : Nat) (h : i < xs.length) : rd_T27 xs (i : Int) = xs[i] := by
  simp [rd_T27, List.getD_eq_getElem?_getD, h]
theorem rdA_C (xs : List C) (i : Nat) (h : i < xs.length) : rd_T65 xs (i : Int) = xs[i] := by
  simp [rd_T65, List.getD_eq_getElem?_getD, h]
theorem innA_loop (xs : List T) (hn : xs.length ≤ 2147483647) : ∀ (d i : Nat) (acc : List C), xs.length = i + d → acc.length ≤ i →
    Go.Proofs.YtmldahejeobohaaDoorEvt.Evt (fun k => impl_inner.l0 k acc xs (xs.length : Int) (i : Int)) (acc ++ (xs.drop i).map toCC) := by
  intro d
  induction d with
  | zero =>
    intro i acc hi hacc
    refine Go.Proofs.YtmldahejeobohaaDoorEvt.Evt.step (h := fun _ => some _) (fun k => ?_) (Go.Proofs.YtmldahejeobohaaDoorEvt.Evt.pure _)
    simp only [impl_inner.l0]; rw [if_neg (by omega), List.drop_eq_nil_of_le (by omega)]; simp
  | succ d ih =>
    intro i acc hi hacc
    have hlt : i < xs.length := by omega
    have h1 := ih (i + 1) (acc ++ [toCC xs[i]]) (by omega) (by simp; omega)
    rw [List.drop_eq_getElem_cons hlt, List.map_cons, ← List.singleton_append, ← List.append_assoc]
    refine Go.Proofs.YtmldahejeobohaaDoorEvt.Evt.step (fun k => ?_) h1
    simp only [impl_inner.l0]; rw [if_pos (by omega), if_pos (by omega), if_pos (by omega), rdA_T _ _ hlt, if_pos (by omega), Go.Proofs.YtmldahejeobohaaDoorEvt.wrap_nat (by omega)]
theorem joinA_empty (l : List (List UInt8)) : Lib.join l [] = l.flatten := by
  show (List.intersperse [] l).flatten = l.flatten
  induction l with
  | nil => rfl
  | cons x r ih =>
    cases r with
    | nil => simp
    | cons y r => rw [List.intersperse_cons_cons, List.flatten_cons, List.flatten_cons, ih]; simp
theorem strA_loop (xs : List C) (hn : xs.length ≤ 2147483647) : ∀ (d i : Nat) (acc : List ByteArray), xs.length = i + d → acc.length ≤ i →
    (Lib.join ((acc ++ (xs.drop i).map (·.f1)).map (·.data.toList)) []).length ≤ 140737488355328 →
    Go.Proofs.YtmldahejeobohaaDoorEvt.Evt (fun k => chroma_Stringify.l0 k acc xs (xs.length : Int) (i : Int)) (Go.Proofs.YtmldahejeobohaaDoorEvt.B (Lib.join ((acc ++ (xs.drop i).map (·.f1)).map (·.data.toList)) [])) := by
  intro d
  induction d with
  | zero =>
    intro i acc hi hacc hb
    rw [List.drop_eq_nil_of_le (by omega)] at hb ⊢
    simp only [List.map_nil, List.append_nil] at hb ⊢
    refine Go.Proofs.YtmldahejeobohaaDoorEvt.Evt.step (fun k => by simp only [chroma_Stringify.l0]; rw [if_neg (by omega)]) ?_
    refine Go.Proofs.YtmldahejeobohaaDoorEvt.Evt.bind' (a := Go.Proofs.YtmldahejeobohaaDoorEvt.B (Lib.join (acc.map (·.data.toList)) [])) ?_ (Go.Proofs.YtmldahejeobohaaDoorEvt.Evt.pure _)
    unfold strings_Join.f
    rw [if_pos (by omega), if_pos hb]
  | succ d ih =>
    intro i acc hi hacc hb
    have hlt : i < xs.length := by omega
    have e : acc ++ (xs.drop i).map (·.f1) = (acc ++ [xs[i].f1]) ++ (xs.drop (i + 1)).map (·.f1) := by
      rw [List.drop_eq_getElem_cons hlt]; simp only [List.map_cons, List.append_assoc, List.singleton_append]
    rw [e] at hb ⊢
    have h1 := ih (i + 1) (acc ++ [xs[i].f1]) (by omega) (by simp; omega) hb
    refine Go.Proofs.YtmldahejeobohaaDoorEvt.Evt.step (fun k => ?_) h1
    simp only [chroma_Stringify.l0]
    rw [if_pos (by omega), if_pos (by omega), if_pos (by omega), rdA_C _ _ hlt, if_pos (by omega), Go.Proofs.YtmldahejeobohaaDoorEvt.wrap_nat (by omega)]
/-- The text of tokens. -/
def txL (l : List C) : ByteArray := ⟨(l.flatMap fun x => bys x.f1).toArray⟩
theorem bt2_snd (l : List C) : (bt2 l).map (·.2) = l.flatMap fun x => bys x.f1 := by
  unfold bt2 btk
  rw [List.map_flatMap]
  congr 1
  funext x
  rw [List.map_map]
  exact List.map_id _
theorem strA (l : List T) (hn : l.length ≤ 1000) (hs : szL (l.map toCC) ≤ 8191) : ∃ k, impl_Stringify.f k l = some (txL (l.map toCC)) := by
  have hi := innA_loop l (by omega) l.length 0 [] (by omega) (by simp)
  have e : (Lib.join ((([] : List ByteArray) ++ ((l.map toCC).drop 0).map (fun c : C => c.f1)).map (fun s : ByteArray => s.data.toList)) []) = (l.map toCC).flatMap fun x => bys x.f1 := by
    rw [joinA_empty, List.drop_zero, List.nil_append, List.map_map, List.flatMap_def]; rfl
  have hl : ((l.map toCC).flatMap fun x => bys x.f1).length = szL (l.map toCC) := by rw [← bt2_snd, List.length_map, bt2_len]
  have hs2 := strA_loop (l.map toCC) (by rw [List.length_map]; omega) (l.map toCC).length 0 [] (by omega) (by simp) (by rw [e, hl]; omega)
  rw [e] at hs2
  simp only [List.drop_zero, List.nil_append] at hi
  exact (Go.Proofs.YtmldahejeobohaaDoorEvt.Evt.bind hi (Go.Proofs.YtmldahejeobohaaDoorEvt.Evt.bind (Go.Proofs.YtmldahejeobohaaDoorEvt.Evt.congr (fun k => rfl) hs2) (Go.Proofs.YtmldahejeobohaaDoorEvt.Evt.pure _))).get
/-! ### over pairs -/
abbrev pC : Kd (Int × Int) := Kd.pair (Kd.int .i64) (Kd.int .i64)
abbrev pT : Kd (Int × ByteArray) := Kd.pair (Kd.int .i64) Kd.string
def mCt (p : Int × Int) : Ct := ⟨p.1, p.2⟩
def mC (p : Int × ByteArray) : C := ⟨p.1, p.2⟩
def mT (p : Int × ByteArray) : T := ⟨p.1, p.2⟩
def uC (x : C) : Int × ByteArray := (x.f0, x.f1)
/-- What impl.Delegate makes. -/
def delP (r : List (Int × Int)) (l : List (Int × ByteArray)) : List (Int × ByteArray) := (delL (pcsL (r.map mCt)) (l.map mC) (txL (l.map mC))).map uC
theorem delP_c (Ar : Option Addr) (cr : Nat) (r : List (Int × Int)) (Al : Option Addr) (cl : Nat) (l : List (Int × ByteArray)) (w : World) (hV : VarsOK w) (hr : pC.C w Ar r.length r) (hcr : r.length ≤ cr) (hl : pT.C w Al l.length l) (hcl : l.length ≤ cl)
    (h1 : r.length ≤ 1000) (h2 : ∀ c ∈ r, c.1 ≠ 0) (h3 : l.length ≤ 1000) (h4 : ∀ x ∈ l, x.1 ≠ 0) (h5 : (l.map fun x => x.2.size).sum ≤ 8191) :
    Calls Tryd.prog 11 #[.slice Ar r.length cr, .slice Al l.length cl] w fun e w' => ∃ v : Value, e = .returned (.tuple #[v, .bool true]) ∧ pT.R 27 w' w.heap.size (fun _ => True) v (delP r l) ∧ Below w.heap.size w w' := by
  have eT : (l.map mT).map toCC = l.map mC := by rw [List.map_map]; rfl
  have hs : szL (l.map mC) ≤ 8191 := by unfold szL; rw [List.map_map]; exact h5
  obtain ⟨ks, ht⟩ := strA (l.map mT) (by rw [List.length_map]; exact h3) (by rw [eT]; exact hs)
  rw [eT] at ht
  have hC1 : Kd.C k29 w Ar (r.map mCt).length (r.map mCt) := by
    rw [List.length_map]
    refine C_unmap (d := pC) ?_
    rw [List.map_map]
    exact (List.map_id _).symm ▸ hr
  have hC2 : Kd.C kT w Al (l.map mT).length (l.map mT) := by
    rw [List.length_map]
    refine C_unmap (d := pT) ?_
    rw [List.map_map]
    exact (List.map_id _).symm ▸ hl
  have h := delg_c Ar cr (r.map mCt) Al cl (l.map mT) (txL (l.map mC)) ks w hV hC1 (by rw [List.length_map]; exact hcr) hC2 (by rw [List.length_map]; exact hcl) (by rw [List.length_map]; exact h1) (fun c hc => by
    obtain ⟨p, hp, rfl⟩ := List.mem_map.1 hc; exact h2 p hp) (by rw [List.length_map]; exact h3) (fun x hx => by
    obtain ⟨p, hp, rfl⟩ := List.mem_map.1 hx; exact h4 p hp) (by rw [eT]; exact hs) ht
  rw [List.length_map, List.length_map, eT] at h
  refine h.mono ?_
  rintro e w' ⟨v, rfl, hR, hB⟩
  refine ⟨v, rfl, ?_, hB⟩
  have := R_map (d := pT) hR
  rw [List.map_map] at this
  exact this
/-! ### each byte with its type -/
def inB : List (Int × UInt8) → List (Int × UInt8) → List (Int × UInt8)
  | [], s => s
  | p :: r, s => if p.1 = oth then s.take 1 ++ inB r (s.drop 1) else p :: inB r s
theorem inB_oth : ∀ (l : List UInt8) (r s : List (Int × UInt8)), inB (l.map (fun b => (oth, b)) ++ r) s = s.take l.length ++ inB r (s.drop l.length)
  | [], r, s => by simp
  | b :: l, r, s => by
    show inB ((oth, b) :: (l.map _ ++ r)) s = _
    rw [inB, if_pos rfl, inB_oth l r, List.length_cons, Nat.add_comm l.length 1, List.take_add, List.drop_drop, List.append_assoc]
theorem inB_own (k : Int) (hk : k ≠ oth) : ∀ (l : List UInt8) (r s : List (Int × UInt8)), inB (l.map (fun b => (k, b)) ++ r) s = l.map (fun b => (k, b)) ++ inB r s
  | [], r, s => rfl
  | b :: l, r, s => by
    show inB ((k, b) :: (l.map _ ++ r)) s = _
    rw [inB, if_neg hk, inB_own k hk l r]; rfl
theorem inter_inB : ∀ (R : List C) (s : List (Int × UInt8)), inter R s = inB (bt2 R) s
  | [], s => rfl
  | t :: r, s => by
    rw [inter, bt2_cons]
    by_cases h : t.f0 = oth
    · rw [if_pos h]
      have : btk t = (bys t.f1).map fun b => (oth, b) := by unfold btk; rw [h]
      rw [this, inB_oth, bys_len, inter_inB r]
    · rw [if_neg h]
      unfold btk
      rw [inB_own _ h, inter_inB r]
theorem othL_bt : ∀ R : List C, othL R = ((bt2 R).filter fun p => decide (p.1 = oth)).map (·.2)
  | [] => rfl
  | t :: r => by
    rw [othL, bt2_cons, List.filter_append, List.map_append, ← othL_bt r]
    by_cases h : t.f0 = oth
    · rw [if_pos h]
      congr 1
      unfold btk
      rw [List.filter_eq_self.2 (fun p hp => by obtain ⟨b, _, rfl⟩ := List.mem_map.1 hp; exact decide_eq_true h), List.map_map]
      exact (List.map_id _).symm
    · rw [if_neg h]
      have : (btk t).filter (fun p => decide (p.1 = oth)) = [] := List.filter_eq_nil_iff.2 (fun p hp => by obtain ⟨b, _, rfl⟩ := List.mem_map.1 hp; simpa using h)
      rw [this]; rfl
theorem runs_bt (l : List C) : bt2 (runsL eof l) = bt2 l := by rw [runsL_bt]; rfl
mutual
theorem insL_nil (R : List C) (off : Nat) (h : insL off R = []) : ∀ t ∈ R, t.f0 = oth := by
  match R with
  | [] => intro t ht; cases ht
  | t :: r =>
    rw [insL] at h
    by_cases h0 : t.f0 = oth
    · rw [if_pos h0] at h
      intro x hx
      rcases List.mem_cons.1 hx with rfl | hx
      · exact h0
      · exact insL_nil r _ h x hx
    · rw [if_neg h0] at h
      exact absurd h (insO_ne r _ _ _)
theorem insO_ne (R : List C) (st : Nat) (tk : List C) (off : Nat) : insO st tk off R ≠ [] := by
  match R with
  | [] => rw [insO]; simp
  | t :: r =>
    rw [insO]
    split
    · simp
    · exact insO_ne r _ _ _
end
theorem inB_all : ∀ (L s : List (Int × UInt8)), (∀ p ∈ L, p.1 = oth) → inB L s = s
  | [], s, _ => rfl
  | p :: r, s, h => by
    rw [inB, if_pos (h p List.mem_cons_self), inB_all r _ (fun q hq => h q (List.mem_cons_of_mem _ hq)), List.take_append_drop]
theorem bt_oth {R : List C} (h : ∀ t ∈ R, t.f0 = oth) : ∀ p ∈ bt2 R, p.1 = oth := by
  intro p hp
  obtain ⟨t, ht, hp⟩ := List.mem_flatMap.1 hp
  obtain ⟨b, _, rfl⟩ := List.mem_map.1 hp
  exact h t ht
theorem del_bt (rt : ByteArray → List C) (l : List C) (hsz : ∀ x, szL (rt x) = x.size) : bt2 (delL rt l (txL l)) = inB (bt2 l) (bt2 (rt ⟨(othL l).toArray⟩)) := by
  have e0 : othL (runsL eof l) = othL l := by rw [othL_bt, othL_bt, runs_bt]
  unfold delL
  rw [e0]
  by_cases h : insL 0 (runsL eof l) = []
  · rw [if_pos h]
    have h1 := bt_oth (insL_nil _ _ h)
    rw [runs_bt] at h1
    rw [inB_all _ _ h1]
    have : othL l = l.flatMap fun x => bys x.f1 := by
      rw [othL_bt, List.filter_eq_self.2 (fun p hp => decide_eq_true (h1 p hp)), bt2_snd]
    rw [this]; rfl
  · rw [if_neg h]
    have h2 : osz (runsL eof l) ≤ szL (runsL eof (rt ⟨(othL l).toArray⟩)) := by
      rw [← othL_len, e0, ← bt2_len, runs_bt, bt2_len, hsz]
      show _ ≤ (othL l).toArray.size
      rw [List.size_toArray]; exact Nat.le_refl _
    have h3 := merge_L (runsL eof l) 0 0 (runsL eof (rt ⟨(othL l).toArray⟩)) (Nat.le_refl _) (by simpa using h2)
    simp only [Nat.sub_self, List.take_zero, List.drop_zero, List.nil_append] at h3
    rw [h3, inter_inB, runs_bt, runs_bt]
theorem inB_map {α : Type} (g : Int × UInt8 → α) : ∀ (L s : List (Int × UInt8)), s.map g = (L.filter fun p => decide (p.1 = oth)).map g → (inB L s).map g = L.map g
  | [], s, h => by simpa [inB] using h
  | p :: r, s, h => by
    rw [inB]
    by_cases h0 : p.1 = oth
    · rw [if_pos h0]
      rw [List.filter_cons_of_pos (by simpa using h0), List.map_cons] at h
      cases s with
      | nil => simp at h
      | cons q s =>
        rw [List.map_cons] at h
        injection h with h1 h2
        rw [List.map_append, List.map_cons, ← h1]
        show g q :: _ = g q :: _
        congr 1
        exact inB_map g r s h2
    · rw [if_neg h0, List.map_cons, List.map_cons]
      rw [List.filter_cons_of_neg (by simpa using h0)] at h
      rw [inB_map g r s h]
end Go.Proofs.YtmldahejeobohaaDoorTake
