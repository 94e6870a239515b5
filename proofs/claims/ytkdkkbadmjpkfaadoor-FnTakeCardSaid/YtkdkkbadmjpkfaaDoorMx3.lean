-- WRITTEN BY OUR myprint.py, a program of this session's over the kit's printer
import Derived.Test.YtkdkkbadmjpkfaaDoorMx0
import Derived.Test.YtkdkkbadmjpkfaaDoorMx2
namespace Go.Proofs.YtkdkkbadmjpkfaaDoor.M
open Go.RowKit Go.Proofs.YtkdkkbadmjpkfaaDoorW.PrintWords Go.Proofs.YtkdkkbadmjpkfaaDoorW.PrintLast Go.Proofs.YtkdkkbadmjpkfaaDoorW.PrintMore
attribute [local go_sem] max2_int min2_int max_two min_two max_three min_three max_four min_four   -- for this text's walks alone
set_option linter.unusedVariables false
set_option linter.unusedSimpArgs false

/-! ### impl_Take: function 8 -/
namespace ZTake
abbrev ZTk_C := S43
def ZTk_tokV (x : ZTk_C) : Value := .agg #[.int .i64 x.f0, .string x.f1]
def ZTk_eof : ZTk_C := ⟨0, ⟨#[]⟩⟩
/-- The next token, or the mark of the end. -/
def ZTk_hd : List ZTk_C → ZTk_C
  | [] => ZTk_eof
  | x :: _ => x
/-- Block g has from cell o on the tokens l. -/
def Toks (W : World) (g o : Nat) (l : List ZTk_C) : Prop :=
  ∀ i (h : i < l.length), W.cell? ⟨g, o + 2 * i, none⟩ = some (.int .i64 l[i].f0) ∧ W.cell? ⟨g, o + 2 * i + 1, none⟩ = some (.string l[i].f1)
theorem Toks.tail {W : World} {g o : Nat} {x : ZTk_C} {l : List ZTk_C} (h : Toks W g o (x :: l)) : Toks W g (o + 2) l := fun i hi => by
  have := h (i + 1) (by simp; omega)
  simp only [List.getElem_cons_succ] at this
  rw [show o + 2 * (i + 1) = o + 2 + 2 * i by omega] at this
  exact this
theorem Toks.same {W W' : World} {g o : Nat} {l : List ZTk_C} (h : Toks W g o l) (hb : W'.heap[g]? = W.heap[g]?) : Toks W' g o l := fun i hi =>
  ⟨(World.cell?_of_block (a := ⟨g, _, none⟩) hb).trans (h i hi).1, (World.cell?_of_block (a := ⟨g, _, none⟩) hb).trans (h i hi).2⟩
/-- Block Bt holds what is left of a slice of tokens, l, in block g. -/
def LitAt (W : World) (Bt g : Nat) (l : List ZTk_C) : Prop :=
  ∃ A c, W.heap[Bt]? = some (.cells #[.slice A l.length c] 38 (0, 0)) ∧ l.length ≤ c ∧ (∃ cs t, W.heap[g]? = some (.cells cs t (0, 0)) ∧ 22 ≠ t ∧ 32 ≠ t) ∧ g ≠ Bt ∧ (l ≠ [] → ∃ o, A = some ⟨g, o, none⟩ ∧ Toks W g o l)
theorem LitAt.lt {W : World} {Bt g : Nat} {l : List ZTk_C} (h : LitAt W Bt g l) : Bt < W.heap.size := by
  obtain ⟨A, c, h, _⟩ := h; exact blk_lt h
theorem LitAt.same {W W' : World} {Bt g : Nat} {l : List ZTk_C} (h : LitAt W Bt g l) (h1 : W'.heap[Bt]? = W.heap[Bt]?) (h2 : W'.heap[g]? = W.heap[g]?) : LitAt W' Bt g l := by
  obtain ⟨A, c, a1, a2, a3, a4, a5⟩ := h
  refine ⟨A, c, h1.trans a1, a2, ?_, a4, fun hl => ?_⟩
  · obtain ⟨cs, t, a3, a6, a7⟩ := a3
    exact ⟨cs, t, h2.trans a3, a6, a7⟩
  · obtain ⟨o, b1, b2⟩ := a5 hl
    exact ⟨o, b1, b2.same h2⟩
set_option maxHeartbeats 4000000 in
theorem next_nil (Bt g : Nat) (w : World) (hV : Go.Proofs.YtkdkkbadmjpkfaaDoorFmt.VarsOK w) (h : LitAt w Bt g []) :
    Calls Tryd.prog 23 #[.pointer (some ⟨Bt, 0, none⟩)] w fun e w' => e = .returned (ZTk_tokV ZTk_eof) ∧ w.grownBy w' none := by
  have hu := Tryd.underlying43
  obtain ⟨A, c, a1, a2, a3, a4, a5⟩ := h
  have c0 : w.cell? ⟨Bt, 0, none⟩ = some (.slice A 0 c) := (blk_cell a1 0).trans rfl
  have e0 := hV.e0
  have e1 := hV.e1
  have hlt : Bt < w.heap.size := blk_lt a1
  have hl0 : 0 < w.heap.size := World.block_lt_of_cell? w _ e0
  clear a1 a2 a3 a4 a5 hV
  go_enter Tryd.func23, Tryd.ntmps23
  go_wp2
  exact bodyPost_ret (results_cell_row rfl _ _ w.heap.size 43 #[.int .i64 0, .string ⟨#[]⟩] (0, 0) _ rfl (by simpa using heap_alloc_new w _) Tryd.underlying43 rfl (by kernel_rfl)) rfl ⟨rfl, World.grownBy_alloc w _ none⟩
theorem res_at (w : World) (p : Addr) (v : Value) (o1 o2 : Obj) : (((w.setCell p v).alloc o1).alloc o2).heap[w.heap.size]? = some o1 := by
  refine blk_alloc ?_ _
  have := blk_new (w.setCell p v) o1
  rw [World.size_setCell] at this
  exact this
theorem next_post {w : World} {Bt g o c : Nat} {x : ZTk_C} {l : List ZTk_C} {A : Option Addr} (A' : Option Addr) (c' : Nat) (a1 : w.heap[Bt]? = some (.cells #[.slice A (x :: l).length c] 38 (0, 0))) (a3 : ∃ cs t, w.heap[g]? = some (.cells cs t (0, 0)) ∧ 22 ≠ t ∧ 32 ≠ t) (a4 : g ≠ Bt)
    (hT : Toks w g o (x :: l)) (hc : l.length ≤ c') (hA : l ≠ [] → A' = some ⟨g, o + 2, none⟩) (o1 o2 : Obj) :
    LitAt (((w.setCell ⟨Bt, 0, none⟩ (.slice A' l.length c')).alloc o1).alloc o2) Bt g l ∧ w.grownBy (((w.setCell ⟨Bt, 0, none⟩ (.slice A' l.length c')).alloc o1).alloc o2) (some Bt) := by
  have hg : w.grownBy (((w.setCell ⟨Bt, 0, none⟩ (.slice A' l.length c')).alloc o1).alloc o2) (some Bt) := by
    refine ⟨rfl, rfl, rfl, by simp; omega, fun k hk hne => ?_⟩
    have hk' : k < (w.setCell ⟨Bt, 0, none⟩ (.slice A' l.length c')).heap.size := by rw [World.size_setCell]; exact hk
    refine ((Below.heap_alloc _ o2 k (by simp; omega)).trans (Below.heap_alloc _ o1 k hk')).trans ?_
    exact Below.heap_setCell w ⟨Bt, 0, none⟩ _ k (fun e => hne (by rw [e]))
  obtain ⟨cs, t, a3, a6, a7⟩ := a3
  have hgs := hg.block g (blk_lt a3) (fun e => a4 (by injection e))
  exact ⟨⟨A', c', blk_alloc (blk_alloc (blk_put a1 0 _ rfl) _) _, hc, ⟨cs, t, hgs.trans a3, a6, a7⟩, a4, fun hl => ⟨o + 2, hA hl, hT.tail.same hgs⟩⟩, hg⟩
set_option maxRecDepth 100000 in
set_option maxHeartbeats 4000000 in
theorem next_cons (Bt g : Nat) (x : ZTk_C) (l : List ZTk_C) (w : World) (h : LitAt w Bt g (x :: l)) :
    Calls Tryd.prog 23 #[.pointer (some ⟨Bt, 0, none⟩)] w fun e w' => e = .returned (ZTk_tokV x) ∧ LitAt w' Bt g l ∧ w.grownBy w' (some Bt) := by
  have hu := Tryd.underlying43
  obtain ⟨A, c, a1, a2, a3, a4, a5⟩ := h
  obtain ⟨o, rfl, hT⟩ := a5 (by simp)
  have c0 : w.cell? ⟨Bt, 0, none⟩ = some (.slice (some ⟨g, o, none⟩) (l.length + 1) c) := (blk_cell a1 0).trans rfl
  have f0 := blk_frozen a1 0
  have t0 := (hT 0 (by simp)).1
  have t1 := (hT 0 (by simp)).2
  simp only [Nat.mul_zero, Nat.add_zero, List.getElem_cons_zero] at t0 t1
  simp only [List.length_cons] at a2
  have hne : ((l.length : Int) + 1 == 0) = false := beq_eq_false_iff_ne.2 (by omega)
  have hle : (l.length : Int) + 1 ≤ c := by omega
  have hlt : Bt < w.heap.size := blk_lt a1
  have hlg : g < w.heap.size := by
    obtain ⟨cs, t, a3, _⟩ := a3
    exact blk_lt a3
  go_enter Tryd.func23, Tryd.ntmps23
  go_wp2
  · have hl : l = [] := List.eq_nil_of_length_eq_zero (by omega)
    obtain ⟨p1, p2⟩ := next_post (some ⟨g, o, none⟩) 0 a1 a3 a4 hT (by omega) (fun h => absurd hl h) (.cells #[.int .i64 x.f0, .string x.f1] 43) (.cells #[.int .i64 x.f0, .string x.f1] 43)
    exact bodyPost_ret (results_cell_row rfl _ _ w.heap.size 43 #[.int .i64 x.f0, .string x.f1] (0, 0) _ rfl (res_at _ _ _ _ _) Tryd.underlying43 rfl (by kernel_rfl)) rfl ⟨rfl, p1, p2⟩
  · obtain ⟨p1, p2⟩ := next_post (some ⟨g, o + 2, none⟩) (c - 1) a1 a3 a4 hT (by omega) (fun h => rfl) (.cells #[.int .i64 x.f0, .string x.f1] 43) (.cells #[.int .i64 x.f0, .string x.f1] 43)
    exact bodyPost_ret (results_cell_row rfl _ _ w.heap.size 43 #[.int .i64 x.f0, .string x.f1] (0, 0) _ rfl (res_at _ _ _ _ _) Tryd.underlying43 rfl (by kernel_rfl)) rfl ⟨rfl, p1, p2⟩
theorem eof_ne {w : World} {Bt : Nat} {v : Value} {t : TypeId} (hV : Go.Proofs.YtkdkkbadmjpkfaaDoorFmt.VarsOK w) (h : w.heap[Bt]? = some (.cells #[v] t (0, 0))) : 0 ≠ Bt := fun e => by
  have h1 := blk_cell h 1
  rw [← e, hV.e1] at h1
  cases h1
theorem vars_kept {w w' : World} (hV : Go.Proofs.YtkdkkbadmjpkfaaDoorFmt.VarsOK w) (h : w'.heap[0]? = w.heap[0]?) : Go.Proofs.YtkdkkbadmjpkfaaDoorFmt.VarsOK w' :=
  ⟨(World.cell?_of_block (a := ⟨0, 0, none⟩) h).trans hV.e0, (World.cell?_of_block (a := ⟨0, 1, none⟩) h).trans hV.e1⟩
theorem vars_lt {w : World} (hV : Go.Proofs.YtkdkkbadmjpkfaaDoorFmt.VarsOK w) : 0 < w.heap.size := World.block_lt_of_cell? w _ hV.e0
/-- The closure at any rest. -/
theorem next_c (Bt g : Nat) (l : List ZTk_C) (w : World) (hV : Go.Proofs.YtkdkkbadmjpkfaaDoorFmt.VarsOK w) (h : LitAt w Bt g l) :
    Calls Tryd.prog 23 #[.pointer (some ⟨Bt, 0, none⟩)] w fun e w' => e = .returned (ZTk_tokV (ZTk_hd l)) ∧ LitAt w' Bt g l.tail ∧ w.grownBy w' (some Bt) ∧ Go.Proofs.YtkdkkbadmjpkfaaDoorFmt.VarsOK w' := by
  cases l with
  | nil =>
    refine (next_nil Bt g w hV h).mono ?_
    rintro e w' ⟨rfl, hg⟩
    have h1 := hg.block Bt h.lt (by simp)
    obtain ⟨A, c, a1, a2, ⟨cs, t, a3, a6, a7⟩, a4, a5⟩ := h
    exact ⟨rfl, LitAt.same ⟨A, c, a1, a2, ⟨cs, t, a3, a6, a7⟩, a4, a5⟩ h1 (hg.block g (blk_lt a3) (by simp)), World.grownBy.but hg _, vars_kept hV (hg.block _ (vars_lt hV) (by simp))⟩
  | cons x l =>
    refine (next_cons Bt g x l w h).mono ?_
    rintro e w' ⟨rfl, h1, hg⟩
    obtain ⟨A, c, a1, _⟩ := h
    exact ⟨rfl, h1, hg, vars_kept hV (hg.block _ (vars_lt hV) (fun e => eof_ne hV a1 (by injection e)))⟩
abbrev ZTk_T := S32
abbrev ZTk_kT : Kd ZTk_T := k32
def ZTk_cT (x : ZTk_C) : ZTk_T := ⟨x.f0, x.f1⟩
abbrev ZTk_RT (w : World) (base : Nat) (v : Value) (xs : List ZTk_T) : Prop := Kd.R ZTk_kT 32 w base (fun _ => True) v xs
set_option maxRecDepth 100000 in
set_option maxHeartbeats 4000000 in
theorem yield_c (base Bo Bn : Nat) (n : Int) (x : ZTk_C) (outl : List ZTk_T) (v : Value) (w0 w : World) (hO : w.heap[Bo]? = some (.cells #[v] 22 (0, 0))) (hN : w.heap[Bn]? = some (.cells #[.int .i64 n] 3 (0, 0)))
    (hR : ZTk_RT w base v outl) (hB : Below base w0 w) (hbase : base ≤ w.heap.size) (hBo : base ≤ Bo) (hlen : outl.length < 1000000) :
    Calls Tryd.prog 17 #[.agg #[.int .i64 x.f0, .string x.f1], .pointer (some ⟨Bo, 0, none⟩), .pointer (some ⟨Bn, 0, none⟩)] w fun e w' => e = .returned (.bool (decide ((outl.length : Int) + 1 < n))) ∧
      ∃ v', w'.heap[Bo]? = some (.cells #[v'] 22 (0, 0)) ∧ ZTk_RT w' base v' (outl ++ [ZTk_cT x]) ∧ Below base w0 w' ∧ w.heap.size ≤ w'.heap.size ∧ (∀ k, k < w.heap.size → k ≠ Bo → some k ≠ v.ownBlock → w'.heap[k]? = w.heap[k]?) := by
  have hu := Tryd.underlying43
  have hu2 := Tryd.underlying32
  have cO : w.cell? ⟨Bo, 0, none⟩ = some v := (blk_cell hO 0).trans rfl
  have fO := blk_frozen hO 0
  have cN : w.cell? ⟨Bn, 0, none⟩ = some (.int .i64 n) := (blk_cell hN 0).trans rfl
  have lO : Bo < w.heap.size := blk_lt hO
  have lN : Bn < w.heap.size := blk_lt hN
  have hL := Aside0.mk hlen
  have hO' := Aside0.mk hO
  have hN' := Aside0.mk hN
  have hnb : Bn ≠ Bo := blk_ne hN hO (by decide)
  have hR' := Aside0.mk hR
  have hB' := Aside0.mk hB
  have hbase' := Aside0.mk hbase
  have hBo' := Aside0.mk hBo
  clear hlen hO hN hR hB hbase hBo
  go_enter Tryd.func17, Tryd.ntmps17
  go_wp2_with (first | ((with_reducible refine gate_builtin (b := .append) (xs := #[.tmp 5, .tmp 11]) rfl ?_); at_builtin; refine Kd.R_append ZTk_kT (w0 := w0) base rfl (.tmp 5) (.tmp 11) 22 32 (.agg #[(.int .i64 0), (.string ⟨#[]⟩)]) 24 rfl Tryd.underlying22 info32 rfl (by decide) (by omega) v outl (ZTk_cT x) [.int .i64 x.f0, .string x.f1] (fun _ => True) (fun _ => False) rfl (by first | (go_simp; done) | (go_simp; rfl)) ?aP (fun _ hk => hk.elim) ?aF ?aO ?aB ?aS ?aL ?_; (case aP => exact k32_mkM _ _ _ (ZTk_cT x)); (case aB => exact (by repeat (first | exact hB'.out | exact hB'.out.alloc hbase'.out _ | refine Below.alloc ?_ (by simp; have := hbase'.out; omega) _))); (case aF => exact (fun _ _ => trivial)); (case aO => exact (by (with_reducible repeat (first | apply Kd.R_alloc | apply Kd.R_drewN | apply Kd.R_drew)); exact hR'.out)); (case aS => have := hbase'.out; simp; omega); (case aL => have := hL.out; omega); intro v1 w8 ho hb hg hat; obtain ⟨A1, c1, rfl⟩ := Kd.R_slice ho; have gO := blk_grown (blk_alloc hO'.out _) hg (Kd.R_ne hR'.out hO'.out (by decide)); have gN := blk_grown (blk_alloc hN'.out _) hg (Kd.R_ne hR'.out hN'.out (by decide)); have cO8 : w8.cell? ⟨Bo, 0, none⟩ = some v := (blk_cell gO 0).trans rfl; have fO8 := blk_frozen gO 0; have cN8 : w8.cell? ⟨Bn, 0, none⟩ = some (.int .i64 n) := (blk_cell gN 0).trans rfl; have hgO := Aside0.mk gO; have hgg := Aside0.mk hg; have hbb := Aside0.mk hb; have hoo := Aside0.mk ho; clear gO gN hg hb ho hat))
  go_ret
  have hfr : ∀ k, k < w.heap.size → k ≠ Bo → some k ≠ v.ownBlock → (w8.setCell ⟨Bo, 0, none⟩ (.slice A1 (outl ++ [ZTk_cT x]).length c1)).heap[k]? = w.heap[k]? := fun k hk h1 h2 =>
    ((Below.heap_setCell w8 ⟨Bo, 0, none⟩ _ k h1).trans (hgg.out.block k (by simp; omega) h2)).trans (Below.heap_alloc w _ k hk)
  have hsz := hgg.out.size
  rw [World.size_alloc] at hsz
  have hR8 := Kd.R_mono (Kd.R_far (p := ⟨Bo, 0, none⟩) (Kd.R_types hoo.out hgO.out (by decide)) (fun _ hk => hk.2) (.slice A1 (outl ++ [ZTk_cT x]).length c1)) (fun _ _ => trivial)
  have hl1 : (outl ++ [ZTk_cT x]).length = outl.length + 1 := by simp
  rw [hl1] at hfr hR8
  exact ⟨by first | rfl | simp, _, blk_put hgO.out 0 _ rfl, hR8, hbb.out.setCell (p := ⟨Bo, 0, none⟩) hBo'.out _, by simp; omega, hfr⟩
theorem next_e (Bt g : Nat) (l : List ZTk_C) (w : World) (hV : Go.Proofs.YtkdkkbadmjpkfaaDoorFmt.VarsOK w) (h : LitAt w Bt g l) :
    Calls Tryd.prog 23 #[.pointer (some ⟨Bt, 0, none⟩)] w fun e w' => e = .returned (.agg #[.int .i64 (ZTk_hd l).f0, .string (ZTk_hd l).f1]) ∧ LitAt w' Bt g l.tail ∧ w.grownBy w' (some Bt) ∧ Go.Proofs.YtkdkkbadmjpkfaaDoorFmt.VarsOK w' := next_c Bt g l w hV h
theorem head_eof (rest : List ZTk_C) : ZTk_hd rest = ZTk_eof ∨ ∃ x r, rest = x :: r := by
  cases rest with
  | nil => exact .inl rfl
  | cons x r => exact .inr ⟨x, r, rfl⟩
theorem lit_alloc {W : World} {Bt g : Nat} {l : List ZTk_C} (h : LitAt W Bt g l) (o : Obj) : LitAt (W.alloc o) Bt g l := by
  have hg : g < W.heap.size := by
    obtain ⟨A, c, a1, a2, ⟨cs, t, a3, a6, a7⟩, a4, _⟩ := h
    exact blk_lt a3
  exact h.same (Below.heap_alloc _ _ _ h.lt) (Below.heap_alloc _ _ _ hg)
theorem lit_frame {W W' : World} {Bt g Bo base : Nat} {l : List ZTk_C} {v : Value} {xs : List ZTk_T} (h : LitAt W Bt g l) (hO : W.heap[Bo]? = some (.cells #[v] 22 (0, 0))) (hR : ZTk_RT W base v xs)
    (hf : ∀ k, k < W.heap.size → k ≠ Bo → some k ≠ v.ownBlock → W'.heap[k]? = W.heap[k]?) : LitAt W' Bt g l := by
  obtain ⟨A, c, a1, a2, ⟨cs, t, a3, a6, a7⟩, a4, a5⟩ := h
  exact LitAt.same ⟨A, c, a1, a2, ⟨cs, t, a3, a6, a7⟩, a4, a5⟩ (hf Bt (blk_lt a1) (blk_ne a1 hO (by decide)) (Kd.R_ne hR a1 (by decide))) (hf g (blk_lt a3) (blk_ne a3 hO (fun e => a6 e.symm)) (Kd.R_ne hR a3 a7))
/-- What the loop of Stdlib's closure keeps. -/
structure Keeps (Bo Bn Bi Bt g : Nat) (n : Int) (l : List ZTk_C) (w0 : World) (Bx : Nat) (dn rest : List ZTk_C) (v : Value) (wr : World) : Prop where
  hl : l = dn ++ rest
  hn : (dn.length : Int) < n
  hx : wr.heap[Bx]? = some (.cells #[.int .i64 (ZTk_hd rest).f0, .string (ZTk_hd rest).f1] 43 (0, 0))
  hxg : Bx ≠ g
  hL : LitAt wr Bt g rest.tail
  hO : wr.heap[Bo]? = some (.cells #[v] 22 (0, 0))
  hR : ZTk_RT wr w0.heap.size v (dn.map ZTk_cT)
  hN : wr.heap[Bn]? = some (.cells #[.int .i64 n] 3 (0, 0))
  hI : wr.heap[Bi]? = some (.cells #[.func (.func 23) #[] #[.pointer (some ⟨Bt, 0, none⟩)]] 36 (0, 0))
  hB : Below w0.heap.size w0 wr
set_option maxRecDepth 100000 in
set_option maxHeartbeats 8000000 in
theorem std_c (Bo Bn Bi Bt g : Nat) (n : Int) (l : List ZTk_C) (w0 w : World) (hn : 1 ≤ n) (hl : l.length ≤ 100000) (hz : ∀ x ∈ l, x.f0 ≠ 0) (hBo : w0.heap.size ≤ Bo) (hBt : w0.heap.size ≤ Bt) (hV0 : Go.Proofs.YtkdkkbadmjpkfaaDoorFmt.VarsOK w0)
    (hO : w.heap[Bo]? = some (.cells #[.slice none 0 0] 22 (0, 0))) (hN : w.heap[Bn]? = some (.cells #[.int .i64 n] 3 (0, 0)))
    (hI : w.heap[Bi]? = some (.cells #[.func (.func 23) #[] #[.pointer (some ⟨Bt, 0, none⟩)]] 36 (0, 0))) (hL : LitAt w Bt g l) (hB : Below w0.heap.size w0 w) :
    Calls Tryd.prog 24 #[.func (.func 17) #[] #[.pointer (some ⟨Bo, 0, none⟩), .pointer (some ⟨Bn, 0, none⟩)], .pointer (some ⟨Bi, 0, none⟩)] w fun e w' => e = .returned (.tuple #[]) ∧
      ∃ v', w'.heap[Bo]? = some (.cells #[v'] 22 (0, 0)) ∧ ZTk_RT w' w0.heap.size v' ((l.take n.toNat).map ZTk_cT) ∧ Below w0.heap.size w0 w' := by
  have hu := Tryd.underlying43
  have cI : w.cell? ⟨Bi, 0, none⟩ = some (.func (.func 23) #[] #[.pointer (some ⟨Bt, 0, none⟩)]) := (blk_cell hI 0).trans rfl
  have lI : Bi < w.heap.size := blk_lt hI
  have kn := Aside0.mk (next_e Bt g l w (hV0.below hB) hL)
  have hno : ∀ {W : World} {L : List ZTk_C} {k t : Nat} {cs : Array Value}, LitAt W Bt g L → W.heap[k]? = some (.cells cs t (0, 0)) → t ≠ 38 → some k ≠ some Bt := fun hL hk ht e => by
    obtain ⟨A, c, a1, _⟩ := hL
    exact blk_ne hk a1 ht (by injection e)
  have hg : g < w.heap.size ∧ g ≠ Bt := by
    obtain ⟨A, c, a1, a2, ⟨cs, t, a3, a6, a7⟩, a4, _⟩ := hL
    exact ⟨blk_lt a3, a4⟩
  have hb0 := hB.size
  go_enter Tryd.func24, Tryd.ntmps24
  go_wp2_with (first | (go_at_call 23; refine kn.out.mono ?_; rintro e w1 ⟨rfl, hL1, hg1, hV1⟩))
  go_loopg [3] (l.length + 1) (fun kq v3 wr => ∃ (Bx : Nat) (dn rest : List ZTk_C) (v : Value), v3 = .pointer (some ⟨Bx, 0, none⟩) ∧ Aside0 (rest.length < kq) ∧ Aside0 (Keeps Bo Bn Bi Bt g n l w0 Bx dn rest v wr))
  case atStart =>
    refine ⟨w1.heap.size, [], l, .slice none 0 0, rfl, ⟨Nat.lt_succ_self _⟩, ⟨?_⟩⟩
    have q : ∀ {k : Nat} {o : Obj}, w.heap[k]? = some o → some k ≠ some Bt → (w1.alloc (.cells #[.int .i64 (ZTk_hd l).f0, .string (ZTk_hd l).f1] 43)).heap[k]? = some o := fun hk hne => blk_alloc (blk_grown hk hg1 hne) _
    have hg2 := hg1.size
    refine ⟨rfl, by simp; omega, blk_new _ _, by have := hg.1; omega, hL1.same ?_ ?_, q hO (hno hL hO (by decide)), Kd.R_nil _ _ _ _ _, q hN (hno hL hN (by decide)), q hI (hno hL hI (by decide)), ?_⟩
    · exact Below.heap_alloc _ _ _ hL1.lt
    · exact Below.heap_alloc _ _ _ (by have := hg.1; omega)
    · exact (hB.grown hg1 hb0 (fun k e => by cases e; exact hBt)).alloc (by omega) _
  case round =>
    obtain ⟨Bx, dn, rest, v, rfl, HK, HH⟩ := hrel
    clear hO hN hI hL hB cI lI kn hL1 hg1 hV1
    cases gk with
    | zero => have := HK.out; omega
    | succ k1 =>
      have H := HH.out
      have V := hV0.below H.hB
      have v0 := V.e0
      have v1 := V.e1
      have lx : Bx < wr.heap.size := blk_lt H.hx
      have lv := vars_lt V
      rcases head_eof rest with he | ⟨x, r, rfl⟩
      · have x0 : wr.cell? ⟨Bx, 0, none⟩ = some (.int .i64 0) := (blk_cell H.hx 0).trans (by rw [he]; rfl)
        have x1 : wr.cell? ⟨Bx, 1, none⟩ = some (.string ⟨#[]⟩) := (blk_cell H.hx 1).trans (by rw [he]; rfl)
        clear H V
        go_wp2
        go_end0
        have H := HH.out
        have hrest : rest = [] := by
          cases rest with
          | nil => rfl
          | cons x r => exact absurd (congrArg S43.f0 he) (hz x (by rw [H.hl]; simp))
        have hl2 : l.take n.toNat = dn := by
          have h1 := H.hl
          rw [hrest, List.append_nil] at h1
          rw [h1]
          exact List.take_of_length_le (by have := H.hn; omega)
        exact ⟨rfl, v, H.hO, by rw [hl2]; exact H.hR, H.hB⟩
      · have x0 : wr.cell? ⟨Bx, 0, none⟩ = some (.int .i64 x.f0) := (blk_cell H.hx 0).trans rfl
        have x1 : wr.cell? ⟨Bx, 1, none⟩ = some (.string x.f1) := (blk_cell H.hx 1).trans rfl
        have hxz : x.f0 ≠ 0 := hz x (by rw [H.hl]; simp)
        have hxb : (x.f0 == 0) = false := beq_eq_false_iff_ne.2 hxz
        have hlen : (dn.map ZTk_cT).length < 1000000 := by have := congrArg List.length H.hl; simp at this ⊢; omega
        have ky := Aside0.mk (yield_c w0.heap.size Bo Bn n x (dn.map ZTk_cT) v w0 wr H.hO H.hN H.hR H.hB H.hB.size hBo hlen)
        rw [show ((dn.map ZTk_cT).length : Int) = (dn.length : Int) by simp] at ky
        by_cases hc : (dn.length : Int) + 1 < n
        · have hd1 : decide ((dn.length : Int) + 1 < n) = true := decide_eq_true hc
          rw [hd1] at ky
          clear H V hd1
          go_wp2_with (first | (go_at_call 17; refine ky.out.mono ?_; rintro e w2 ⟨rfl, v2, hO2, hR2, hB2, hs2, hf2⟩; have H := HH.out; have hx2 := (hf2 Bx lx (blk_ne H.hx H.hO (by decide)) (Kd.R_ne H.hR H.hx (by decide))).trans H.hx; have hL2 := lit_frame H.hL H.hO H.hR hf2; have hI2 := (hf2 Bi (blk_lt H.hI) (blk_ne H.hI H.hO (by decide)) (Kd.R_ne H.hR H.hI (by decide))).trans H.hI; have hN2 := (hf2 Bn (blk_lt H.hN) (blk_ne H.hN H.hO (by decide)) (Kd.R_ne H.hR H.hN (by decide))).trans H.hN; have y0 : w2.cell? ⟨Bx, 0, none⟩ = some (.int .i64 x.f0) := (blk_cell hx2 0).trans rfl; have y1 : w2.cell? ⟨Bx, 1, none⟩ = some (.string x.f1) := (blk_cell hx2 1).trans rfl; have yI : w2.cell? ⟨Bi, 0, none⟩ = some (.func (.func 23) #[] #[.pointer (some ⟨Bt, 0, none⟩)]) := (blk_cell hI2 0).trans rfl; have lx2 : Bx < w2.heap.size := blk_lt hx2; have lI2 : Bi < w2.heap.size := blk_lt hI2; have A1 := Aside0.mk hO2; have A2 := Aside0.mk hR2; have A3 := Aside0.mk hB2; have A4 := Aside0.mk hx2; have A5 := Aside0.mk hL2; have A6 := Aside0.mk hI2; have A7 := Aside0.mk hN2; clear H hx2 hL2 hI2 hN2 hO2 hR2 hB2 hf2 hs2) | (go_at_call 23; refine (next_e Bt g r _ (hV0.below (A3.out.alloc A3.out.size _)) (lit_alloc A5.out _)).mono ?_; rintro e w4 ⟨rfl, hL4, hg4, hV4⟩; have hb4 := blk_grown (blk_new w2 (.cells #[.int .i64 x.f0, .string x.f1] 43)) hg4 (by have := A5.out.lt; intro e; injection e; omega); have z0 : w4.cell? ⟨w2.heap.size, 0, none⟩ = some (.int .i64 x.f0) := (blk_cell hb4 0).trans rfl; have z1 : w4.cell? ⟨w2.heap.size, 1, none⟩ = some (.string x.f1) := (blk_cell hb4 1).trans rfl; have zf0 := blk_frozen hb4 0; have zf1 := blk_frozen hb4 1; have B1 := Aside0.mk hb4; have B2 := Aside0.mk hL4; have B3 := Aside0.mk hg4; clear hb4 hL4 hg4 hV4))
          go_roundg k1
          case measure => omega
          case rel =>
            have H := HH.out
            have hg4s := B3.out.size
            rw [World.size_alloc] at hg4s
            have hBt2 := A5.out.lt
            have hg2 : g < w2.heap.size := by
              obtain ⟨A, c, a1, a2, ⟨cs, t, a3, a6, a7⟩, a4, _⟩ := A5.out
              exact blk_lt a3
            have hb2 := A3.out.size
            have qf : ∀ k, k ≠ w2.heap.size → ((w4.setCell ⟨w2.heap.size, 0, none⟩ (.int .i64 (ZTk_hd r).f0)).setCell ⟨w2.heap.size, 1, none⟩ (.string (ZTk_hd r).f1)).heap[k]? = w4.heap[k]? := fun k hk =>
              (Below.heap_setCell _ ⟨w2.heap.size, 1, none⟩ _ k hk).trans (Below.heap_setCell _ ⟨w2.heap.size, 0, none⟩ _ k hk)
            have q0 : ∀ k, k < w2.heap.size → k ≠ Bt → ((w4.setCell ⟨w2.heap.size, 0, none⟩ (.int .i64 (ZTk_hd r).f0)).setCell ⟨w2.heap.size, 1, none⟩ (.string (ZTk_hd r).f1)).heap[k]? = w2.heap[k]? := fun k hk hne =>
              (qf k (by omega)).trans ((B3.out.block k (by simp; omega) (fun e => hne (by injection e))).trans (Below.heap_alloc _ _ k hk))
            have q : ∀ {k t : Nat} {cs : Array Value}, w2.heap[k]? = some (.cells cs t (0, 0)) → t ≠ 38 → ((w4.setCell ⟨w2.heap.size, 0, none⟩ (.int .i64 (ZTk_hd r).f0)).setCell ⟨w2.heap.size, 1, none⟩ (.string (ZTk_hd r).f1)).heap[k]? = some (.cells cs t (0, 0)) := fun hk ht =>
              (q0 _ (blk_lt hk) (fun e => hno A5.out hk ht (by rw [e]))).trans hk
            refine ⟨w2.heap.size, dn ++ [x], r, v2, rfl, ⟨by have := HK.out; simp at this; omega⟩, ⟨⟨?_, ?_, ?_, ?_, ?_, q A1.out (by decide), ?_, q A7.out (by decide), q A6.out (by decide), ?_⟩⟩⟩
            · rw [H.hl]; simp
            · simp; omega
            · exact blk_put (blk_put B1.out 0 _ rfl) 1 _ rfl
            · omega
            · exact B2.out.same (qf _ (by omega)) (qf _ (by omega))
            · obtain ⟨A, c, a1, _⟩ := A5.out
              rw [List.map_append]
              exact Kd.R_mono (Kd.R_step (Kd.R_types A2.out a1 (by decide)) (fun k hk hlt => q0 k hlt hk.2)) (fun _ _ => trivial)
            · exact (((A3.out.alloc A3.out.size _).grown B3.out (by simp; omega) (fun k e => by cases e; exact hBt)).setCell (p := ⟨w2.heap.size, 0, none⟩) hb2 _).setCell (p := ⟨w2.heap.size, 1, none⟩) hb2 _
        · have hd1 : decide ((dn.length : Int) + 1 < n) = false := decide_eq_false hc
          rw [hd1] at ky
          clear H V hd1
          go_wp2_with (first | (go_at_call 17; refine ky.out.mono ?_; rintro e w2 ⟨rfl, v2, hO2, hR2, hB2, hs2, hf2⟩))
          refine bodyPost_ret (results_none rfl _ _ _) rfl ?_
          have H := HH.out
          have hl2 : l.take n.toNat = dn ++ [x] := by
            rw [H.hl, List.append_cons, List.take_append_of_le_length (by have := H.hn; simp; omega)]
            exact List.take_of_length_le (by have := H.hn; simp; omega)
          exact ⟨rfl, v2, hO2, by rw [hl2, List.map_append]; exact hR2, hB2⟩
open Go.Proofs.YtkdkkbadmjpkfaaDoorEvt (Evt Evt.step Evt.pure Evt.congr wrap_nat) in
theorem inner_loop (xs : List ZTk_T) (hn : xs.length ≤ 2147483647) : ∀ (d i : Nat) (acc : List ZTk_C), xs.length = i + d → acc.length ≤ i →
    Evt (fun k => impl_inner.l0 k acc xs (xs.length : Int) (i : Int)) (acc ++ (xs.drop i).map fun x => (⟨x.f0, x.f1⟩ : ZTk_C)) := by
  have rdT : ∀ (i : Nat) (h : i < xs.length), rd_T32 xs (i : Int) = xs[i] := fun i h => by simp [rd_T32, List.getD_eq_getElem?_getD, h]
  intro d
  induction d with
  | zero =>
    intro i acc hi hacc
    refine Evt.step (h := fun _ => some _) (fun k => ?_) (Evt.pure _)
    simp only [impl_inner.l0]; rw [if_neg (by omega), List.drop_eq_nil_of_le (by omega)]; simp
  | succ d ih =>
    intro i acc hi hacc
    have hlt : i < xs.length := by omega
    have h1 := ih (i + 1) (acc ++ [⟨xs[i].f0, xs[i].f1⟩]) (by omega) (by simp; omega)
    rw [List.drop_eq_getElem_cons hlt, List.map_cons, ← List.singleton_append, ← List.append_assoc]
    refine Evt.step (fun k => ?_) h1
    simp only [impl_inner.l0]; rw [if_pos (by omega), if_pos (by omega), if_pos (by omega), rdT _ hlt, if_pos (by omega), wrap_nat (by omega)]
theorem inner_some (xs : List ZTk_T) (hn : xs.length ≤ 2147483647) : ∃ k, impl_inner.f k xs = some (xs.map fun x => (⟨x.f0, x.f1⟩ : ZTk_C)) := by
  obtain ⟨N, h⟩ := inner_loop xs hn xs.length 0 [] (by omega) (by simp)
  refine ⟨N, ?_⟩
  have := h N (Nat.le_refl _)
  simpa [impl_inner.f] using this
set_option maxHeartbeats 4000000 in
theorem lit_c (A0 : Option Addr) (n c : Nat) (w : World) : Calls Tryd.prog 14 #[.slice A0 n c] w fun e w' => e = .returned (.func (.func 23) #[] #[.pointer (some ⟨w.heap.size, 0, none⟩)]) ∧ w' = w.alloc (.cells #[.slice A0 n c] 38) := by
  have hmf : ∀ (fn : Fn) (first cap : Array Value) (w : World), (Instr.makeFunc fn first cap).run Tryd.prog w = .ok (.func fn first cap) w := fun _ _ _ _ => rfl
  go_enter Tryd.func14, Tryd.ntmps14
  go_wp2
  go_ret
  exact ⟨rfl, rfl⟩
set_option maxHeartbeats 4000000 in
theorem stdm_c (Bt : Nat) (w : World) : Calls Tryd.prog 16 #[.func (.func 23) #[] #[.pointer (some ⟨Bt, 0, none⟩)]] w fun e w' =>
    e = .returned (.func (.func 24) #[] #[.pointer (some ⟨w.heap.size, 0, none⟩)]) ∧ w' = w.alloc (.cells #[.func (.func 23) #[] #[.pointer (some ⟨Bt, 0, none⟩)]] 36) := by
  have hmf : ∀ (fn : Fn) (first cap : Array Value) (w : World), (Instr.makeFunc fn first cap).run Tryd.prog w = .ok (.func fn first cap) w := fun _ _ _ _ => rfl
  go_enter Tryd.func16, Tryd.ntmps16
  go_wp2
  go_ret
  exact ⟨rfl, rfl⟩
/-- What inner hands back is a slice for the closure. -/
theorem lit_of {w : World} {base Bn : Nat} {n : Int} {v : Value} {l : List ZTk_C} (h : Kd.R k43 43 w base (fun _ => True) v l) (hN : w.heap[Bn]? = some (.cells #[.int .i64 n] 3 (0, 0))) :
    ∃ A c, v = .slice A l.length c ∧ ∃ g, LitAt (w.alloc (.cells #[v] 38)) w.heap.size g l := by
  obtain ⟨A, c, rfl⟩ := Kd.R_slice h
  obtain ⟨_, hc, hC⟩ := Kd.R_reads' h
  by_cases hne : l = []
  · have hb := blk_lt hN
    exact ⟨A, c, rfl, Bn, ⟨A, c, blk_new _ _, hc, ⟨_, _, blk_alloc hN _, by decide, by decide⟩, by omega, fun h => absurd hne h⟩⟩
  have hpos : 0 < l.length := List.length_pos_iff.2 hne
  obtain ⟨g, cap, e, hbg, hlt, cs, hcs⟩ := Kd.R_form h hpos
  injection e with e _ _
  subst e
  refine ⟨some ⟨g, 0, none⟩, c, rfl, g, ⟨some ⟨g, 0, none⟩, c, blk_new _ _, hc, ⟨cs, _, blk_alloc hcs _, by decide, by decide⟩, by omega, fun _ => ⟨0, rfl, fun i hi => ?_⟩⟩⟩
  obtain ⟨ad, e1, h0, h1⟩ := at_T43 hC (i : Int) (by omega) (by omega)
  injection e1 with e1
  subst e1
  have rdC : rd_T43 l (i : Int) = l[i] := by simp [rd_T43, List.getD_eq_getElem?_getD, hi]
  rw [rdC] at h0 h1
  have q : ∀ a : Addr, a.block = g → (w.alloc (.cells #[.slice (some ⟨g, 0, none⟩) l.length c] 38)).cell? a = w.cell? a := fun a ha => World.cell?_of_block (Below.heap_alloc _ _ _ (by omega))
  rw [q _ rfl, q _ rfl]
  have eA : (⟨g, 0, none⟩ : Addr).add ((i : Int).toNat * 2) = ⟨g, 0 + 2 * i, none⟩ := by
    rw [Int.toNat_natCast, Nat.mul_comm, Addr.add_lit]
  rw [eA] at h0 h1
  exact ⟨h0, h1⟩
theorem take_start {w w2 : World} {n : Int} {v : Value} {l : List ZTk_C} (hR2 : Kd.R k43 43 w2 ((w.alloc (.cells #[.int .i64 n] 3)).alloc (.cells #[.slice none 0 0] 22)).heap.size (fun _ => True) v l)
    (hB2 : Below ((w.alloc (.cells #[.int .i64 n] 3)).alloc (.cells #[.slice none 0 0] 22)).heap.size ((w.alloc (.cells #[.int .i64 n] 3)).alloc (.cells #[.slice none 0 0] 22)) w2) :
    ∃ A c, v = .slice A l.length c ∧ Aside0 (Below w.heap.size w w2 ∧ w2.heap[w.heap.size]? = some (.cells #[.int .i64 n] 3 (0, 0)) ∧ w2.heap[w.heap.size + 1]? = some (.cells #[.slice none 0 0] 22 (0, 0)) ∧
      ∃ g, LitAt (w2.alloc (.cells #[.slice A l.length c] 38)) w2.heap.size g l) := by
  have HB := ((Below.refl w.heap.size w).alloc (Nat.le_refl _) (.cells #[.int .i64 n] 3)).alloc (by simp) (.cells #[.slice none 0 0] 22)
  have hN2 := (hB2.block w.heap.size (by simp; omega)).trans (blk_alloc (blk_new w (.cells #[.int .i64 n] 3)) (.cells #[.slice none 0 0] 22))
  have hO2 : w2.heap[w.heap.size + 1]? = some (.cells #[.slice none 0 0] 22 (0, 0)) := (hB2.block (w.heap.size + 1) (by simp)).trans (by have := blk_new (w.alloc (.cells #[.int .i64 n] 3)) (.cells #[.slice none 0 0] 22); rw [World.size_alloc] at this; exact this)
  obtain ⟨A2, c2, rfl, g, hL2⟩ := lit_of hR2 hN2
  exact ⟨A2, c2, rfl, ⟨below_step HB hB2, hN2, hO2, g, hL2⟩⟩
theorem take_go {w w2 : World} {A : Option Addr} {c : Nat} {l0 : List ZTk_T} (n : Int) (hn : 1 ≤ n) (hl : l0.length ≤ 100000) (hz : ∀ x ∈ l0, x.f0 ≠ 0) (hV : Go.Proofs.YtkdkkbadmjpkfaaDoorFmt.VarsOK w)
    (hD : Aside0 (Below w.heap.size w w2 ∧ w2.heap[w.heap.size]? = some (.cells #[.int .i64 n] 3 (0, 0)) ∧ w2.heap[w.heap.size + 1]? = some (.cells #[.slice none 0 0] 22 (0, 0)) ∧
      ∃ g, LitAt (w2.alloc (.cells #[.slice A l0.length c] 38)) w2.heap.size g (l0.map fun x => (⟨x.f0, x.f1⟩ : ZTk_C)))) :
    Calls Tryd.prog 24 #[.func (.func 17) #[] #[.pointer (some ⟨w.heap.size + 1, 0, none⟩), .pointer (some ⟨w.heap.size, 0, none⟩)], .pointer (some ⟨w2.heap.size + 1, 0, none⟩)]
      ((w2.alloc (.cells #[.slice A l0.length c] 38)).alloc (.cells #[.func (.func 23) #[] #[.pointer (some ⟨w2.heap.size, 0, none⟩)]] 36)) fun e w' => e = .returned (.tuple #[]) ∧
      ∃ v', w'.heap[w.heap.size + 1]? = some (.cells #[v'] 22 (0, 0)) ∧ ZTk_RT w' w.heap.size v' (l0.take n.toNat) ∧ Below w.heap.size w w' := by
  obtain ⟨hB, hN, hO, g, hL⟩ := hD.out
  have hI := blk_new (w2.alloc (.cells #[.slice A l0.length c] 38)) (.cells #[.func (.func 23) #[] #[.pointer (some ⟨w2.heap.size, 0, none⟩)]] 36)
  rw [World.size_alloc] at hI
  have hs := hB.size
  have h := std_c (w.heap.size + 1) w.heap.size (w2.heap.size + 1) w2.heap.size g n (l0.map fun x => (⟨x.f0, x.f1⟩ : ZTk_C)) w _ hn (by rw [List.length_map]; exact hl) (fun x hx => by obtain ⟨y, hy, rfl⟩ := List.mem_map.1 hx; exact hz y hy) (Nat.le_succ _) hs hV
    (blk_alloc (blk_alloc hO _) _) (blk_alloc (blk_alloc hN _) _) hI (lit_alloc hL _) ((hB.alloc hs _).alloc (by simp; omega) _)
  refine h.mono ?_
  rintro e w' ⟨rfl, v', h1, h2, h3⟩
  refine ⟨rfl, v', h1, ?_, h3⟩
  rw [← List.map_take, List.map_map] at h2
  rw [show (ZTk_cT ∘ fun x : ZTk_T => (⟨x.f0, x.f1⟩ : ZTk_C)) = id from rfl, List.map_id] at h2
  exact h2
set_option maxRecDepth 100000 in
set_option maxHeartbeats 4000000 in
theorem take_c (A0 : Option Addr) (c0 : Nat) (l0 : List ZTk_T) (n : Int) (w : World) (hV : Go.Proofs.YtkdkkbadmjpkfaaDoorFmt.VarsOK w) (hr0 : Kd.C ZTk_kT w A0 l0.length l0) (hc0 : l0.length ≤ c0) (hn : 1 ≤ n) (hl : l0.length ≤ 100000) (hz : ∀ x ∈ l0, x.f0 ≠ 0) :
    Calls Tryd.prog 8 #[.slice A0 l0.length c0, .int .i64 n] w fun e w' => ∃ v : Value, e = .returned v ∧ ZTk_RT w' w.heap.size v (l0.take n.toNat) ∧ Below w.heap.size w w' := by
  have hmf : ∀ (fn : Fn) (first cap : Array Value) (w : World), (Instr.makeFunc fn first cap).run Tryd.prog w = .ok (.func fn first cap) w := fun _ _ _ _ => rfl
  obtain ⟨k, hk⟩ := inner_some l0 (by omega)
  have ZTk_hd : decide (n ≤ 0) = false := decide_eq_false (by omega)
  have HB := Aside0.mk (((Below.refl w.heap.size w).alloc (Nat.le_refl _) (.cells #[.int .i64 n] 3)).alloc (by simp) (.cells #[.slice none 0 0] 22))
  have hr := Aside0.mk hr0
  have hc := Aside0.mk hc0
  clear hr0 hc0
  go_enter Tryd.func8, Tryd.ntmps8
  go_wp2_with (first | (go_at_call 15; refine (impl_inner.calls k A0 c0 l0 _ _ ?hC hc.out hk).mono ?_; (case hC => exact Kd.C_below hr.out HB.out); rintro e w2 ⟨v, rfl, hR2, hB2⟩; obtain ⟨A2, c2, rfl, hD⟩ := take_start hR2 hB2; rw [List.length_map] at hD; rw [List.length_map]; clear hR2 hB2) | (go_at_call 14; refine (lit_c _ _ _ _).mono ?_; rintro e w3 ⟨rfl, rfl⟩) | (go_at_call 16; refine (stdm_c _ _).mono ?_; rintro e w4 ⟨rfl, rfl⟩) | (go_at_call 24; refine (take_go n hn hl hz hV hD).mono ?_; rintro e w5 ⟨rfl, v', hO5, hR5, hB5⟩; have cO5 : w5.cell? ⟨w.heap.size + 1, 0, none⟩ = some v' := (blk_cell hO5 0).trans rfl))
  go_ret
  exact ⟨_, rfl, hR5, hB5⟩
end ZTake
def impl_Take.f (l0 : List (S32)) (a1 : Int) : Option (List (S32)) := if 1 ≤ a1 ∧ l0.length ≤ 100000 ∧ (l0.all fun x => x.f0 != 0) = true then some (l0.take a1.toNat) else none
theorem impl_Take.calls (A0 : Option Addr) (c0 : Nat) (l0 : List (S32)) (a1 : Int) (r : List (S32)) (w : World) (hr0 : Kd.C k32 w A0 l0.length l0) (hc0 : l0.length ≤ c0) (hV : Go.Proofs.YtkdkkbadmjpkfaaDoorFmt.VarsOK w) (h : impl_Take.f l0 a1 = some r) :
    Calls Tryd.prog 8 #[.slice A0 l0.length c0, .int .i64 a1] w fun e w' => ∃ v0_ : Value, e = .returned (v0_) ∧ Kd.R k32 32 w' w.heap.size (fun _ => True) v0_ r ∧ Below w.heap.size w w' := by
  unfold impl_Take.f at h
  by_cases h0 : 1 ≤ a1 ∧ l0.length ≤ 100000 ∧ (l0.all fun x => x.f0 != 0) = true
  · rw [if_pos h0] at h
    obtain rfl := Option.some.inj h
    exact ZTake.take_c A0 c0 l0 a1 w hV hr0 hc0 h0.1 h0.2.1 (fun x hx => by have := List.all_eq_true.1 h0.2.2 x hx; simpa using this)
  · rw [if_neg h0] at h; cases h

/-! ### impl_outer: function 20 -/
def impl_outer.l0 : Nat → List (S32) → List (S43) → Int → Int → Option ((List (S32)))
  | 0, _, _, _, _ => none
  | k + 1, x3, x6, x7, x8 => if x8 < x7 then (if 0 ≤ x8 then (if x8 < (x6.length : Int) then (if x3.length < 5864062014805 then (impl_outer.l0 k (x3 ++ [(⟨(rd_T43 x6 x8).f0, (rd_T43 x6 x8).f1⟩ : S32)]) x6 x7 (wrap64 (x8 + 1))) else (none)) else (none)) else (none)) else (some x3)
def impl_outer.f (k : Nat) (l0 : List (S43)) : Option ((List (S32))) := impl_outer.l0 k ([] : List (S32)) l0 (l0.length : Int) 0
theorem impl_outer.mono_l : ∀ k, (∀ y0 y1 y2 y3, LeO (impl_outer.l0 k y0 y1 y2 y3) (impl_outer.l0 (k + 1) y0 y1 y2 y3))
  | 0 => fun _ _ _ _ r h => by simp [impl_outer.l0] at h
  | k + 1 => by
    have ih0 := impl_outer.mono_l k
    · intro y0 y1 y2 y3
      unfold impl_outer.l0
      repeat' first
      | (with_reducible exact ih0 _ _ _ _)
      | (with_reducible exact LeO.refl _)
      | (with_reducible exact LeO.none _)
      | (with_reducible refine LeO.ite ?_ ?_)
      | (with_reducible refine LeO.bind ?_ (fun _ => ?_))
      | exact ih0 _ _ _ _
      | exact LeO.none _
      | refine LeO.ite ?_ ?_
      | refine LeO.bind ?_ (fun _ => ?_)
theorem impl_outer.mono : ∀ a0 k, LeO (impl_outer.f k a0) (impl_outer.f (k + 1) a0) := by
  intro a0 k
  have ih0 := impl_outer.mono_l k
  unfold impl_outer.f
  repeat' first
      | (with_reducible exact ih0 _ _ _ _)
      | (with_reducible exact LeO.refl _)
      | (with_reducible exact LeO.none _)
      | (with_reducible refine LeO.ite ?_ ?_)
      | (with_reducible refine LeO.bind ?_ (fun _ => ?_))
      | exact ih0 _ _ _ _
      | exact LeO.none _
      | refine LeO.ite ?_ ?_
      | refine LeO.bind ?_ (fun _ => ?_)
set_option maxHeartbeats 8000000 in
set_option maxRecDepth 100000 in
theorem impl_outer.calls (k : Nat) (A0 : Option Addr) (c0 : Nat) (l0 : List (S43)) (r : List (S32)) (w : World) (hr0 : Kd.C k43 w A0 l0.length l0) (hc0 : l0.length ≤ c0) (h : impl_outer.f k l0 = some r) :
    Calls Tryd.prog 20 #[.slice A0 l0.length c0] w fun e w' => ∃ v0_ : Value, e = .returned (v0_) ∧ Kd.R k32 32 w' w.heap.size (fun _ => True) v0_ r ∧ Below w.heap.size w w' := by
  have hu43 := Tryd.underlying43
  have hu32 := Tryd.underlying32
  have HR0 := Aside0.mk hr0
  have HC0 := Aside0.mk hc0
  clear hr0 hc0
  have HB := Aside0.mk (Below.refl w.heap.size w)
  have H : (impl_outer.l0 k ([] : List (S32)) l0 (l0.length : Int) 0) = some r := h
  clear h
  have H' := Aside0.mk H
  clear H
  go_enter Tryd.func20, Tryd.ntmps20
  go_wp2
  go_loopg [3, 8] k (fun kq v3 v8 w' => ∃ (x3_1 : List (S32)) (x8_1 : Int), v8 = .int .i64 x8_1 ∧ Aside0 (impl_outer.l0 kq x3_1 l0 (l0.length : Int) x8_1 = some r) ∧ Aside0 (kq ≤ k) ∧ Aside0 (Kd.R k32 32 w' w.heap.size (fun _ => True) v3 x3_1) ∧ Aside0 (Below w.heap.size w w'))
  case atStart => exact ⟨(([] : List (S32))), (0), (by first | rfl | (simp; done) | (simp [*]; done)), H', ⟨Nat.le_refl _⟩, ⟨by first | exact Kd.R_nil _ _ _ _ _ | exact Kd.N_nil _ _ _ _ _ | exact Kd.V_nil _ _ _ _ _ | exact Kd.Q_nil _ _ _ _ _ | exact Kd.S_nil _ _ _ _ _⟩, ⟨by repeat (first | (with_reducible first | exact HB.out | apply below_alloc | apply pw_below_drewN | apply below_drew1) | exact HB.out)⟩⟩
  case round =>
    clear H'
    obtain ⟨x3_1, x8_1, rfl, HA, HK1, HO_3, HB⟩ := hrel
    cases gk with
    | zero => exact absurd HA.out (by simp [impl_outer.l0])
    | succ k1 =>
      have H := HA.out
      clear HA
      simp only [impl_outer.l0] at H
      by_cases c2 : x8_1 < (l0.length : Int)
      · rw [if_pos c2] at H
        have c2b0 : decide (x8_1 < (l0.length : Int)) = true := decide_eq_true c2
        clear c2
        by_cases c3 : 0 ≤ x8_1
        · rw [if_pos c3] at H
          have c3b0 : decide (0 ≤ x8_1) = true := decide_eq_true c3
          clear c3
          by_cases c4 : x8_1 < (l0.length : Int)
          · rw [if_pos c4] at H
            have c4b0 : decide (x8_1 < (l0.length : Int)) = true := decide_eq_true c4
            clear c4
            by_cases c5 : x3_1.length < 5864062014805
            · rw [if_pos c5] at H
              have LMc5 := Aside0.mk c5
              clear c5
              obtain ⟨y116, hy116⟩ : ∃ y_ : List (S32), y_ = (x3_1 ++ [(⟨(rd_T43 l0 x8_1).f0, (rd_T43 l0 x8_1).f1⟩ : S32)]) := ⟨_, rfl⟩
              replace H : (impl_outer.l0 k1 y116 l0 (l0.length : Int) (wrap64 (x8_1 + 1))) = some r := by first | (rw [hy116]; with_reducible exact H) | (have H2_ := (Option.bind_some _ _).symm.trans H; rw [hy116]; with_reducible exact H2_) | (have H2_ := (Option.bind_some _ _).symm.trans H; with_reducible exact H2_) | with_reducible exact H | (rw [hy116]; exact H) | exact H
              have Ny116 := Aside0.mk hy116
              clear hy116
              have H' := Aside0.mk H
              clear H
              have p114 : 0 ≤ (x8_1 : Int) := of_decide_eq_true (by first | (with_reducible assumption) | assumption)
              have q114 : x8_1 < (l0.length : Int) := of_decide_eq_true (by first | (with_reducible assumption) | assumption)
              obtain ⟨ad114, e114, hx114_0, hx114_1⟩ := at_T43 HR0.out x8_1 p114 q114
              cases e114
              replace hx114_0 := (HB.out.cell (World.block_lt_of_cell? w _ hx114_0)).trans hx114_0
              replace hx114_1 := (HB.out.cell (World.block_lt_of_cell? w _ hx114_1)).trans hx114_1
              replace p114 := eq_true p114
              replace q114 := eq_true q114
              go_wp2_with (first | ((with_reducible refine gate_dst (N := 5) rfl ?_); refine box_event ?hg (N := 5) ?hd (cs := #[.int .i64 0, .string (⟨#[]⟩ : ByteArray)]) (t := 43) ?hr ?_; (case hd => rfl); (case hg => rfl); (case hr => first | (go_simp; done) | (go_simp; rfl)); intro gb115 hg w6 hbox hb; have n0_ := Aside0.mk (Kd.R_below (by (with_reducible repeat (first | apply Kd.R_alloc | apply Kd.R_drewN | apply Kd.R_drew)); exact HO_3.out) hb); have n1_ := Aside0.mk (below_step (by repeat (first | (with_reducible first | exact HB.out | apply below_alloc | apply pw_below_drewN | apply below_drew1) | exact HB.out)) hb); have n2_ := Aside0.mk (hbox); have n3_ := Aside0.mk ((by rw [hg]; exact (below_size (by repeat (first | (with_reducible first | exact HB.out | apply below_alloc | apply pw_below_drewN | apply below_drew1) | exact HB.out))) : w.heap.size ≤ gb115)); have n4_ := Aside0.mk ((by rw [hg]; exact (below_size (by repeat (first | (with_reducible first | exact HB.out | apply below_alloc | apply pw_below_drewN | apply below_drew1) | exact HB.out))) : w.heap.size ≤ gb115)); clear HO_3; clear HB; have HO_3 := n0_; have HB := n1_; have BK115 := n2_; have GW115 := n3_; have GE115 := n4_; clear n0_ n1_ n2_ n3_ n4_; clear hb hbox hg; have hcz7_0 : w6.cell? ⟨gb115, 0, none⟩ = some (.int .i64 0) := (blk_cell BK115.out 0).trans rfl; have hcz7_1 : w6.cell? ⟨gb115, 1, none⟩ = some (.string (⟨#[]⟩ : ByteArray)) := (blk_cell BK115.out 1).trans rfl; have hfz7_0 := blk_frozen BK115.out 0; have hfz7_1 := blk_frozen BK115.out 1) | ((with_reducible refine gate_builtin (b := .append) (xs := #[.tmp 12, .tmp 18]) rfl ?_); at_builtin; refine Kd.R_append k32 (w0 := w) w.heap.size rfl (.tmp 12) (.tmp 18) 22 32 (.agg #[(.int .i64 0), (.string ⟨#[]⟩)]) 24 rfl Tryd.underlying22 info32 rfl (by decide) (by omega) u3 x3_1 (⟨(rd_T43 l0 x8_1).f0, (rd_T43 l0 x8_1).f1⟩ : S32) [.int .i64 ((rd_T43 l0 x8_1).f0), .string ((rd_T43 l0 x8_1).f1)] (fun _ => True) (fun _ => False) rfl (by first | (go_simp; done) | (go_simp; rfl)) ?aP (fun _ hk => hk.elim) ?aF ?aO ?aB ?aS ?aL ?_; (case aP => exact k32_mkM _ _ _ (⟨(rd_T43 l0 x8_1).f0, (rd_T43 l0 x8_1).f1⟩ : S32)); (case aB => exact (by repeat (first | (with_reducible first | exact HB.out | apply below_alloc | apply pw_below_drewN | apply below_drew1 | refine below_set ?_ GE115.out) | exact HB.out))); (case aF => exact (fun _ _ => trivial)); (case aO => exact (by (with_reducible repeat (first | apply Kd.R_alloc | apply Kd.R_drewN | apply Kd.R_drew)); exact Kd.R_mono (Kd.R_far (p := ⟨gb115, 1, none⟩) (Kd.R_far (p := ⟨gb115, 0, none⟩) (Kd.R_types HO_3.out BK115.out (by decide)) (fun _ hk => hk.2) (.int .i64 ((rd_T43 l0 x8_1).f0))) (fun _ hk => hk.2) (.string ((rd_T43 l0 x8_1).f1))) (fun _ hk => trivial))); (case aS => exact (below_size (by repeat (first | (with_reducible first | exact HB.out | apply below_alloc | apply pw_below_drewN | apply below_drew1 | refine below_set ?_ GE115.out) | exact HB.out)))); (case aL => have := LMc5.out; omega); intro v117 w8 ho hb hg hat; rw [← Ny116.out] at ho; have n0_ := Aside0.mk (blk_grown (g := gb115) (o := .cells #[.int .i64 ((rd_T43 l0 x8_1).f0), .string ((rd_T43 l0 x8_1).f1)] 43 (0, 0)) (by (with_reducible repeat (first | refine blk_drewN ?_ _ | refine blk_drew ?_ | refine blk_alloc ?_ _)); refine blk_put (cs := #[.int .i64 ((rd_T43 l0 x8_1).f0), .string (⟨#[]⟩ : ByteArray)]) ?_ 1 _ rfl; (with_reducible repeat (first | refine blk_drewN ?_ _ | refine blk_drew ?_ | refine blk_alloc ?_ _)); refine blk_put (cs := #[.int .i64 0, .string (⟨#[]⟩ : ByteArray)]) ?_ 0 _ rfl; (with_reducible repeat (first | refine blk_drewN ?_ _ | refine blk_drew ?_ | refine blk_alloc ?_ _)); exact BK115.out) hg (Kd.R_ne HO_3.out BK115.out (by decide))); have n1_ := Aside0.mk (hb); have n2_ := Aside0.mk (ho); clear BK115; clear HB; clear HO_3; have BK115 := n0_; have HB := n1_; have HO118 := n2_; clear n0_ n1_ n2_; clear ho hb hg hat))
              go_roundg k1
              case measure => have := HK1.out; omega
              case rel => exact ⟨(y116), (wrap64 (x8_1 + 1)), (by first | rfl | (simp; done) | (simp [*]; done)), H', ⟨by have := HK1.out; omega⟩, ⟨by (with_reducible repeat (first | apply Kd.R_alloc | apply Kd.R_drewN | apply Kd.R_drew)); exact HO118.out⟩, ⟨by repeat (first | (with_reducible first | exact HB.out | apply below_alloc | apply pw_below_drewN | apply below_drew1 | refine below_set ?_ GE115.out) | exact HB.out)⟩⟩
            · rw [if_neg c5] at H
              exact absurd H (by simp)
          · rw [if_neg c4] at H
            exact absurd H (by simp)
        · rw [if_neg c3] at H
          exact absurd H (by simp)
      · rw [if_neg c2] at H
        have c2b0 : decide (x8_1 < (l0.length : Int)) = false := decide_eq_false c2
        clear c2
        obtain rfl := Option.some.inj H
        go_wp2
        go_ret
        exact ⟨_, by first | rfl | (simp [errW_none, errW_some] <;> rfl) | (simp [*, errW_none, errW_some] <;> rfl), by (with_reducible repeat (first | apply Kd.R_alloc | apply Kd.R_drewN | apply Kd.R_drew)); exact HO_3.out, by repeat (first | (with_reducible first | exact HB.out | apply below_alloc | apply pw_below_drewN | apply below_drew1) | exact HB.out)⟩

/-! ### chroma_zzIndex: function 30 -/
def chroma_zzIndex.l0 : Nat → ByteArray → ByteArray → Int → Option (Int)
  | 0, _, _, _ => none
  | k + 1, x0, x1, x5 => if (wrap64 (x5 + (x1.size : Int))) ≤ (x0.size : Int) then (if 0 ≤ x5 then (if x5 ≤ (wrap64 (x5 + (x1.size : Int))) then (if (x0.extract (x5 : Int).toNat ((wrap64 (x5 + (x1.size : Int))) : Int).toNat).toList = x1.toList then (some x5) else (chroma_zzIndex.l0 k x0 x1 (wrap64 (x5 + 1)))) else (none)) else (none)) else (some (-1))
def chroma_zzIndex.f (k : Nat) (a0 : ByteArray) (a1 : ByteArray) : Option (Int) := chroma_zzIndex.l0 k a0 a1 0
theorem chroma_zzIndex.mono_l : ∀ k, (∀ y0 y1 y2, LeO (chroma_zzIndex.l0 k y0 y1 y2) (chroma_zzIndex.l0 (k + 1) y0 y1 y2))
  | 0 => fun _ _ _ r h => by simp [chroma_zzIndex.l0] at h
  | k + 1 => by
    have ih0 := chroma_zzIndex.mono_l k
    · intro y0 y1 y2
      unfold chroma_zzIndex.l0
      repeat' first
      | (with_reducible exact ih0 _ _ _)
      | (with_reducible exact LeO.refl _)
      | (with_reducible exact LeO.none _)
      | (with_reducible refine LeO.ite ?_ ?_)
      | (with_reducible refine LeO.bind ?_ (fun _ => ?_))
      | exact ih0 _ _ _
      | exact LeO.none _
      | refine LeO.ite ?_ ?_
      | refine LeO.bind ?_ (fun _ => ?_)
theorem chroma_zzIndex.mono : ∀ a0 a1 k, LeO (chroma_zzIndex.f k a0 a1) (chroma_zzIndex.f (k + 1) a0 a1) := by
  intro a0 a1 k
  have ih0 := chroma_zzIndex.mono_l k
  unfold chroma_zzIndex.f
  repeat' first
      | (with_reducible exact ih0 _ _ _)
      | (with_reducible exact LeO.refl _)
      | (with_reducible exact LeO.none _)
      | (with_reducible refine LeO.ite ?_ ?_)
      | (with_reducible refine LeO.bind ?_ (fun _ => ?_))
      | exact ih0 _ _ _
      | exact LeO.none _
      | refine LeO.ite ?_ ?_
      | refine LeO.bind ?_ (fun _ => ?_)
set_option maxHeartbeats 8000000 in
set_option maxRecDepth 100000 in
theorem chroma_zzIndex.calls (k : Nat) (a0 : ByteArray) (a1 : ByteArray) (r : Int) (w : World) (h : chroma_zzIndex.f k a0 a1 = some r) :
    Calls Tryd.prog 30 #[.string a0, .string a1] w fun e w' => e = .returned (.int .i64 r) ∧ Drawn0 w w' := by
  have H : (chroma_zzIndex.l0 k a0 a1 0) = some r := h
  clear h
  have H' := Aside0.mk H
  clear H
  go_enter Tryd.func30, Tryd.ntmps30
  go_wp2
  go_loopg [5] k (fun kq v5 w' => ∃ (x5_1 : Int), v5 = .int .i64 x5_1 ∧ Aside0 (chroma_zzIndex.l0 kq a0 a1 x5_1 = some r) ∧ Aside0 (kq ≤ k) ∧ Drawn0 w w')
  case atStart => exact ⟨(0), (by first | rfl | (simp; done) | (simp [*]; done)), H', ⟨Nat.le_refl _⟩, by repeat (first | exact Drawn0.refl _ | apply Drawn0.step)⟩
  case round =>
    clear H'
    try clear p2
    obtain ⟨x5_1, rfl, HA, HK1, ⟨m1, rfl⟩⟩ := hrel
    cases gk with
    | zero => exact absurd HA.out (by simp [chroma_zzIndex.l0])
    | succ k1 =>
      have H := HA.out
      clear HA
      simp only [chroma_zzIndex.l0] at H
      by_cases c3 : (wrap64 (x5_1 + (a1.size : Int))) ≤ (a0.size : Int)
      · rw [if_pos c3] at H
        have c3b0 : decide ((wrap64 (x5_1 + (a1.size : Int))) ≤ (a0.size : Int)) = true := decide_eq_true c3
        clear c3
        by_cases c4 : 0 ≤ x5_1
        · rw [if_pos c4] at H
          have c4b0 := eq_true c4
          have c4b1 : decide (0 ≤ x5_1) = true := decide_eq_true c4
          clear c4
          by_cases c5 : x5_1 ≤ (wrap64 (x5_1 + (a1.size : Int)))
          · rw [if_pos c5] at H
            have c5b0 := eq_true c5
            have c5b1 : decide (x5_1 ≤ (wrap64 (x5_1 + (a1.size : Int)))) = true := decide_eq_true c5
            have c6b0 := eq_true (of_decide_eq_true (by first | (with_reducible assumption) | assumption) : (wrap64 (x5_1 + (a1.size : Int))) ≤ (a0.size : Int))
            by_cases c7 : (a0.extract (x5_1 : Int).toNat ((wrap64 (x5_1 + (a1.size : Int))) : Int).toNat).toList = a1.toList
            · rw [if_pos c7] at H
              have c7b0 : ((a0.extract (x5_1 : Int).toNat ((wrap64 (x5_1 + (a1.size : Int))) : Int).toNat).toList == a1.toList) = true := beq_iff_eq.mpr c7
              have c7b1 : ((a0.extract (x5_1 : Int).toNat ((wrap64 (x5_1 + (a1.size : Int))) : Int).toNat).toList != a1.toList) = false := bne_eq_false_iff_eq.mpr c7
              clear c7
              obtain rfl := Option.some.inj H
              go_wp2
              go_ret
              exact ⟨by first | rfl | (simp; done) | (simp [*]; done), by repeat (first | exact Drawn0.refl _ | apply Drawn0.step)⟩
            · rw [if_neg c7] at H
              have c7b0 : ((a0.extract (x5_1 : Int).toNat ((wrap64 (x5_1 + (a1.size : Int))) : Int).toNat).toList == a1.toList) = false := beq_eq_false_iff_ne.mpr c7
              have c7b1 : ((a0.extract (x5_1 : Int).toNat ((wrap64 (x5_1 + (a1.size : Int))) : Int).toNat).toList != a1.toList) = true := bne_iff_ne.mpr c7
              have H' := Aside0.mk H
              clear H
              go_wp2
              go_roundg k1
              case measure => have := HK1.out; omega
              case rel => exact ⟨(wrap64 (x5_1 + 1)), (by first | rfl | (simp; done) | (simp [*]; done)), H', ⟨by have := HK1.out; omega⟩, by repeat (first | exact Drawn0.refl _ | apply Drawn0.step)⟩
          · rw [if_neg c5] at H
            exact absurd H (by simp)
        · rw [if_neg c4] at H
          exact absurd H (by simp)
      · rw [if_neg c3] at H
        have c3b0 : decide ((wrap64 (x5_1 + (a1.size : Int))) ≤ (a0.size : Int)) = false := decide_eq_false c3
        clear c3
        obtain rfl := Option.some.inj H
        go_wp2
        go_ret
        exact ⟨by first | rfl | (simp; done) | (simp [*]; done), by repeat (first | exact Drawn0.refl _ | apply Drawn0.step)⟩

/-! ### chroma_zzContains: function 27 -/
def chroma_zzContains.f (k : Nat) (a0 : ByteArray) (a1 : ByteArray) : Option (Bool) := (chroma_zzIndex.f k a0 a1).bind fun t119 => (some (decide (t119 ≥ 0)))
theorem chroma_zzContains.mono : ∀ a0 a1 k, LeO (chroma_zzContains.f k a0 a1) (chroma_zzContains.f (k + 1) a0 a1) := by
  intro a0 a1 k
  unfold chroma_zzContains.f
  repeat' first
      | (with_reducible exact chroma_zzIndex.mono _ _ _)
      | (with_reducible exact LeO.refl _)
      | (with_reducible exact LeO.none _)
      | (with_reducible refine LeO.ite ?_ ?_)
      | (with_reducible refine LeO.bind ?_ (fun _ => ?_))
      | exact chroma_zzIndex.mono _ _ _
      | exact LeO.none _
      | refine LeO.ite ?_ ?_
      | refine LeO.bind ?_ (fun _ => ?_)
set_option maxHeartbeats 8000000 in
set_option maxRecDepth 100000 in
theorem chroma_zzContains.calls (k : Nat) (a0 : ByteArray) (a1 : ByteArray) (r : Bool) (w : World) (h : chroma_zzContains.f k a0 a1 = some r) :
    Calls Tryd.prog 27 #[.string a0, .string a1] w fun e w' => e = .returned (.bool r) ∧ Drawn0 w w' := by
  have H : ((chroma_zzIndex.f k a0 a1).bind fun t119 => (some (decide (t119 ≥ 0)))) = some r := h
  clear h
  replace H := Option.bind_eq_some_iff.mp H
  obtain ⟨t119, A30, H⟩ := H
  replace H : (some (decide (t119 ≥ 0))) = some r := H
  have A3 := Aside0.mk A30
  clear A30
  obtain rfl := Option.some.inj H
  go_enter Tryd.func27, Tryd.ntmps27
  go_wp2_with (first | ((with_reducible refine gate_callee (f := 30) rfl ?_); refine goesL_ (some 7) rfl rfl Tryd.func30 (by kernel_rfl) rfl #[.string a0, .string a1] rfl (by (try simp only [List.map_toArray, List.map_cons, List.map_nil]); first | done | rfl | (simp only [List.length_drop, List.length_take]; rfl)) ?_; (with_reducible refine (chroma_zzIndex.calls k a0 a1 t119 _ A3.out).mono ?_); rintro e w' ⟨rfl, ⟨nd, rfl⟩⟩; refine ⟨_, rfl, ?_⟩))
  go_ret
  exact ⟨by first | rfl | (simp; done) | (simp [*]; done), by repeat (first | exact Drawn0.refl _ | apply Drawn0.step)⟩

/-! ### chroma_zzSplitAfter: function 28 -/
def chroma_zzSplitAfter.f (k : Nat) (a0 : ByteArray) (a1 : ByteArray) : Option (List ByteArray) := (chroma_zzIndex.f k a0 a1).bind fun t120 => (if 0 ≤ (wrap64 (t120 + (a1.size : Int))) then (if (wrap64 (t120 + (a1.size : Int))) ≤ (a0.size : Int) then (some (([a0.extract 0 ((wrap64 (t120 + (a1.size : Int))) : Int).toNat, a0.extract ((wrap64 (t120 + (a1.size : Int))) : Int).toNat a0.size] : List ByteArray))) else (none)) else (none))
theorem chroma_zzSplitAfter.mono : ∀ a0 a1 k, LeO (chroma_zzSplitAfter.f k a0 a1) (chroma_zzSplitAfter.f (k + 1) a0 a1) := by
  intro a0 a1 k
  unfold chroma_zzSplitAfter.f
  repeat' first
      | (with_reducible exact chroma_zzIndex.mono _ _ _)
      | (with_reducible exact LeO.refl _)
      | (with_reducible exact LeO.none _)
      | (with_reducible refine LeO.ite ?_ ?_)
      | (with_reducible refine LeO.bind ?_ (fun _ => ?_))
      | exact chroma_zzIndex.mono _ _ _
      | exact LeO.none _
      | refine LeO.ite ?_ ?_
      | refine LeO.bind ?_ (fun _ => ?_)
def chroma_zzSplitAfter.T2 : Bool × List (List Nat × List Nat) := (true, [([], []), ([], []), ([0, 1], [0, 1]), ([], []), ([], []), ([3, 4], [3, 4]), ([2, 5], [2, 5]), ([6, 0, 1, 2, 3, 4, 5, 6], [6])])
def chroma_zzSplitAfter.B2 : List Nat := [0, 0, 3, 0, 0, 24, 63, 127]
theorem chroma_zzSplitAfter.tab2 : rtab .any (opsOf Tryd.f28 2) = chroma_zzSplitAfter.T2 := by kernel_rfl
theorem chroma_zzSplitAfter.bits2 : waitsOk chroma_zzSplitAfter.T2.2 chroma_zzSplitAfter.B2 = true := by kernel_rfl
set_option maxHeartbeats 8000000 in
set_option maxRecDepth 100000 in
theorem chroma_zzSplitAfter.calls (k : Nat) (a0 : ByteArray) (a1 : ByteArray) (r : List ByteArray) (w : World) (h : chroma_zzSplitAfter.f k a0 a1 = some r) :
    Calls Tryd.prog 28 #[.string a0, .string a1] w fun e w' => ∃ v0_ : Value, e = .returned (v0_) ∧ Kd.R Kd.string 9 w' w.heap.size (fun _ => True) v0_ r ∧ Below w.heap.size w w' := by
  have HB := Aside0.mk (Below.refl w.heap.size w)
  have H : ((chroma_zzIndex.f k a0 a1).bind fun t120 => (if 0 ≤ (wrap64 (t120 + (a1.size : Int))) then (if (wrap64 (t120 + (a1.size : Int))) ≤ (a0.size : Int) then (some (([a0.extract 0 ((wrap64 (t120 + (a1.size : Int))) : Int).toNat, a0.extract ((wrap64 (t120 + (a1.size : Int))) : Int).toNat a0.size] : List ByteArray))) else (none)) else (none))) = some r := h
  clear h
  replace H := Option.bind_eq_some_iff.mp H
  obtain ⟨t120, A30, H⟩ := H
  replace H : (if 0 ≤ (wrap64 (t120 + (a1.size : Int))) then (if (wrap64 (t120 + (a1.size : Int))) ≤ (a0.size : Int) then (some (([a0.extract 0 ((wrap64 (t120 + (a1.size : Int))) : Int).toNat, a0.extract ((wrap64 (t120 + (a1.size : Int))) : Int).toNat a0.size] : List ByteArray))) else (none)) else (none)) = some r := H
  have A3 := Aside0.mk A30
  clear A30
  obtain ⟨ji4, hji4⟩ : ∃ j_ : Int, (wrap64 (t120 + (a1.size : Int))) = j_ := ⟨_, rfl⟩
  replace H : (if 0 ≤ (ji4) then (if (ji4) ≤ (a0.size : Int) then (some (([a0.extract 0 ((ji4) : Int).toNat, a0.extract ((ji4) : Int).toNat a0.size] : List ByteArray))) else (none)) else (none)) = some r := by first | (rw [hji4] at H; exact H) | (simp only [hji4] at H ⊢; exact H)
  (try rw [hji4] at A3)
  have hji4w : (IntKind.i64.wrap (t120 + (a1.size : Int))) = ji4 := (i64_w _).trans hji4
  by_cases c5 : 0 ≤ (ji4)
  · rw [if_pos c5] at H
    have c5b0 := eq_true c5
    have c5b1 : decide (0 ≤ (ji4)) = true := decide_eq_true c5
    clear c5
    by_cases c6 : (ji4) ≤ (a0.size : Int)
    · rw [if_pos c6] at H
      have c6b0 := eq_true c6
      have c6b1 : decide ((ji4) ≤ (a0.size : Int)) = true := decide_eq_true c6
      clear c6
      have c7b0 := eq_true (of_decide_eq_true (by first | (with_reducible assumption) | assumption) : 0 ≤ (ji4))
      have c8b0 := eq_true (of_decide_eq_true (by first | (with_reducible assumption) | assumption) : (ji4) ≤ (a0.size : Int))
      obtain ⟨y121, hy121⟩ : ∃ y_ : List ByteArray, y_ = (([a0.extract 0 ((ji4) : Int).toNat, a0.extract ((ji4) : Int).toNat a0.size] : List ByteArray)) := ⟨_, rfl⟩
      replace H : (some y121) = some r := by first | (rw [hy121]; with_reducible exact H) | (have H2_ := (Option.bind_some _ _).symm.trans H; rw [hy121]; with_reducible exact H2_) | (have H2_ := (Option.bind_some _ _).symm.trans H; with_reducible exact H2_) | with_reducible exact H | (rw [hy121]; exact H) | exact H
      have Ny121 := Aside0.mk hy121
      clear hy121
      obtain rfl := Option.some.inj H
      go_enter Tryd.func28, Tryd.ntmps28
      try go_wp2_with (first | ((with_reducible refine gate_callee (f := 30) rfl ?_); refine goesL_ (some 8) rfl rfl Tryd.func30 (by kernel_rfl) rfl #[.string a0, .string a1] rfl (by (try simp only [List.map_toArray, List.map_cons, List.map_nil]); first | done | rfl | (simp only [List.length_drop, List.length_take]; rfl)) ?_; (with_reducible refine (chroma_zzIndex.calls k a0 a1 t120 _ A3.out).mono ?_); rintro e w' ⟨rfl, ⟨nd, rfl⟩⟩; refine ⟨_, rfl, ?_⟩))
      (try simp only [World.drewN_drewN])
      rw [drewN_self w]; generalize hq_ : World.drewN w _ = w9
      have n0_ : Aside0 (Below w.heap.size w w9) := ⟨by rw [← hq_]; exact (by repeat (first | (with_reducible first | exact HB.out | apply below_alloc | apply pw_below_drewN | apply below_drew1) | exact HB.out))⟩
      clear HB hq_
      have HB := n0_
      clear n0_
      have n0_ := Aside0.mk (below_drew1 HB.out)
      clear HB
      have HB := n0_
      clear n0_
      refine start_ (n := 8) (S := fun w' => True) (ds := []) #[false, false, false, false, false, false, false, false] (by kernel_rfl) rfl rfl trivial (fun hHeld => ?_); refine with_tabW chroma_zzSplitAfter.tab2 chroma_zzSplitAfter.bits2 (fun HT_ HW_ => ?_)
      generalize w9.drew = w10 at HB hHeld ⊢
      refine pure_ (i := 0) (N := some 12) (v := ?_) (a' := ?_) #[true, false, false, false, false, false, false, false] rfl rfl (any_of HT_.out (by kernel_rfl)) (fun _ _ _ h => h) (Or.inl ⟨by rfl, ?_⟩) ?_ ?_
      rotate_left
      · intro w'
        go_simp
        with_reducible rfl
      rotate_left
      · simp only [Act.put, List.setIfInBounds_toArray, List.set_cons_zero, List.set_cons_succ, i64_w, i32_w]
        rfl
      refine pure_ (i := 1) (N := some 13) (v := ?_) (a' := ?_) #[true, true, false, false, false, false, false, false] rfl rfl (any_of HT_.out (by kernel_rfl)) (fun _ _ _ h => h) (Or.inl ⟨by rfl, ?_⟩) ?_ ?_
      rotate_left
      · intro w'
        go_simp
        with_reducible rfl
      rotate_left
      · simp only [Act.put, List.setIfInBounds_toArray, List.set_cons_zero, List.set_cons_succ, i64_w, i32_w]
        rfl
      refine pure_ (i := 2) (N := some 14) (v := ?_) (a' := ?_) #[true, true, true, false, false, false, false, false] rfl rfl (any_of HT_.out (by kernel_rfl)) (fun _ _ _ h => h) (Or.inl ⟨by rfl, ?_⟩) ?_ ?_
      rotate_left
      · intro w'
        go_simp
        with_reducible rfl
      rotate_left
      · simp only [Act.put, List.setIfInBounds_toArray, List.set_cons_zero, List.set_cons_succ, i64_w, i32_w]
        rfl
      refine pure_ (i := 3) (N := some 15) (v := ?_) (a' := ?_) #[true, true, true, true, false, false, false, false] rfl rfl (any_of HT_.out (by kernel_rfl)) (fun _ _ _ h => h) (Or.inl ⟨by rfl, ?_⟩) ?_ ?_
      rotate_left
      · intro w'
        go_simp
        with_reducible rfl
      rotate_left
      · simp only [Act.put, List.setIfInBounds_toArray, List.set_cons_zero, List.set_cons_succ, i64_w, i32_w]
        rfl
      refine pure_ (i := 4) (N := some 16) (v := ?_) (a' := ?_) #[true, true, true, true, true, false, false, false] rfl rfl (any_of HT_.out (by kernel_rfl)) (fun _ _ _ h => h) (Or.inl ⟨by rfl, ?_⟩) ?_ ?_
      rotate_left
      · intro w'
        go_simp
        with_reducible rfl
      rotate_left
      · simp only [Act.put, List.setIfInBounds_toArray, List.set_cons_zero, List.set_cons_succ, i64_w, i32_w]
        rfl
      refine pure_ (i := 5) (N := some 17) (v := ?_) (a' := ?_) #[true, true, true, true, true, true, false, false] rfl rfl (any_of HT_.out (by kernel_rfl)) (fun _ _ _ h => h) (Or.inl ⟨by rfl, ?_⟩) ?_ ?_
      rotate_left
      · intro w'
        go_simp
        with_reducible rfl
      rotate_left
      · simp only [Act.put, List.setIfInBounds_toArray, List.set_cons_zero, List.set_cons_succ, i64_w, i32_w]
        rfl
      refine one_ (i := 6) (N := some 18) #[true, true, true, true, true, true, true, false] rfl rfl (one_of HT_.out (by kernel_rfl)) (by decide) (fun K hK => ?_)
      refine Kd.R_lit_step Kd.string _ 9 ?hg (N := 18) ?hd (xs := ([a0.extract 0 ((ji4) : Int).toNat, a0.extract ((ji4) : Int).toNat a0.size] : List ByteArray)) (inner := [.string (a0.extract 0 ((ji4) : Int).toNat), .string (a0.extract ((ji4) : Int).toNat a0.size)]) (ok := fun _ => True) (okp := fun _ => True) ?hr ?hp (fun _ hk => hk) trivial (Below.refl _ _) (Nat.le_refl _) (by simp) ?_; (case hd => rfl); (case hg => rfl); (case hr => first | (go_simp; done) | (go_simp; rfl)); (case hp => exact (Reps.one (show Kd.M Kd.string _ _ _ (a0.extract 0 ((ji4) : Int).toNat) [.string (a0.extract 0 ((ji4) : Int).toNat)] from rfl) (Reps.one (show Kd.M Kd.string _ _ _ (a0.extract ((ji4) : Int).toNat a0.size) [.string (a0.extract ((ji4) : Int).toNat a0.size)] from rfl) (Reps.none _ _))))
      intro v122 w11 ho12 hb hg_ hnew_
      clear hg_ hnew_
      (first | rw [← Ny121.out] at ho12 | (simp only [Int.reduceToNat] at ho12; rw [← Ny121.out] at ho12))
      have n0_ := Aside0.mk (Kd.R_lower ho12 (below_size (by repeat (first | (with_reducible first | exact HB.out | apply below_alloc | apply pw_below_drewN | apply below_drew1) | exact HB.out))))
      have n1_ := Aside0.mk (below_step (by repeat (first | (with_reducible first | exact HB.out | apply below_alloc | apply pw_below_drewN | apply below_drew1) | exact HB.out)) hb)
      clear HB
      have HO123 := n0_
      have HB := n1_
      clear n0_ n1_
      clear hb ho12
      refine hK.out _ _ trivial (fun hHeld => ?_)
      clear hK K
      refine norm_ (a' := ?_) ?_ ?_
      rotate_left
      · show Act.put _ (some 18) _ = _
        simp only [Act.put, List.setIfInBounds_toArray, List.set_cons_zero, List.set_cons_succ, i64_w, i32_w]
        rfl
      refine pure_ (i := 7) (N := some 4) (v := ?_) (a' := ?_) #[true, true, true, true, true, true, true, true] rfl rfl (any_of HT_.out (by kernel_rfl)) (fun _ _ _ h => h) (Or.inl ⟨by rfl, ?_⟩) ?_ ?_
      rotate_left
      · intro w'
        go_simp
        with_reducible rfl
      rotate_left
      · simp only [Act.put, List.setIfInBounds_toArray, List.set_cons_zero, List.set_cons_succ, i64_w, i32_w]
        rfl
      refine done_ (done_of HT_.out (by kernel_rfl)) ?_
      try go_wp2
      go_ret
      exact ⟨_, by first | rfl | (simp [errW_none, errW_some] <;> rfl) | (simp only [← hji4]; first | rfl | (simp [errW_none, errW_some] <;> rfl)) | (simp [*, errW_none, errW_some] <;> rfl), by (with_reducible repeat (first | apply Kd.R_alloc | apply Kd.R_drewN | apply Kd.R_drew)); exact HO123.out, by repeat (first | (with_reducible first | exact HB.out | apply below_alloc | apply pw_below_drewN | apply below_drew1) | exact HB.out)⟩
    · rw [if_neg c6] at H
      exact absurd H (by simp)
  · rw [if_neg c5] at H
    exact absurd H (by simp)

/-! ### chroma_Token_Clone: function 29 -/
def chroma_Token_Clone.f (s0_0 : Int) (s0_1 : ByteArray) : Option (Int × ByteArray) := some (s0_0, s0_1)
set_option maxHeartbeats 8000000 in
theorem chroma_Token_Clone.calls (g : Nat) (s0_0 : Int) (s0_1 : ByteArray) (r1 : Int) (r2 : ByteArray) (w : World) (hI : w.heap[g]? = some (.cells #[.int .i64 s0_0, .string s0_1] 43 (0, 0))) (h : chroma_Token_Clone.f s0_0 s0_1 = some (r1, r2)) :
    Calls Tryd.prog 29 #[.pointer (some ⟨g, 0, none⟩)] w fun e w' => e = .returned (.agg #[.int .i64 r1, .string r2]) ∧ Below w.heap.size w w' := by
  have hu47 := Tryd.underlying43
  have c0 : w.cell? ⟨g, 0, none⟩ = some (.int .i64 s0_0) := (blk_cell hI 0).trans rfl
  have c1 : w.cell? ⟨g, 1, none⟩ = some (.string s0_1) := (blk_cell hI 1).trans rfl
  have lt : g < w.heap.size := blk_lt hI
  clear hI
  simp only [chroma_Token_Clone.f, Option.some.injEq, Prod.mk.injEq] at h
  obtain ⟨rfl, rfl⟩ := h
  go_enter Tryd.func29, Tryd.ntmps29
  go_wp2
  exact bodyPost_ret (results_cell_row rfl _ _ w.heap.size 43 #[.int .i64 s0_0, .string s0_1] (0, 0) _ rfl (by simpa using heap_alloc_new w _) Tryd.underlying43 rfl (by kernel_rfl)) rfl ⟨rfl, (Below.refl _ _).alloc (Nat.le_refl _) _⟩

end Go.Proofs.YtkdkkbadmjpkfaaDoor.M
