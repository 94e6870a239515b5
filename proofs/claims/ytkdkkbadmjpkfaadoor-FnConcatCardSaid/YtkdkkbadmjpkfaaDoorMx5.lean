-- WRITTEN BY OUR myprint.py, a program of this session's over the kit's printer
import Derived.Test.YtkdkkbadmjpkfaaDoorMx0
import Derived.Test.YtkdkkbadmjpkfaaDoorMx2
import Derived.Test.YtkdkkbadmjpkfaaDoorMx4
namespace Go.Proofs.YtkdkkbadmjpkfaaDoor.M
open Go.RowKit Go.Proofs.YtkdkkbadmjpkfaaDoorW.PrintWords Go.Proofs.YtkdkkbadmjpkfaaDoorW.PrintLast Go.Proofs.YtkdkkbadmjpkfaaDoorW.PrintMore
attribute [local go_sem] max2_int min2_int max_two min_two max_three min_three max_four min_four   -- for this text's walks alone
set_option linter.unusedVariables false
set_option linter.unusedSimpArgs false

/-! ### impl_Concat: function 12 -/
namespace ZCat
abbrev ZTk_C := S43
def ZTk_tokV (x : ZTk_C) : Value := .agg #[.int .i64 x.f0, .string x.f1]
def ZTk_eof : ZTk_C := ⟨0, ⟨#[]⟩⟩
/-- The next token, or the mark of the end. -/
def ZTk_hd : List ZTk_C → ZTk_C
  | [] => ZTk_eof
  | x :: _ => x
/-- Block g has from cell o on the tokens l. -/
def ZTk_Toks (W : World) (g o : Nat) (l : List ZTk_C) : Prop :=
  ∀ i (h : i < l.length), W.cell? ⟨g, o + 2 * i, none⟩ = some (.int .i64 l[i].f0) ∧ W.cell? ⟨g, o + 2 * i + 1, none⟩ = some (.string l[i].f1)
theorem ZTk_Toks.tail {W : World} {g o : Nat} {x : ZTk_C} {l : List ZTk_C} (h : ZTk_Toks W g o (x :: l)) : ZTk_Toks W g (o + 2) l := fun i hi => by
  have := h (i + 1) (by simp; omega)
  simp only [List.getElem_cons_succ] at this
  rw [show o + 2 * (i + 1) = o + 2 + 2 * i by omega] at this
  exact this
theorem ZTk_Toks.same {W W' : World} {g o : Nat} {l : List ZTk_C} (h : ZTk_Toks W g o l) (hb : W'.heap[g]? = W.heap[g]?) : ZTk_Toks W' g o l := fun i hi =>
  ⟨(World.cell?_of_block (a := ⟨g, _, none⟩) hb).trans (h i hi).1, (World.cell?_of_block (a := ⟨g, _, none⟩) hb).trans (h i hi).2⟩
/-- Block Bt holds what is left of a slice of tokens, l, in block g. -/
def LitAt (W : World) (Bt g : Nat) (l : List ZTk_C) : Prop :=
  ∃ A c, W.heap[Bt]? = some (.cells #[.slice A l.length c] 38 (0, 0)) ∧ l.length ≤ c ∧ (∃ cs t, W.heap[g]? = some (.cells cs t (0, 0)) ∧ 22 ≠ t ∧ 32 ≠ t) ∧ g ≠ Bt ∧ (l ≠ [] → ∃ o, A = some ⟨g, o, none⟩ ∧ ZTk_Toks W g o l)
theorem LitAt.lt {W : World} {Bt g : Nat} {l : List ZTk_C} (h : LitAt W Bt g l) : Bt < W.heap.size := by
  obtain ⟨A, c, h, _⟩ := h; exact blk_lt h
theorem LitAt.same {W W' : World} {Bt g : Nat} {l : List ZTk_C} (h : LitAt W Bt g l) (h1 : W'.heap[Bt]? = W.heap[Bt]?) (h2 : W'.heap[g]? = W.heap[g]?) : LitAt W' Bt g l := by
  obtain ⟨A, c, a1, a2, a3, a4, a5⟩ := h
  refine ⟨A, c, h1.trans a1, a2, ?_, a4, fun hl => ?_⟩
  · obtain ⟨cs, t, a3, a6, a7⟩ := a3
    exact ⟨cs, t, h2.trans a3, a6, a7⟩
  · obtain ⟨o, b1, b2⟩ := a5 hl
    exact ⟨o, b1, b2.same h2⟩
set_option maxHeartbeats 4000000 in
theorem next_nil (Bt g : Nat) (w : World) (hV : Go.Proofs.YtkdkkbadmjpkfaaDoorFmt.VarsOK w) (h : LitAt w Bt g []) :
    Calls Tryd.prog 23 #[.pointer (some ⟨Bt, 0, none⟩)] w fun e w' => e = .returned (ZTk_tokV ZTk_eof) ∧ w.grownBy w' none := by
  have hu := Tryd.underlying43
  obtain ⟨A, c, a1, a2, a3, a4, a5⟩ := h
  have c0 : w.cell? ⟨Bt, 0, none⟩ = some (.slice A 0 c) := (blk_cell a1 0).trans rfl
  have e0 := hV.e0
  have e1 := hV.e1
  have hlt : Bt < w.heap.size := blk_lt a1
  have hl0 : 0 < w.heap.size := World.block_lt_of_cell? w _ e0
  clear a1 a2 a3 a4 a5 hV
  go_enter Tryd.func23, Tryd.ntmps23
  go_wp2
  exact bodyPost_ret (results_cell_row rfl _ _ w.heap.size 43 #[.int .i64 0, .string ⟨#[]⟩] (0, 0) _ rfl (by simpa using heap_alloc_new w _) Tryd.underlying43 rfl (by kernel_rfl)) rfl ⟨rfl, World.grownBy_alloc w _ none⟩
theorem res_at (w : World) (p : Addr) (v : Value) (o1 o2 : Obj) : (((w.setCell p v).alloc o1).alloc o2).heap[w.heap.size]? = some o1 := by
  refine blk_alloc ?_ _
  have := blk_new (w.setCell p v) o1
  rw [World.size_setCell] at this
  exact this
theorem next_post {w : World} {Bt g o c : Nat} {x : ZTk_C} {l : List ZTk_C} {A : Option Addr} (A' : Option Addr) (c' : Nat) (a1 : w.heap[Bt]? = some (.cells #[.slice A (x :: l).length c] 38 (0, 0))) (a3 : ∃ cs t, w.heap[g]? = some (.cells cs t (0, 0)) ∧ 22 ≠ t ∧ 32 ≠ t) (a4 : g ≠ Bt)
    (hT : ZTk_Toks w g o (x :: l)) (hc : l.length ≤ c') (hA : l ≠ [] → A' = some ⟨g, o + 2, none⟩) (o1 o2 : Obj) :
    LitAt (((w.setCell ⟨Bt, 0, none⟩ (.slice A' l.length c')).alloc o1).alloc o2) Bt g l ∧ w.grownBy (((w.setCell ⟨Bt, 0, none⟩ (.slice A' l.length c')).alloc o1).alloc o2) (some Bt) := by
  have hg : w.grownBy (((w.setCell ⟨Bt, 0, none⟩ (.slice A' l.length c')).alloc o1).alloc o2) (some Bt) := by
    refine ⟨rfl, rfl, rfl, by simp; omega, fun k hk hne => ?_⟩
    have hk' : k < (w.setCell ⟨Bt, 0, none⟩ (.slice A' l.length c')).heap.size := by rw [World.size_setCell]; exact hk
    refine ((Below.heap_alloc _ o2 k (by simp; omega)).trans (Below.heap_alloc _ o1 k hk')).trans ?_
    exact Below.heap_setCell w ⟨Bt, 0, none⟩ _ k (fun e => hne (by rw [e]))
  obtain ⟨cs, t, a3, a6, a7⟩ := a3
  have hgs := hg.block g (blk_lt a3) (fun e => a4 (by injection e))
  exact ⟨⟨A', c', blk_alloc (blk_alloc (blk_put a1 0 _ rfl) _) _, hc, ⟨cs, t, hgs.trans a3, a6, a7⟩, a4, fun hl => ⟨o + 2, hA hl, hT.tail.same hgs⟩⟩, hg⟩
set_option maxRecDepth 100000 in
set_option maxHeartbeats 4000000 in
theorem next_cons (Bt g : Nat) (x : ZTk_C) (l : List ZTk_C) (w : World) (h : LitAt w Bt g (x :: l)) :
    Calls Tryd.prog 23 #[.pointer (some ⟨Bt, 0, none⟩)] w fun e w' => e = .returned (ZTk_tokV x) ∧ LitAt w' Bt g l ∧ w.grownBy w' (some Bt) := by
  have hu := Tryd.underlying43
  obtain ⟨A, c, a1, a2, a3, a4, a5⟩ := h
  obtain ⟨o, rfl, hT⟩ := a5 (by simp)
  have c0 : w.cell? ⟨Bt, 0, none⟩ = some (.slice (some ⟨g, o, none⟩) (l.length + 1) c) := (blk_cell a1 0).trans rfl
  have f0 := blk_frozen a1 0
  have t0 := (hT 0 (by simp)).1
  have t1 := (hT 0 (by simp)).2
  simp only [Nat.mul_zero, Nat.add_zero, List.getElem_cons_zero] at t0 t1
  simp only [List.length_cons] at a2
  have hne : ((l.length : Int) + 1 == 0) = false := beq_eq_false_iff_ne.2 (by omega)
  have hle : (l.length : Int) + 1 ≤ c := by omega
  have hlt : Bt < w.heap.size := blk_lt a1
  have hlg : g < w.heap.size := by
    obtain ⟨cs, t, a3, _⟩ := a3
    exact blk_lt a3
  go_enter Tryd.func23, Tryd.ntmps23
  go_wp2
  · have hl : l = [] := List.eq_nil_of_length_eq_zero (by omega)
    obtain ⟨p1, p2⟩ := next_post (some ⟨g, o, none⟩) 0 a1 a3 a4 hT (by omega) (fun h => absurd hl h) (.cells #[.int .i64 x.f0, .string x.f1] 43) (.cells #[.int .i64 x.f0, .string x.f1] 43)
    exact bodyPost_ret (results_cell_row rfl _ _ w.heap.size 43 #[.int .i64 x.f0, .string x.f1] (0, 0) _ rfl (res_at _ _ _ _ _) Tryd.underlying43 rfl (by kernel_rfl)) rfl ⟨rfl, p1, p2⟩
  · obtain ⟨p1, p2⟩ := next_post (some ⟨g, o + 2, none⟩) (c - 1) a1 a3 a4 hT (by omega) (fun h => rfl) (.cells #[.int .i64 x.f0, .string x.f1] 43) (.cells #[.int .i64 x.f0, .string x.f1] 43)
    exact bodyPost_ret (results_cell_row rfl _ _ w.heap.size 43 #[.int .i64 x.f0, .string x.f1] (0, 0) _ rfl (res_at _ _ _ _ _) Tryd.underlying43 rfl (by kernel_rfl)) rfl ⟨rfl, p1, p2⟩
theorem eof_ne {w : World} {Bt : Nat} {v : Value} {t : TypeId} (hV : Go.Proofs.YtkdkkbadmjpkfaaDoorFmt.VarsOK w) (h : w.heap[Bt]? = some (.cells #[v] t (0, 0))) : 0 ≠ Bt := fun e => by
  have h1 := blk_cell h 1
  rw [← e, hV.e1] at h1
  cases h1
theorem vars_kept {w w' : World} (hV : Go.Proofs.YtkdkkbadmjpkfaaDoorFmt.VarsOK w) (h : w'.heap[0]? = w.heap[0]?) : Go.Proofs.YtkdkkbadmjpkfaaDoorFmt.VarsOK w' :=
  ⟨(World.cell?_of_block (a := ⟨0, 0, none⟩) h).trans hV.e0, (World.cell?_of_block (a := ⟨0, 1, none⟩) h).trans hV.e1⟩
theorem vars_lt {w : World} (hV : Go.Proofs.YtkdkkbadmjpkfaaDoorFmt.VarsOK w) : 0 < w.heap.size := World.block_lt_of_cell? w _ hV.e0
/-- The closure at any rest. -/
theorem next_c (Bt g : Nat) (l : List ZTk_C) (w : World) (hV : Go.Proofs.YtkdkkbadmjpkfaaDoorFmt.VarsOK w) (h : LitAt w Bt g l) :
    Calls Tryd.prog 23 #[.pointer (some ⟨Bt, 0, none⟩)] w fun e w' => e = .returned (ZTk_tokV (ZTk_hd l)) ∧ LitAt w' Bt g l.tail ∧ w.grownBy w' (some Bt) ∧ Go.Proofs.YtkdkkbadmjpkfaaDoorFmt.VarsOK w' := by
  cases l with
  | nil =>
    refine (next_nil Bt g w hV h).mono ?_
    rintro e w' ⟨rfl, hg⟩
    have h1 := hg.block Bt h.lt (by simp)
    obtain ⟨A, c, a1, a2, ⟨cs, t, a3, a6, a7⟩, a4, a5⟩ := h
    exact ⟨rfl, LitAt.same ⟨A, c, a1, a2, ⟨cs, t, a3, a6, a7⟩, a4, a5⟩ h1 (hg.block g (blk_lt a3) (by simp)), World.grownBy.but hg _, vars_kept hV (hg.block _ (vars_lt hV) (by simp))⟩
  | cons x l =>
    refine (next_cons Bt g x l w h).mono ?_
    rintro e w' ⟨rfl, h1, hg⟩
    obtain ⟨A, c, a1, _⟩ := h
    exact ⟨rfl, h1, hg, vars_kept hV (hg.block _ (vars_lt hV) (fun e => eof_ne hV a1 (by injection e)))⟩
set_option maxHeartbeats 4000000 in
theorem nextE (Bt c : Nat) (A : Option Addr) (w : World) (hV : Go.Proofs.YtkdkkbadmjpkfaaDoorFmt.VarsOK w) (a1 : w.heap[Bt]? = some (.cells #[.slice A 0 c] 38 (0, 0))) :
    Calls Tryd.prog 23 #[.pointer (some ⟨Bt, 0, none⟩)] w fun e w' => e = .returned (ZTk_tokV ZTk_eof) ∧ w.grownBy w' none := by
  have hu := Tryd.underlying43
  have c0 : w.cell? ⟨Bt, 0, none⟩ = some (.slice A 0 c) := (blk_cell a1 0).trans rfl
  have e0 := hV.e0
  have e1 := hV.e1
  have hlt : Bt < w.heap.size := blk_lt a1
  have hl0 : 0 < w.heap.size := World.block_lt_of_cell? w _ e0
  clear a1 hV
  go_enter Tryd.func23, Tryd.ntmps23
  go_wp2
  exact bodyPost_ret (results_cell_row rfl _ _ w.heap.size 43 #[.int .i64 0, .string ⟨#[]⟩] (0, 0) _ rfl (by simpa using heap_alloc_new w _) Tryd.underlying43 rfl (by kernel_rfl)) rfl ⟨rfl, World.grownBy_alloc w _ none⟩
/-- A Literator's rest; its blocks lie from b0 on, below b1. -/
def LitC (W : World) (b0 b1 Bt : Nat) (l : List ZTk_C) : Prop :=
  ∃ A c, W.heap[Bt]? = some (.cells #[.slice A l.length c] 38 (0, 0)) ∧ l.length ≤ c ∧ b0 ≤ Bt ∧ Bt < b1 ∧ (l ≠ [] → ∃ g o, A = some ⟨g, o, none⟩ ∧ g < b1 ∧ (∃ cs, W.heap[g]? = some (.cells cs 43 (0, 0))) ∧ ZTk_Toks W g o l)
theorem LitC.same {W W' : World} {b0 b1 Bt : Nat} {l : List ZTk_C} (h : LitC W b0 b1 Bt l) (hk : ∀ k t cs, k < b1 → W.heap[k]? = some (.cells cs t (0, 0)) → k = Bt ∨ t = 43 → W'.heap[k]? = W.heap[k]?) : LitC W' b0 b1 Bt l := by
  obtain ⟨A, c, a1, a2, a3, a4, a5⟩ := h
  refine ⟨A, c, (hk Bt _ _ a4 a1 (.inl rfl)).trans a1, a2, a3, a4, fun hl => ?_⟩
  obtain ⟨g, o, e, hg, ⟨cs, hc⟩, hT⟩ := a5 hl
  have hs := hk g _ _ hg hc (.inr rfl)
  exact ⟨g, o, e, hg, ⟨cs, hs.trans hc⟩, hT.same hs⟩
/-- What a step keeps: all but the blocks from b0 to b1. -/
structure ZTk_Fr (b0 b1 : Nat) (w w' : World) : Prop where
  os : w'.os = w.os
  tape : w'.tape = w.tape
  output : w'.output = w.output
  size : w.heap.size ≤ w'.heap.size
  block : ∀ k, k < w.heap.size → k < b0 ∨ b1 ≤ k → w'.heap[k]? = w.heap[k]?
theorem ZTk_Fr.refl (b0 b1 : Nat) (w : World) : ZTk_Fr b0 b1 w w := ⟨rfl, rfl, rfl, Nat.le_refl _, fun _ _ _ => rfl⟩
theorem ZTk_Fr.trans {b0 b1 : Nat} {a b c : World} (h : ZTk_Fr b0 b1 a b) (k : ZTk_Fr b0 b1 b c) : ZTk_Fr b0 b1 a c :=
  ⟨k.os.trans h.os, k.tape.trans h.tape, k.output.trans h.output, Nat.le_trans h.size k.size, fun i hi hb => (k.block i (Nat.lt_of_lt_of_le hi h.size) hb).trans (h.block i hi hb)⟩
theorem ZTk_Fr.of_grown {b0 b1 B : Nat} {w w' : World} (h : w.grownBy w' (some B)) (h0 : b0 ≤ B) (h1 : B < b1) : ZTk_Fr b0 b1 w w' :=
  ⟨h.os, h.tape, h.output, h.size, fun k hk hb => h.block k hk (fun e => by injection e; omega)⟩
theorem ZTk_Fr.set {b0 b1 B : Nat} (w : World) (j : Nat) (v : Value) (h0 : b0 ≤ B) (h1 : B < b1) : ZTk_Fr b0 b1 w (w.setCell ⟨B, j, none⟩ v) :=
  ⟨rfl, rfl, rfl, by rw [World.size_setCell]; exact Nat.le_refl _, fun k hk hb => Below.heap_setCell w ⟨B, j, none⟩ v k (by show k ≠ B; omega)⟩
theorem ZTk_Fr.alloc {b0 b1 : Nat} (w : World) (o : Obj) : ZTk_Fr b0 b1 w (w.alloc o) :=
  ⟨rfl, rfl, rfl, by simp, fun k hk _ => Below.heap_alloc w o k hk⟩
theorem ZTk_Fr.below {b0 b1 : Nat} {w0 w w' : World} (h : ZTk_Fr b0 b1 w w') (hB : Below b0 w0 w) (hb : b0 ≤ w.heap.size) : Below b0 w0 w' :=
  ⟨h.os.trans hB.os, h.tape.trans hB.tape, h.output.trans hB.output, Nat.le_trans hB.size h.size, fun k hk => (h.block k (by omega) (.inl hk)).trans (hB.block k hk)⟩
theorem lit_next (b0 b1 Bt : Nat) (l : List ZTk_C) (w : World) (hV : Go.Proofs.YtkdkkbadmjpkfaaDoorFmt.VarsOK w) (h : LitC w b0 b1 Bt l) :
    Calls Tryd.prog 23 #[.pointer (some ⟨Bt, 0, none⟩)] w fun e w' => e = .returned (.agg #[.int .i64 (ZTk_hd l).f0, .string (ZTk_hd l).f1]) ∧ LitC w' b0 b1 Bt l.tail ∧ w.grownBy w' (some Bt) := by
  cases l with
  | nil =>
    have h' := h
    obtain ⟨A, c, a1, _⟩ := h'
    refine (nextE Bt c A w hV a1).mono ?_
    rintro e w' ⟨rfl, hg⟩
    exact ⟨rfl, h.same (fun k t cs _ hc _ => hg.block k (blk_lt hc) (by simp)), World.grownBy.but hg _⟩
  | cons x l =>
    obtain ⟨A, c, a1, a2, a3, a4, a5⟩ := h
    obtain ⟨g, o, e, hgb, ⟨cs, hc⟩, hT⟩ := a5 (by simp)
    have hne : g ≠ Bt := blk_ne hc a1 (by decide)
    refine (next_cons Bt g x l w ⟨A, c, a1, a2, ⟨cs, _, hc, by decide, by decide⟩, hne, fun _ => ⟨o, e, hT⟩⟩).mono ?_
    rintro e w' ⟨rfl, ⟨A', c', q1, q2, q3, q4, q5⟩, hg⟩
    refine ⟨rfl, ⟨A', c', q1, q2, a3, a4, fun hl => ?_⟩, hg⟩
    obtain ⟨o', e1, e2⟩ := q5 hl
    exact ⟨g, o', e1, hgb, ⟨cs, (hg.block g (blk_lt hc) (fun e => hne (by injection e))).trans hc⟩, e2⟩
def ZTk_itV (Bt : Nat) : Value := .func (.func 23) #[] #[.pointer (some ⟨Bt, 0, none⟩)]
def ZTk_flt (ps : List (Nat × List ZTk_C)) : List ZTk_C := ps.flatMap (·.2)
/-- A Concaterator's state: what is left of its Literators. -/
structure ConcAt (W : World) (b0 b1 Bc : Nat) (ps : List (Nat × List ZTk_C)) : Prop where
  box : ∃ A c, W.heap[Bc]? = some (.cells #[.slice A ps.length c] 47 (0, 0)) ∧ ps.length ≤ c ∧ (ps ≠ [] → ∃ g o, A = some ⟨g, o, none⟩ ∧ g < b1 ∧ (∃ cs, W.heap[g]? = some (.cells cs 36 (0, 0))) ∧ ∀ i (h : i < ps.length), W.cell? ⟨g, o + i, none⟩ = some (ZTk_itV ps[i].1))
  ge : b0 ≤ Bc
  lt : Bc < b1
  lits : ∀ p ∈ ps, LitC W b0 b1 p.1 p.2
  nd : (ps.map (·.1)).Nodup
theorem ConcAt.same {W W' : World} {b0 b1 Bc : Nat} {ps : List (Nat × List ZTk_C)} (h : ConcAt W b0 b1 Bc ps) (hk : ∀ k o, k < b1 → W.heap[k]? = some o → W'.heap[k]? = W.heap[k]?) : ConcAt W' b0 b1 Bc ps := by
  obtain ⟨⟨A, c, a1, a2, a3⟩, h1, h2, h3, h4⟩ := h
  refine ⟨⟨A, c, (hk _ _ h2 a1).trans a1, a2, fun hp => ?_⟩, h1, h2, fun p hp => (h3 p hp).same (fun k t cs hb hc _ => hk k _ hb hc), h4⟩
  obtain ⟨g, o, e, hg, ⟨cs, hc⟩, hT⟩ := a3 hp
  have hs := hk g _ hg hc
  exact ⟨g, o, e, hg, ⟨cs, hs.trans hc⟩, fun i hi => (World.cell?_of_block (a := ⟨g, _, none⟩) hs).trans (hT i hi)⟩
/-- Behind a call of the first Literator. -/
theorem ConcAt.first {W W' : World} {b0 b1 Bc Bt : Nat} {l l' : List ZTk_C} {ps : List (Nat × List ZTk_C)} (h : ConcAt W b0 b1 Bc ((Bt, l) :: ps)) (hg : W.grownBy W' (some Bt)) (hl : LitC W' b0 b1 Bt l') : ConcAt W' b0 b1 Bc ((Bt, l') :: ps) := by
  obtain ⟨⟨A, c, a1, a2, a3⟩, h1, h2, h3, h4⟩ := h
  obtain ⟨AL, cL, l1, _⟩ := h3 (Bt, l) (List.mem_cons_self ..)
  have q : ∀ {k t : Nat} {cs : Array Value}, W.heap[k]? = some (.cells cs t (0, 0)) → k ≠ Bt → W'.heap[k]? = W.heap[k]? := fun hc hne => hg.block _ (blk_lt hc) (fun e => hne (by injection e))
  refine ⟨⟨A, c, (q a1 (blk_ne a1 l1 (by decide))).trans a1, a2, fun hp => ?_⟩, h1, h2, fun p hp => ?_, h4⟩
  · obtain ⟨g, o, e, hgb, ⟨cs, hc⟩, hT⟩ := a3 (by simp)
    have hs := q hc (blk_ne hc l1 (by decide))
    refine ⟨g, o, e, hgb, ⟨cs, hs.trans hc⟩, fun i hi => (World.cell?_of_block (a := ⟨g, _, none⟩) hs).trans ?_⟩
    rw [hT i hi]
    cases i <;> rfl
  · rcases List.mem_cons.1 hp with rfl | hp
    · exact hl
    · have hne : p.1 ≠ Bt := fun e => by
        simp only [List.map_cons, List.nodup_cons] at h4
        exact h4.1 (e ▸ List.mem_map_of_mem hp)
      refine (h3 p (List.mem_cons_of_mem _ hp)).same (fun k t cs hb hc ht => q hc ?_)
      rcases ht with rfl | rfl
      · exact hne
      · exact blk_ne hc l1 (by decide)
/-- Behind 'iterators = iterators[1:]'. -/
theorem ConcAt.drop {W : World} {b0 b1 Bc : Nat} {p : Nat × List ZTk_C} {ps : List (Nat × List ZTk_C)} (h : ConcAt W b0 b1 Bc (p :: ps)) (A' : Option Addr) (c' : Nat) (hc' : ps.length ≤ c')
    (hA : ∀ A c, W.heap[Bc]? = some (.cells #[.slice A (ps.length + 1) c] 47 (0, 0)) → ps ≠ [] → ∃ g o, A = some ⟨g, o, none⟩ ∧ A' = some ⟨g, o + 1, none⟩) : ConcAt (W.setCell ⟨Bc, 0, none⟩ (.slice A' ps.length c')) b0 b1 Bc ps := by
  obtain ⟨⟨A, c, a1, a2, a3⟩, h1, h2, h3, h4⟩ := h
  have q : ∀ {k t : Nat} {cs : Array Value}, W.heap[k]? = some (.cells cs t (0, 0)) → t ≠ 47 → (W.setCell ⟨Bc, 0, none⟩ (.slice A' ps.length c')).heap[k]? = W.heap[k]? := fun hc ht => Below.heap_setCell W ⟨Bc, 0, none⟩ _ _ (blk_ne hc a1 ht)
  refine ⟨⟨A', c', blk_put a1 0 _ rfl, hc', fun hp => ?_⟩, h1, h2, fun x hx => ?_, (List.nodup_cons.1 h4).2⟩
  · obtain ⟨g, o, e, hgb, ⟨cs, hc⟩, hT⟩ := a3 (by simp)
    obtain ⟨g', o', e1, e2⟩ := hA A c a1 hp
    rw [e] at e1
    injection e1 with e1
    injection e1 with e3 e4
    subst e3 e4
    have hs := q hc (by decide)
    refine ⟨g, o + 1, e2, hgb, ⟨cs, hs.trans hc⟩, fun i hi => (World.cell?_of_block (a := ⟨g, _, none⟩) hs).trans ?_⟩
    have := hT (i + 1) (by simp; omega)
    rw [show o + 1 + i = o + (i + 1) by omega]
    exact this
  · obtain ⟨AL, cL, l1, _⟩ := h3 x (List.mem_cons_of_mem _ hx)
    refine (h3 x (List.mem_cons_of_mem _ hx)).same (fun k t cs hb hc ht => q hc ?_)
    rcases ht with rfl | rfl
    · rw [l1] at hc
      injection hc with hc
      injection hc with _ hc
      rw [← hc]; decide
    · decide
structure ZTk_CL (b0 b1 Bc : Nat) (ps : List (Nat × List ZTk_C)) (w : World) (qs : List (Nat × List ZTk_C)) (wr : World) : Prop where
  hf : ZTk_flt qs = ZTk_flt ps
  hn : qs.length ≤ ps.length
  hc : ConcAt wr b0 b1 Bc qs
  hF : ZTk_Fr b0 b1 w wr
  hr : wr.heap[w.heap.size]? = some (.cells #[.int .i64 0, .string ⟨#[]⟩] 43 (0, 0))
theorem conc_vars {b0 b1 : Nat} {w w' : World} (hV : Go.Proofs.YtkdkkbadmjpkfaaDoorFmt.VarsOK w) (hE : 0 < b0) (h : ZTk_Fr b0 b1 w w') : Go.Proofs.YtkdkkbadmjpkfaaDoorFmt.VarsOK w' := vars_kept hV (h.block _ (vars_lt hV) (.inl hE))
theorem conc_out {b0 b1 : Nat} {w wr : World} (h : ZTk_Fr b0 b1 w wr) (u v : Value) : ZTk_Fr b0 b1 w ((wr.setCell ⟨w.heap.size, 0, none⟩ u).setCell ⟨w.heap.size, 1, none⟩ v) := by
  refine ⟨h.os, h.tape, h.output, by rw [World.size_setCell, World.size_setCell]; exact h.size, fun k hk hb => ?_⟩
  exact ((Below.heap_setCell _ ⟨w.heap.size, 1, none⟩ _ k (by show k ≠ w.heap.size; omega)).trans (Below.heap_setCell _ ⟨w.heap.size, 0, none⟩ _ k (by show k ≠ w.heap.size; omega))).trans (h.block k hk hb)
theorem conc_after {b0 b1 Bc Bt : Nat} {ps rest : List (Nat × List ZTk_C)} {l l' : List ZTk_C} {w wr w1 : World} (hV : Go.Proofs.YtkdkkbadmjpkfaaDoorFmt.VarsOK w) (hE : 0 < b0) (hb : b1 ≤ w.heap.size) (H : ZTk_CL b0 b1 Bc ps w ((Bt, l) :: rest) wr) (hg : wr.grownBy w1 (some Bt)) (hL : LitC w1 b0 b1 Bt l') :
    Go.Proofs.YtkdkkbadmjpkfaaDoorFmt.VarsOK w1 ∧ (∀ v, wr.heap[Bc]? = some (.cells #[v] 47 (0, 0)) → w1.heap[Bc]? = some (.cells #[v] 47 (0, 0))) ∧ w1.heap[w.heap.size]? = some (.cells #[.int .i64 0, .string ⟨#[]⟩] 43 (0, 0)) ∧ ConcAt w1 b0 b1 Bc ((Bt, l') :: rest) ∧ ZTk_Fr b0 b1 w w1 := by
  obtain ⟨A, c, a1, a2, a3, a4, a5⟩ := hL
  obtain ⟨AL, cL, l1, _⟩ := H.hc.lits (Bt, l) (List.mem_cons_self ..)
  have hF := H.hF.trans (ZTk_Fr.of_grown hg a3 a4)
  refine ⟨conc_vars hV hE hF, fun v hv => (hg.block Bc (blk_lt hv) (fun e => ?_)).trans hv, (hg.block _ (blk_lt H.hr) (fun e => ?_)).trans H.hr, H.hc.first hg ⟨A, c, a1, a2, a3, a4, a5⟩, hF⟩
  · injection e with e
    exact blk_ne hv l1 (by decide) e
  · injection e with e
    omega
theorem conc_step {b0 b1 Bc Bt g o c : Nat} {ps rest : List (Nat × List ZTk_C)} {w wr w1 : World} (hb : b1 ≤ w.heap.size) (H : ZTk_CL b0 b1 Bc ps w ((Bt, []) :: rest) wr)
    (hB : w1.heap[Bc]? = some (.cells #[.slice (some ⟨g, o, none⟩) (rest.length + 1) c] 47 (0, 0))) (hR : w1.heap[w.heap.size]? = some (.cells #[.int .i64 0, .string ⟨#[]⟩] 43 (0, 0)))
    (hC : ConcAt w1 b0 b1 Bc ((Bt, []) :: rest)) (hF : ZTk_Fr b0 b1 w w1) (A' : Option Addr) (c' : Nat) (hc' : rest.length ≤ c') (hA : rest ≠ [] → A' = some ⟨g, o + 1, none⟩) (ob : Obj) :
    ZTk_CL b0 b1 Bc ps w rest ((w1.setCell ⟨Bc, 0, none⟩ (.slice A' rest.length c')).alloc ob) := by
  have hsz := hF.size
  have ZTk_hd := hC.drop A' c' hc' (fun A c1 h1 hr => by
    rw [hB] at h1
    injection h1 with h1
    injection h1 with h1 _
    have h2 : Value.slice (some ⟨g, o, none⟩) (rest.length + 1) c = .slice A (rest.length + 1) c1 := by injection h1 with h1; injection h1
    injection h2 with h2
    exact ⟨g, o, h2.symm, hA hr⟩)
  have hlc := hC.lt
  refine ⟨H.hf, by have := H.hn; simp at this; omega, ZTk_hd.same (fun k ob' hk hc => Below.heap_alloc _ _ k (by rw [World.size_setCell]; omega)), (hF.trans (ZTk_Fr.set w1 0 _ hC.ge hC.lt)).trans (ZTk_Fr.alloc _ _), ?_⟩
  exact blk_alloc (blk_far hR (p := ⟨Bc, 0, none⟩) (by show w.heap.size ≠ Bc; omega) _) _
theorem conc_done {b0 b1 Bc Bt : Nat} {ps rest : List (Nat × List ZTk_C)} {x : ZTk_C} {r : List ZTk_C} {w wr w1 : World} (hb : b1 ≤ w.heap.size) (H : ZTk_CL b0 b1 Bc ps w ((Bt, x :: r) :: rest) wr)
    (hR : w1.heap[w.heap.size]? = some (.cells #[.int .i64 0, .string ⟨#[]⟩] 43 (0, 0))) (hC : ConcAt w1 b0 b1 Bc ((Bt, r) :: rest)) (hF : ZTk_Fr b0 b1 w w1) (ob : Obj) :
    (((w1.setCell ⟨w.heap.size, 0, none⟩ (.int .i64 x.f0)).setCell ⟨w.heap.size, 1, none⟩ (.string x.f1)).alloc ob).heap[w.heap.size]? = some (.cells #[.int .i64 x.f0, .string x.f1] 43 (0, 0)) ∧ ZTk_hd (ZTk_flt ps) = x ∧
      ∃ qs, ZTk_flt qs = (ZTk_flt ps).tail ∧ ConcAt (((w1.setCell ⟨w.heap.size, 0, none⟩ (.int .i64 x.f0)).setCell ⟨w.heap.size, 1, none⟩ (.string x.f1)).alloc ob) b0 b1 Bc qs ∧ ZTk_Fr b0 b1 w (((w1.setCell ⟨w.heap.size, 0, none⟩ (.int .i64 x.f0)).setCell ⟨w.heap.size, 1, none⟩ (.string x.f1)).alloc ob) := by
  have hsz := hF.size
  have hlr := blk_lt hR
  have hfl : ZTk_flt ps = x :: (r ++ ZTk_flt rest) := by rw [← H.hf]; simp [ZTk_flt]
  refine ⟨blk_alloc (blk_put (blk_put hR 0 _ rfl) 1 _ rfl) _, by rw [hfl]; rfl, (Bt, r) :: rest, by rw [hfl]; simp [ZTk_flt], hC.same (fun k ob' hk hc => ?_), (conc_out hF _ _).trans (ZTk_Fr.alloc _ _)⟩
  refine (Below.heap_alloc _ _ k (by rw [World.size_setCell, World.size_setCell]; omega)).trans ?_
  exact (Below.heap_setCell _ ⟨w.heap.size, 1, none⟩ _ k (by show k ≠ w.heap.size; omega)).trans (Below.heap_setCell _ ⟨w.heap.size, 0, none⟩ _ k (by show k ≠ w.heap.size; omega))
set_option maxRecDepth 100000 in
set_option maxHeartbeats 8000000 in
theorem conc_c (b0 b1 Bc : Nat) (ps : List (Nat × List ZTk_C)) (w : World) (hV : Go.Proofs.YtkdkkbadmjpkfaaDoorFmt.VarsOK w) (hE : 0 < b0) (h : ConcAt w b0 b1 Bc ps) (hb : b1 ≤ w.heap.size) (hz : ∀ x ∈ ZTk_flt ps, x.f0 ≠ 0) :
    Calls Tryd.prog 26 #[.pointer (some ⟨Bc, 0, none⟩)] w fun e w' => e = .returned (.agg #[.int .i64 (ZTk_hd (ZTk_flt ps)).f0, .string (ZTk_hd (ZTk_flt ps)).f1]) ∧
      ∃ qs, ZTk_flt qs = (ZTk_flt ps).tail ∧ ConcAt w' b0 b1 Bc qs ∧ ZTk_Fr b0 b1 w w' := by
  have hu := Tryd.underlying43
  have HC := Aside0.mk h
  clear h
  go_enter Tryd.func26, Tryd.ntmps26
  go_wp2
  go_loopg [2] (ps.length + 1) (fun kq v2 wr => ∃ (qs : List (Nat × List ZTk_C)), Aside0 (qs.length < kq) ∧ Aside0 (ZTk_CL b0 b1 Bc ps w qs wr))
  case atStart =>
    refine ⟨ps, ⟨Nat.lt_succ_self _⟩, ⟨rfl, Nat.le_refl _, HC.out.same (fun k o hk hc => Below.heap_alloc _ _ _ (by omega)), ZTk_Fr.alloc _ _, blk_new _ _⟩⟩
  case round =>
    obtain ⟨qs, HK, HH⟩ := hrel
    clear HC
    cases gk with
    | zero => have := HK.out; omega
    | succ k1 =>
      have H := HH.out
      have V := conc_vars hV hE H.hF
      have hsz := H.hF.size
      have v0 := V.e0
      have v1 := V.e1
      have lv := vars_lt V
      have r0 : wr.cell? ⟨w.heap.size, 0, none⟩ = some (.int .i64 0) := (blk_cell H.hr 0).trans rfl
      have r1 : wr.cell? ⟨w.heap.size, 1, none⟩ = some (.string ⟨#[]⟩) := (blk_cell H.hr 1).trans rfl
      have rf0 := blk_frozen H.hr 0
      have rf1 := blk_frozen H.hr 1
      have lr := blk_lt H.hr
      obtain ⟨A, c, a1, a2, a3⟩ := H.hc.box
      have lc := blk_lt a1
      have cf := blk_frozen a1 0
      cases qs with
      | nil =>
        have c0 : wr.cell? ⟨Bc, 0, none⟩ = some (.slice A 0 c) := (blk_cell a1 0).trans rfl
        clear H V a1 a2 a3
        go_wp2
        have H := HH.out
        have hfl : ZTk_flt ps = [] := H.hf.symm
        have hsame : ∀ k o, k < b1 → wr.heap[k]? = some o → ((wr.setCell ⟨w.heap.size, 0, none⟩ (.int .i64 0)).setCell ⟨w.heap.size, 1, none⟩ (.string ⟨#[]⟩)).heap[k]? = wr.heap[k]? := fun k o hk _ =>
          (Below.heap_setCell _ ⟨w.heap.size, 1, none⟩ _ k (by show k ≠ w.heap.size; omega)).trans (Below.heap_setCell _ ⟨w.heap.size, 0, none⟩ _ k (by show k ≠ w.heap.size; omega))
        refine bodyPost_ret (results_cell_row rfl _ _ w.heap.size 43 #[.int .i64 0, .string ⟨#[]⟩] (0, 0) _ rfl (blk_put (blk_put H.hr 0 _ rfl) 1 _ rfl) Tryd.underlying43 rfl (by kernel_rfl)) rfl ⟨by rw [hfl]; rfl, [], by rw [hfl]; rfl, H.hc.same hsame, ?_⟩
        exact conc_out H.hF (.int .i64 0) (.string ⟨#[]⟩)
      | cons p rest =>
        obtain ⟨Bt, l⟩ := p
        have c0 : wr.cell? ⟨Bc, 0, none⟩ = some (.slice A (rest.length + 1) c) := (blk_cell a1 0).trans rfl
        obtain ⟨g, o, rfl, hgb, ⟨cs, hcs⟩, hT⟩ := a3 (by simp)
        have g0 : wr.cell? ⟨g, o, none⟩ = some (.func (.func 23) #[] #[.pointer (some ⟨Bt, 0, none⟩)]) := hT 0 (by simp)
        have lg := blk_lt hcs
        have hL := H.hc.lits (Bt, l) (List.mem_cons_self ..)
        have kn0 := lit_next b0 b1 Bt l wr V hL
        have hle : (rest.length : Int) + 1 ≤ c := by simp at a2; omega
        have hne : decide ((0 : Int) < (rest.length : Int) + 1) = true := decide_eq_true (by omega)
        have a1' := Aside0.mk a1
        cases l with
        | nil =>
          have kn : Aside0 (Calls Tryd.prog 23 #[.pointer (some ⟨Bt, 0, none⟩)] wr fun e w' => e = .returned (.agg #[.int .i64 0, .string ⟨#[]⟩]) ∧ LitC w' b0 b1 Bt ([] : List ZTk_C) ∧ wr.grownBy w' (some Bt)) := ⟨kn0⟩
          clear kn0
          clear H V a1 a2 a3 hT hcs hL
          go_wp2_with (first | (go_at_call 23; refine kn.out.mono ?_; rintro e w1 ⟨rfl, hL1, hg1⟩; have hA := Aside0.mk (conc_after hV hE hb HH.out hg1 hL1); have V1 := hA.out.1; have w0 := V1.e0; have w1' := V1.e1; have lv1 := vars_lt V1; have b1c := hA.out.2.1 _ a1'.out; have c1 : w1.cell? ⟨Bc, 0, none⟩ = some (.slice (some ⟨g, o, none⟩) (rest.length + 1) c) := (blk_cell b1c 0).trans rfl; have cf1 := blk_frozen b1c 0; have lc1 := blk_lt b1c; have hr1 := hA.out.2.2.1; have r10 : w1.cell? ⟨w.heap.size, 0, none⟩ = some (.int .i64 0) := (blk_cell hr1 0).trans rfl; have r11 : w1.cell? ⟨w.heap.size, 1, none⟩ = some (.string ⟨#[]⟩) := (blk_cell hr1 1).trans rfl; have rg0 := blk_frozen hr1 0; have rg1 := blk_frozen hr1 1; have lr1 := blk_lt hr1; have hB1 := Aside0.mk b1c; have hR1 := Aside0.mk hr1; clear V1 b1c hr1 hL1 hg1))
          · go_roundg k1
            case measure => omega
            case rel =>
              have hr0 : rest = [] := List.eq_nil_of_length_eq_zero (by omega)
              exact ⟨rest, ⟨by have := HK.out; simp at this; omega⟩, ⟨conc_step hb HH.out hB1.out hR1.out hA.out.2.2.2.1 hA.out.2.2.2.2 _ 0 (by omega) (fun h => absurd hr0 h) _⟩⟩
          · go_roundg k1
            case measure => omega
            case rel =>
              exact ⟨rest, ⟨by have := HK.out; simp at this; omega⟩, ⟨conc_step hb HH.out hB1.out hR1.out hA.out.2.2.2.1 hA.out.2.2.2.2 _ (c - 1) (by omega) (fun h => rfl) _⟩⟩
        | cons x r =>
          have kn : Aside0 (Calls Tryd.prog 23 #[.pointer (some ⟨Bt, 0, none⟩)] wr fun e w' => e = .returned (.agg #[.int .i64 x.f0, .string x.f1]) ∧ LitC w' b0 b1 Bt r ∧ wr.grownBy w' (some Bt)) := ⟨kn0⟩
          have hxz : x.f0 ≠ 0 := hz x (by rw [← H.hf]; simp [ZTk_flt])
          have hxb : (x.f0 == 0) = false := beq_eq_false_iff_ne.2 hxz
          clear kn0
          clear H V a1 a2 a3 hT hcs hL
          go_wp2_with (first | (go_at_call 23; refine kn.out.mono ?_; rintro e w1 ⟨rfl, hL1, hg1⟩; have hA := Aside0.mk (conc_after hV hE hb HH.out hg1 hL1); have V1 := hA.out.1; have w0 := V1.e0; have w1' := V1.e1; have lv1 := vars_lt V1; have b1c := hA.out.2.1 _ a1'.out; have c1 : w1.cell? ⟨Bc, 0, none⟩ = some (.slice (some ⟨g, o, none⟩) (rest.length + 1) c) := (blk_cell b1c 0).trans rfl; have cf1 := blk_frozen b1c 0; have lc1 := blk_lt b1c; have hr1 := hA.out.2.2.1; have r10 : w1.cell? ⟨w.heap.size, 0, none⟩ = some (.int .i64 0) := (blk_cell hr1 0).trans rfl; have r11 : w1.cell? ⟨w.heap.size, 1, none⟩ = some (.string ⟨#[]⟩) := (blk_cell hr1 1).trans rfl; have rg0 := blk_frozen hr1 0; have rg1 := blk_frozen hr1 1; have lr1 := blk_lt hr1; have hB1 := Aside0.mk b1c; have hR1 := Aside0.mk hr1; clear V1 b1c hr1 hL1 hg1))
          obtain ⟨p1, p2, p3⟩ := conc_done hb HH.out hR1.out hA.out.2.2.2.1 hA.out.2.2.2.2 (.cells #[.int .i64 x.f0, .string x.f1] 43)
          exact bodyPost_ret (results_cell_row rfl _ _ w.heap.size 43 #[.int .i64 x.f0, .string x.f1] (0, 0) _ rfl p1 Tryd.underlying43 rfl (by kernel_rfl)) rfl ⟨by rw [p2], p3⟩
abbrev ZTk_kC : Kd ZTk_C := k43
abbrev ZTk_RC (w : World) (base : Nat) (v : Value) (xs : List ZTk_C) : Prop := Kd.R ZTk_kC 43 w base (fun _ => True) v xs
structure ZTk_TL (b0 b1 Bc : Nat) (ps : List (Nat × List ZTk_C)) (w : World) (v : Value) (Bx : Nat) (dn rest : List ZTk_C) (qs : List (Nat × List ZTk_C)) (wr : World) : Prop where
  hf : ZTk_flt ps = dn ++ rest
  hq : ZTk_flt qs = rest.tail
  hx : wr.heap[Bx]? = some (.cells #[.int .i64 (ZTk_hd rest).f0, .string (ZTk_hd rest).f1] 43 (0, 0))
  hxo : some Bx ≠ v.ownBlock
  hc : ConcAt wr b0 b1 Bc qs
  hF : ZTk_Fr b0 b1 w wr
  hR : ZTk_RC wr w.heap.size v dn
theorem rc_keep {b0 b1 base : Nat} {w w' : World} {v : Value} {xs : List ZTk_C} (h : ZTk_RC w base v xs) (hb : b1 ≤ base) (hF : ZTk_Fr b0 b1 w w') : ZTk_RC w' base v xs :=
  Kd.R_mono (Kd.R_step (Kd.R_bound h) (fun k hk hlt => hF.block k hlt (.inr (Nat.le_trans hb hk.2.1)))) (fun _ _ => trivial)
theorem tl_append {b0 b1 Bc Bx : Nat} {ps qs : List (Nat × List ZTk_C)} {w wr w8 : World} {v v1 : Value} {dn : List ZTk_C} {x : ZTk_C} {r : List ZTk_C} (hb0 : b0 ≤ b1) (hb : b1 ≤ w.heap.size) (H : ZTk_TL b0 b1 Bc ps w v Bx dn (x :: r) qs wr) (hg : wr.grownBy w8 v.ownBlock) (ho : ZTk_RC w8 w.heap.size v1 (dn ++ [x])) :
    w8.heap[Bx]? = some (.cells #[.int .i64 x.f0, .string x.f1] 43 (0, 0)) ∧ ConcAt w8 b0 b1 Bc qs ∧ ZTk_Fr b0 b1 w w8 := by
  have hsz := H.hF.size
  refine ⟨blk_grown H.hx hg H.hxo, H.hc.same (fun k o hk hc => hg.block k (by omega) (fun e => ?_)), ⟨hg.os.trans H.hF.os, hg.tape.trans H.hF.tape, hg.output.trans H.hF.output, Nat.le_trans hsz hg.size, fun k hk hkb => (hg.block k (by omega) (fun e => ?_)).trans (H.hF.block k hk hkb)⟩⟩
  · have := Kd.R_base H.hR k e.symm
    omega
  · have := Kd.R_base H.hR k e.symm
    omega
theorem tl_box {b0 b1 : Nat} {w w8 w9 : World} (hb : b1 ≤ w.heap.size) (hF : ZTk_Fr b0 b1 w w8) (o' : Obj) (h9 : ZTk_Fr b0 b1 (w8.alloc o') w9) : w9.heap[w8.heap.size]? = some o' :=
  (h9.block _ (by simp) (.inr (Nat.le_trans hb hF.size))).trans (blk_new w8 o')
theorem tl_next {b0 b1 Bc Bx : Nat} {ps qs qn : List (Nat × List ZTk_C)} {w wr w8 w9 : World} {v v1 : Value} {dn : List ZTk_C} {x : ZTk_C} {r : List ZTk_C} (hb : b1 ≤ w.heap.size) (H : ZTk_TL b0 b1 Bc ps w v Bx dn (x :: r) qs wr) (hF8 : ZTk_Fr b0 b1 w w8) (ho : ZTk_RC w8 w.heap.size v1 (dn ++ [x]))
    (b9 : w9.heap[w8.heap.size]? = some (.cells #[.int .i64 x.f0, .string x.f1] 43 (0, 0))) (hqn : ZTk_flt qn = (ZTk_flt qs).tail) (hC9 : ConcAt w9 b0 b1 Bc qn) (hF9 : ZTk_Fr b0 b1 (w8.alloc (.cells #[.int .i64 x.f0, .string x.f1] 43)) w9) :
    ZTk_TL b0 b1 Bc ps w v1 w8.heap.size (dn ++ [x]) r qn ((w9.setCell ⟨w8.heap.size, 0, none⟩ (.int .i64 (ZTk_hd (ZTk_flt qs)).f0)).setCell ⟨w8.heap.size, 1, none⟩ (.string (ZTk_hd (ZTk_flt qs)).f1)) := by
  have h8 := hF8.size
  have h9 := hF9.size
  rw [World.size_alloc] at h9
  have hq : ZTk_flt qs = r := H.hq
  have far : ∀ k, k ≠ w8.heap.size → ((w9.setCell ⟨w8.heap.size, 0, none⟩ (.int .i64 (ZTk_hd (ZTk_flt qs)).f0)).setCell ⟨w8.heap.size, 1, none⟩ (.string (ZTk_hd (ZTk_flt qs)).f1)).heap[k]? = w9.heap[k]? := fun k hk =>
    (Below.heap_setCell _ ⟨w8.heap.size, 1, none⟩ _ k hk).trans (Below.heap_setCell _ ⟨w8.heap.size, 0, none⟩ _ k hk)
  have hF := (hF8.trans (ZTk_Fr.alloc _ _)).trans hF9
  refine ⟨by rw [H.hf]; simp, by rw [hqn, hq], ?_, fun e => ?_, hC9.same (fun k o hk hc => far k (by omega)), ⟨hF.os, hF.tape, hF.output, by rw [World.size_setCell, World.size_setCell]; exact hF.size, fun k hk hkb => (far k (by omega)).trans (hF.block k hk hkb)⟩, ?_⟩
  · rw [hq]
    exact blk_put (blk_put b9 0 _ rfl) 1 _ rfl
  · have := Kd.R_lt ho _ e.symm
    omega
  · exact Kd.R_mono (Kd.R_step (Kd.R_bound ho) (fun k hk hlt => ((far k (by omega)).trans (hF9.block k (by simp; omega) (.inr (Nat.le_trans hb hk.2.1)))).trans (Below.heap_alloc _ _ k hlt))) (fun _ _ => trivial)
set_option maxRecDepth 100000 in
set_option maxHeartbeats 8000000 in
theorem tokens_c (b0 b1 Bc : Nat) (ps : List (Nat × List ZTk_C)) (w : World) (hV : Go.Proofs.YtkdkkbadmjpkfaaDoorFmt.VarsOK w) (hE : 0 < b0) (h : ConcAt w b0 b1 Bc ps) (hb0 : b0 ≤ b1) (hb : b1 ≤ w.heap.size) (hz : ∀ x ∈ ZTk_flt ps, x.f0 ≠ 0) (hl : (ZTk_flt ps).length ≤ 100000) :
    Calls Tryd.prog 22 #[.func (.func 26) #[] #[.pointer (some ⟨Bc, 0, none⟩)]] w fun e w' => ∃ v : Value, e = .returned v ∧ ZTk_RC w' w.heap.size v (ZTk_flt ps) ∧ ZTk_Fr b0 b1 w w' := by
  have hu := Tryd.underlying43
  have kn := Aside0.mk (conc_c b0 b1 Bc ps w hV hE h hb hz)
  go_enter Tryd.func22, Tryd.ntmps22
  go_wp2_with (first | (go_at_call 26; refine kn.out.mono ?_; rintro e w1 ⟨rfl, qs, hq, hC1, hF1⟩))
  go_loopg [3, 4] ((ZTk_flt ps).length + 1) (fun kq v3 v4 wr => ∃ (Bx : Nat) (dn rest : List ZTk_C) (qs : List (Nat × List ZTk_C)), v4 = .pointer (some ⟨Bx, 0, none⟩) ∧ Aside0 (rest.length < kq) ∧ Aside0 (ZTk_TL b0 b1 Bc ps w v3 Bx dn rest qs wr))
  case atStart =>
    have hs1 := hF1.size
    refine ⟨w1.heap.size, [], ZTk_flt ps, qs, rfl, ⟨Nat.lt_succ_self _⟩, ⟨⟨rfl, hq, blk_new _ _, by simp [Value.ownBlock], hC1.same (fun k o hk hc => Below.heap_alloc _ _ _ (by omega)), hF1.trans (ZTk_Fr.alloc _ _), Kd.R_nil _ _ _ _ _⟩⟩⟩
  case round =>
    obtain ⟨Bx, dn, rest, qs', rfl, HK, HH⟩ := hrel
    clear kn hC1 hF1 hq h
    cases gk with
    | zero => have := HK.out; omega
    | succ k1 =>
      have H := HH.out
      have V := conc_vars hV hE H.hF
      have v0 := V.e0
      have v1 := V.e1
      have lv := vars_lt V
      have lx := blk_lt H.hx
      cases rest with
      | nil =>
        have x0 : wr.cell? ⟨Bx, 0, none⟩ = some (.int .i64 0) := (blk_cell H.hx 0).trans rfl
        have x1 : wr.cell? ⟨Bx, 1, none⟩ = some (.string ⟨#[]⟩) := (blk_cell H.hx 1).trans rfl
        clear H V
        go_wp2
        go_ret
        have H := HH.out
        exact ⟨_, rfl, by rw [H.hf, List.append_nil]; exact H.hR, H.hF⟩
      | cons x r =>
        have x0 : wr.cell? ⟨Bx, 0, none⟩ = some (.int .i64 x.f0) := (blk_cell H.hx 0).trans rfl
        have x1 : wr.cell? ⟨Bx, 1, none⟩ = some (.string x.f1) := (blk_cell H.hx 1).trans rfl
        have hxz : x.f0 ≠ 0 := hz x (by rw [H.hf]; simp)
        have hxb : (x.f0 == 0) = false := beq_eq_false_iff_ne.2 hxz
        have hL : Aside0 (dn.length < 1000000) := ⟨by have := congrArg List.length H.hf; simp at this; omega⟩
        have hbs : Aside0 (w.heap.size ≤ wr.heap.size) := ⟨H.hF.size⟩
        have hzq : Aside0 (∀ y ∈ ZTk_flt qs', y.f0 ≠ 0) := ⟨fun y hy => hz y (by rw [H.hq] at hy; rw [H.hf]; simp at hy ⊢; exact .inr (.inr hy))⟩
        clear H V
        go_wp2_with (first | ((with_reducible refine gate_builtin (b := .append) (xs := #[.tmp 12, .tmp 14]) rfl ?_); at_builtin; refine Kd.R_append ZTk_kC (w0 := wr) w.heap.size rfl (.tmp 12) (.tmp 14) 38 43 (.agg #[(.int .i64 0), (.string ⟨#[]⟩)]) 24 rfl Tryd.underlying38 info43 rfl (by decide) (by omega) u3 dn x [.int .i64 x.f0, .string x.f1] (fun _ => True) (fun _ => False) rfl (by first | (go_simp; done) | (go_simp; rfl)) ?aP (fun _ hk => hk.elim) ?aF ?aO ?aB ?aS ?aL ?_; (case aP => exact k43_mkM _ _ _ x); (case aB => exact Below.refl _ _); (case aF => exact (fun _ _ => trivial)); (case aO => exact HH.out.hR); (case aS => exact hbs.out); (case aL => have := hL.out; omega); intro v1 w8 ho hb8 hg hat; have hP := Aside0.mk (tl_append hb0 hb HH.out hg ho); have hO := Aside0.mk ho; have hx8 := hP.out.1; have y0 : w8.cell? ⟨Bx, 0, none⟩ = some (.int .i64 x.f0) := (blk_cell hx8 0).trans rfl; have y1 : w8.cell? ⟨Bx, 1, none⟩ = some (.string x.f1) := (blk_cell hx8 1).trans rfl; have lx8 := blk_lt hx8; clear hx8 ho hb8 hg hat) | (go_at_call 26; refine (conc_c b0 b1 Bc qs' _ (conc_vars hV hE (hP.out.2.2.trans (ZTk_Fr.alloc _ _))) hE (hP.out.2.1.same (fun k o hk hc => Below.heap_alloc _ _ _ (by have := hP.out.2.2.size; omega))) (by have := hP.out.2.2.size; simp; omega) hzq.out).mono ?_; rintro e w9 ⟨rfl, qn, hqn, hC9, hF9⟩; have b9 := tl_box hb hP.out.2.2 (.cells #[.int .i64 x.f0, .string x.f1] 43) hF9; have z0 : w9.cell? ⟨w8.heap.size, 0, none⟩ = some (.int .i64 x.f0) := (blk_cell b9 0).trans rfl; have z1 : w9.cell? ⟨w8.heap.size, 1, none⟩ = some (.string x.f1) := (blk_cell b9 1).trans rfl; have zf0 := blk_frozen b9 0; have zf1 := blk_frozen b9 1; have Q1 := Aside0.mk b9; have Q2 := Aside0.mk hqn; have Q3 := Aside0.mk hC9; have Q4 := Aside0.mk hF9; clear b9 hqn hC9 hF9))
        go_roundg k1
        case measure => omega
        case rel => exact ⟨w8.heap.size, dn ++ [x], r, qn, rfl, ⟨by have := HK.out; simp at this; omega⟩, ⟨tl_next hb HH.out hP.out.2.2 hO.out Q1.out Q2.out Q3.out Q4.out⟩⟩
abbrev ZTk_T := S32
abbrev ZTk_kT : Kd ZTk_T := k32
abbrev toCC (x : ZTk_T) : ZTk_C := ⟨x.f0, x.f1⟩
abbrev toTT (x : ZTk_C) : ZTk_T := ⟨x.f0, x.f1⟩
open Go.Proofs.YtkdkkbadmjpkfaaDoorEvt (Evt Evt.step Evt.pure Evt.congr wrap_nat) in
theorem inner_loop (xs : List ZTk_T) (hn : xs.length ≤ 2147483647) : ∀ (d i : Nat) (acc : List ZTk_C), xs.length = i + d → acc.length ≤ i →
    Evt (fun k => impl_inner.l0 k acc xs (xs.length : Int) (i : Int)) (acc ++ (xs.drop i).map toCC) := by
  have rdT : ∀ (i : Nat) (h : i < xs.length), rd_T32 xs (i : Int) = xs[i] := fun i h => by simp [rd_T32, List.getD_eq_getElem?_getD, h]
  intro d
  induction d with
  | zero =>
    intro i acc hi hacc
    refine Evt.step (h := fun _ => some _) (fun k => ?_) (Evt.pure _)
    simp only [impl_inner.l0]; rw [if_neg (by omega), List.drop_eq_nil_of_le (by omega)]; simp
  | succ d ih =>
    intro i acc hi hacc
    have hlt : i < xs.length := by omega
    have h1 := ih (i + 1) (acc ++ [⟨xs[i].f0, xs[i].f1⟩]) (by omega) (by simp; omega)
    rw [List.drop_eq_getElem_cons hlt, List.map_cons, ← List.singleton_append, ← List.append_assoc]
    refine Evt.step (fun k => ?_) h1
    simp only [impl_inner.l0]; rw [if_pos (by omega), if_pos (by omega), if_pos (by omega), rdT _ hlt, if_pos (by omega), wrap_nat (by omega)]
theorem inner_some (xs : List ZTk_T) (hn : xs.length ≤ 2147483647) : ∃ k, impl_inner.f k xs = some (xs.map toCC) := by
  obtain ⟨N, h⟩ := inner_loop xs hn xs.length 0 [] (by omega) (by simp)
  refine ⟨N, ?_⟩
  have := h N (Nat.le_refl _)
  simpa [impl_inner.f] using this
open Go.Proofs.YtkdkkbadmjpkfaaDoorEvt (Evt Evt.step Evt.pure Evt.congr wrap_nat) in
theorem outer_loop (xs : List ZTk_C) (hn : xs.length ≤ 2147483647) : ∀ (d i : Nat) (acc : List ZTk_T), xs.length = i + d → acc.length ≤ i →
    Evt (fun k => impl_outer.l0 k acc xs (xs.length : Int) (i : Int)) (acc ++ (xs.drop i).map toTT) := by
  have rdC : ∀ (i : Nat) (h : i < xs.length), rd_T43 xs (i : Int) = xs[i] := fun i h => by simp [rd_T43, List.getD_eq_getElem?_getD, h]
  intro d
  induction d with
  | zero =>
    intro i acc hi hacc
    refine Evt.step (h := fun _ => some _) (fun k => ?_) (Evt.pure _)
    simp only [impl_outer.l0]; rw [if_neg (by omega), List.drop_eq_nil_of_le (by omega)]; simp
  | succ d ih =>
    intro i acc hi hacc
    have hlt : i < xs.length := by omega
    have h1 := ih (i + 1) (acc ++ [⟨xs[i].f0, xs[i].f1⟩]) (by omega) (by simp; omega)
    rw [List.drop_eq_getElem_cons hlt, List.map_cons, ← List.singleton_append, ← List.append_assoc]
    refine Evt.step (fun k => ?_) h1
    simp only [impl_outer.l0]; rw [if_pos (by omega), if_pos (by omega), if_pos (by omega), rdC _ hlt, if_pos (by omega), wrap_nat (by omega)]
theorem outer_some (xs : List ZTk_C) (hn : xs.length ≤ 2147483647) : ∃ k, impl_outer.f k xs = some (xs.map toTT) := by
  obtain ⟨N, h⟩ := outer_loop xs hn xs.length 0 [] (by omega) (by simp)
  refine ⟨N, ?_⟩
  have := h N (Nat.le_refl _)
  simpa [impl_outer.f] using this
set_option maxHeartbeats 4000000 in
theorem litm_c (A0 : Option Addr) (n c : Nat) (w : World) : Calls Tryd.prog 14 #[.slice A0 n c] w fun e w' => e = .returned (.func (.func 23) #[] #[.pointer (some ⟨w.heap.size, 0, none⟩)]) ∧ w' = w.alloc (.cells #[.slice A0 n c] 38) := by
  have hmf : ∀ (fn : Fn) (first cap : Array Value) (w : World), (Instr.makeFunc fn first cap).run Tryd.prog w = .ok (.func fn first cap) w := fun _ _ _ _ => rfl
  go_enter Tryd.func14, Tryd.ntmps14
  go_wp2
  go_ret
  exact ⟨rfl, rfl⟩
set_option maxHeartbeats 4000000 in
theorem concm_c (A0 : Option Addr) (n c : Nat) (w : World) : Calls Tryd.prog 21 #[.slice A0 n c] w fun e w' => e = .returned (.func (.func 26) #[] #[.pointer (some ⟨w.heap.size, 0, none⟩)]) ∧ w' = w.alloc (.cells #[.slice A0 n c] 47) := by
  have hmf : ∀ (fn : Fn) (first cap : Array Value) (w : World), (Instr.makeFunc fn first cap).run Tryd.prog w = .ok (.func fn first cap) w := fun _ _ _ _ => rfl
  go_enter Tryd.func21, Tryd.ntmps21
  go_wp2
  go_ret
  exact ⟨rfl, rfl⟩
theorem infoI : (Tryd.prog.info? 36).map (fun i => (i.zero, i.size, i.bytes)) = some (some .nilFunc, 1, 8) := by kernel_rfl
def ZTk_kI : Kd Nat := Kd.scalar ZTk_itV (fun _ => rfl)
abbrev ZTk_RI (w : World) (base : Nat) (v : Value) (bs : List Nat) : Prop := Kd.R ZTk_kI 36 w base (fun _ => True) v bs
theorem LitC.mono {W : World} {b0 b1 b1' Bt : Nat} {l : List ZTk_C} (h : LitC W b0 b1 Bt l) (hb : b1 ≤ b1') : LitC W b0 b1' Bt l := by
  obtain ⟨A, c, a1, a2, a3, a4, a5⟩ := h
  exact ⟨A, c, a1, a2, a3, by omega, fun hl => by obtain ⟨g, o, e, hg, r⟩ := a5 hl; exact ⟨g, o, e, by omega, r⟩⟩
/-- What inner hands back is a slice for a Literator. -/
theorem litc_of {w : World} {base b0 : Nat} {v : Value} {l : List ZTk_C} (h : ZTk_RC w base v l) (hb : b0 ≤ w.heap.size) :
    ∃ A c, v = .slice A l.length c ∧ LitC (w.alloc (.cells #[v] 38)) b0 (w.heap.size + 1) w.heap.size l := by
  obtain ⟨A, c, rfl⟩ := Kd.R_slice h
  obtain ⟨_, hc, hC⟩ := Kd.R_reads' h
  refine ⟨A, c, rfl, A, c, blk_new _ _, hc, hb, Nat.lt_succ_self _, fun hne => ?_⟩
  have hpos : 0 < l.length := List.length_pos_iff.2 hne
  obtain ⟨g, cap, e, hbg, hlt, cs, hcs⟩ := Kd.R_form h hpos
  injection e with e _ _
  subst e
  refine ⟨g, 0, rfl, by omega, ⟨cs, blk_alloc hcs _⟩, fun i hi => ?_⟩
  obtain ⟨ad, e1, h0, h1⟩ := at_T43 hC (i : Int) (by omega) (by omega)
  injection e1 with e1
  subst e1
  have rdC : rd_T43 l (i : Int) = l[i] := by simp [rd_T43, List.getD_eq_getElem?_getD, hi]
  rw [rdC] at h0 h1
  have q : ∀ a : Addr, a.block = g → (w.alloc (.cells #[.slice (some ⟨g, 0, none⟩) l.length c] 38)).cell? a = w.cell? a := fun a ha => World.cell?_of_block (Below.heap_alloc _ _ _ (by omega))
  rw [q _ rfl, q _ rfl]
  have eA : (⟨g, 0, none⟩ : Addr).add ((i : Int).toNat * 2) = ⟨g, 0 + 2 * i, none⟩ := by
    rw [Int.toNat_natCast, Nat.mul_comm, Addr.add_lit]
  rw [eA] at h0 h1
  exact ⟨h0, h1⟩
structure ZTk_BL (l : List (List ZTk_T)) (w : World) (v : Value) (j : Nat) (bs : List Nat) (wr : World) : Prop where
  len : bs.length = j
  hR : ZTk_RI wr w.heap.size v bs
  hB : Below w.heap.size w wr
  hL : ∀ i (h : i < bs.length) (h' : i < l.length), LitC wr w.heap.size wr.heap.size bs[i] (l[i].map toCC)
  nd : bs.Nodup
theorem bl_step {l : List (List ZTk_T)} {w wr w2 w8 : World} {v vi v1 : Value} {j : Nat} {bs : List Nat} (hj : j < l.length) (H : ZTk_BL l w v j bs wr) (hR2 : ZTk_RC w2 wr.heap.size vi (l[j].map toCC)) (hB2 : Below wr.heap.size wr w2)
    (hg : (w2.alloc (.cells #[vi] 38)).grownBy w8 v.ownBlock) (ho : ZTk_RI w8 w.heap.size v1 (bs ++ [w2.heap.size])) : ZTk_BL l w v1 (j + 1) (bs ++ [w2.heap.size]) w8 := by
  have s0 := H.hB.size
  have s2 := hB2.size
  have s8 := hg.size
  rw [World.size_alloc] at s8
  obtain ⟨A, c, rfl, hN⟩ := litc_of hR2 (b0 := w.heap.size) (by omega)
  have hne : ∀ (k t : Nat) (cs : Array Value), (w2.alloc (Obj.cells #[.slice A (l[j].map toCC).length c] 38)).heap[k]? = some (Obj.cells cs t (0, 0)) → 36 ≠ t → w8.heap[k]? = (w2.alloc (Obj.cells #[.slice A (l[j].map toCC).length c] 38)).heap[k]? := fun k t cs hc ht =>
    hg.block k (blk_lt hc) (fun e => by
      obtain ⟨cs', hcs'⟩ := Kd.R_typed H.hR k e.symm
      have hk : k < wr.heap.size := blk_lt hcs'
      have h2 : (w2.alloc (Obj.cells #[.slice A (l[j].map toCC).length c] 38)).heap[k]? = some (Obj.cells cs' 36 (0, 0)) := blk_alloc ((hB2.block k hk).trans hcs') _
      rw [h2] at hc
      injection hc with hc
      injection hc with _ hc
      exact ht hc)
  have tn : ∀ {W : World} {b0 b1 Bt : Nat} {L : List ZTk_C} {k t : Nat} {cs : Array Value}, LitC W b0 b1 Bt L → W.heap[k]? = some (.cells cs t (0, 0)) → k = Bt ∨ t = 43 → 36 ≠ t := fun hL hc ht => by
    rcases ht with rfl | rfl
    · obtain ⟨A, c, a1, _⟩ := hL
      rw [a1] at hc
      injection hc with hc
      injection hc with _ hc
      rw [← hc]; decide
    · decide
  refine ⟨by simp [H.len], ho, ?_, fun i hi hi' => ?_, ?_⟩
  · refine ((below_step H.hB hB2).alloc (by omega) _).grown hg (by simp; omega) (fun k e => Kd.R_base H.hR k e)
  · by_cases h : i < bs.length
    · rw [List.getElem_append_left h]
      have h1 := (H.hL i h hi').mono (b1' := w8.heap.size) (by omega)
      have h2 : LitC (w2.alloc (Obj.cells #[.slice A (l[j].map toCC).length c] 38)) w.heap.size w8.heap.size bs[i] (l[i].map toCC) := h1.same (fun k t cs _ hc _ => (Below.heap_alloc _ _ k (Nat.lt_of_lt_of_le (blk_lt hc) s2)).trans (hB2.block k (blk_lt hc)))
      exact h2.same (fun k t cs _ hc ht => hne k t cs hc (tn h2 hc ht))
    · have hie : i = bs.length := by simp at hi; omega
      subst hie
      rw [List.getElem_append_right (Nat.le_refl _)]
      simp only [Nat.sub_self, List.getElem_cons_zero]
      have hlj : bs.length = j := H.len
      subst hlj
      have h2 := hN.mono (b1' := w8.heap.size) (by omega)
      exact h2.same (fun k t cs _ hc ht => hne k t cs hc (tn h2 hc ht))
  · refine List.nodup_append.2 ⟨H.nd, by simp, fun a ha b hb => ?_⟩
    simp only [List.mem_singleton] at hb
    subst hb
    obtain ⟨i, hi, rfl⟩ := List.getElem_of_mem ha
    obtain ⟨A', c', a1, _⟩ := H.hL i hi (by have := H.len; omega)
    have := blk_lt a1
    omega
theorem at_row {w : World} {A : Option Addr} {n : Nat} {xs : List (List ZTk_T)} (h : Kd.C (Kd.slice 32 ZTk_kT) w A n xs) (i : Int) (h0 : 0 ≤ i) (h1 : i < n) (hl : i.toNat < xs.length) : ∃ ad A0 c0, A = some ad ∧ w.cell? (ad.add i.toNat) = some (.slice A0 (xs[i.toNat]).length c0) ∧ (xs[i.toNat]).length ≤ c0 ∧ ZTk_kT.C w A0 (xs[i.toNat]).length (xs[i.toNat]) := by
  obtain ⟨ad, c, e, _, hK, hc0⟩ := Kd.C_get h ([] : List ZTk_T) i h0 h1
  have hc : ∀ j u, c[j]? = some u → w.cell? (ad.add (i.toNat * 1 + j)) = some u := hc0
  obtain ⟨A0, c0, rfl, l0, g0⟩ := hK
  have e1 : xs.getD i.toNat [] = xs[i.toNat] := by simp [List.getD_eq_getElem?_getD, hl]
  have e2 : xs[i.toNat]?.getD [] = xs[i.toNat] := by simp [hl]
  have hq := hc 0 _ rfl
  rw [Nat.mul_one, Nat.add_zero] at hq
  simp only [e1, e2] at hq l0 g0
  exact ⟨ad, A0, c0, e, hq, l0, g0⟩
theorem row_le {l : List (List ZTk_T)} {i : Nat} (h : i < l.length) : l[i].length ≤ l.flatten.length := by
  induction l generalizing i with
  | nil => simp at h
  | cons a r ih =>
    cases i with
    | zero => simp
    | succ i =>
      have h2 := ih (i := i) (by simpa using h)
      rw [List.flatten_cons, List.length_append, List.getElem_cons_succ]
      omega
theorem conc_make {l : List (List ZTk_T)} {w wr : World} {v : Value} {bs : List Nat} (H : ZTk_BL l w v l.length bs wr) : ∃ A c, v = .slice A bs.length c ∧ ConcAt (wr.alloc (.cells #[v] 47)) w.heap.size (wr.heap.size + 1) wr.heap.size (bs.zip (l.map (·.map toCC))) ∧ ZTk_flt (bs.zip (l.map (·.map toCC))) = l.flatten.map toCC := by
  have hlen := H.len
  have hz : (bs.zip (l.map (·.map toCC))).length = bs.length := by simp [hlen]
  obtain ⟨A, c, rfl⟩ := Kd.R_slice H.hR
  obtain ⟨_, hc, hC⟩ := Kd.R_reads' H.hR
  have hsz := H.hB.size
  refine ⟨A, c, rfl, ⟨⟨A, c, by rw [hz]; exact blk_new _ _, by rw [hz]; exact hc, fun hne => ?_⟩, hsz, Nat.lt_succ_self _, fun p hp => ?_, ?_⟩, ?_⟩
  · have hpos : 0 < bs.length := by rw [← hz]; exact List.length_pos_iff.2 hne
    obtain ⟨g, cap, e, hbg, hlt, cs, hcs⟩ := Kd.R_form H.hR hpos
    injection e with e _ _
    subst e
    refine ⟨g, 0, rfl, by omega, ⟨cs, blk_alloc hcs _⟩, fun i hi => ?_⟩
    have hi' : i < bs.length := by rw [hz] at hi; exact hi
    obtain ⟨ad, cc, e1, _, hK, hc0⟩ := Kd.C_get hC 0 (i : Int) (by omega) (by omega)
    injection e1 with e1
    subst e1
    have hK' : cc = [ZTk_itV (bs.getD (i : Int).toNat 0)] := hK
    have h1 : wr.cell? ((⟨g, 0, none⟩ : Addr).add ((i : Int).toNat * 1 + 0)) = some (ZTk_itV (bs.getD (i : Int).toNat 0)) := hc0 0 _ (by rw [hK']; rfl)
    rw [Int.toNat_natCast, Nat.mul_one, Nat.add_zero, Addr.add_lit] at h1
    have e2 : bs.getD i 0 = bs[i] := by simp [List.getD_eq_getElem?_getD, hi']
    rw [e2] at h1
    rw [List.getElem_zip]
    exact (World.cell?_of_block (a := ⟨g, _, none⟩) (Below.heap_alloc _ _ _ (by show g < wr.heap.size; omega))).trans h1
  · obtain ⟨i, hi, rfl⟩ := List.getElem_of_mem hp
    have hi' : i < bs.length := by rw [hz] at hi; exact hi
    rw [List.getElem_zip]
    have h1 := (H.hL i hi' (by omega)).mono (b1' := wr.heap.size + 1) (Nat.le_succ _)
    simp only [List.getElem_map]
    exact h1.same (fun k t cs _ hk _ => Below.heap_alloc _ _ k (blk_lt hk))
  · rw [List.map_fst_zip (by simp [hlen])]
    exact H.nd
  · unfold ZTk_flt
    rw [List.flatMap_def, show ((fun x : Nat × List ZTk_C => x.2) = Prod.snd) from rfl, List.map_snd_zip (by simp [hlen]), List.map_flatten]
set_option maxRecDepth 100000 in
set_option maxHeartbeats 8000000 in
theorem concat_c (A0 : Option Addr) (c0 : Nat) (l : List (List ZTk_T)) (w : World) (hV : Go.Proofs.YtkdkkbadmjpkfaaDoorFmt.VarsOK w) (hr0 : Kd.C (Kd.slice 32 ZTk_kT) w A0 l.length l) (hc0 : l.length ≤ c0) (hn : l.length ≤ 100000) (hl : l.flatten.length ≤ 100000) (hz : ∀ x ∈ l.flatten, x.f0 ≠ 0) :
    Calls Tryd.prog 12 #[.slice A0 l.length c0] w fun e w' => ∃ v : Value, e = .returned v ∧ Kd.R ZTk_kT 32 w' w.heap.size (fun _ => True) v l.flatten ∧ Below w.heap.size w w' := by
  have hr := Aside0.mk hr0
  have hc := Aside0.mk hc0
  have hls := Aside0.mk hl
  have hV' := Aside0.mk hV
  clear hr0 hc0 hl hV
  go_enter Tryd.func12, Tryd.ntmps12
  go_wp2
  go_loopg [3, 8] (l.length + 1) (fun kq v3 v8 wr => ∃ (x8 : Int) (bs : List Nat), v8 = .int .i64 x8 ∧ Aside0 (0 ≤ x8 ∧ x8 ≤ l.length ∧ l.length - x8.toNat < kq) ∧ Aside0 (ZTk_BL l w v3 x8.toNat bs wr))
  case atStart => exact ⟨0, [], rfl, ⟨by omega, by omega, by simp⟩, ⟨⟨rfl, Kd.R_nil _ _ _ _ _, Below.refl _ _, fun i hi => absurd hi (by simp), List.nodup_nil⟩⟩⟩
  case round =>
    obtain ⟨x8, bs, rfl, HK, HH⟩ := hrel
    cases gk with
    | zero => have := HK.out; omega
    | succ k1 =>
      by_cases hlt : x8 < (l.length : Int)
      · have hx0 : 0 ≤ x8 := HK.out.1
        have hlt' : x8.toNat < l.length := by omega
        have c2b0 : decide (x8 < (l.length : Int)) = true := decide_eq_true hlt
        have c3b0 : decide (0 ≤ x8) = true := decide_eq_true hx0
        obtain ⟨ad, Ar, cr, e, hx, hlr, hCr⟩ := at_row hr.out x8 hx0 hlt hlt'
        cases e
        have H := HH.out
        replace hx := (H.hB.cell (World.block_lt_of_cell? w _ hx)).trans hx
        have hmem : l[x8.toNat].length ≤ 100000 := Nat.le_trans (row_le hlt') hls.out
        obtain ⟨kk, hkk⟩ := inner_some l[x8.toNat] (by omega)
        have hbl : Aside0 (bs.length < 1000000) := ⟨by have := H.len; omega⟩
        have hCr' := Aside0.mk (Kd.C_below hCr H.hB)
        have hlr' := Aside0.mk hlr
        have HS := Aside0.mk H.hB.size
        have hwr : wrap64 (x8 + 1) = x8 + 1 := by unfold wrap64; omega
        generalize hrow : l[x8.toNat] = row at *
        have p1 := eq_true hx0
        have q1 := eq_true hlt
        clear H hCr hlr hx0 hlt hmem
        go_wp2_with (first | (go_at_call 15; refine (impl_inner.calls kk Ar cr row _ _ hCr'.out hlr'.out hkk).mono ?_; rintro e w2 ⟨vi, rfl, hR2, hB2⟩; have G1 := Aside0.mk hR2; have G2 := Aside0.mk hB2; obtain ⟨A2, c2, rfl⟩ := Kd.R_slice hR2; clear hR2 hB2) | (go_at_call 14; refine (litm_c _ _ _ _).mono ?_; rintro e w3 ⟨rfl, rfl⟩) | ((with_reducible refine gate_builtin (b := .append) (xs := #[.tmp 12, .tmp 16]) rfl ?_); at_builtin; refine Kd.R_append ZTk_kI (w0 := wr) w.heap.size rfl (.tmp 12) (.tmp 16) 47 36 .nilFunc 8 rfl Tryd.underlying47 infoI rfl (by decide) (by omega) u3 bs w2.heap.size [ZTk_itV w2.heap.size] (fun _ => True) (fun _ => False) rfl (by first | (go_simp; done) | (go_simp; rfl)) ?aP (fun _ hk => hk.elim) ?aF ?aO ?aB ?aS ?aL ?_; (case aP => exact rfl); (case aF => exact (fun _ _ => trivial)); (case aO => exact Kd.R_alloc (Kd.R_below HH.out.hR G2.out) _); (case aB => exact (G2.out.mono HS.out).alloc (Nat.le_trans HS.out G2.out.size) _); (case aS => have := HS.out; have := G2.out.size; simp; omega); (case aL => have := hbl.out; omega); intro v1 w8 ho hb8 hg hat; have F1 := Aside0.mk ho; have F2 := Aside0.mk hg; clear ho hb8 hg hat))
        have G3 := G1.out
        rw [List.length_map] at G3
        go_roundg k1
        case measure => omega
        case rel =>
          have hk := HK.out
          have e1 : (wrap64 (x8 + 1)).toNat = x8.toNat + 1 := by rw [hwr]; omega
          refine ⟨wrap64 (x8 + 1), bs ++ [w2.heap.size], rfl, ⟨by rw [hwr]; omega⟩, ⟨?_⟩⟩
          rw [e1]
          exact bl_step hlt' HH.out (by rw [hrow]; exact G3) G2.out F2.out F1.out
      · have hxe : x8.toNat = l.length := by have := HK.out; omega
        have c2b0 : decide (x8 < (l.length : Int)) = false := decide_eq_false hlt
        have H := HH.out
        rw [hxe] at H
        obtain ⟨A3, c3, hu3, hC, hf⟩ := conc_make H
        subst hu3
        generalize hps : bs.zip (l.map (·.map toCC)) = ps at hC hf
        have hsz := H.hB.size
        have hBa := H.hB.alloc hsz (.cells #[.slice A3 bs.length c3] 47)
        have kt := Aside0.mk (tokens_c w.heap.size (wr.heap.size + 1) wr.heap.size ps _ (hV'.out.below hBa) (vars_lt hV'.out) hC (by omega) (by simp) (by rw [hf]; intro x hx; obtain ⟨y, hy, rfl⟩ := List.mem_map.1 hx; exact hz y hy) (by rw [hf, List.length_map]; exact hls.out))
        obtain ⟨k2, hk2⟩ := outer_some (ZTk_flt ps) (by rw [hf, List.length_map]; have := hls.out; omega)
        have hfl : (ZTk_flt ps).map toTT = l.flatten := by rw [hf, List.map_map]; exact List.map_id' _
        rw [hfl] at hk2
        have hBa' := Aside0.mk hBa
        have hsz' := Aside0.mk hsz
        clear hf hfl
        generalize ZTk_flt ps = L at *
        clear H hC hBa hsz
        go_wp2_with (first | (go_at_call 21; refine (concm_c _ _ _ _).mono ?_; rintro e w9 ⟨rfl, rfl⟩) | (go_at_call 22; refine kt.out.mono ?_; rintro e w10 ⟨v4, rfl, hR4, hF4⟩; obtain ⟨A4, c4, rfl⟩ := Kd.R_slice hR4; have G4 := Aside0.mk (Kd.R_reads' hR4); have G5 := Aside0.mk hF4; clear hR4 hF4) | (go_at_call 20; refine (impl_outer.calls k2 A4 c4 L _ _ G4.out.2.2 G4.out.2.1 hk2).mono ?_; rintro e w11 ⟨v5, rfl, hR5, hB5⟩; have G6 := Aside0.mk hR5; have G7 := Aside0.mk hB5; clear hR5 hB5))
        go_ret
        have hB10 := G5.out.below hBa'.out (by simp; have := hsz'.out; omega)
        exact ⟨_, rfl, Kd.R_lower G6.out hB10.size, below_step hB10 G7.out⟩
end ZCat
def impl_Concat.f (l0 : List (List (S32))) : Option (List (S32)) := if l0.length ≤ 100000 ∧ l0.flatten.length ≤ 100000 ∧ (l0.flatten.all fun x => x.f0 != 0) = true then some l0.flatten else none
theorem impl_Concat.calls (A0 : Option Addr) (c0 : Nat) (l0 : List (List (S32))) (r : List (S32)) (w : World) (hr0 : Kd.C (Kd.slice 32 k32) w A0 l0.length l0) (hc0 : l0.length ≤ c0) (hV : Go.Proofs.YtkdkkbadmjpkfaaDoorFmt.VarsOK w) (h : impl_Concat.f l0 = some r) :
    Calls Tryd.prog 12 #[.slice A0 l0.length c0] w fun e w' => ∃ v0_ : Value, e = .returned (v0_) ∧ Kd.R k32 32 w' w.heap.size (fun _ => True) v0_ r ∧ Below w.heap.size w w' := by
  unfold impl_Concat.f at h
  by_cases h0 : l0.length ≤ 100000 ∧ l0.flatten.length ≤ 100000 ∧ (l0.flatten.all fun x => x.f0 != 0) = true
  · rw [if_pos h0] at h
    obtain rfl := Option.some.inj h
    exact ZCat.concat_c A0 c0 l0 w hV hr0 hc0 h0.1 h0.2.1 (fun x hx => by have := List.all_eq_true.1 h0.2.2 x hx; simpa using this)
  · rw [if_neg h0] at h; cases h

/-! ### laws_FnConcat: function 4 -/
def laws_FnConcat.f (k : Nat) (l0 : List (List (S32))) : Option (Bool) := (laws_zzFits22.f k l0).bind fun t186 => (if t186 = true then (if (l0.length : Int) > 40 then (some true) else ((laws_flat.f k l0).bind fun t187 => ((laws_small.f k t187).bind fun t190 => (if t190 = true then ((impl_Concat.f l0).bind fun t191 => ((laws_flat.f k l0).bind fun t194 => ((laws_same.f k t191 t194).bind fun t197 => (if t197 = true then ((laws_waking.f k).bind fun t198 => (some t198)) else (some false))))) else (some true))))) else (some true))
theorem laws_FnConcat.mono : ∀ a0 k, LeO (laws_FnConcat.f k a0) (laws_FnConcat.f (k + 1) a0) := by
  intro a0 k
  unfold laws_FnConcat.f
  repeat' first
      | (with_reducible exact laws_flat.mono _ _)
      | (with_reducible exact laws_same.mono _ _ _)
      | (with_reducible exact laws_small.mono _ _)
      | (with_reducible exact laws_waking.mono _)
      | (with_reducible exact laws_zzFits22.mono _ _)
      | (with_reducible exact LeO.refl _)
      | (with_reducible exact LeO.none _)
      | (with_reducible refine LeO.ite ?_ ?_)
      | (with_reducible refine LeO.bind ?_ (fun _ => ?_))
      | exact laws_flat.mono _ _
      | exact laws_same.mono _ _ _
      | exact laws_small.mono _ _
      | exact laws_waking.mono _
      | exact laws_zzFits22.mono _ _
      | exact LeO.none _
      | refine LeO.ite ?_ ?_
      | refine LeO.bind ?_ (fun _ => ?_)
set_option maxHeartbeats 8000000 in
set_option maxRecDepth 100000 in
theorem laws_FnConcat.calls (k : Nat) (A0 : Option Addr) (c0 : Nat) (l0 : List (List (S32))) (r : Bool) (w : World) (hr0 : Kd.C (Kd.slice 32 k32) w A0 l0.length l0) (hc0 : l0.length ≤ c0) (hV : Go.Proofs.YtkdkkbadmjpkfaaDoorFmt.VarsOK w) (h : laws_FnConcat.f k l0 = some r) :
    Calls Tryd.prog 4 #[.slice A0 l0.length c0] w fun e w' => e = .returned (.bool r) ∧ Below w.heap.size w w' := by
  have HR0 := Aside0.mk hr0
  have HC0 := Aside0.mk hc0
  clear hr0 hc0
  have HB := Aside0.mk (Below.refl w.heap.size w)
  have HV := Aside0.mk hV
  clear hV
  have H : ((laws_zzFits22.f k l0).bind fun t186 => (if t186 = true then (if (l0.length : Int) > 40 then (some true) else ((laws_flat.f k l0).bind fun t187 => ((laws_small.f k t187).bind fun t190 => (if t190 = true then ((impl_Concat.f l0).bind fun t191 => ((laws_flat.f k l0).bind fun t194 => ((laws_same.f k t191 t194).bind fun t197 => (if t197 = true then ((laws_waking.f k).bind fun t198 => (some t198)) else (some false))))) else (some true))))) else (some true))) = some r := h
  clear h
  replace H := Option.bind_eq_some_iff.mp H
  obtain ⟨t186, A20, H⟩ := H
  replace H : (if t186 = true then (if (l0.length : Int) > 40 then (some true) else ((laws_flat.f k l0).bind fun t187 => ((laws_small.f k t187).bind fun t190 => (if t190 = true then ((impl_Concat.f l0).bind fun t191 => ((laws_flat.f k l0).bind fun t194 => ((laws_same.f k t191 t194).bind fun t197 => (if t197 = true then ((laws_waking.f k).bind fun t198 => (some t198)) else (some false))))) else (some true))))) else (some true)) = some r := H
  have A2 := Aside0.mk A20
  clear A20
  by_cases c3 : t186 = true
  · subst c3
    have H1 : (if (l0.length : Int) > 40 then (some true) else ((laws_flat.f k l0).bind fun t187 => ((laws_small.f k t187).bind fun t190 => (if t190 = true then ((impl_Concat.f l0).bind fun t191 => ((laws_flat.f k l0).bind fun t194 => ((laws_same.f k t191 t194).bind fun t197 => (if t197 = true then ((laws_waking.f k).bind fun t198 => (some t198)) else (some false))))) else (some true))))) = some r := by rw [if_pos rfl] at H; exact H
    clear H
    have H := H1
    clear H1
    by_cases c4 : (l0.length : Int) > 40
    · rw [if_pos c4] at H
      have c4b0 : decide (40 < (l0.length : Int)) = true := decide_eq_true c4
      have c4b1 : decide (40 < l0.length) = true := decide_eq_true (by omega)
      clear c4
      obtain rfl := Option.some.inj H
      go_enter Tryd.func4, Tryd.ntmps4
      go_wp2_with (first | ((with_reducible refine gate_callee (f := 10) rfl ?_); refine goesL_ (some 4) rfl rfl Tryd.func10 (by kernel_rfl) rfl #[.slice A0 l0.length c0] rfl (by (try simp only [List.map_toArray, List.map_cons, List.map_nil]); first | done | rfl | (simp only [List.length_drop, List.length_take]; rfl)) ?_; (with_reducible refine (laws_zzFits22.calls k _ _ l0 true _ ?side1 ?side2 A2.out).mono ?_); (case side1 => repeat (first | exact HR0.out | (with_reducible refine Kd.C_alloc ?_ _) | (with_reducible refine Kd.C_drewN ?_ _) | (with_reducible refine Kd.C_drew ?_))); (case side2 => exact HC0.out); rintro e w5 ⟨rfl, hb⟩; refine ⟨_, rfl, ?_⟩; have n0_ := Aside0.mk (below_step (by repeat (first | (with_reducible first | exact HB.out | apply below_alloc | apply pw_below_drewN | apply below_drew1) | exact HB.out)) hb); clear HB; have HB := n0_; clear n0_; (try clear hb); (try clear hb2); (try clear hk); (try clear hi)))
      go_ret
      exact ⟨by first | rfl | (simp [errW_none, errW_some] <;> rfl) | (simp [*, errW_none, errW_some] <;> rfl), by repeat (first | (with_reducible first | exact HB.out | apply below_alloc | apply pw_below_drewN | apply below_drew1) | exact HB.out)⟩
    · rw [if_neg c4] at H
      have c4b0 : decide (40 < (l0.length : Int)) = false := decide_eq_false c4
      have c4b1 : decide (40 < l0.length) = false := decide_eq_false (by omega)
      clear c4
      replace H := Option.bind_eq_some_iff.mp H
      obtain ⟨t187, A60, H⟩ := H
      replace H : ((laws_small.f k t187).bind fun t190 => (if t190 = true then ((impl_Concat.f l0).bind fun t191 => ((laws_flat.f k l0).bind fun t194 => ((laws_same.f k t191 t194).bind fun t197 => (if t197 = true then ((laws_waking.f k).bind fun t198 => (some t198)) else (some false))))) else (some true))) = some r := H
      have A6 := Aside0.mk A60
      clear A60
      replace H := Option.bind_eq_some_iff.mp H
      obtain ⟨t190, A70, H⟩ := H
      replace H : (if t190 = true then ((impl_Concat.f l0).bind fun t191 => ((laws_flat.f k l0).bind fun t194 => ((laws_same.f k t191 t194).bind fun t197 => (if t197 = true then ((laws_waking.f k).bind fun t198 => (some t198)) else (some false))))) else (some true)) = some r := H
      have A7 := Aside0.mk A70
      clear A70
      by_cases c8 : t190 = true
      · subst c8
        have H1 : ((impl_Concat.f l0).bind fun t191 => ((laws_flat.f k l0).bind fun t194 => ((laws_same.f k t191 t194).bind fun t197 => (if t197 = true then ((laws_waking.f k).bind fun t198 => (some t198)) else (some false))))) = some r := by rw [if_pos rfl] at H; exact H
        clear H
        have H := H1
        clear H1
        replace H := Option.bind_eq_some_iff.mp H
        obtain ⟨t191, A90, H⟩ := H
        replace H : ((laws_flat.f k l0).bind fun t194 => ((laws_same.f k t191 t194).bind fun t197 => (if t197 = true then ((laws_waking.f k).bind fun t198 => (some t198)) else (some false)))) = some r := H
        have A9 := Aside0.mk A90
        clear A90
        replace H := Option.bind_eq_some_iff.mp H
        obtain ⟨t194, A100, H⟩ := H
        replace H : ((laws_same.f k t191 t194).bind fun t197 => (if t197 = true then ((laws_waking.f k).bind fun t198 => (some t198)) else (some false))) = some r := H
        have A10 := Aside0.mk A100
        clear A100
        replace H := Option.bind_eq_some_iff.mp H
        obtain ⟨t197, A110, H⟩ := H
        replace H : (if t197 = true then ((laws_waking.f k).bind fun t198 => (some t198)) else (some false)) = some r := H
        have A11 := Aside0.mk A110
        clear A110
        by_cases c12 : t197 = true
        · subst c12
          have H1 : ((laws_waking.f k).bind fun t198 => (some t198)) = some r := by rw [if_pos rfl] at H; exact H
          clear H
          have H := H1
          clear H1
          replace H := Option.bind_eq_some_iff.mp H
          obtain ⟨t198, A130, H⟩ := H
          replace H : (some t198) = some r := H
          have A13 := Aside0.mk A130
          clear A130
          obtain rfl := Option.some.inj H
          go_enter Tryd.func4, Tryd.ntmps4
          go_wp2_with (first | ((with_reducible refine gate_callee (f := 10) rfl ?_); refine goesL_ (some 4) rfl rfl Tryd.func10 (by kernel_rfl) rfl #[.slice A0 l0.length c0] rfl (by (try simp only [List.map_toArray, List.map_cons, List.map_nil]); first | done | rfl | (simp only [List.length_drop, List.length_take]; rfl)) ?_; (with_reducible refine (laws_zzFits22.calls k _ _ l0 true _ ?side1 ?side2 A2.out).mono ?_); (case side1 => repeat (first | exact HR0.out | (with_reducible refine Kd.C_alloc ?_ _) | (with_reducible refine Kd.C_drewN ?_ _) | (with_reducible refine Kd.C_drew ?_))); (case side2 => exact HC0.out); rintro e w14 ⟨rfl, hb⟩; refine ⟨_, rfl, ?_⟩; have n0_ := Aside0.mk (below_step (by repeat (first | (with_reducible first | exact HB.out | apply below_alloc | apply pw_below_drewN | apply below_drew1) | exact HB.out)) hb); clear HB; have HB := n0_; clear n0_; (try clear hb); (try clear hb2); (try clear hk); (try clear hi)) | (go_at_call 11; (with_reducible refine (laws_flat.calls k _ _ l0 t194 _ ?side1 ?side2 A10.out).mono ?_); (case side1 => repeat (first | exact (Kd.C_below HR0.out HB.out) | (with_reducible refine Kd.C_alloc ?_ _) | (with_reducible refine Kd.C_drewN ?_ _) | (with_reducible refine Kd.C_drew ?_))); (case side2 => exact HC0.out); rintro e w19 ⟨v195, rfl, ho0, hb⟩; have n0_ := Aside0.mk (Kd.R_elder' (by (with_reducible repeat (first | apply Kd.R_alloc | apply Kd.R_drewN | apply Kd.R_drew)); exact HO189.out) (Kd.R_base ho0) hb); have n1_ := Aside0.mk (Kd.R_elder' (by (with_reducible repeat (first | apply Kd.R_alloc | apply Kd.R_drewN | apply Kd.R_drew)); exact HO193.out) (Kd.R_base ho0) hb); have n2_ := Aside0.mk (Kd.R_lower (Kd.R_new' (Kd.R_new' ho0 (Kd.R_lt (by (with_reducible repeat (first | apply Kd.R_alloc | apply Kd.R_drewN | apply Kd.R_drew)); exact HO189.out))) (Kd.R_lt (by (with_reducible repeat (first | apply Kd.R_alloc | apply Kd.R_drewN | apply Kd.R_drew)); exact HO193.out))) (below_size (by repeat (first | (with_reducible first | exact HB.out | apply below_alloc | apply pw_below_drewN | apply below_drew1) | exact HB.out)))); have n3_ := Aside0.mk (below_step (by repeat (first | (with_reducible first | exact HB.out | apply below_alloc | apply pw_below_drewN | apply below_drew1) | exact HB.out)) hb); clear HO189; clear HO193; clear HB; have HO189 := n0_; have HO193 := n1_; have HO196 := n2_; have HB := n3_; clear n0_ n1_ n2_ n3_; (try clear hb); (try clear hb2); (try clear hk); (try clear hi); (try clear ho0); obtain ⟨Ao20, co20, eo20⟩ := Kd.R_slice HO193.out; subst eo20; obtain ⟨Ao21, co21, eo21⟩ := Kd.R_slice HO196.out; subst eo21) | (go_at_call 6; (with_reducible refine (laws_small.calls k _ _ t187 true _ ?side1 ?side2 A7.out).mono ?_); (case side1 => repeat (first | exact (Kd.R_reads' HO189.out).2.2 | (with_reducible refine Kd.C_alloc ?_ _) | (with_reducible refine Kd.C_drewN ?_ _) | (with_reducible refine Kd.C_drew ?_))); (case side2 => exact (Kd.R_reads' HO189.out).2.1); rintro e w17 ⟨rfl, hb⟩; have n0_ := Aside0.mk (Kd.R_below (by (with_reducible repeat (first | apply Kd.R_alloc | apply Kd.R_drewN | apply Kd.R_drew)); exact HO189.out) hb); have n1_ := Aside0.mk (below_step (by repeat (first | (with_reducible first | exact HB.out | apply below_alloc | apply pw_below_drewN | apply below_drew1) | exact HB.out)) hb); clear HO189; clear HB; have HO189 := n0_; have HB := n1_; clear n0_ n1_; (try clear hb); (try clear hb2); (try clear hk); (try clear hi)) | (go_at_call 12; (with_reducible refine (impl_Concat.calls _ _ l0 t191 _ ?side1 ?side2 ?side3 A9.out).mono ?_); (case side1 => repeat (first | exact (Kd.C_below HR0.out HB.out) | (with_reducible refine Kd.C_alloc ?_ _) | (with_reducible refine Kd.C_drewN ?_ _) | (with_reducible refine Kd.C_drew ?_))); (case side2 => exact HC0.out); (case side3 => exact Go.Proofs.YtkdkkbadmjpkfaaDoorFmt.VarsOK.below HV.out (by repeat (first | (with_reducible first | exact HB.out | apply below_alloc | apply pw_below_drewN | apply below_drew1) | exact HB.out))); rintro e w18 ⟨v192, rfl, ho0, hb⟩; have n0_ := Aside0.mk (Kd.R_elder' (by (with_reducible repeat (first | apply Kd.R_alloc | apply Kd.R_drewN | apply Kd.R_drew)); exact HO189.out) (Kd.R_base ho0) hb); have n1_ := Aside0.mk (Kd.R_lower (Kd.R_new' ho0 (Kd.R_lt (by (with_reducible repeat (first | apply Kd.R_alloc | apply Kd.R_drewN | apply Kd.R_drew)); exact HO189.out))) (below_size (by repeat (first | (with_reducible first | exact HB.out | apply below_alloc | apply pw_below_drewN | apply below_drew1) | exact HB.out)))); have n2_ := Aside0.mk (below_step (by repeat (first | (with_reducible first | exact HB.out | apply below_alloc | apply pw_below_drewN | apply below_drew1) | exact HB.out)) hb); clear HO189; clear HB; have HO189 := n0_; have HO193 := n1_; have HB := n2_; clear n0_ n1_ n2_; (try clear hb); (try clear hb2); (try clear hk); (try clear hi); (try clear ho0)) | (go_at_call 11; (with_reducible refine (laws_flat.calls k _ _ l0 t187 _ ?side1 ?side2 A6.out).mono ?_); (case side1 => repeat (first | exact (Kd.C_below HR0.out HB.out) | (with_reducible refine Kd.C_alloc ?_ _) | (with_reducible refine Kd.C_drewN ?_ _) | (with_reducible refine Kd.C_drew ?_))); (case side2 => exact HC0.out); rintro e w15 ⟨v188, rfl, ho0, hb⟩; have n0_ := Aside0.mk (Kd.R_lower ho0 (below_size (by repeat (first | (with_reducible first | exact HB.out | apply below_alloc | apply pw_below_drewN | apply below_drew1) | exact HB.out)))); have n1_ := Aside0.mk (below_step (by repeat (first | (with_reducible first | exact HB.out | apply below_alloc | apply pw_below_drewN | apply below_drew1) | exact HB.out)) hb); clear HB; have HO189 := n0_; have HB := n1_; clear n0_ n1_; (try clear hb); (try clear hb2); (try clear hk); (try clear hi); (try clear ho0); obtain ⟨Ao16, co16, eo16⟩ := Kd.R_slice HO189.out; subst eo16) | (go_at_call 7; (with_reducible refine (laws_same.calls k _ _ t191 _ _ t194 true _ ?side1 ?side2 ?side3 ?side4 A11.out).mono ?_); (case side1 => repeat (first | exact (Kd.R_reads' HO193.out).2.2 | (with_reducible refine Kd.C_alloc ?_ _) | (with_reducible refine Kd.C_drewN ?_ _) | (with_reducible refine Kd.C_drew ?_))); (case side2 => exact (Kd.R_reads' HO193.out).2.1); (case side3 => repeat (first | exact (Kd.R_reads' HO196.out).2.2 | (with_reducible refine Kd.C_alloc ?_ _) | (with_reducible refine Kd.C_drewN ?_ _) | (with_reducible refine Kd.C_drew ?_))); (case side4 => exact (Kd.R_reads' HO196.out).2.1); rintro e w' ⟨rfl, ⟨nd, rfl⟩⟩) | (go_at_call 9; (with_reducible refine (laws_waking.calls k  t198 _ A13.out).mono ?_); rintro e w22 ⟨rfl, hb⟩; have n0_ := Aside0.mk (Kd.R_below (by (with_reducible repeat (first | apply Kd.R_alloc | apply Kd.R_drewN | apply Kd.R_drew)); exact HO189.out) hb); have n1_ := Aside0.mk (Kd.R_below (by (with_reducible repeat (first | apply Kd.R_alloc | apply Kd.R_drewN | apply Kd.R_drew)); exact HO193.out) hb); have n2_ := Aside0.mk (Kd.R_below (by (with_reducible repeat (first | apply Kd.R_alloc | apply Kd.R_drewN | apply Kd.R_drew)); exact HO196.out) hb); have n3_ := Aside0.mk (below_step (by repeat (first | (with_reducible first | exact HB.out | apply below_alloc | apply pw_below_drewN | apply below_drew1) | exact HB.out)) hb); clear HO189; clear HO193; clear HO196; clear HB; have HO189 := n0_; have HO193 := n1_; have HO196 := n2_; have HB := n3_; clear n0_ n1_ n2_ n3_; (try clear hb); (try clear hb2); (try clear hk); (try clear hi)))
          go_ret
          exact ⟨by first | rfl | (simp [errW_none, errW_some] <;> rfl) | (simp [*, errW_none, errW_some] <;> rfl), by repeat (first | (with_reducible first | exact HB.out | apply below_alloc | apply pw_below_drewN | apply below_drew1) | exact HB.out)⟩
        · replace c12 := Bool.eq_false_iff.mpr c12
          subst c12
          have H1 : (some false) = some r := by rw [if_neg (show ¬ (false = true) by decide)] at H; exact H
          clear H
          have H := H1
          clear H1
          obtain rfl := Option.some.inj H
          go_enter Tryd.func4, Tryd.ntmps4
          go_wp2_with (first | ((with_reducible refine gate_callee (f := 10) rfl ?_); refine goesL_ (some 4) rfl rfl Tryd.func10 (by kernel_rfl) rfl #[.slice A0 l0.length c0] rfl (by (try simp only [List.map_toArray, List.map_cons, List.map_nil]); first | done | rfl | (simp only [List.length_drop, List.length_take]; rfl)) ?_; (with_reducible refine (laws_zzFits22.calls k _ _ l0 true _ ?side1 ?side2 A2.out).mono ?_); (case side1 => repeat (first | exact HR0.out | (with_reducible refine Kd.C_alloc ?_ _) | (with_reducible refine Kd.C_drewN ?_ _) | (with_reducible refine Kd.C_drew ?_))); (case side2 => exact HC0.out); rintro e w23 ⟨rfl, hb⟩; refine ⟨_, rfl, ?_⟩; have n0_ := Aside0.mk (below_step (by repeat (first | (with_reducible first | exact HB.out | apply below_alloc | apply pw_below_drewN | apply below_drew1) | exact HB.out)) hb); clear HB; have HB := n0_; clear n0_; (try clear hb); (try clear hb2); (try clear hk); (try clear hi)) | (go_at_call 11; (with_reducible refine (laws_flat.calls k _ _ l0 t194 _ ?side1 ?side2 A10.out).mono ?_); (case side1 => repeat (first | exact (Kd.C_below HR0.out HB.out) | (with_reducible refine Kd.C_alloc ?_ _) | (with_reducible refine Kd.C_drewN ?_ _) | (with_reducible refine Kd.C_drew ?_))); (case side2 => exact HC0.out); rintro e w28 ⟨v195, rfl, ho0, hb⟩; have n0_ := Aside0.mk (Kd.R_elder' (by (with_reducible repeat (first | apply Kd.R_alloc | apply Kd.R_drewN | apply Kd.R_drew)); exact HO189.out) (Kd.R_base ho0) hb); have n1_ := Aside0.mk (Kd.R_elder' (by (with_reducible repeat (first | apply Kd.R_alloc | apply Kd.R_drewN | apply Kd.R_drew)); exact HO193.out) (Kd.R_base ho0) hb); have n2_ := Aside0.mk (Kd.R_lower (Kd.R_new' (Kd.R_new' ho0 (Kd.R_lt (by (with_reducible repeat (first | apply Kd.R_alloc | apply Kd.R_drewN | apply Kd.R_drew)); exact HO189.out))) (Kd.R_lt (by (with_reducible repeat (first | apply Kd.R_alloc | apply Kd.R_drewN | apply Kd.R_drew)); exact HO193.out))) (below_size (by repeat (first | (with_reducible first | exact HB.out | apply below_alloc | apply pw_below_drewN | apply below_drew1) | exact HB.out)))); have n3_ := Aside0.mk (below_step (by repeat (first | (with_reducible first | exact HB.out | apply below_alloc | apply pw_below_drewN | apply below_drew1) | exact HB.out)) hb); clear HO189; clear HO193; clear HB; have HO189 := n0_; have HO193 := n1_; have HO196 := n2_; have HB := n3_; clear n0_ n1_ n2_ n3_; (try clear hb); (try clear hb2); (try clear hk); (try clear hi); (try clear ho0); obtain ⟨Ao29, co29, eo29⟩ := Kd.R_slice HO193.out; subst eo29; obtain ⟨Ao30, co30, eo30⟩ := Kd.R_slice HO196.out; subst eo30) | (go_at_call 6; (with_reducible refine (laws_small.calls k _ _ t187 true _ ?side1 ?side2 A7.out).mono ?_); (case side1 => repeat (first | exact (Kd.R_reads' HO189.out).2.2 | (with_reducible refine Kd.C_alloc ?_ _) | (with_reducible refine Kd.C_drewN ?_ _) | (with_reducible refine Kd.C_drew ?_))); (case side2 => exact (Kd.R_reads' HO189.out).2.1); rintro e w26 ⟨rfl, hb⟩; have n0_ := Aside0.mk (Kd.R_below (by (with_reducible repeat (first | apply Kd.R_alloc | apply Kd.R_drewN | apply Kd.R_drew)); exact HO189.out) hb); have n1_ := Aside0.mk (below_step (by repeat (first | (with_reducible first | exact HB.out | apply below_alloc | apply pw_below_drewN | apply below_drew1) | exact HB.out)) hb); clear HO189; clear HB; have HO189 := n0_; have HB := n1_; clear n0_ n1_; (try clear hb); (try clear hb2); (try clear hk); (try clear hi)) | (go_at_call 12; (with_reducible refine (impl_Concat.calls _ _ l0 t191 _ ?side1 ?side2 ?side3 A9.out).mono ?_); (case side1 => repeat (first | exact (Kd.C_below HR0.out HB.out) | (with_reducible refine Kd.C_alloc ?_ _) | (with_reducible refine Kd.C_drewN ?_ _) | (with_reducible refine Kd.C_drew ?_))); (case side2 => exact HC0.out); (case side3 => exact Go.Proofs.YtkdkkbadmjpkfaaDoorFmt.VarsOK.below HV.out (by repeat (first | (with_reducible first | exact HB.out | apply below_alloc | apply pw_below_drewN | apply below_drew1) | exact HB.out))); rintro e w27 ⟨v192, rfl, ho0, hb⟩; have n0_ := Aside0.mk (Kd.R_elder' (by (with_reducible repeat (first | apply Kd.R_alloc | apply Kd.R_drewN | apply Kd.R_drew)); exact HO189.out) (Kd.R_base ho0) hb); have n1_ := Aside0.mk (Kd.R_lower (Kd.R_new' ho0 (Kd.R_lt (by (with_reducible repeat (first | apply Kd.R_alloc | apply Kd.R_drewN | apply Kd.R_drew)); exact HO189.out))) (below_size (by repeat (first | (with_reducible first | exact HB.out | apply below_alloc | apply pw_below_drewN | apply below_drew1) | exact HB.out)))); have n2_ := Aside0.mk (below_step (by repeat (first | (with_reducible first | exact HB.out | apply below_alloc | apply pw_below_drewN | apply below_drew1) | exact HB.out)) hb); clear HO189; clear HB; have HO189 := n0_; have HO193 := n1_; have HB := n2_; clear n0_ n1_ n2_; (try clear hb); (try clear hb2); (try clear hk); (try clear hi); (try clear ho0)) | (go_at_call 11; (with_reducible refine (laws_flat.calls k _ _ l0 t187 _ ?side1 ?side2 A6.out).mono ?_); (case side1 => repeat (first | exact (Kd.C_below HR0.out HB.out) | (with_reducible refine Kd.C_alloc ?_ _) | (with_reducible refine Kd.C_drewN ?_ _) | (with_reducible refine Kd.C_drew ?_))); (case side2 => exact HC0.out); rintro e w24 ⟨v188, rfl, ho0, hb⟩; have n0_ := Aside0.mk (Kd.R_lower ho0 (below_size (by repeat (first | (with_reducible first | exact HB.out | apply below_alloc | apply pw_below_drewN | apply below_drew1) | exact HB.out)))); have n1_ := Aside0.mk (below_step (by repeat (first | (with_reducible first | exact HB.out | apply below_alloc | apply pw_below_drewN | apply below_drew1) | exact HB.out)) hb); clear HB; have HO189 := n0_; have HB := n1_; clear n0_ n1_; (try clear hb); (try clear hb2); (try clear hk); (try clear hi); (try clear ho0); obtain ⟨Ao25, co25, eo25⟩ := Kd.R_slice HO189.out; subst eo25) | (go_at_call 7; (with_reducible refine (laws_same.calls k _ _ t191 _ _ t194 false _ ?side1 ?side2 ?side3 ?side4 A11.out).mono ?_); (case side1 => repeat (first | exact (Kd.R_reads' HO193.out).2.2 | (with_reducible refine Kd.C_alloc ?_ _) | (with_reducible refine Kd.C_drewN ?_ _) | (with_reducible refine Kd.C_drew ?_))); (case side2 => exact (Kd.R_reads' HO193.out).2.1); (case side3 => repeat (first | exact (Kd.R_reads' HO196.out).2.2 | (with_reducible refine Kd.C_alloc ?_ _) | (with_reducible refine Kd.C_drewN ?_ _) | (with_reducible refine Kd.C_drew ?_))); (case side4 => exact (Kd.R_reads' HO196.out).2.1); rintro e w' ⟨rfl, ⟨nd, rfl⟩⟩))
          go_ret
          exact ⟨by first | rfl | (simp [errW_none, errW_some] <;> rfl) | (simp [*, errW_none, errW_some] <;> rfl), by repeat (first | (with_reducible first | exact HB.out | apply below_alloc | apply pw_below_drewN | apply below_drew1) | exact HB.out)⟩
      · replace c8 := Bool.eq_false_iff.mpr c8
        subst c8
        have H1 : (some true) = some r := by rw [if_neg (show ¬ (false = true) by decide)] at H; exact H
        clear H
        have H := H1
        clear H1
        obtain rfl := Option.some.inj H
        go_enter Tryd.func4, Tryd.ntmps4
        go_wp2_with (first | ((with_reducible refine gate_callee (f := 10) rfl ?_); refine goesL_ (some 4) rfl rfl Tryd.func10 (by kernel_rfl) rfl #[.slice A0 l0.length c0] rfl (by (try simp only [List.map_toArray, List.map_cons, List.map_nil]); first | done | rfl | (simp only [List.length_drop, List.length_take]; rfl)) ?_; (with_reducible refine (laws_zzFits22.calls k _ _ l0 true _ ?side1 ?side2 A2.out).mono ?_); (case side1 => repeat (first | exact HR0.out | (with_reducible refine Kd.C_alloc ?_ _) | (with_reducible refine Kd.C_drewN ?_ _) | (with_reducible refine Kd.C_drew ?_))); (case side2 => exact HC0.out); rintro e w31 ⟨rfl, hb⟩; refine ⟨_, rfl, ?_⟩; have n0_ := Aside0.mk (below_step (by repeat (first | (with_reducible first | exact HB.out | apply below_alloc | apply pw_below_drewN | apply below_drew1) | exact HB.out)) hb); clear HB; have HB := n0_; clear n0_; (try clear hb); (try clear hb2); (try clear hk); (try clear hi)) | (go_at_call 11; (with_reducible refine (laws_flat.calls k _ _ l0 t187 _ ?side1 ?side2 A6.out).mono ?_); (case side1 => repeat (first | exact (Kd.C_below HR0.out HB.out) | (with_reducible refine Kd.C_alloc ?_ _) | (with_reducible refine Kd.C_drewN ?_ _) | (with_reducible refine Kd.C_drew ?_))); (case side2 => exact HC0.out); rintro e w32 ⟨v188, rfl, ho0, hb⟩; have n0_ := Aside0.mk (Kd.R_lower ho0 (below_size (by repeat (first | (with_reducible first | exact HB.out | apply below_alloc | apply pw_below_drewN | apply below_drew1) | exact HB.out)))); have n1_ := Aside0.mk (below_step (by repeat (first | (with_reducible first | exact HB.out | apply below_alloc | apply pw_below_drewN | apply below_drew1) | exact HB.out)) hb); clear HB; have HO189 := n0_; have HB := n1_; clear n0_ n1_; (try clear hb); (try clear hb2); (try clear hk); (try clear hi); (try clear ho0); obtain ⟨Ao33, co33, eo33⟩ := Kd.R_slice HO189.out; subst eo33) | (go_at_call 6; (with_reducible refine (laws_small.calls k _ _ t187 false _ ?side1 ?side2 A7.out).mono ?_); (case side1 => repeat (first | exact (Kd.R_reads' HO189.out).2.2 | (with_reducible refine Kd.C_alloc ?_ _) | (with_reducible refine Kd.C_drewN ?_ _) | (with_reducible refine Kd.C_drew ?_))); (case side2 => exact (Kd.R_reads' HO189.out).2.1); rintro e w34 ⟨rfl, hb⟩; have n0_ := Aside0.mk (Kd.R_below (by (with_reducible repeat (first | apply Kd.R_alloc | apply Kd.R_drewN | apply Kd.R_drew)); exact HO189.out) hb); have n1_ := Aside0.mk (below_step (by repeat (first | (with_reducible first | exact HB.out | apply below_alloc | apply pw_below_drewN | apply below_drew1) | exact HB.out)) hb); clear HO189; clear HB; have HO189 := n0_; have HB := n1_; clear n0_ n1_; (try clear hb); (try clear hb2); (try clear hk); (try clear hi)))
        go_ret
        exact ⟨by first | rfl | (simp [errW_none, errW_some] <;> rfl) | (simp [*, errW_none, errW_some] <;> rfl), by repeat (first | (with_reducible first | exact HB.out | apply below_alloc | apply pw_below_drewN | apply below_drew1) | exact HB.out)⟩
  · replace c3 := Bool.eq_false_iff.mpr c3
    subst c3
    have H1 : (some true) = some r := by rw [if_neg (show ¬ (false = true) by decide)] at H; exact H
    clear H
    have H := H1
    clear H1
    obtain rfl := Option.some.inj H
    go_enter Tryd.func4, Tryd.ntmps4
    go_wp2_with (first | ((with_reducible refine gate_callee (f := 10) rfl ?_); refine goesL_ (some 4) rfl rfl Tryd.func10 (by kernel_rfl) rfl #[.slice A0 l0.length c0] rfl (by (try simp only [List.map_toArray, List.map_cons, List.map_nil]); first | done | rfl | (simp only [List.length_drop, List.length_take]; rfl)) ?_; (with_reducible refine (laws_zzFits22.calls k _ _ l0 false _ ?side1 ?side2 A2.out).mono ?_); (case side1 => repeat (first | exact HR0.out | (with_reducible refine Kd.C_alloc ?_ _) | (with_reducible refine Kd.C_drewN ?_ _) | (with_reducible refine Kd.C_drew ?_))); (case side2 => exact HC0.out); rintro e w35 ⟨rfl, hb⟩; refine ⟨_, rfl, ?_⟩; have n0_ := Aside0.mk (below_step (by repeat (first | (with_reducible first | exact HB.out | apply below_alloc | apply pw_below_drewN | apply below_drew1) | exact HB.out)) hb); clear HB; have HB := n0_; clear n0_; (try clear hb); (try clear hb2); (try clear hk); (try clear hi)))
    go_ret
    exact ⟨by first | rfl | (simp [errW_none, errW_some] <;> rfl) | (simp [*, errW_none, errW_some] <;> rfl), by repeat (first | (with_reducible first | exact HB.out | apply below_alloc | apply pw_below_drewN | apply below_drew1) | exact HB.out)⟩
def wf_S32 (x : S32) : Prop := (IntKind.i64.min ≤ x.f0 ∧ x.f0 ≤ IntKind.i64.max) ∧ (x.f1.size ≤ maxLen)
def laws_FnConcat.Pure : Prop := ∀ (l0 : List (List (S32))), (l0.length ≤ 9223372036854775807 ∧ ∀ x ∈ l0, x.length ≤ 9223372036854775807 ∧ ∀ x_1 ∈ x, wf_S32 x_1) → ∃ k, laws_FnConcat.f k l0 = some true

end Go.Proofs.YtkdkkbadmjpkfaaDoor.M
