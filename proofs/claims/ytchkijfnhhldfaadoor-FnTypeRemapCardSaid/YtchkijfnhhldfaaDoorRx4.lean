-- WRITTEN BY OUR myprint.py, a program of this session's over the kit's printer
import Derived.Test.YtchkijfnhhldfaaDoorRx0
import Derived.Test.YtchkijfnhhldfaaDoorRx3
namespace Go.Proofs.YtchkijfnhhldfaaDoor.R
open Go.RowKit Go.Proofs.YtchkijfnhhldfaaDoorW.PrintWords Go.Proofs.YtchkijfnhhldfaaDoorW.PrintLast Go.Proofs.YtchkijfnhhldfaaDoorW.PrintMore
attribute [local go_sem] max2_int min2_int max_two min_two max_three min_three max_four min_four   -- for this text's walks alone
set_option linter.unusedVariables false
set_option linter.unusedSimpArgs false

/-! ### impl_TypeRemap: function 8 -/
namespace ZCoal

abbrev ZTk_C := S62
def ZTk_tokV (x : ZTk_C) : Value := .agg #[.int .i64 x.f0, .string x.f1]
def ZTk_eof : ZTk_C := ⟨0, ⟨#[]⟩⟩
/-- The next token, or the mark of the end. -/
def ZTk_hd : List ZTk_C → ZTk_C
  | [] => ZTk_eof
  | x :: _ => x
/-- Block g has from cell o on the tokens l. -/
def ZTk_Toks (W : World) (g o : Nat) (l : List ZTk_C) : Prop :=
  ∀ i (h : i < l.length), W.cell? ⟨g, o + 2 * i, none⟩ = some (.int .i64 l[i].f0) ∧ W.cell? ⟨g, o + 2 * i + 1, none⟩ = some (.string l[i].f1)
theorem ZTk_Toks.tail {W : World} {g o : Nat} {x : ZTk_C} {l : List ZTk_C} (h : ZTk_Toks W g o (x :: l)) : ZTk_Toks W g (o + 2) l := fun i hi => by
  have := h (i + 1) (by simp; omega)
  simp only [List.getElem_cons_succ] at this
  rw [show o + 2 * (i + 1) = o + 2 + 2 * i by omega] at this
  exact this
theorem ZTk_Toks.same {W W' : World} {g o : Nat} {l : List ZTk_C} (h : ZTk_Toks W g o l) (hb : W'.heap[g]? = W.heap[g]?) : ZTk_Toks W' g o l := fun i hi =>
  ⟨(World.cell?_of_block (a := ⟨g, _, none⟩) hb).trans (h i hi).1, (World.cell?_of_block (a := ⟨g, _, none⟩) hb).trans (h i hi).2⟩
/-- Block Bt holds what is left of a slice of tokens, l, in block g. -/
def LitAt (W : World) (Bt g : Nat) (l : List ZTk_C) : Prop :=
  ∃ A c, W.heap[Bt]? = some (.cells #[.slice A l.length c] 51 (0, 0)) ∧ l.length ≤ c ∧ (∃ cs t, W.heap[g]? = some (.cells cs t (0, 0)) ∧ 23 ≠ t ∧ 30 ≠ t) ∧ g ≠ Bt ∧ (l ≠ [] → ∃ o, A = some ⟨g, o, none⟩ ∧ ZTk_Toks W g o l)
theorem LitAt.lt {W : World} {Bt g : Nat} {l : List ZTk_C} (h : LitAt W Bt g l) : Bt < W.heap.size := by
  obtain ⟨A, c, h, _⟩ := h; exact blk_lt h
theorem LitAt.same {W W' : World} {Bt g : Nat} {l : List ZTk_C} (h : LitAt W Bt g l) (h1 : W'.heap[Bt]? = W.heap[Bt]?) (h2 : W'.heap[g]? = W.heap[g]?) : LitAt W' Bt g l := by
  obtain ⟨A, c, a1, a2, a3, a4, a5⟩ := h
  refine ⟨A, c, h1.trans a1, a2, ?_, a4, fun hl => ?_⟩
  · obtain ⟨cs, t, a3, a6, a7⟩ := a3
    exact ⟨cs, t, h2.trans a3, a6, a7⟩
  · obtain ⟨o, b1, b2⟩ := a5 hl
    exact ⟨o, b1, b2.same h2⟩
set_option maxHeartbeats 4000000 in
theorem next_nil (Bt g : Nat) (w : World) (hV : Go.Proofs.YtchkijfnhhldfaaDoorFmt.VarsOK w) (h : LitAt w Bt g []) :
    Calls Tryd.prog 52 #[.pointer (some ⟨Bt, 0, none⟩)] w fun e w' => e = .returned (ZTk_tokV ZTk_eof) ∧ w.grownBy w' none := by
  have hu := Tryd.underlying62
  obtain ⟨A, c, a1, a2, a3, a4, a5⟩ := h
  have c0 : w.cell? ⟨Bt, 0, none⟩ = some (.slice A 0 c) := (blk_cell a1 0).trans rfl
  have e0 := hV.e0
  have e1 := hV.e1
  have hlt : Bt < w.heap.size := blk_lt a1
  have hl0 : 0 < w.heap.size := World.block_lt_of_cell? w _ e0
  clear a1 a2 a3 a4 a5 hV
  go_enter Tryd.func52, Tryd.ntmps52
  go_wp2
  exact bodyPost_ret (results_cell_row rfl _ _ w.heap.size 62 #[.int .i64 0, .string ⟨#[]⟩] (0, 0) _ rfl (by simpa using heap_alloc_new w _) Tryd.underlying62 rfl (by kernel_rfl)) rfl ⟨rfl, World.grownBy_alloc w _ none⟩
theorem res_at (w : World) (p : Addr) (v : Value) (o1 o2 : Obj) : (((w.setCell p v).alloc o1).alloc o2).heap[w.heap.size]? = some o1 := by
  refine blk_alloc ?_ _
  have := blk_new (w.setCell p v) o1
  rw [World.size_setCell] at this
  exact this
theorem next_post {w : World} {Bt g o c : Nat} {x : ZTk_C} {l : List ZTk_C} {A : Option Addr} (A' : Option Addr) (c' : Nat) (a1 : w.heap[Bt]? = some (.cells #[.slice A (x :: l).length c] 51 (0, 0))) (a3 : ∃ cs t, w.heap[g]? = some (.cells cs t (0, 0)) ∧ 23 ≠ t ∧ 30 ≠ t) (a4 : g ≠ Bt)
    (hT : ZTk_Toks w g o (x :: l)) (hc : l.length ≤ c') (hA : l ≠ [] → A' = some ⟨g, o + 2, none⟩) (o1 o2 : Obj) :
    LitAt (((w.setCell ⟨Bt, 0, none⟩ (.slice A' l.length c')).alloc o1).alloc o2) Bt g l ∧ w.grownBy (((w.setCell ⟨Bt, 0, none⟩ (.slice A' l.length c')).alloc o1).alloc o2) (some Bt) := by
  have hg : w.grownBy (((w.setCell ⟨Bt, 0, none⟩ (.slice A' l.length c')).alloc o1).alloc o2) (some Bt) := by
    refine ⟨rfl, rfl, rfl, by simp; omega, fun k hk hne => ?_⟩
    have hk' : k < (w.setCell ⟨Bt, 0, none⟩ (.slice A' l.length c')).heap.size := by rw [World.size_setCell]; exact hk
    refine ((Below.heap_alloc _ o2 k (by simp; omega)).trans (Below.heap_alloc _ o1 k hk')).trans ?_
    exact Below.heap_setCell w ⟨Bt, 0, none⟩ _ k (fun e => hne (by rw [e]))
  obtain ⟨cs, t, a3, a6, a7⟩ := a3
  have hgs := hg.block g (blk_lt a3) (fun e => a4 (by injection e))
  exact ⟨⟨A', c', blk_alloc (blk_alloc (blk_put a1 0 _ rfl) _) _, hc, ⟨cs, t, hgs.trans a3, a6, a7⟩, a4, fun hl => ⟨o + 2, hA hl, hT.tail.same hgs⟩⟩, hg⟩
set_option maxRecDepth 100000 in
set_option maxHeartbeats 4000000 in
theorem next_cons (Bt g : Nat) (x : ZTk_C) (l : List ZTk_C) (w : World) (h : LitAt w Bt g (x :: l)) :
    Calls Tryd.prog 52 #[.pointer (some ⟨Bt, 0, none⟩)] w fun e w' => e = .returned (ZTk_tokV x) ∧ LitAt w' Bt g l ∧ w.grownBy w' (some Bt) := by
  have hu := Tryd.underlying62
  obtain ⟨A, c, a1, a2, a3, a4, a5⟩ := h
  obtain ⟨o, rfl, hT⟩ := a5 (by simp)
  have c0 : w.cell? ⟨Bt, 0, none⟩ = some (.slice (some ⟨g, o, none⟩) (l.length + 1) c) := (blk_cell a1 0).trans rfl
  have f0 := blk_frozen a1 0
  have t0 := (hT 0 (by simp)).1
  have t1 := (hT 0 (by simp)).2
  simp only [Nat.mul_zero, Nat.add_zero, List.getElem_cons_zero] at t0 t1
  simp only [List.length_cons] at a2
  have hne : ((l.length : Int) + 1 == 0) = false := beq_eq_false_iff_ne.2 (by omega)
  have hle : (l.length : Int) + 1 ≤ c := by omega
  have hlt : Bt < w.heap.size := blk_lt a1
  have hlg : g < w.heap.size := by
    obtain ⟨cs, t, a3, _⟩ := a3
    exact blk_lt a3
  go_enter Tryd.func52, Tryd.ntmps52
  go_wp2
  · have hl : l = [] := List.eq_nil_of_length_eq_zero (by omega)
    obtain ⟨p1, p2⟩ := next_post (some ⟨g, o, none⟩) 0 a1 a3 a4 hT (by omega) (fun h => absurd hl h) (.cells #[.int .i64 x.f0, .string x.f1] 62) (.cells #[.int .i64 x.f0, .string x.f1] 62)
    exact bodyPost_ret (results_cell_row rfl _ _ w.heap.size 62 #[.int .i64 x.f0, .string x.f1] (0, 0) _ rfl (res_at _ _ _ _ _) Tryd.underlying62 rfl (by kernel_rfl)) rfl ⟨rfl, p1, p2⟩
  · obtain ⟨p1, p2⟩ := next_post (some ⟨g, o + 2, none⟩) (c - 1) a1 a3 a4 hT (by omega) (fun h => rfl) (.cells #[.int .i64 x.f0, .string x.f1] 62) (.cells #[.int .i64 x.f0, .string x.f1] 62)
    exact bodyPost_ret (results_cell_row rfl _ _ w.heap.size 62 #[.int .i64 x.f0, .string x.f1] (0, 0) _ rfl (res_at _ _ _ _ _) Tryd.underlying62 rfl (by kernel_rfl)) rfl ⟨rfl, p1, p2⟩
theorem eof_ne {w : World} {Bt : Nat} {v : Value} {t : TypeId} (hV : Go.Proofs.YtchkijfnhhldfaaDoorFmt.VarsOK w) (h : w.heap[Bt]? = some (.cells #[v] t (0, 0))) : 0 ≠ Bt := fun e => by
  have h1 := blk_cell h 1
  rw [← e, hV.e1] at h1
  cases h1
theorem vars_kept {w w' : World} (hV : Go.Proofs.YtchkijfnhhldfaaDoorFmt.VarsOK w) (h : w'.heap[0]? = w.heap[0]?) : Go.Proofs.YtchkijfnhhldfaaDoorFmt.VarsOK w' :=
  ⟨(World.cell?_of_block (a := ⟨0, 0, none⟩) h).trans hV.e0, (World.cell?_of_block (a := ⟨0, 1, none⟩) h).trans hV.e1⟩
theorem vars_lt {w : World} (hV : Go.Proofs.YtchkijfnhhldfaaDoorFmt.VarsOK w) : 0 < w.heap.size := World.block_lt_of_cell? w _ hV.e0
/-- The closure at any rest. -/
theorem next_c (Bt g : Nat) (l : List ZTk_C) (w : World) (hV : Go.Proofs.YtchkijfnhhldfaaDoorFmt.VarsOK w) (h : LitAt w Bt g l) :
    Calls Tryd.prog 52 #[.pointer (some ⟨Bt, 0, none⟩)] w fun e w' => e = .returned (ZTk_tokV (ZTk_hd l)) ∧ LitAt w' Bt g l.tail ∧ w.grownBy w' (some Bt) ∧ Go.Proofs.YtchkijfnhhldfaaDoorFmt.VarsOK w' := by
  cases l with
  | nil =>
    refine (next_nil Bt g w hV h).mono ?_
    rintro e w' ⟨rfl, hg⟩
    have h1 := hg.block Bt h.lt (by simp)
    obtain ⟨A, c, a1, a2, ⟨cs, t, a3, a6, a7⟩, a4, a5⟩ := h
    exact ⟨rfl, LitAt.same ⟨A, c, a1, a2, ⟨cs, t, a3, a6, a7⟩, a4, a5⟩ h1 (hg.block g (blk_lt a3) (by simp)), World.grownBy.but hg _, vars_kept hV (hg.block _ (vars_lt hV) (by simp))⟩
  | cons x l =>
    refine (next_cons Bt g x l w h).mono ?_
    rintro e w' ⟨rfl, h1, hg⟩
    obtain ⟨A, c, a1, _⟩ := h
    exact ⟨rfl, h1, hg, vars_kept hV (hg.block _ (vars_lt hV) (fun e => eof_ne hV a1 (by injection e)))⟩
/-- What a step keeps: all but the blocks from b0 to b1. -/
structure ZTk_Fr (b0 b1 : Nat) (w w' : World) : Prop where
  os : w'.os = w.os
  tape : w'.tape = w.tape
  output : w'.output = w.output
  size : w.heap.size ≤ w'.heap.size
  block : ∀ k, k < w.heap.size → k < b0 ∨ b1 ≤ k → w'.heap[k]? = w.heap[k]?
theorem ZTk_Fr.refl (b0 b1 : Nat) (w : World) : ZTk_Fr b0 b1 w w := ⟨rfl, rfl, rfl, Nat.le_refl _, fun _ _ _ => rfl⟩
theorem ZTk_Fr.trans {b0 b1 : Nat} {a b c : World} (h : ZTk_Fr b0 b1 a b) (k : ZTk_Fr b0 b1 b c) : ZTk_Fr b0 b1 a c :=
  ⟨k.os.trans h.os, k.tape.trans h.tape, k.output.trans h.output, Nat.le_trans h.size k.size, fun i hi hb => (k.block i (Nat.lt_of_lt_of_le hi h.size) hb).trans (h.block i hi hb)⟩
theorem ZTk_Fr.of_grown {b0 b1 B : Nat} {w w' : World} (h : w.grownBy w' (some B)) (h0 : b0 ≤ B) (h1 : B < b1) : ZTk_Fr b0 b1 w w' :=
  ⟨h.os, h.tape, h.output, h.size, fun k hk hb => h.block k hk (fun e => by injection e; omega)⟩
theorem ZTk_Fr.set {b0 b1 B : Nat} (w : World) (j : Nat) (v : Value) (h0 : b0 ≤ B) (h1 : B < b1) : ZTk_Fr b0 b1 w (w.setCell ⟨B, j, none⟩ v) :=
  ⟨rfl, rfl, rfl, by rw [World.size_setCell]; exact Nat.le_refl _, fun k hk hb => Below.heap_setCell w ⟨B, j, none⟩ v k (by show k ≠ B; omega)⟩
theorem ZTk_Fr.alloc {b0 b1 : Nat} (w : World) (o : Obj) : ZTk_Fr b0 b1 w (w.alloc o) :=
  ⟨rfl, rfl, rfl, by simp, fun k hk _ => Below.heap_alloc w o k hk⟩
theorem ZTk_Fr.below {b0 b1 : Nat} {w0 w w' : World} (h : ZTk_Fr b0 b1 w w') (hB : Below b0 w0 w) (hb : b0 ≤ w.heap.size) : Below b0 w0 w' :=
  ⟨h.os.trans hB.os, h.tape.trans hB.tape, h.output.trans hB.output, Nat.le_trans hB.size h.size, fun k hk => (h.block k (by omega) (.inl hk)).trans (hB.block k hk)⟩
def ZTk_itV (Bt : Nat) : Value := .func (.func 52) #[] #[.pointer (some ⟨Bt, 0, none⟩)]
/-- No token has been kept. -/
def isE (p : ZTk_C) : Bool := p.f0 == 0 && p.f1.size == 0
/-- What a call gives: a token, the one that is kept then, and what is left. -/
def coalN : ZTk_C → List ZTk_C → ZTk_C × ZTk_C × List ZTk_C
  | p, [] => (p, ZTk_eof, [])
  | p, t :: r => if t.f1.size = 0 then coalN p r else if isE p = true then coalN t r else if p.f0 = t.f0 then coalN ⟨p.f0, p.f1 ++ t.f1⟩ r else (p, t, r)
/-- All that the calls give. -/
def runsL : ZTk_C → List ZTk_C → List ZTk_C
  | p, [] => if isE p = true then [] else [p]
  | p, t :: r => if t.f1.size = 0 then runsL p r else if isE p = true then runsL t r else if p.f0 = t.f0 then runsL ⟨p.f0, p.f1 ++ t.f1⟩ r else p :: runsL t r
theorem bytes0 {s : ByteArray} (h : s.size = 0) : s = ⟨#[]⟩ := by
  obtain ⟨⟨l⟩⟩ := s
  have : l.length = 0 := h
  rw [List.eq_nil_of_length_eq_zero this]
theorem isE_eof {p : ZTk_C} (h : isE p = true) : p = ZTk_eof := by
  obtain ⟨a, b⟩ := p
  unfold isE at h
  rw [Bool.and_eq_true, beq_iff_eq, beq_iff_eq] at h
  obtain ⟨h1, h2⟩ := h
  have h1 : a = 0 := h1
  have h2 : b.size = 0 := h2
  rw [h1, bytes0 h2]
  rfl
theorem coalN_hd : ∀ (l : List ZTk_C) (p : ZTk_C), (coalN p l).1 = ZTk_hd (runsL p l)
  | [], p => by
    unfold coalN runsL
    by_cases h : isE p = true
    · rw [if_pos h]; exact isE_eof h
    · rw [if_neg h]; rfl
  | t :: r, p => by
    unfold coalN runsL
    by_cases h1 : t.f1.size = 0
    · rw [if_pos h1, if_pos h1]; exact coalN_hd r p
    · rw [if_neg h1, if_neg h1]
      by_cases h2 : isE p = true
      · rw [if_pos h2, if_pos h2]; exact coalN_hd r t
      · rw [if_neg h2, if_neg h2]
        by_cases h3 : p.f0 = t.f0
        · rw [if_pos h3, if_pos h3]; exact coalN_hd r _
        · rw [if_neg h3, if_neg h3]; rfl
theorem coalN_tail : ∀ (l : List ZTk_C) (p : ZTk_C), runsL (coalN p l).2.1 (coalN p l).2.2 = (runsL p l).tail
  | [], p => by
    have e : runsL ZTk_eof [] = [] := by unfold runsL; rw [if_pos (by rfl)]
    unfold coalN
    show runsL ZTk_eof [] = _
    rw [e]
    unfold runsL
    split <;> rfl
  | t :: r, p => by
    unfold coalN
    conv => rhs; unfold runsL
    by_cases h1 : t.f1.size = 0
    · rw [if_pos h1, if_pos h1]; exact coalN_tail r p
    · rw [if_neg h1, if_neg h1]
      by_cases h2 : isE p = true
      · rw [if_pos h2, if_pos h2]; exact coalN_tail r t
      · rw [if_neg h2, if_neg h2]
        by_cases h3 : p.f0 = t.f0
        · rw [if_pos h3, if_pos h3]; exact coalN_tail r _
        · rw [if_neg h3, if_neg h3]; rfl
/-- How many bytes tokens have. -/
def szL (l : List ZTk_C) : Nat := (l.map fun x => x.f1.size).sum
theorem szL_cons (x : ZTk_C) (l : List ZTk_C) : szL (x :: l) = x.f1.size + szL l := rfl
theorem size_cat (a b : ByteArray) : (a ++ b).size = a.size + b.size := ByteArray.size_append
theorem coalN_sz : ∀ (l : List ZTk_C) (p : ZTk_C), (coalN p l).2.1.f1.size + szL (coalN p l).2.2 ≤ p.f1.size + szL l ∧ (coalN p l).2.2.length ≤ l.length ∧ ((∀ x ∈ l, x.f0 ≠ 0) → (∀ x ∈ (coalN p l).2.2, x.f0 ≠ 0) ∧ ((isE (coalN p l).2.1 = true) ∨ (coalN p l).2.1.f0 ≠ 0))
  | [], p => by
    unfold coalN
    exact ⟨Nat.zero_le _, Nat.le_refl _, fun _ => ⟨fun x hx => (by cases hx), .inl rfl⟩⟩
  | t :: r, p => by
    have k := szL_cons t r
    have hmem : (∀ x ∈ t :: r, x.f0 ≠ 0) → ∀ x ∈ r, x.f0 ≠ 0 := fun h x hx => h x (List.mem_cons_of_mem _ hx)
    unfold coalN
    by_cases h1 : t.f1.size = 0
    · rw [if_pos h1]
      obtain ⟨a, b, c⟩ := coalN_sz r p
      exact ⟨by omega, by simp; omega, fun h => c (hmem h)⟩
    · rw [if_neg h1]
      by_cases h2 : isE p = true
      · rw [if_pos h2]
        obtain ⟨a, b, c⟩ := coalN_sz r t
        exact ⟨by omega, by simp; omega, fun h => c (hmem h)⟩
      · rw [if_neg h2]
        by_cases h3 : p.f0 = t.f0
        · rw [if_pos h3]
          obtain ⟨a, b, c⟩ := coalN_sz r ⟨p.f0, p.f1 ++ t.f1⟩
          have e : (⟨p.f0, p.f1 ++ t.f1⟩ : ZTk_C).f1.size = p.f1.size + t.f1.size := size_cat _ _
          exact ⟨by omega, by simp; omega, fun h => c (hmem h)⟩
        · rw [if_neg h3]
          exact ⟨by show t.f1.size + szL r ≤ _; omega, by simp, fun h => ⟨hmem h, .inr (h t List.mem_cons_self)⟩⟩
theorem runsL_good : ∀ (l : List ZTk_C) (p : ZTk_C), (∀ x ∈ l, x.f0 ≠ 0) → (isE p = true ∨ p.f0 ≠ 0) → ∀ x ∈ runsL p l, x.f0 ≠ 0
  | [], p, _, hp, x, hx => by
    unfold runsL at hx
    split at hx
    · cases hx
    · rename_i h
      rw [List.mem_singleton.1 hx]
      rcases hp with hp | hp
      · exact absurd hp h
      · exact hp
  | t :: r, p, hl, hp, x, hx => by
    have hr : ∀ x ∈ r, x.f0 ≠ 0 := fun x hx => hl x (List.mem_cons_of_mem _ hx)
    have ht : t.f0 ≠ 0 := hl t List.mem_cons_self
    unfold runsL at hx
    split at hx
    · exact runsL_good r p hr hp x hx
    · split at hx
      · exact runsL_good r t hr (.inr ht) x hx
      · rename_i h2
        have hp0 : p.f0 ≠ 0 := by
          rcases hp with hp | hp
          · exact absurd hp h2
          · exact hp
        split at hx
        · exact runsL_good r ⟨p.f0, p.f1 ++ t.f1⟩ hr (.inr hp0) x hx
        · rcases List.mem_cons.1 hx with e | hx
          · rw [e]; exact hp0
          · exact runsL_good r t hr (.inr ht) x hx
theorem runsL_len : ∀ (l : List ZTk_C) (p : ZTk_C), (runsL p l).length ≤ l.length + 1
  | [], p => by unfold runsL; split <;> simp
  | t :: r, p => by
    have h1 := runsL_len r p
    have h2 := runsL_len r t
    have h3 := runsL_len r ⟨p.f0, p.f1 ++ t.f1⟩
    unfold runsL
    split
    · simp; omega
    · split
      · simp; omega
      · split
        · simp; omega
        · simp; omega
/-- A coalescer's state: the token that is kept (block Bp), the iterator (block Bi) over what is left of a slice (blocks Bt, g). -/
structure CoAt (W : World) (b0 b1 Bp Bi Bt g : Nat) (p : ZTk_C) (l : List ZTk_C) : Prop where
  prev : W.heap[Bp]? = some (.cells #[.int .i64 p.f0, .string p.f1] 62 (0, 0))
  it : W.heap[Bi]? = some (.cells #[ZTk_itV Bt] 79 (0, 0))
  lit : LitAt W Bt g l
  np : b0 ≤ Bp ∧ Bp < b1
  ni : Bi < b1
  nt : b0 ≤ Bt ∧ Bt < b1
  ng : g < b1
  pg : Bp ≠ g
theorem lit_cell {W : World} {Bt g : Nat} {l : List ZTk_C} (h : LitAt W Bt g l) : ∃ A c, W.heap[Bt]? = some (.cells #[.slice A l.length c] 51 (0, 0)) := by
  obtain ⟨A, c, h, _⟩ := h; exact ⟨A, c, h⟩
theorem lit_g {W : World} {Bt g : Nat} {l : List ZTk_C} (h : LitAt W Bt g l) : g < W.heap.size := by
  obtain ⟨A, c, _, _, ⟨cs, t, h, _⟩, _⟩ := h; exact blk_lt h
theorem blk_ne' {W : World} {a b t u : Nat} {cs ds : Array Value} (h1 : W.heap[a]? = some (.cells cs t (0, 0))) (h2 : W.heap[b]? = some (.cells ds u (0, 0))) (hne : t ≠ u) : a ≠ b := fun e => by
  rw [e, h2] at h1
  injection h1 with h1
  injection h1 with _ h1
  exact hne h1.symm
theorem CoAt.pt {W : World} {b0 b1 Bp Bi Bt g : Nat} {p : ZTk_C} {l : List ZTk_C} (h : CoAt W b0 b1 Bp Bi Bt g p l) : Bp ≠ Bt ∧ Bi ≠ Bt ∧ Bi ≠ Bp := by
  obtain ⟨A, c, hB⟩ := lit_cell h.lit
  exact ⟨blk_ne' h.prev hB (by decide), blk_ne' h.it hB (by decide), blk_ne' h.it h.prev (by decide)⟩
/-- Behind whatever leaves the blocks below b1 as they were. -/
theorem CoAt.same {W W' : World} {b0 b1 Bp Bi Bt g : Nat} {p : ZTk_C} {l : List ZTk_C} (h : CoAt W b0 b1 Bp Bi Bt g p l) (hk : ∀ k, k < b1 → k < W.heap.size → W'.heap[k]? = W.heap[k]?) : CoAt W' b0 b1 Bp Bi Bt g p l :=
  ⟨(hk _ h.np.2 (blk_lt h.prev)).trans h.prev, (hk _ h.ni (blk_lt h.it)).trans h.it, h.lit.same (hk _ h.nt.2 h.lit.lt) (hk _ h.ng (lit_g h.lit)), h.np, h.ni, h.nt, h.ng, h.pg⟩
/-- Behind a call of the iterator. -/
theorem CoAt.next {W W' : World} {b0 b1 Bp Bi Bt g : Nat} {p : ZTk_C} {l : List ZTk_C} (h : CoAt W b0 b1 Bp Bi Bt g p l) (hg : W.grownBy W' (some Bt)) (hl : LitAt W' Bt g l.tail) : CoAt W' b0 b1 Bp Bi Bt g p l.tail := by
  obtain ⟨h1, h2, h3⟩ := h.pt
  exact ⟨(hg.block _ (blk_lt h.prev) (fun e => h1 (by injection e))).trans h.prev, (hg.block _ (blk_lt h.it) (fun e => h2 (by injection e))).trans h.it, hl, h.np, h.ni, h.nt, h.ng, h.pg⟩
/-- Behind the stores of another token into the block of the one that is kept. -/
theorem CoAt.keep {W : World} {b0 b1 Bp Bi Bt g : Nat} {p : ZTk_C} {l : List ZTk_C} (h : CoAt W b0 b1 Bp Bi Bt g p l) (q : ZTk_C) : CoAt ((W.setCell ⟨Bp, 0, none⟩ (.int .i64 q.f0)).setCell ⟨Bp, 1, none⟩ (.string q.f1)) b0 b1 Bp Bi Bt g q l := by
  obtain ⟨h1, h2, h3⟩ := h.pt
  have far : ∀ k, k ≠ Bp → ((W.setCell ⟨Bp, 0, none⟩ (.int .i64 q.f0)).setCell ⟨Bp, 1, none⟩ (.string q.f1)).heap[k]? = W.heap[k]? := fun k hk =>
    (Below.heap_setCell _ ⟨Bp, 1, none⟩ _ k hk).trans (Below.heap_setCell _ ⟨Bp, 0, none⟩ _ k hk)
  exact ⟨blk_put (blk_put h.prev 0 _ rfl) 1 _ rfl, (far _ h3).trans h.it, h.lit.same (far _ (fun e => h1 e.symm)) (far _ (fun e => h.pg e.symm)), h.np, h.ni, h.nt, h.ng, h.pg⟩
theorem CoAt.keep1 {W : World} {b0 b1 Bp Bi Bt g : Nat} {p : ZTk_C} {l : List ZTk_C} (h : CoAt W b0 b1 Bp Bi Bt g p l) (s : ByteArray) : CoAt (W.setCell ⟨Bp, 1, none⟩ (.string s)) b0 b1 Bp Bi Bt g ⟨p.f0, s⟩ l := by
  obtain ⟨h1, h2, h3⟩ := h.pt
  have far : ∀ k, k ≠ Bp → (W.setCell ⟨Bp, 1, none⟩ (.string s)).heap[k]? = W.heap[k]? := fun k hk => Below.heap_setCell _ ⟨Bp, 1, none⟩ _ k hk
  exact ⟨blk_put h.prev 1 _ rfl, (far _ h3).trans h.it, h.lit.same (far _ (fun e => h1 e.symm)) (far _ (fun e => h.pg e.symm)), h.np, h.ni, h.nt, h.ng, h.pg⟩
theorem ZTk_Fr.keep {b0 b1 Bp : Nat} (W : World) (q : ZTk_C) (h : b0 ≤ Bp ∧ Bp < b1) : ZTk_Fr b0 b1 W ((W.setCell ⟨Bp, 0, none⟩ (.int .i64 q.f0)).setCell ⟨Bp, 1, none⟩ (.string q.f1)) := (ZTk_Fr.set W 0 _ h.1 h.2).trans (ZTk_Fr.set _ 1 _ h.1 h.2)
/-- While the closure runs: q is kept, the token in block Bx and what the iterator has left are to come. -/
structure CI (b0 b1 Bp Bi Bt g : Nat) (p : ZTk_C) (l : List ZTk_C) (w : World) (Bx : Nat) (q : ZTk_C) (rest : List ZTk_C) (wr : World) : Prop where
  eq : coalN q rest = coalN p l
  co : CoAt wr b0 b1 Bp Bi Bt g q rest.tail
  hx : wr.heap[Bx]? = some (.cells #[.int .i64 (ZTk_hd rest).f0, .string (ZTk_hd rest).f1] 62 (0, 0))
  bx : w.heap.size < Bx
  hr : wr.heap[w.heap.size]? = some (.cells #[.int .i64 0, .string ⟨#[]⟩] 62 (0, 0))
  hF : ZTk_Fr b0 b1 w wr
  nz : ∀ x ∈ rest, x.f0 ≠ 0
  ok : isE q = true ∨ q.f0 ≠ 0
  sz : q.f1.size + szL rest ≤ 8191
theorem co_vars {b0 b1 : Nat} {w w' : World} (hV : Go.Proofs.YtchkijfnhhldfaaDoorFmt.VarsOK w) (hE : 0 < b0) (h : ZTk_Fr b0 b1 w w') : Go.Proofs.YtchkijfnhhldfaaDoorFmt.VarsOK w' := vars_kept hV (h.block _ (vars_lt hV) (.inl hE))
theorem ZTk_Fr.far {b0 b1 k : Nat} {w w' : World} {o : Obj} (h : ZTk_Fr b0 b1 w w') (hk : b1 ≤ k) (hb : w.heap[k]? = some o) : w'.heap[k]? = some o := by
  have hlt : k < w.heap.size := by
    rcases Nat.lt_or_ge k w.heap.size with h | h
    · exact h
    · rw [Array.getElem?_eq_none h] at hb; cases hb
  exact (h.block k hlt (.inr hk)).trans hb
theorem co_fin {b0 b1 Bp Bi Bt g : Nat} {q : ZTk_C} {l : List ZTk_C} {w W : World} (hb : b1 ≤ w.heap.size) (hF : ZTk_Fr b0 b1 w W) {cs : Array Value} (hr : W.heap[w.heap.size]? = some (.cells cs 62 (0, 0))) (hcs : cs.size = 2) (co : CoAt W b0 b1 Bp Bi Bt g q l) (t : ZTk_C) (ob : Obj) :
    (((W.setCell ⟨w.heap.size, 0, none⟩ (.int .i64 t.f0)).setCell ⟨w.heap.size, 1, none⟩ (.string t.f1)).alloc ob).heap[w.heap.size]? = some (.cells #[.int .i64 t.f0, .string t.f1] 62 (0, 0)) ∧
    CoAt (((W.setCell ⟨w.heap.size, 0, none⟩ (.int .i64 t.f0)).setCell ⟨w.heap.size, 1, none⟩ (.string t.f1)).alloc ob) b0 b1 Bp Bi Bt g q l ∧ ZTk_Fr b0 b1 w (((W.setCell ⟨w.heap.size, 0, none⟩ (.int .i64 t.f0)).setCell ⟨w.heap.size, 1, none⟩ (.string t.f1)).alloc ob) := by
  have far : ∀ k, k ≠ w.heap.size → k < W.heap.size → (((W.setCell ⟨w.heap.size, 0, none⟩ (.int .i64 t.f0)).setCell ⟨w.heap.size, 1, none⟩ (.string t.f1)).alloc ob).heap[k]? = W.heap[k]? := fun k hk hlt =>
    (Below.heap_alloc _ ob k (by rw [World.size_setCell, World.size_setCell]; exact hlt)).trans ((Below.heap_setCell _ ⟨w.heap.size, 1, none⟩ _ k hk).trans (Below.heap_setCell _ ⟨w.heap.size, 0, none⟩ _ k hk))
  have hsz := hF.size
  refine ⟨blk_alloc (blk_put (blk_put hr 0 _ rfl) 1 _ ?_) _, co.same (fun k hk hlt => far k (by omega) hlt), ⟨hF.os, hF.tape, hF.output, ?_, fun k hk hkb => (far k (by omega) (by omega)).trans (hF.block k hk hkb)⟩⟩
  · obtain ⟨x, y, rfl⟩ : ∃ x y, cs = #[x, y] := by
      obtain ⟨l⟩ := cs
      match l, hcs with
      | [a, b], _ => exact ⟨a, b, rfl⟩
    rfl
  · simp; omega
theorem ci_box {b0 b1 Bt B9 : Nat} {x : ZTk_C} {w W w2 : World} (hb : b1 ≤ w.heap.size) (ht : Bt < b1) (hF : ZTk_Fr b0 b1 w W) (h9 : B9 = W.heap.size) (hg : (W.alloc (.cells #[.int .i64 x.f0, .string x.f1] 62)).grownBy w2 (some Bt)) :
    w2.heap[B9]? = some (.cells #[.int .i64 x.f0, .string x.f1] 62 (0, 0)) := by
  subst h9
  have := hF.size
  exact (hg.block _ (by simp) (fun e => by injection e with e; omega)).trans (blk_new W _)
theorem ci_next {b0 b1 Bp Bi Bt g B9 : Nat} {p x q : ZTk_C} {l r : List ZTk_C} {w W w2 : World} (hb : b1 ≤ w.heap.size) (hF : ZTk_Fr b0 b1 w W) (h9 : B9 = W.heap.size) (co : CoAt W b0 b1 Bp Bi Bt g q r) (hr : W.heap[w.heap.size]? = some (.cells #[.int .i64 0, .string ⟨#[]⟩] 62 (0, 0)))
    (hg : (W.alloc (.cells #[.int .i64 x.f0, .string x.f1] 62)).grownBy w2 (some Bt)) (hl : LitAt w2 Bt g r.tail) (heq : coalN q r = coalN p l) (nz : ∀ y ∈ r, y.f0 ≠ 0) (ok : isE q = true ∨ q.f0 ≠ 0) (sz : q.f1.size + szL r ≤ 8191) :
    CI b0 b1 Bp Bi Bt g p l w B9 q r ((w2.setCell ⟨B9, 0, none⟩ (.int .i64 (ZTk_hd r).f0)).setCell ⟨B9, 1, none⟩ (.string (ZTk_hd r).f1)) := by
  have hx2 := ci_box hb co.nt.2 hF h9 hg
  subst h9
  have hsz := hF.size
  have hlr := blk_lt hr
  have hF2 : ZTk_Fr b0 b1 w w2 := (hF.trans (ZTk_Fr.alloc W _)).trans (ZTk_Fr.of_grown hg co.nt.1 co.nt.2)
  have co2 : CoAt w2 b0 b1 Bp Bi Bt g q r.tail := (co.same (fun k hk hlt => Below.heap_alloc W _ k hlt)).next hg hl
  have hr2 : w2.heap[w.heap.size]? = some (.cells #[.int .i64 0, .string ⟨#[]⟩] 62 (0, 0)) := (hg.block _ (by simp; omega) (fun e => by injection e with e; have := co.nt.2; omega)).trans (blk_alloc hr _)
  have far : ∀ k, k ≠ W.heap.size → ((w2.setCell ⟨W.heap.size, 0, none⟩ (.int .i64 (ZTk_hd r).f0)).setCell ⟨W.heap.size, 1, none⟩ (.string (ZTk_hd r).f1)).heap[k]? = w2.heap[k]? := fun k hk =>
    (Below.heap_setCell _ ⟨W.heap.size, 1, none⟩ _ k hk).trans (Below.heap_setCell _ ⟨W.heap.size, 0, none⟩ _ k hk)
  refine ⟨heq, co2.same (fun k hk _ => far k (by omega)), blk_put (blk_put hx2 0 _ rfl) 1 _ rfl, by omega, (far _ (by omega)).trans hr2, ⟨hF2.os, hF2.tape, hF2.output, ?_, fun k hk hkb => (far k (by omega)).trans (hF2.block k hk hkb)⟩, nz, ok, sz⟩
  rw [World.size_setCell, World.size_setCell]; exact hF2.size
def CoRes (b0 b1 Bp Bi Bt g : Nat) (r : ZTk_C × ZTk_C × List ZTk_C) (w : World) (e : Ending) (w' : World) : Prop :=
  e = .returned (.agg #[.int .i64 r.1.f0, .string r.1.f1]) ∧ CoAt w' b0 b1 Bp Bi Bt g r.2.1 r.2.2 ∧ ZTk_Fr b0 b1 w w'
abbrev ZTk_T := S30
abbrev ZTk_kT : Kd ZTk_T := k30
abbrev ZTk_kC : Kd ZTk_C := k62
abbrev ZTk_RC (w : World) (base : Nat) (v : Value) (xs : List ZTk_C) : Prop := Kd.R ZTk_kC 62 w base (fun _ => True) v xs
abbrev toCC (x : ZTk_T) : ZTk_C := ⟨x.f0, x.f1⟩
abbrev toTT (x : ZTk_C) : ZTk_T := ⟨x.f0, x.f1⟩
open Go.Proofs.YtchkijfnhhldfaaDoorEvt (Evt Evt.step Evt.pure Evt.congr wrap_nat) in
theorem inner_loop (xs : List ZTk_T) (hn : xs.length ≤ 2147483647) : ∀ (d i : Nat) (acc : List ZTk_C), xs.length = i + d → acc.length ≤ i →
    Evt (fun k => impl_inner.l0 k acc xs (xs.length : Int) (i : Int)) (acc ++ (xs.drop i).map toCC) := by
  have rdT : ∀ (i : Nat) (h : i < xs.length), rd_T30 xs (i : Int) = xs[i] := fun i h => by simp [rd_T30, List.getD_eq_getElem?_getD, h]
  intro d
  induction d with
  | zero =>
    intro i acc hi hacc
    refine Evt.step (h := fun _ => some _) (fun k => ?_) (Evt.pure _)
    simp only [impl_inner.l0]; rw [if_neg (by omega), List.drop_eq_nil_of_le (by omega)]; simp
  | succ d ih =>
    intro i acc hi hacc
    have hlt : i < xs.length := by omega
    have h1 := ih (i + 1) (acc ++ [⟨xs[i].f0, xs[i].f1⟩]) (by omega) (by simp; omega)
    rw [List.drop_eq_getElem_cons hlt, List.map_cons, ← List.singleton_append, ← List.append_assoc]
    refine Evt.step (fun k => ?_) h1
    simp only [impl_inner.l0]; rw [if_pos (by omega), if_pos (by omega), if_pos (by omega), rdT _ hlt, if_pos (by omega), wrap_nat (by omega)]
theorem inner_some (xs : List ZTk_T) (hn : xs.length ≤ 2147483647) : ∃ k, impl_inner.f k xs = some (xs.map toCC) := by
  obtain ⟨N, h⟩ := inner_loop xs hn xs.length 0 [] (by omega) (by simp)
  refine ⟨N, ?_⟩
  have := h N (Nat.le_refl _)
  simpa [impl_inner.f] using this
open Go.Proofs.YtchkijfnhhldfaaDoorEvt (Evt Evt.step Evt.pure Evt.congr wrap_nat) in
theorem outer_loop (xs : List ZTk_C) (hn : xs.length ≤ 2147483647) : ∀ (d i : Nat) (acc : List ZTk_T), xs.length = i + d → acc.length ≤ i →
    Evt (fun k => impl_outer.l0 k acc xs (xs.length : Int) (i : Int)) (acc ++ (xs.drop i).map toTT) := by
  have rdC : ∀ (i : Nat) (h : i < xs.length), rd_T62 xs (i : Int) = xs[i] := fun i h => by simp [rd_T62, List.getD_eq_getElem?_getD, h]
  intro d
  induction d with
  | zero =>
    intro i acc hi hacc
    refine Evt.step (h := fun _ => some _) (fun k => ?_) (Evt.pure _)
    simp only [impl_outer.l0]; rw [if_neg (by omega), List.drop_eq_nil_of_le (by omega)]; simp
  | succ d ih =>
    intro i acc hi hacc
    have hlt : i < xs.length := by omega
    have h1 := ih (i + 1) (acc ++ [⟨xs[i].f0, xs[i].f1⟩]) (by omega) (by simp; omega)
    rw [List.drop_eq_getElem_cons hlt, List.map_cons, ← List.singleton_append, ← List.append_assoc]
    refine Evt.step (fun k => ?_) h1
    simp only [impl_outer.l0]; rw [if_pos (by omega), if_pos (by omega), if_pos (by omega), rdC _ hlt, if_pos (by omega), wrap_nat (by omega)]
theorem outer_some (xs : List ZTk_C) (hn : xs.length ≤ 2147483647) : ∃ k, impl_outer.f k xs = some (xs.map toTT) := by
  obtain ⟨N, h⟩ := outer_loop xs hn xs.length 0 [] (by omega) (by simp)
  refine ⟨N, ?_⟩
  have := h N (Nat.le_refl _)
  simpa [impl_outer.f] using this
set_option maxHeartbeats 4000000 in
theorem litm_c (A0 : Option Addr) (n c : Nat) (w : World) : Calls Tryd.prog 51 #[.slice A0 n c] w fun e w' => e = .returned (ZTk_itV w.heap.size) ∧ w' = w.alloc (.cells #[.slice A0 n c] 51) := by
  have hmf : ∀ (fn : Fn) (first cap : Array Value) (w : World), (Instr.makeFunc fn first cap).run Tryd.prog w = .ok (.func fn first cap) w := fun _ _ _ _ => rfl
  go_enter Tryd.func51, Tryd.ntmps51
  go_wp2
  go_ret
  exact ⟨rfl, rfl⟩
/-- What inner hands back is a slice for the closure; Bn: any block for an empty one. -/
theorem lit_of {w : World} {base Bn t : Nat} {cs : Array Value} {v : Value} {l : List ZTk_C} (h : ZTk_RC w base v l) (hb : base ≤ w.heap.size) (hN : w.heap[Bn]? = some (.cells cs t (0, 0))) (t1 : 23 ≠ t) (t2 : 30 ≠ t) :
    ∃ A c, v = .slice A l.length c ∧ ∃ g, LitAt (w.alloc (.cells #[v] 51)) w.heap.size g l ∧ g < w.heap.size ∧ (g = Bn ∨ base ≤ g) := by
  obtain ⟨A, c, rfl⟩ := Kd.R_slice h
  obtain ⟨_, hc, hC⟩ := Kd.R_reads' h
  by_cases hne : l = []
  · have hb := blk_lt hN
    exact ⟨A, c, rfl, Bn, ⟨A, c, blk_new _ _, hc, ⟨_, _, blk_alloc hN _, t1, t2⟩, by omega, fun h => absurd hne h⟩, hb, .inl rfl⟩
  have hpos : 0 < l.length := List.length_pos_iff.2 hne
  obtain ⟨g, cap, e, hbg, hlt, cs, hcs⟩ := Kd.R_form h hpos
  injection e with e _ _
  subst e
  refine ⟨some ⟨g, 0, none⟩, c, rfl, g, ⟨some ⟨g, 0, none⟩, c, blk_new _ _, hc, ⟨cs, _, blk_alloc hcs _, by decide, by decide⟩, by omega, fun _ => ⟨0, rfl, fun i hi => ?_⟩⟩, hlt, .inr hbg⟩
  obtain ⟨ad, e1, h0, h1⟩ := at_T62 hC (i : Int) (by omega) (by omega)
  injection e1 with e1
  subst e1
  have rdC : rd_T62 l (i : Int) = l[i] := by simp [rd_T62, List.getD_eq_getElem?_getD, hi]
  rw [rdC] at h0 h1
  have q : ∀ a : Addr, a.block = g → (w.alloc (.cells #[.slice (some ⟨g, 0, none⟩) l.length c] 51)).cell? a = w.cell? a := fun a ha => World.cell?_of_block (Below.heap_alloc _ _ _ (by omega))
  rw [q _ rfl, q _ rfl]
  have eA : (⟨g, 0, none⟩ : Addr).add ((i : Int).toNat * 2) = ⟨g, 0 + 2 * i, none⟩ := by
    rw [Int.toNat_natCast, Nat.mul_comm, Addr.add_lit]
  rw [eA] at h0 h1
  exact ⟨h0, h1⟩
/-- Block Bk holds a slice of tokens. -/
structure TokB (w : World) (Bk : Nat) (A0 : Option Addr) (c0 : Nat) (l : List ZTk_T) : Prop where
  bk : w.heap[Bk]? = some (.cells #[.slice A0 l.length c0] 23 (0, 0))
  hC : Kd.C ZTk_kT w A0 l.length l
  hc : l.length ≤ c0
theorem TokB.below {w w' : World} {Bk : Nat} {A0 : Option Addr} {c0 : Nat} {l : List ZTk_T} (h : TokB w Bk A0 c0 l) (hB : Below w.heap.size w w') : TokB w' Bk A0 c0 l :=
  ⟨(hB.block _ (blk_lt h.bk)).trans h.bk, Kd.C_below h.hC hB, h.hc⟩
set_option maxHeartbeats 4000000 in
theorem lit1_c (Bk : Nat) (A0 : Option Addr) (c0 : Nat) (l : List ZTk_T) (s : ByteArray) (w : World) (h : TokB w Bk A0 c0 l) (hl : l.length ≤ 100000) :
    Calls Tryd.prog 22 #[.string s, .pointer (some ⟨Bk, 0, none⟩)] w fun e w' => ∃ v : Value, e = .returned v ∧ ZTk_RC w' w.heap.size v (l.map toCC) ∧ Below w.heap.size w w' := by
  obtain ⟨k, hk⟩ := inner_some l (by omega)
  have c0' : w.cell? ⟨Bk, 0, none⟩ = some (.slice A0 l.length c0) := (blk_cell h.bk 0).trans rfl
  have lb := blk_lt h.bk
  have H := Aside0.mk h
  clear h
  go_enter Tryd.func22, Tryd.ntmps22
  go_wp2_with (go_at_call 23; refine (impl_inner.calls k A0 c0 l _ _ H.out.hC H.out.hc hk).mono ?_; rintro e w2 ⟨v, rfl, hR2, hB2⟩)
  go_ret
  exact ⟨_, rfl, hR2, hB2⟩
set_option maxHeartbeats 4000000 in
theorem gt_c (Bk : Nat) (A0 : Option Addr) (c0 : Nat) (l : List ZTk_T) (s : ByteArray) (w : World) (cfg : Option Addr) (h : TokB w Bk A0 c0 l) (hl : l.length ≤ 100000) :
    Calls Tryd.prog 50 #[.agg #[.pointer cfg, .func (.func 22) #[] #[.pointer (some ⟨Bk, 0, none⟩)]], .pointer none, .string s] w fun e w' => ∃ Bt g, e = .returned (.tuple #[.func (.func 52) #[] #[.pointer (some ⟨Bt, 0, none⟩)], .nilIface]) ∧ LitAt w' Bt g (l.map toCC) ∧ w.heap.size ≤ Bt ∧ w.heap.size ≤ g ∧ g < w'.heap.size ∧ Below w.heap.size w w' := by
  have HB := Aside0.mk ((Below.refl w.heap.size w).alloc (Nat.le_refl _) (.cells #[.pointer cfg, .func (.func 22) #[] #[.pointer (some ⟨Bk, 0, none⟩)]] 73))
  have H := Aside0.mk (h.below HB.out)
  clear h
  go_enter Tryd.func50, Tryd.ntmps50
  go_wp2_with (first | (go_at_call 22; refine (lit1_c _ _ _ _ _ _ H.out hl).mono ?_; rintro e w2 ⟨v, rfl, hR2, hB2⟩; obtain ⟨A2, c2, rfl, g, hL, hg1, hg2⟩ := lit_of hR2 hB2.size ((hB2.block w.heap.size (by simp)).trans (blk_new w _)) (by decide) (by decide)) | (go_at_call 51; refine (litm_c _ _ _ _).mono ?_; rintro e w3 ⟨rfl, rfl⟩))
  go_ret2
  have hs2 := hB2.size
  rw [World.size_alloc] at hs2 hg2
  rw [List.length_map] at hL
  exact ⟨_, g, rfl, (by first | exact hL | (rw [List.length_map]; exact hL)), by omega, by omega, by simp; omega, (below_step HB.out hB2).alloc (by omega) _⟩
/-- A lexer over the tokens in block Bk. -/
abbrev lxV (cfg : Option Addr) (Bk : Nat) : Value := .iface 73 (.agg #[.pointer cfg, .func (.func 22) #[] #[.pointer (some ⟨Bk, 0, none⟩)]])
theorem meth_g (cfg : Option Addr) (Bk : Nat) (w : World) : (method 228 73 (.agg #[.pointer cfg, .func (.func 22) #[] #[.pointer (some ⟨Bk, 0, none⟩)]]) "Tokenise").run Tryd.prog w = .ok (50, .agg #[.pointer cfg, .func (.func 22) #[] #[.pointer (some ⟨Bk, 0, none⟩)]]) w := by kernel_rfl
/-- A coalescer that is to give the tokens xs. -/
def CoI (b0 b1 Bp Bi : Nat) (W : World) (xs : List ZTk_C) : Prop :=
  ∃ Bt g p l, CoAt W b0 b1 Bp Bi Bt g p l ∧ runsL p l = xs ∧ (∀ x ∈ l, x.f0 ≠ 0) ∧ (isE p = true ∨ p.f0 ≠ 0) ∧ p.f1.size + szL l ≤ 8191
theorem CoI.same {W W' : World} {b0 b1 Bp Bi : Nat} {xs : List ZTk_C} (h : CoI b0 b1 Bp Bi W xs) (hk : ∀ k, k < b1 → k < W.heap.size → W'.heap[k]? = W.heap[k]?) : CoI b0 b1 Bp Bi W' xs := by
  obtain ⟨Bt, g, p, l, h1, h2⟩ := h
  exact ⟨Bt, g, p, l, h1.same hk, h2⟩
structure TLc (b0 b1 Bp Bi : Nat) (ps : List ZTk_C) (w : World) (v : Value) (Bx : Nat) (dn rest : List ZTk_C) (wr : World) : Prop where
  hf : ps = dn ++ rest
  hx : wr.heap[Bx]? = some (.cells #[.int .i64 (ZTk_hd rest).f0, .string (ZTk_hd rest).f1] 62 (0, 0))
  hxo : some Bx ≠ v.ownBlock
  hc : CoI b0 b1 Bp Bi wr rest.tail
  hF : ZTk_Fr b0 b1 w wr
  hR : ZTk_RC wr w.heap.size v dn
theorem tlc_append {b0 b1 Bp Bi Bx : Nat} {ps : List ZTk_C} {w wr w8 : World} {v v1 : Value} {dn : List ZTk_C} {x : ZTk_C} {r : List ZTk_C} (hb : b1 ≤ w.heap.size) (H : TLc b0 b1 Bp Bi ps w v Bx dn (x :: r) wr) (hg : wr.grownBy w8 v.ownBlock) (ho : ZTk_RC w8 w.heap.size v1 (dn ++ [x])) :
    w8.heap[Bx]? = some (.cells #[.int .i64 x.f0, .string x.f1] 62 (0, 0)) ∧ CoI b0 b1 Bp Bi w8 r ∧ ZTk_Fr b0 b1 w w8 := by
  have hsz := H.hF.size
  refine ⟨blk_grown H.hx hg H.hxo, H.hc.same (fun k hk hlt => hg.block k hlt (fun e => ?_)), ⟨hg.os.trans H.hF.os, hg.tape.trans H.hF.tape, hg.output.trans H.hF.output, Nat.le_trans hsz hg.size, fun k hk hkb => (hg.block k (by omega) (fun e => ?_)).trans (H.hF.block k hk hkb)⟩⟩
  · have := Kd.R_base H.hR k e.symm
    omega
  · have := Kd.R_base H.hR k e.symm
    omega
theorem tlc_next {b0 b1 Bp Bi Bx : Nat} {ps : List ZTk_C} {w wr w8 w9 : World} {v v1 : Value} {dn : List ZTk_C} {x : ZTk_C} {r : List ZTk_C} (hb : b1 ≤ w.heap.size) (H : TLc b0 b1 Bp Bi ps w v Bx dn (x :: r) wr) (hF8 : ZTk_Fr b0 b1 w w8) (ho : ZTk_RC w8 w.heap.size v1 (dn ++ [x]))
    (b9 : w9.heap[w8.heap.size]? = some (.cells #[.int .i64 x.f0, .string x.f1] 62 (0, 0))) (hC9 : CoI b0 b1 Bp Bi w9 r.tail) (hF9 : ZTk_Fr b0 b1 (w8.alloc (.cells #[.int .i64 x.f0, .string x.f1] 62)) w9) :
    TLc b0 b1 Bp Bi ps w v1 w8.heap.size (dn ++ [x]) r ((w9.setCell ⟨w8.heap.size, 0, none⟩ (.int .i64 (ZTk_hd r).f0)).setCell ⟨w8.heap.size, 1, none⟩ (.string (ZTk_hd r).f1)) := by
  have h8 := hF8.size
  have h9 := hF9.size
  rw [World.size_alloc] at h9
  have far : ∀ k, k ≠ w8.heap.size → ((w9.setCell ⟨w8.heap.size, 0, none⟩ (.int .i64 (ZTk_hd r).f0)).setCell ⟨w8.heap.size, 1, none⟩ (.string (ZTk_hd r).f1)).heap[k]? = w9.heap[k]? := fun k hk =>
    (Below.heap_setCell _ ⟨w8.heap.size, 1, none⟩ _ k hk).trans (Below.heap_setCell _ ⟨w8.heap.size, 0, none⟩ _ k hk)
  have hF := (hF8.trans (ZTk_Fr.alloc _ _)).trans hF9
  refine ⟨by rw [H.hf]; simp, blk_put (blk_put b9 0 _ rfl) 1 _ rfl, fun e => ?_, hC9.same (fun k hk hlt => far k (by omega)), ⟨hF.os, hF.tape, hF.output, by rw [World.size_setCell, World.size_setCell]; exact hF.size, fun k hk hkb => (far k (by omega)).trans (hF.block k hk hkb)⟩, ?_⟩
  · have := Kd.R_lt ho _ e.symm
    omega
  · exact Kd.R_mono (Kd.R_step (Kd.R_bound ho) (fun k hk hlt => ((far k (by omega)).trans (hF9.block k (by simp; omega) (.inr (Nat.le_trans hb hk.2.1)))).trans (Below.heap_alloc _ _ k hlt))) (fun _ _ => trivial)
theorem tlc_box {b0 b1 : Nat} {w w8 w9 : World} (hb : b1 ≤ w.heap.size) (hF : ZTk_Fr b0 b1 w w8) (o' : Obj) (h9 : ZTk_Fr b0 b1 (w8.alloc o') w9) : w9.heap[w8.heap.size]? = some o' :=
  (h9.block _ (by simp) (.inr (Nat.le_trans hb hF.size))).trans (blk_new w8 o')
abbrev ZTk_RT (w : World) (base : Nat) (v : Value) (xs : List ZTk_T) : Prop := Kd.R ZTk_kT 30 w base (fun _ => True) v xs
set_option maxHeartbeats 4000000 in
theorem lit_c (A0 : Option Addr) (n c : Nat) (w : World) : Calls Tryd.prog 14 #[.slice A0 n c] w fun e w' => ∃ cfg, e = .returned (lxV cfg w.heap.size) ∧ Below w.heap.size w w' ∧ w'.heap[w.heap.size]? = some (.cells #[.slice A0 n c] 23 (0, 0)) := by
  have hmf : ∀ (fn : Fn) (first cap : Array Value) (w : World), (Instr.makeFunc fn first cap).run Tryd.prog w = .ok (.func fn first cap) w := fun _ _ _ _ => rfl
  go_enter Tryd.func14, Tryd.ntmps14
  go_wp2
  go_ret
  exact ⟨_, rfl, ((Below.refl w.heap.size w).alloc (Nat.le_refl _) _).alloc (by simp) _, blk_alloc (blk_new w _) _⟩
section
open Go.ChangeMaps Go.MapKept Go.WideShapes
open Go.Maps (Keyed IsMap Tidy)

def ZTk_hld (v : Value) : Option (DataW Value × List MemPlace) := some (.held v, [])
def ZTk_Ok (x : Int) : Prop := (Lit.int .i64 x).wf = true
theorem ok_of {x : Int} (h0 : -9223372036854775808 ≤ x) (h1 : x ≤ 9223372036854775807) : ZTk_Ok x := by
  simp only [ZTk_Ok, Lit.wf, Bool.and_eq_true, decide_eq_true_eq]
  exact ⟨h0, h1⟩
/-- What a map's datum says of a key. -/
def ZTk_Says (D : DataW Value) (f : Int → Option Value) : Prop :=
  ∀ x, ZTk_Ok x → ∀ z, D.atKey (.int .i64 x) z = match f x with | some v => .held v | none => z
variable {P : Program} {kt : TypeId}
/-- Block b holds a map that has at each whole number what f says. -/
def MapI (P : Program) (kt : TypeId) (w : World) (b n : Nat) (f : Int → Option Value) : Prop :=
  ∃ D : DataW Value, w.ownsMap P kt ZTk_hld b n D ∧ IsMap D ∧ ZTk_Says D f
theorem MapI.lt {w : World} {b n : Nat} {f : Int → Option Value} (h : MapI P kt w b n f) : b < w.heap.size := by
  obtain ⟨D, h, _⟩ := h; exact h.lt
theorem MapI.block {w : World} {b n : Nat} {f : Int → Option Value} (h : MapI P kt w b n f) : ∃ es c, w.heap[b]? = some (.map es c) := by
  obtain ⟨D, ⟨es, c, hb, _⟩, _⟩ := h; exact ⟨es, c, hb⟩
theorem MapI.same {w w' : World} {b n : Nat} {f : Int → Option Value} (h : MapI P kt w b n f) (hb : w'.heap[b]? = w.heap[b]?) : MapI P kt w' b n f := by
  obtain ⟨D, ⟨es, c, h1, h2⟩, h3⟩ := h
  exact ⟨D, ⟨es, c, hb.trans h1, h2⟩, h3⟩
theorem MapI.below {w w' : World} {b n m : Nat} {f : Int → Option Value} (h : MapI P kt w b n f) (hb : Below m w w') (hlt : b < m) : MapI P kt w' b n f := h.same (hb.block b hlt)
theorem MapI.mono {w : World} {b n n' : Nat} {f : Int → Option Value} (h : MapI P kt w b n f) (hn : n ≤ n') : MapI P kt w b n' f := by
  obtain ⟨D, h, h2⟩ := h; exact ⟨D, h.mono hn, h2⟩
theorem MapI.made (w : World) : MapI P kt (w.alloc (.map #[] 0)) w.heap.size 0 (fun _ => none) :=
  ⟨.map [], World.ownsMap_made w _ _ _, ⟨_, rfl⟩, fun _ _ _ => rfl⟩
theorem lit_ne {x y : Int} (h : x ≠ y) : Lit.int .i64 x ≠ .int .i64 y := fun e => h (by injection e)
def ZTk_upd (f : Int → Option Value) (k : Int) (v : Value) : Int → Option Value := fun y => if y = k then some v else f y
theorem MapI.store {w : World} {b n : Nat} {f : Int → Option Value} (h : MapI P kt w b n f) {mt et : TypeId} (hk : P.underlying kt = some (.int .i64)) (hm : P.underlying mt = some (.map kt et)) (hn : n < maxLen) {k : Int} (ok : ZTk_Ok k) (v : Value) :
    ∃ w', (Instr.mapUpdate mt (.map (some b)) (.int .i64 k) v).run P w = .ok () w' ∧ MapI P kt w' b (n + 1) (ZTk_upd f k v) ∧ w.grownBy w' (some b) := by
  obtain ⟨D, hown, hD, hs⟩ := h
  have hK : WideAt.IsKeyLit (.int .i64 k) := (Maps.int_keyed hk).key (Maps.keyOf_int_mk hk ok)
  obtain ⟨w', hrun, h', hg⟩ := hown.update (t := mt) (val := v) (d := .held v) (ps := []) (Maps.int_keyed hk) hm hn (Maps.keyOf_int_mk hk ok) rfl
  refine ⟨w', hrun, ⟨_, h', h'.isMap, fun x hx z => ?_⟩, hg⟩
  by_cases e : x = k
  · subst e
    simp only [ZTk_upd, if_pos]
    exact Maps.atKey_put_same hD hK _ _
  · rw [Maps.atKey_put_other (lit_ne e), hs x hx z]
    simp only [ZTk_upd, if_neg e]
theorem MapI.look {w : World} {b n : Nat} {f : Int → Option Value} (h : MapI P kt w b n f) {mt et : TypeId} (hk : P.underlying kt = some (.int .i64)) (hm : P.underlying mt = some (.map kt et)) {z : Value} (hz : (zeroValue et).run P w = .ok z w) {k : Int} (ok : ZTk_Ok k) :
    (Instr.lookup mt (.map (some b)) (.int .i64 k) false).run P w = .ok ((f k).getD z) w := by
  obtain ⟨D, hown, hD, hs⟩ := h
  obtain ⟨v, ps, hrun, hv⟩ := hown.lookup (Maps.int_keyed hk) hm hz (zd := .held z) (zp := []) rfl (Maps.keyOf_int_mk hk ok)
  rw [hs k ok] at hv
  cases hf : f k with
  | none => rw [hf] at hv; simp [ZTk_hld] at hv; rw [hrun, hv.1]; rfl
  | some u => rw [hf] at hv; simp [ZTk_hld] at hv; rw [hrun, hv.1]; rfl
/-- A range over such a map under way: left says which keys are to come. -/
def MapR (P : Program) (kt : TypeId) (w : World) (b r n : Nat) (f : Int → Option Value) (left : Int → Bool) (cnt : Nat) : Prop :=
  ∃ (D : DataW Value) (lf : Lit → Bool), w.ranges P kt ZTk_hld b r n D lf cnt ∧ ZTk_Says D f ∧ ∀ x, ZTk_Ok x → lf (.int .i64 x) = left x
theorem MapR.lt {w : World} {b r n cnt : Nat} {f : Int → Option Value} {left : Int → Bool} (h : MapR P kt w b r n f left cnt) : r < w.heap.size := by
  obtain ⟨D, lf, h, _⟩ := h; exact h.lt
theorem MapR.ltb {w : World} {b r n cnt : Nat} {f : Int → Option Value} {left : Int → Bool} (h : MapR P kt w b r n f left cnt) : b < w.heap.size := by
  obtain ⟨D, lf, h, _⟩ := h; exact h.owns.lt
theorem MapR.ne {w : World} {b r n cnt : Nat} {f : Int → Option Value} {left : Int → Bool} (h : MapR P kt w b r n f left cnt) : r ≠ b := by
  obtain ⟨D, lf, h, _⟩ := h; exact h.ne
theorem MapR.measure {w : World} {b r n cnt : Nat} {f : Int → Option Value} {left : Int → Bool} (h : MapR P kt w b r n f left cnt) : w.rangeLeft b r = cnt := by
  obtain ⟨D, lf, h, _⟩ := h; exact h.left_eq
theorem MapR.same {w w' : World} {b r n cnt : Nat} {f : Int → Option Value} {left : Int → Bool} (h : MapR P kt w b r n f left cnt) (hb : w'.heap[b]? = w.heap[b]?) (hr : w'.heap[r]? = w.heap[r]?) : MapR P kt w' b r n f left cnt := by
  obtain ⟨D, lf, ⟨es, clock, since, seen, c0, h1, h2, h3, h4, h5, h6⟩, h7⟩ := h
  exact ⟨D, lf, ⟨es, clock, since, seen, c0, hb.trans h1, h2, h3, h4, hr.trans h5, h6⟩, h7⟩
theorem MapR.map {w : World} {b r n cnt : Nat} {f : Int → Option Value} {left : Int → Bool} (h : MapR P kt w b r n f left cnt) : MapI P kt w b n f := by
  obtain ⟨D, lf, h, hs, _⟩ := h; exact ⟨D, h.owns, h.owns.isMap, hs⟩
theorem has_says {D : DataW Value} {f : Int → Option Value} (hs : ZTk_Says D f) {x : Int} (hx : ZTk_Ok x) : Maps.has D (.int .i64 x) = (f x).isSome := by
  have h := hs x hx
  cases hf : f x with
  | none => rw [hf] at h; exact Maps.has_false_of_atKey h
  | some v => rw [hf] at h; exact Maps.has_true_of_atKey h
theorem MapI.range {w : World} {b n : Nat} {f : Int → Option Value} (h : MapI P kt w b n f) {mt et : TypeId} (hk : P.underlying kt = some (.int .i64)) (hm : P.underlying mt = some (.map kt et)) :
    ∃ w' cnt, (Instr.range mt (.map (some b))).run P w = .ok (.pointer (some ⟨w.heap.size, 0, none⟩)) w' ∧ MapR P kt w' b w.heap.size n f (fun x => (f x).isSome) cnt ∧ w.grownBy w' none ∧ w'.heap.size = w.heap.size + 1 := by
  obtain ⟨D, hown, hD, hs⟩ := h
  obtain ⟨w', h1, h2, h3, h4⟩ := hown.range (Maps.int_keyed hk) hm
  exact ⟨w', _, h1, ⟨D, _, h2, hs, fun x hx => has_says hs hx⟩, h3, h4⟩
theorem MapR.next {w : World} {b r n cnt : Nat} {f : Int → Option Value} {left : Int → Bool} (h : MapR P kt w b r n f left cnt) (hk : P.underlying kt = some (.int .i64)) (ty : TypeId) :
    (cnt = 0 ∧ (∀ x, ZTk_Ok x → left x = false) ∧ (Instr.next (.pointer (some ⟨r, 0, none⟩)) false ty).run P w = .ok (.tuple #[.bool false]) w) ∨
    ∃ x v w' cnt', ZTk_Ok x ∧ left x = true ∧ f x = some v ∧ (Instr.next (.pointer (some ⟨r, 0, none⟩)) false ty).run P w = .ok (.tuple #[.bool true, .int .i64 x, v]) w' ∧
      MapR P kt w' b r n f (fun y => left y && decide (y ≠ x)) cnt' ∧ cnt' < cnt ∧ w.grownBy w' (some r) ∧ w'.heap.size = w.heap.size ∧ (Instr.entry (.pointer (some ⟨r, 0, none⟩))).run P w' = .ok (.tuple #[.int .i64 x, v]) w' := by
  obtain ⟨D, lf, h, hs, hl⟩ := h
  rcases h.next (Maps.int_keyed hk) ty with ⟨h1, h2, h3⟩ | ⟨key, v, kl, y, w', cnt', h1, h2, h3, h4, h5, h6, h7, h8, h9, h10⟩
  · exact .inl ⟨h1, fun x hx => by rw [← hl x hx]; exact h2 _, h3⟩
  · obtain ⟨x, rfl, rfl, hx⟩ := Maps.keyOf_int_inv hk h1
    obtain rfl := Option.some.inj h3
    refine .inr ⟨x, v, w', cnt', hx, by rw [← hl x hx]; exact h2, ?_, h5, ⟨D, _, h6, hs, fun z hz => ?_⟩, h7, h8, h9, h10⟩
    · have e1 := h4 .nil
      rw [hs x hx] at e1
      cases hf : f x with
      | none => rw [hf] at e1; cases e1
      | some u => rw [hf] at e1; injection e1 with e1; rw [e1]
    · show (lf (.int .i64 z) && !(Lit.int .i64 z).sameKey (.int .i64 x)) = _
      rw [hl z hz]
      congr 1
      by_cases e : z = x
      · subst e; rw [WideAt.sameKey_self ((Maps.int_keyed hk).key (Maps.keyOf_int_mk hk hx))]; simp
      · cases hsk : (Lit.int .i64 z).sameKey (.int .i64 x) with
        | true => exact absurd (WideAt.sameKey_eq hsk) (lit_ne e)
        | false => simp [e]
end
section
open Go.ChangeMaps Go.MapKept Go.WideShapes
open Go.Maps (Keyed IsMap Tidy)
variable {P : Program} {kt : TypeId}
theorem MapI.lookOk {w : World} {b n : Nat} {f : Int → Option Value} (h : MapI P kt w b n f) {mt et : TypeId} (hk : P.underlying kt = some (.int .i64)) (hm : P.underlying mt = some (.map kt et)) {z : Value} (hz : (zeroValue et).run P w = .ok z w) {k : Int} (ok : ZTk_Ok k) :
    (Instr.lookup mt (.map (some b)) (.int .i64 k) true).run P w = .ok (.tuple #[(f k).getD z, .bool (f k).isSome]) w := by
  obtain ⟨D, hown, hD, hs⟩ := h
  obtain ⟨v, ps, hrun, hv⟩ := hown.look_ok (Maps.int_keyed hk) hm hz (zd := .held z) (zp := []) rfl (Maps.keyOf_int_mk hk ok)
  rw [has_says hs ok] at hrun
  rw [hs k ok] at hv
  cases hf : f k with
  | none => rw [hf] at hv hrun; simp [ZTk_hld] at hv; rw [hrun, hv.1]; rfl
  | some u => rw [hf] at hv hrun; simp [ZTk_hld] at hv; rw [hrun, hv.1]; rfl
/-- What a map's datum says of a string. -/
def SaysS (D : DataW Value) (f : ByteArray → Option Value) : Prop :=
  ∀ s : ByteArray, s.size ≤ maxLen → ∀ z, D.atKey (.string s.data.toList) z = match f s with | some v => .held v | none => z
def MapS (P : Program) (kt : TypeId) (w : World) (b n : Nat) (f : ByteArray → Option Value) : Prop :=
  ∃ D : DataW Value, w.ownsMap P kt ZTk_hld b n D ∧ IsMap D ∧ SaysS D f
theorem MapS.lt {w : World} {b n : Nat} {f : ByteArray → Option Value} (h : MapS P kt w b n f) : b < w.heap.size := by
  obtain ⟨D, h, _⟩ := h; exact h.lt
theorem MapS.same {w w' : World} {b n : Nat} {f : ByteArray → Option Value} (h : MapS P kt w b n f) (hb : w'.heap[b]? = w.heap[b]?) : MapS P kt w' b n f := by
  obtain ⟨D, ⟨es, c, h1, h2⟩, h3⟩ := h
  exact ⟨D, ⟨es, c, hb.trans h1, h2⟩, h3⟩
theorem MapS.below {w w' : World} {b n m : Nat} {f : ByteArray → Option Value} (h : MapS P kt w b n f) (hb : Below m w w') (hlt : b < m) : MapS P kt w' b n f := h.same (hb.block b hlt)
theorem MapS.made (w : World) : MapS P kt (w.alloc (.map #[] 0)) w.heap.size 0 (fun _ => none) :=
  ⟨.map [], World.ownsMap_made w _ _ _, ⟨_, rfl⟩, fun _ _ _ => rfl⟩
theorem str_ne {x y : ByteArray} (h : x ≠ y) : Lit.string x.data.toList ≠ .string y.data.toList := fun e => h (by
  injection e with e
  obtain ⟨⟨x⟩⟩ := x
  obtain ⟨⟨y⟩⟩ := y
  simp only at e
  rw [e])
def updS (f : ByteArray → Option Value) (k : ByteArray) (v : Value) : ByteArray → Option Value := fun y => if y = k then some v else f y
theorem MapS.store {w : World} {b n : Nat} {f : ByteArray → Option Value} (h : MapS P kt w b n f) {mt et : TypeId} (hk : P.underlying kt = some .string) (hm : P.underlying mt = some (.map kt et)) (hn : n < maxLen) {k : ByteArray} (ok : k.size ≤ maxLen) (v : Value) :
    ∃ w', (Instr.mapUpdate mt (.map (some b)) (.string k) v).run P w = .ok () w' ∧ MapS P kt w' b (n + 1) (updS f k v) ∧ w.grownBy w' (some b) := by
  obtain ⟨D, hown, hD, hs⟩ := h
  have hK : WideAt.IsKeyLit (.string k.data.toList) := (Maps.string_keyed hk).key (WideMaps.keyOf_string_mk hk ok)
  obtain ⟨w', hrun, h', hg⟩ := hown.update (t := mt) (val := v) (d := .held v) (ps := []) (Maps.string_keyed hk) hm hn (WideMaps.keyOf_string_mk hk ok) rfl
  refine ⟨w', hrun, ⟨_, h', h'.isMap, fun x hx z => ?_⟩, hg⟩
  by_cases e : x = k
  · subst e
    simp only [updS, if_pos]
    exact Maps.atKey_put_same hD hK _ _
  · rw [Maps.atKey_put_other (str_ne e), hs x hx z]
    simp only [updS, if_neg e]
theorem has_saysS {D : DataW Value} {f : ByteArray → Option Value} (hs : SaysS D f) {x : ByteArray} (hx : x.size ≤ maxLen) : Maps.has D (.string x.data.toList) = (f x).isSome := by
  have h := hs x hx
  cases hf : f x with
  | none => rw [hf] at h; exact Maps.has_false_of_atKey h
  | some v => rw [hf] at h; exact Maps.has_true_of_atKey h
theorem MapS.lookOk {w : World} {b n : Nat} {f : ByteArray → Option Value} (h : MapS P kt w b n f) {mt et : TypeId} (hk : P.underlying kt = some .string) (hm : P.underlying mt = some (.map kt et)) {z : Value} (hz : (zeroValue et).run P w = .ok z w) {k : ByteArray} (ok : k.size ≤ maxLen) :
    (Instr.lookup mt (.map (some b)) (.string k) true).run P w = .ok (.tuple #[(f k).getD z, .bool (f k).isSome]) w := by
  obtain ⟨D, hown, hD, hs⟩ := h
  obtain ⟨v, ps, hrun, hv⟩ := hown.look_ok (Maps.string_keyed hk) hm hz (zd := .held z) (zp := []) rfl (WideMaps.keyOf_string_mk hk ok)
  rw [has_saysS hs ok] at hrun
  rw [hs k ok] at hv
  cases hf : f k with
  | none => rw [hf] at hv hrun; simp [ZTk_hld] at hv; rw [hrun, hv.1]; rfl
  | some u => rw [hf] at hv hrun; simp [ZTk_hld] at hv; rw [hrun, hv.1]; rfl
end
section
open Classical
abbrev ZTk_M := Int × Int × List ByteArray
def putW (tv : Int) (f : ByteArray → Option Int) (ws : List ByteArray) : ByteArray → Option Int := ws.foldl (fun f w => fun y => if y = w then some tv else f y) f
theorem putW_at (tv : Int) (ws : List ByteArray) : ∀ (f : ByteArray → Option Int) (v : ByteArray), putW tv f ws v = if v ∈ ws then some tv else f v := by
  induction ws with
  | nil => intro f v; simp [putW]
  | cons w r ih =>
    intro f v
    have h := ih (fun y => if y = w then some tv else f y) v
    show putW tv (fun y => if y = w then some tv else f y) r v = _
    rw [h]
    by_cases h1 : v ∈ r
    · rw [if_pos h1, if_pos (List.mem_cons_of_mem _ h1)]
    · rw [if_neg h1]
      by_cases h2 : v = w
      · rw [if_pos h2, if_pos (by rw [h2]; exact List.mem_cons_self)]
      · rw [if_neg h2, if_neg (fun h => by rcases List.mem_cons.1 h with h | h; exact h2 h; exact h1 h)]
abbrev ZTk_Tb := Int → Option (ByteArray → Option Int)
def ZTk_put (t : ZTk_Tb) (m : ZTk_M) : ZTk_Tb := fun y => if y = m.1 then some (putW m.2.1 ((t m.1).getD (fun _ => none)) m.2.2) else t y
def ZTk_tab (ms : List ZTk_M) : ZTk_Tb := ms.foldl ZTk_put (fun _ => none)
def ZTk_at2 (t : ZTk_Tb) (ty : Int) (v : ByteArray) : Option Int := (t ty).bind (· v)
theorem at2_put (t : ZTk_Tb) (m : ZTk_M) (ty : Int) (v : ByteArray) : ZTk_at2 (ZTk_put t m) ty v = if ty = m.1 ∧ v ∈ m.2.2 then some m.2.1 else ZTk_at2 t ty v := by
  unfold ZTk_at2 ZTk_put
  by_cases h : ty = m.1
  · subst h
    rw [if_pos rfl]
    show putW m.2.1 _ m.2.2 v = _
    rw [putW_at]
    by_cases hv : v ∈ m.2.2
    · rw [if_pos hv, if_pos ⟨rfl, hv⟩]
    · rw [if_neg hv, if_neg (fun h => hv h.2)]
      cases t m.1 <;> rfl
  · rw [if_neg h, if_neg (fun h' => h h'.1)]
/-- The ZTk_last mapping that names a type and a word. -/
noncomputable def ZTk_last (ms : List ZTk_M) (ty : Int) (v : ByteArray) (a : Option Int) : Option Int := ms.foldl (fun a m => if ty = m.1 ∧ v ∈ m.2.2 then some m.2.1 else a) a
theorem at2_fold (ty : Int) (v : ByteArray) : ∀ (ms : List ZTk_M) (t : ZTk_Tb), ZTk_at2 (ms.foldl ZTk_put t) ty v = ZTk_last ms ty v (ZTk_at2 t ty v)
  | [], t => rfl
  | m :: r, t => by
    show ZTk_at2 (r.foldl ZTk_put (ZTk_put t m)) ty v = _
    rw [at2_fold ty v r (ZTk_put t m), at2_put]
    rfl
theorem at2_tab (ms : List ZTk_M) (ty : Int) (v : ByteArray) : ZTk_at2 (ZTk_tab ms) ty v = ZTk_last ms ty v none := at2_fold ty v ms _
theorem last_none (ty : Int) (v : ByteArray) : ∀ (ms : List ZTk_M), (∀ m ∈ ms, v ∉ m.2.2) → ∀ a, ZTk_last ms ty v a = a
  | [], _, a => rfl
  | m :: r, h, a => by
    show ZTk_last r ty v (if ty = m.1 ∧ v ∈ m.2.2 then some m.2.1 else a) = a
    rw [if_neg (fun h' => h m List.mem_cons_self h'.2)]
    exact last_none ty v r (fun x hx => h x (List.mem_cons_of_mem _ hx)) a
/-- A word that no mapping names is nowhere in the table. -/
theorem at2_none (ms : List ZTk_M) (ty : Int) (v : ByteArray) (h : ∀ m ∈ ms, v ∉ m.2.2) : ZTk_at2 (ZTk_tab ms) ty v = none := by
  rw [at2_tab]; exact last_none ty v ms h none
end
abbrev ZTk_Ch := S28
def ZTk_toM (x : ZTk_Ch) : ZTk_M := (x.f0, x.f1, x.f2)
def tabOf (cs : List ZTk_Ch) : ZTk_Tb := ZTk_tab (cs.map ZTk_toM)
/-- What the closure makes of a token. -/
def mapF (cs : List ZTk_Ch) (t : ZTk_C) : List ZTk_C := [⟨(ZTk_at2 (tabOf cs) t.f0 t.f1).getD t.f0, t.f1⟩]
theorem smono {P : Program} {kt : TypeId} {w : World} {b n n' : Nat} {f : ByteArray → Option Value} (h : MapS P kt w b n f) (hn : n ≤ n') : MapS P kt w b n' f := by
  obtain ⟨D, h, h2⟩ := h; exact ⟨D, h.mono hn, h2⟩
theorem scongr {P : Program} {kt : TypeId} {w : World} {b n : Nat} {f g : ByteArray → Option Value} (h : MapS P kt w b n f) (hfg : ∀ s, g s = f s) : MapS P kt w b n g := by
  have : g = f := funext hfg
  rw [this]; exact h
theorem icongr {P : Program} {kt : TypeId} {w : World} {b n : Nat} {f g : Int → Option Value} (h : MapI P kt w b n f) (hfg : ∀ s, g s = f s) : MapI P kt w b n g := by
  have : g = f := funext hfg
  rw [this]; exact h
abbrev elM (F : Int → Option Nat) : Int → Option Value := fun k => (F k).map fun b => Value.map (some b)
abbrev elS (g : ByteArray → Option Int) : ByteArray → Option Value := fun s => (g s).map (Value.int .i64)
/-- Block bm holds a table: at each type a block of words. -/
structure TabF (W : World) (base bm n : Nat) (t : ZTk_Tb) (F : Int → Option Nat) : Prop where
  om : MapI Tryd.prog 39 W bm n (elM F)
  no : ∀ k, F k = none → t k = none
  so : ∀ k b, F k = some b → base ≤ b ∧ b ≠ bm ∧ ∃ g, t k = some g ∧ MapS Tryd.prog 9 W b n (elS g)
  one : ∀ k k' b, F k = some b → F k' = some b → k = k'
theorem TabF.lt {W : World} {base bm n : Nat} {t : ZTk_Tb} {F : Int → Option Nat} (h : TabF W base bm n t F) : bm < W.heap.size := h.om.lt
theorem TabF.mono {W : World} {base bm n n' : Nat} {t : ZTk_Tb} {F : Int → Option Nat} (h : TabF W base bm n t F) (hn : n ≤ n') : TabF W base bm n' t F :=
  ⟨h.om.mono hn, h.no, fun k b e => by obtain ⟨a, b', g, c, d⟩ := h.so k b e; exact ⟨a, b', g, c, smono d hn⟩, h.one⟩
theorem TabF.same {W W' : World} {base bm n : Nat} {t : ZTk_Tb} {F : Int → Option Nat} (h : TabF W base bm n t F) (hk : ∀ k, k < W.heap.size → W'.heap[k]? = W.heap[k]?) : TabF W' base bm n t F :=
  ⟨h.om.same (hk _ h.om.lt), h.no, fun k b e => by obtain ⟨a, b', g, c, d⟩ := h.so k b e; exact ⟨a, b', g, c, d.same (hk _ d.lt)⟩, h.one⟩
theorem TabF.congr {W : World} {base bm n : Nat} {t t' : ZTk_Tb} {F : Int → Option Nat} (h : TabF W base bm n t F) (ht : ∀ k, t' k = t k) : TabF W base bm n t' F := by
  have : t' = t := funext ht
  rw [this]; exact h
theorem zeroM (w : World) : (zeroValue 58).run Tryd.prog w = .ok (.map none) w := by kernel_rfl
theorem zeroT (w : World) : (zeroValue 39).run Tryd.prog w = .ok (.int .i64 0) w := by kernel_rfl
theorem TabF.look {W : World} {base bm n : Nat} {t : ZTk_Tb} {F : Int → Option Nat} (h : TabF W base bm n t F) {k : Int} (ok : ZTk_Ok k) :
    (Instr.lookup 57 (.map (some bm)) (.int .i64 k) true).run Tryd.prog W = .ok (.tuple #[((F k).map fun b => Value.map (some b)).getD (.map none), .bool (F k).isSome]) W := by
  have := MapI.lookOk h.om Tryd.underlying39 Tryd.underlying57 (zeroM W) ok
  rw [this]
  simp [elM]
theorem lookS {W : World} {b n : Nat} {g : ByteArray → Option Int} (h : MapS Tryd.prog 9 W b n (elS g)) {s : ByteArray} (ok : s.size ≤ maxLen) :
    (Instr.lookup 58 (.map (some b)) (.string s) true).run Tryd.prog W = .ok (.tuple #[.int .i64 ((g s).getD 0), .bool (g s).isSome]) W := by
  have := MapS.lookOk h Tryd.underlying9 Tryd.underlying58 (zeroT W) ok
  rw [this]
  cases hg : g s <;> simp [elS, hg]
/-- A new block of words. -/
theorem TabF.fresh {W : World} {base bm n : Nat} {t : ZTk_Tb} {F : Int → Option Nat} (h : TabF W base bm n t F) {k : Int} (ok : ZTk_Ok k) (hk : F k = none) (hn : n < maxLen) (hb : base ≤ W.heap.size) :
    ∃ W2, (Instr.mapUpdate 57 (.map (some bm)) (.int .i64 k) (.map (some W.heap.size))).run Tryd.prog (W.alloc (.map #[] 0)) = .ok () W2 ∧
      TabF W2 base bm (n + 1) (fun y => if y = k then some (fun _ => none) else t y) (fun y => if y = k then some W.heap.size else F y) ∧ (W.alloc (.map #[] 0)).grownBy W2 (some bm) := by
  have h1 : TabF (W.alloc (.map #[] 0)) base bm n t F := h.same (fun k hk => Below.heap_alloc _ _ _ hk)
  obtain ⟨W2, hup, hm, hg⟩ := MapI.store h1.om (mt := 57) Tryd.underlying39 Tryd.underlying57 hn ok (.map (some W.heap.size))
  have hbm := h.lt
  have hnew : MapS Tryd.prog 9 (W.alloc (.map #[] 0)) W.heap.size 0 (fun _ => none) := MapS.made W
  refine ⟨W2, hup, ⟨icongr hm (fun y => ?_), fun y hy => ?_, fun y b hy => ?_, fun y y' b h2 h3 => ?_⟩, hg⟩
  · unfold ZTk_upd elM
    by_cases e : y = k
    · rw [if_pos e]; simp only [if_pos e]; rfl
    · rw [if_neg e]; simp only [if_neg e]
  · by_cases e : y = k
    · simp only [if_pos e] at hy; cases hy
    · simp only [if_neg e] at hy ⊢; exact h.no y hy
  · by_cases e : y = k
    · simp only [if_pos e] at hy ⊢
      obtain rfl := Option.some.inj hy
      refine ⟨hb, Nat.ne_of_gt hbm, _, rfl, scongr (smono (hnew.same (hg.block _ hnew.lt (fun e => by injection e with e; exact absurd e (Nat.ne_of_gt hbm)))) (Nat.zero_le _)) (fun _ => rfl)⟩
    · simp only [if_neg e] at hy ⊢
      obtain ⟨a1, a2, g, a3, a4⟩ := h1.so y b hy
      exact ⟨a1, a2, g, a3, smono (a4.same (hg.block _ a4.lt (fun e => a2 (by injection e)))) (Nat.le_succ _)⟩
  · have lt : ∀ z b, F z = some b → b < W.heap.size := fun z b hz => by obtain ⟨_, _, _, _, a4⟩ := h.so z b hz; exact a4.lt
    by_cases e : y = k
    · by_cases e' : y' = k
      · rw [e, e']
      · simp only [if_pos e] at h2; simp only [if_neg e'] at h3
        obtain rfl := Option.some.inj h2
        have := lt _ _ h3; omega
    · by_cases e' : y' = k
      · simp only [if_neg e] at h2; simp only [if_pos e'] at h3
        obtain rfl := Option.some.inj h3
        have := lt _ _ h2; omega
      · simp only [if_neg e] at h2; simp only [if_neg e'] at h3
        exact h.one y y' b h2 h3
/-- A word is stored. -/
theorem TabF.word {W : World} {base bm n : Nat} {t : ZTk_Tb} {F : Int → Option Nat} (h : TabF W base bm n t F) {k : Int} {b : Nat} {g : ByteArray → Option Int} (hF : F k = some b) (ht : t k = some g) {s : ByteArray} (ok : s.size ≤ maxLen) (hn : n < maxLen) (tv : Int) :
    ∃ W2, (Instr.mapUpdate 58 (.map (some b)) (.string s) (.int .i64 tv)).run Tryd.prog W = .ok () W2 ∧
      TabF W2 base bm (n + 1) (fun y => if y = k then some (fun z => if z = s then some tv else g z) else t y) F ∧ W.grownBy W2 (some b) := by
  obtain ⟨a1, a2, g', a3, a4⟩ := h.so k b hF
  rw [ht] at a3
  obtain rfl := Option.some.inj a3
  obtain ⟨W2, hup, hm, hg⟩ := MapS.store a4 (mt := 58) Tryd.underlying9 Tryd.underlying58 hn ok (.int .i64 tv)
  refine ⟨W2, hup, ⟨(h.om.same (hg.block _ h.om.lt (fun e => a2 (Option.some.inj e).symm))).mono (Nat.le_succ _), fun y hy => ?_, fun y b' hy => ?_, h.one⟩, hg⟩
  · by_cases e : y = k
    · rw [e, hF] at hy; cases hy
    · rw [if_neg e]; exact h.no y hy
  · by_cases e : y = k
    · subst e
      rw [hF] at hy
      obtain rfl := Option.some.inj hy
      refine ⟨a1, a2, _, if_pos rfl, scongr hm (fun z => ?_)⟩
      unfold updS elS
      by_cases e : z = s
      · simp only [if_pos e]; rfl
      · simp only [if_neg e]
    · obtain ⟨c1, c2, g2, c3, c4⟩ := h.so y b' hy
      exact ⟨c1, c2, g2, by rw [if_neg e]; exact c3, smono (c4.same (hg.block _ c4.lt (fun e' => e (h.one _ _ _ hy ((Option.some.inj e') ▸ hF))))) (Nat.le_succ _)⟩
/-- Block Bc holds the table of the mappings cs. -/
def ChgB (w : World) (Bc : Nat) (A0 : Option Addr) (c0 : Nat) (cs : List ZTk_Ch) : Prop :=
  ∃ base bm n F, w.heap[Bc]? = some (.cells #[.map (some bm)] 57 (0, 0)) ∧ TabF w base bm n (tabOf cs) F
theorem ChgB.below {w w' : World} {Bk : Nat} {A0 : Option Addr} {c0 : Nat} {l : List ZTk_Ch} (h : ChgB w Bk A0 c0 l) (hB : Below w.heap.size w w') : ChgB w' Bk A0 c0 l := by
  obtain ⟨base, bm, n, F, h1, h2⟩ := h
  exact ⟨base, bm, n, F, (hB.block _ (blk_lt h1)).trans h1, h2.same (fun k hk => hB.block k hk)⟩
theorem one_row (W : World) (base n : Nat) (t : ZTk_C) (hb : base ≤ W.heap.size) (hn : n = W.heap.size) : ZTk_RC (W.alloc (.cells #[.int .i64 t.f0, .string t.f1] 62)) base (.slice (some ⟨n, 0, none⟩) 1 1) [t] := hn ▸
  ⟨fun _ _ => trivial, [.int .i64 t.f0, .string t.f1], ⟨rfl, .inr ⟨W.heap.size, 1, _, rfl, hb, blk_new _ _, Nat.le_refl _, by decide, rfl, rfl⟩⟩, Reps.c2 (k62_mkM _ _ _ t) (Reps.none _ _)⟩
/-- What the closure asks of a token. -/
def ZTk_NZ (t : ZTk_C) : Prop := t.f0 ≠ 0 ∧ ZTk_Ok t.f0 ∧ t.f1.size ≤ maxLen
/-- No word is empty. -/
def OkC (cs : List ZTk_Ch) : Prop := ∀ m ∈ cs, (⟨#[]⟩ : ByteArray) ∉ m.f2
theorem okC_none {cs : List ZTk_Ch} (h : OkC cs) (ty : Int) (g : ByteArray → Option Int) (hg : tabOf cs ty = some g) : g ⟨#[]⟩ = none := by
  have := at2_none (cs.map ZTk_toM) ty ⟨#[]⟩ (fun m hm => by obtain ⟨c, hc, rfl⟩ := List.mem_map.1 hm; exact h c hc)
  unfold ZTk_at2 at this
  unfold tabOf at hg
  rw [hg] at this
  exact this
set_option maxRecDepth 100000 in
set_option maxHeartbeats 8000000 in
theorem map_c (Bc : Nat) (A0 : Option Addr) (c0 : Nat) (cs : List ZTk_Ch) (t : ZTk_C) (w : World) (h : ChgB w Bc A0 c0 cs) (hok : OkC cs) (hnz : ZTk_NZ t) :
    Calls Tryd.prog 21 #[.agg #[.int .i64 t.f0, .string t.f1], .pointer (some ⟨Bc, 0, none⟩)] w fun e w' => ∃ v : Value, e = .returned v ∧ ZTk_RC w' w.heap.size v (mapF cs t) ∧ Below w.heap.size w w' := by
  obtain ⟨base, bm, n, F, hb, hT⟩ := h
  obtain ⟨hz, hi, hs⟩ := hnz
  have hu := Tryd.underlying62
  have hB0 := (Below.refl w.heap.size w).alloc (Nat.le_refl _) (.cells #[.int .i64 t.f0, .string t.f1] 62)
  have b0 : w.cell? ⟨Bc, 0, none⟩ = some (.map (some bm)) := (blk_cell hb 0).trans rfl
  have lb := blk_lt hb
  have hT1 : TabF (w.alloc (.cells #[.int .i64 t.f0, .string t.f1] 62)) base bm n (tabOf cs) F := hT.same (fun k hk => Below.heap_alloc _ _ _ hk)
  have hlk := hT1.look hi
  have HB0 := Aside0.mk hB0
  cases hF : F t.f0 with
  | none =>
    have e1 : mapF cs t = [t] := by
      unfold mapF ZTk_at2
      rw [hT.no _ hF]
      rfl
    rw [hF] at hlk
    have hlk' : (Instr.lookup 57 (.map (some bm)) (.int .i64 t.f0) true).run Tryd.prog (w.alloc (.cells #[.int .i64 t.f0, .string t.f1] 62)) = .ok (.tuple #[.map none, .bool false]) (w.alloc (.cells #[.int .i64 t.f0, .string t.f1] 62)) := hlk
    clear hlk hT hT1 hb hB0 hF
    go_enter Tryd.func21, Tryd.ntmps21
    go_wp2
    go_ret
    exact ⟨_, rfl, by rw [e1]; exact one_row _ _ _ t HB0.out.size (by rw [World.size_alloc]), HB0.out.alloc HB0.out.size _⟩
  | some b =>
    obtain ⟨_, _, g, hg, hS⟩ := hT1.so _ _ hF
    have hg0 := okC_none hok _ _ hg
    have hlk1 := lookS hS hs
    have hlk2 := lookS hS (s := ⟨#[]⟩) (by decide)
    rw [hF] at hlk
    rw [hg0] at hlk2
    have hlk' : (Instr.lookup 57 (.map (some bm)) (.int .i64 t.f0) true).run Tryd.prog (w.alloc (.cells #[.int .i64 t.f0, .string t.f1] 62)) = .ok (.tuple #[.map (some b), .bool true]) (w.alloc (.cells #[.int .i64 t.f0, .string t.f1] 62)) := hlk
    have hlk2' : (Instr.lookup 58 (.map (some b)) (.string ⟨#[]⟩) true).run Tryd.prog (w.alloc (.cells #[.int .i64 t.f0, .string t.f1] 62)) = .ok (.tuple #[.int .i64 0, .bool false]) (w.alloc (.cells #[.int .i64 t.f0, .string t.f1] 62)) := hlk2
    cases hgs : g t.f1 with
    | none =>
      have e1 : mapF cs t = [t] := by
        unfold mapF ZTk_at2
        rw [hg]
        show [(⟨(g t.f1).getD t.f0, t.f1⟩ : ZTk_C)] = [t]
        rw [hgs]
        rfl
      rw [hgs] at hlk1
      have hlk1' : (Instr.lookup 58 (.map (some b)) (.string t.f1) true).run Tryd.prog (w.alloc (.cells #[.int .i64 t.f0, .string t.f1] 62)) = .ok (.tuple #[.int .i64 0, .bool false]) (w.alloc (.cells #[.int .i64 t.f0, .string t.f1] 62)) := hlk1
      clear hlk hlk1 hlk2 hT hT1 hb hB0 hF hg hS hg0 hgs
      go_enter Tryd.func21, Tryd.ntmps21
      go_wp2
      go_ret
      exact ⟨_, rfl, by rw [e1]; exact one_row _ _ _ t HB0.out.size (by rw [World.size_alloc]), HB0.out.alloc HB0.out.size _⟩
    | some tv =>
      have e1 : mapF cs t = [⟨tv, t.f1⟩] := by
        unfold mapF ZTk_at2
        rw [hg]
        show [(⟨(g t.f1).getD t.f0, t.f1⟩ : ZTk_C)] = _
        rw [hgs]
        rfl
      rw [hgs] at hlk1
      have hlk1' : (Instr.lookup 58 (.map (some b)) (.string t.f1) true).run Tryd.prog (w.alloc (.cells #[.int .i64 t.f0, .string t.f1] 62)) = .ok (.tuple #[.int .i64 tv, .bool true]) (w.alloc (.cells #[.int .i64 t.f0, .string t.f1] 62)) := hlk1
      clear hlk hlk1 hlk2 hlk2' hT hT1 hb hB0 hF hg hS hg0 hgs
      go_enter Tryd.func21, Tryd.ntmps21
      go_wp2
      go_ret
      have hB1 := (Below.refl w.heap.size w).alloc (Nat.le_refl _) (.cells #[.int .i64 tv, .string t.f1] 62)
      exact ⟨_, rfl, by rw [e1]; exact one_row _ _ _ ⟨tv, t.f1⟩ hB1.size (by rw [World.size_alloc]), hB1.alloc hB1.size _⟩
/-- A row of a TypeMapping: its words are a slice elsewhere. -/
structure ZTk_Y where
  f0 : Int
  f1 : Int
  A : Addr
  c : Nat
  ws : List ByteArray
def ZTk_zY : ZTk_Y := ⟨0, 0, ⟨0, 0, none⟩, 0, []⟩
def ZTk_kY : Kd ZTk_Y := Kd.iso (Kd.pair (Kd.int .i64) (Kd.pair (Kd.int .i64) (Kd.scalar (fun x : Option Addr × Nat × Nat => Value.slice x.1 x.2.1 x.2.2) (fun _ => rfl)))) (fun y : ZTk_Y => (y.f0, y.f1, (some y.A, y.ws.length, y.c)))
theorem kY_open {w : World} {x : ZTk_Y} {cs : List Value} (h : ZTk_kY.K w x cs) : cs = [.int .i64 x.f0, .int .i64 x.f1, .slice (some x.A) x.ws.length x.c] := by
  obtain ⟨_, _, rfl, rfl, ⟨_, _, rfl, rfl, rfl⟩⟩ := h
  exact rfl
theorem kY_mkM (w : World) (base : Nat) (ok : Nat → Prop) (x : ZTk_Y) : ZTk_kY.M w base ok x [.int .i64 x.f0, .int .i64 x.f1, .slice (some x.A) x.ws.length x.c] := ⟨[.int .i64 x.f0], [.int .i64 x.f1, .slice (some x.A) x.ws.length x.c], rfl, rfl, ⟨[.int .i64 x.f1], [.slice (some x.A) x.ws.length x.c], rfl, rfl, rfl⟩⟩
def rd_Y (xs : List ZTk_Y) (i : Int) : ZTk_Y := xs.getD i.toNat ZTk_zY
theorem at_Y {w : World} {A : Option Addr} {n : Nat} {xs : List ZTk_Y} (h : Kd.C ZTk_kY w A n xs) (i : Int) (h0 : 0 ≤ i) (h1 : i < n) : ∃ ad, A = some ad ∧ w.cell? (ad.add (i.toNat * 3)) = some (.int .i64 (rd_Y xs i).f0) ∧ w.cell? ⟨(ad.add (i.toNat * 3)).block, (ad.add (i.toNat * 3)).off + 1, none⟩ = some (.int .i64 (rd_Y xs i).f1) ∧ w.cell? ⟨(ad.add (i.toNat * 3)).block, (ad.add (i.toNat * 3)).off + 2, none⟩ = some (.slice (some (rd_Y xs i).A) (rd_Y xs i).ws.length (rd_Y xs i).c) := by
  obtain ⟨ad, c, e, _, hK, hc0⟩ := Kd.C_get h ZTk_zY i h0 h1
  have hc : ∀ j u, c[j]? = some u → w.cell? (ad.add (i.toNat * 3 + j)) = some u := hc0
  obtain rfl := kY_open hK
  exact ⟨ad, e, hc 0 _ rfl, by rw [← add_field _ _ 1 (by omega)]; exact hc 1 _ rfl, by rw [← add_field _ _ 2 (by omega)]; exact hc 2 _ rfl⟩
theorem rdY_mem {ys : List ZTk_Y} {x : Int} (h0 : 0 ≤ x) (h1 : x < ys.length) : ys.take (x.toNat + 1) = ys.take x.toNat ++ [rd_Y ys x] ∧ rd_Y ys x ∈ ys := by
  have h : x.toNat < ys.length := by omega
  have e : rd_Y ys x = ys[x.toNat] := by simp [rd_Y, List.getD_eq_getElem?_getD, h]
  rw [e]
  exact ⟨by rw [List.take_succ_eq_append_getElem h], List.getElem_mem h⟩
def ZTk_toY (y : ZTk_Y) : ZTk_M := (y.f0, y.f1, y.ws)
/-- What the table asks of a row. -/
structure Good (w : World) (y : ZTk_Y) : Prop where
  hc : y.ws.length ≤ y.c
  hC : Kd.C Kd.string w (some y.A) y.ws.length y.ws
  h1 : 1 ≤ y.ws.length
  h2 : y.ws.length ≤ 1000
  ok : ZTk_Ok y.f0
  hs : ∀ s ∈ y.ws, s.size ≤ maxLen
/-- Rounds of the outer loop. -/
structure ZTk_OI (ys : List ZTk_Y) (w : World) (k : Nat) (wr : World) : Prop where
  hB : Below w.heap.size w wr
  hb : wr.heap[w.heap.size + 1]? = some (.cells #[.map (some w.heap.size)] 57 (0, 0))
  hT : ∃ F, TabF wr (w.heap.size + 2) w.heap.size (1001 * k) (ZTk_tab ((ys.take k).map ZTk_toY)) F
def tabI (t : ZTk_Tb) (y : ZTk_Y) (j : Nat) : ZTk_Tb := fun z => if z = y.f0 then some (putW y.f1 ((t y.f0).getD (fun _ => none)) (y.ws.take j)) else t z
/-- Rounds of the inner loop. -/
structure ZTk_II (y : ZTk_Y) (t : ZTk_Tb) (k bx b : Nat) (w : World) (j : Nat) (wr : World) : Prop where
  hB : Below w.heap.size w wr
  hb : wr.heap[w.heap.size + 1]? = some (.cells #[.map (some w.heap.size)] 57 (0, 0))
  hx : wr.heap[bx]? = some (.cells #[.int .i64 y.f0, .int .i64 y.f1, .slice (some y.A) y.ws.length y.c] 40 (0, 0))
  hT : ∃ F, F y.f0 = some b ∧ TabF wr (w.heap.size + 2) w.heap.size (1001 * k + 1 + j) (tabI t y j) F
theorem ZTk_OI.start (ys : List ZTk_Y) (w : World) : ZTk_OI ys w 0 ((w.alloc (.map #[] 0)).alloc (.cells #[.map (some w.heap.size)] 57)) := by
  have h1 : Below w.heap.size w (w.alloc (.map #[] 0)) := (Below.refl _ _).alloc (Nat.le_refl _) _
  refine ⟨h1.alloc h1.size _, ?_, fun _ => none, ⟨(icongr (MapI.made w) (fun _ => rfl)).same (Below.heap_alloc _ _ _ (by rw [World.size_alloc]; omega)), fun _ _ => rfl, fun k b h => (by cases h), fun k k' b h => (by cases h)⟩⟩
  have := blk_new (w.alloc (.map #[] 0)) (.cells #[.map (some w.heap.size)] 57)
  rw [World.size_alloc] at this
  exact this
theorem tabI_all (t : ZTk_Tb) (y : ZTk_Y) : tabI t y y.ws.length = ZTk_put t (ZTk_toY y) := by
  funext z
  unfold tabI ZTk_put ZTk_toY
  rw [List.take_length]
theorem tab_snoc (ms : List ZTk_M) (m : ZTk_M) : ZTk_tab (ms ++ [m]) = ZTk_put (ZTk_tab ms) m := by simp [ZTk_tab, List.foldl_append]
theorem putW_snoc (tv : Int) (f : ByteArray → Option Int) (ws : List ByteArray) (s : ByteArray) : putW tv f (ws ++ [s]) = fun z => if z = s then some tv else putW tv f ws z := by
  unfold putW; rw [List.foldl_append]; rfl
/-- The table holds the row's type. -/
theorem ZTk_II.had {ys : List ZTk_Y} {w wr : World} {k b : Nat} {F : Int → Option Nat} {y : ZTk_Y} (h : ZTk_OI ys w k wr) (hT : TabF wr (w.heap.size + 2) w.heap.size (1001 * k) (ZTk_tab ((ys.take k).map ZTk_toY)) F) (hF : F y.f0 = some b) :
    ZTk_II y (ZTk_tab ((ys.take k).map ZTk_toY)) k wr.heap.size b w 0 (wr.alloc (.cells #[.int .i64 y.f0, .int .i64 y.f1, .slice (some y.A) y.ws.length y.c] 40)) := by
  obtain ⟨_, _, g, hg, _⟩ := hT.so _ _ hF
  refine ⟨h.hB.alloc h.hB.size _, blk_alloc h.hb _, blk_new _ _, F, hF, ((hT.same (fun k hk => Below.heap_alloc _ _ _ hk)).mono (by omega)).congr (fun z => ?_)⟩
  unfold tabI
  by_cases e : z = y.f0
  · rw [if_pos e, e, hg]; rfl
  · rw [if_neg e]
/-- The table has it not yet. -/
theorem ZTk_II.fresh {ys : List ZTk_Y} {w wr : World} {k : Nat} {F : Int → Option Nat} {y : ZTk_Y} (h : ZTk_OI ys w k wr) (hT : TabF wr (w.heap.size + 2) w.heap.size (1001 * k) (ZTk_tab ((ys.take k).map ZTk_toY)) F) (hF : F y.f0 = none) (ok : ZTk_Ok y.f0) (hk : k ≤ 1000) :
    ∃ W2, (Instr.mapUpdate 57 (.map (some w.heap.size)) (.int .i64 y.f0) (.map (some (wr.heap.size + 1)))).run Tryd.prog ((wr.alloc (.cells #[.int .i64 y.f0, .int .i64 y.f1, .slice (some y.A) y.ws.length y.c] 40)).alloc (.map #[] 0)) = .ok () W2 ∧
      ZTk_II y (ZTk_tab ((ys.take k).map ZTk_toY)) k wr.heap.size (wr.heap.size + 1) w 0 W2 := by
  have hlt := blk_lt h.hb
  have hB1 := h.hB.alloc h.hB.size (.cells #[.int .i64 y.f0, .int .i64 y.f1, .slice (some y.A) y.ws.length y.c] 40)
  have hT1 := hT.same (W' := wr.alloc (.cells #[.int .i64 y.f0, .int .i64 y.f1, .slice (some y.A) y.ws.length y.c] 40)) (fun k hk => Below.heap_alloc _ _ _ hk)
  obtain ⟨W2, hup, hT2, hg⟩ := hT1.fresh ok hF (by unfold maxLen; omega) (by rw [World.size_alloc]; omega)
  rw [World.size_alloc] at hup hT2
  have hne : ∀ j, j ≠ w.heap.size → some j ≠ some w.heap.size := fun j hj e => hj (Option.some.inj e)
  refine ⟨W2, hup, (hB1.alloc hB1.size _).grown hg (by have := (hB1.alloc hB1.size (.map #[] 0)).size; exact this) (fun j e => Nat.le_of_eq (Option.some.inj e)), ?_, ?_, _, if_pos rfl, hT2.congr (fun z => ?_)⟩
  · exact (hg.block _ (by rw [World.size_alloc, World.size_alloc]; omega) (hne _ (by omega))).trans (blk_alloc (blk_alloc h.hb _) _)
  · exact (hg.block _ (by rw [World.size_alloc, World.size_alloc]; omega) (hne _ (by omega))).trans (blk_alloc (blk_new _ _) _)
  · unfold tabI
    by_cases e : z = y.f0
    · rw [if_pos e, if_pos e, hT.no _ hF]; rfl
    · rw [if_neg e, if_neg e]
/-- A word more. -/
theorem ZTk_II.word {w wr : World} {y : ZTk_Y} {t : ZTk_Tb} {k bx b j : Nat} (h : ZTk_II y t k bx b w j wr) (hj : j < y.ws.length) (hs : (y.ws[j]).size ≤ maxLen) (hk : k ≤ 1000) (hl : y.ws.length ≤ 1000) :
    ∃ W2, (Instr.mapUpdate 58 (.map (some b)) (.string y.ws[j]) (.int .i64 y.f1)).run Tryd.prog wr = .ok () W2 ∧ ZTk_II y t k bx b w (j + 1) W2 := by
  obtain ⟨F, hF, hT⟩ := h.hT
  have ht : tabI t y j y.f0 = some (putW y.f1 ((t y.f0).getD (fun _ => none)) (y.ws.take j)) := if_pos rfl
  obtain ⟨W2, hup, hT2, hg⟩ := hT.word hF ht hs (by unfold maxLen; omega) y.f1
  obtain ⟨hb2, _, g, _, hS⟩ := hT.so _ _ hF
  obtain ⟨D, ⟨es, c, hbb, _⟩, _⟩ := hS
  have n1 : bx ≠ b := fun e => by have := h.hx; rw [e, hbb] at this; cases this
  refine ⟨W2, hup, h.hB.grown hg h.hB.size (fun j e => by have := Option.some.inj e; omega), (hg.block _ (blk_lt h.hb) (fun e => by have := Option.some.inj e; omega)).trans h.hb, (hg.block _ (blk_lt h.hx) (fun e => n1 (Option.some.inj e))).trans h.hx, F, hF, hT2.congr (fun z => ?_)⟩
  unfold tabI
  by_cases e : z = y.f0
  · rw [if_pos e, if_pos e, List.take_succ_eq_append_getElem hj, putW_snoc]
  · rw [if_neg e, if_neg e, if_neg e]
theorem ZTk_II.done {w wr : World} {ys : List ZTk_Y} {x : Int} {y : ZTk_Y} {bx b : Nat} (h : ZTk_II y (ZTk_tab ((ys.take x.toNat).map ZTk_toY)) x.toNat bx b w y.ws.length wr) (hl : y.ws.length ≤ 1000) (ht : ys.take (x.toNat + 1) = ys.take x.toNat ++ [y]) : ZTk_OI ys w (x.toNat + 1) wr := by
  obtain ⟨F, hF, hT⟩ := h.hT
  refine ⟨h.hB, h.hb, F, (hT.mono (by omega)).congr (fun z => ?_)⟩
  rw [ht, List.map_append, List.map_singleton, tab_snoc, tabI_all]
set_option maxRecDepth 100000 in
set_option maxHeartbeats 8000000 in
theorem trl_c (lx : Value) (tx : TypeId) (Am : Option Addr) (cm : Nat) (ys : List ZTk_Y) (w : World) (hC : Kd.C ZTk_kY w Am ys.length ys) (hcm : ys.length ≤ cm) (hg : ∀ y ∈ ys, Good w y) (hlen : ys.length ≤ 1000)
    (hrl : ∀ (u v : Array Value) (fn : Fn) (w : World), Calls Tryd.prog 20 #[.iface tx lx, .func fn u v] w fun e w' => e = .returned (.iface 82 (.pointer (some ⟨w.heap.size, 0, none⟩))) ∧ w' = w.alloc (.cells #[.iface tx lx, .func fn u v] 84)) :
    Calls Tryd.prog 13 #[.iface tx lx, .slice Am ys.length cm] w fun e w' => ∃ W, e = .returned (.iface 82 (.pointer (some ⟨W.heap.size, 0, none⟩))) ∧ w' = W.alloc (.cells #[.iface tx lx, .func (.func 21) #[] #[.pointer (some ⟨w.heap.size + 1, 0, none⟩)]] 84) ∧ ZTk_OI ys w ys.length W := by
  have hu := Tryd.underlying40
  have hmm := @run_makeMap Tryd.prog
  have hmf : ∀ (fn : Fn) (first cap : Array Value) (w : World), (Instr.makeFunc fn first cap).run Tryd.prog w = .ok (.func fn first cap) w := fun _ _ _ _ => rfl
  have HC := Aside0.mk hC
  have HGs := Aside0.mk hg
  have HL := Aside0.mk hlen
  clear hC hg
  go_enter Tryd.func13, Tryd.ntmps13
  go_wp2
  go_loopg [15] (ys.length + 1) (fun kq v15 wr => ∃ (x15 : Int), v15 = .int .i64 x15 ∧ Aside0 (0 ≤ x15 ∧ x15 ≤ ys.length ∧ ys.length - x15.toNat < kq) ∧ Aside0 (ZTk_OI ys w x15.toNat wr))
  case atStart => exact ⟨0, rfl, ⟨by omega, by omega, by simp⟩, ⟨ZTk_OI.start ys w⟩⟩
  case round =>
    obtain ⟨x15, rfl, HK, HO⟩ := hrel
    cases gk with
    | zero => have := HK.out; omega
    | succ k1 =>
      by_cases hlt : x15 < (ys.length : Int)
      · have hx0 : 0 ≤ x15 := HK.out.1
        have hCw := Kd.C_below HC.out HO.out.hB
        obtain ⟨ad, e, hy0, hy1, hy2⟩ := at_Y hCw x15 hx0 hlt
        cases e
        obtain ⟨hdr, hmem⟩ := rdY_mem hx0 hlt
        have HG := Aside0.mk (HGs.out _ hmem)
        have HD := Aside0.mk hdr
        have hla := World.block_lt_of_cell? wr _ hy0
        have HKk : Aside0 (x15.toNat ≤ 1000) := ⟨by have := HL.out; omega⟩
        have hwr : Aside0 (wrap64 (x15 + 1) = x15 + 1) := ⟨by unfold wrap64; omega⟩
        have c15 : decide (x15 < (ys.length : Int)) = true := decide_eq_true hlt
        have p1 := eq_true hx0
        have q1 := eq_true hlt
        generalize rd_Y ys x15 = y at *
        have b0 : wr.cell? ⟨w.heap.size + 1, 0, none⟩ = some (.map (some w.heap.size)) := (blk_cell HO.out.hb 0).trans rfl
        have lb := blk_lt HO.out.hb
        have hn0 : ((y.ws.length : Int) == 0) = false := beq_eq_false_iff_ne.2 (by have := HG.out.h1; omega)
        obtain ⟨F, hT⟩ := HO.out.hT
        have hlk := (hT.same (W' := wr.alloc (.cells #[.int .i64 y.f0, .int .i64 y.f1, .slice (some y.A) y.ws.length y.c] 40)) (fun k hk => Below.heap_alloc _ _ _ hk)).look HG.out.ok
        clear hCw hx0 hlt hdr hmem
        cases hF : F y.f0 with
        | none =>
          obtain ⟨w3, hup, hI0⟩ := ZTk_II.fresh HO.out hT hF HG.out.ok HKk.out
          rw [hF] at hlk
          have hlk' : (Instr.lookup 57 (.map (some w.heap.size)) (.int .i64 y.f0) true).run Tryd.prog (wr.alloc (.cells #[.int .i64 y.f0, .int .i64 y.f1, .slice (some y.A) y.ws.length y.c] 40)) = .ok (.tuple #[.map none, .bool false]) (wr.alloc (.cells #[.int .i64 y.f0, .int .i64 y.f1, .slice (some y.A) y.ws.length y.c] 40)) := hlk
          clear hlk hF hT
          obtain ⟨w1, hw1⟩ : ∃ w1, w1 = wr := ⟨_, rfl⟩
          subst hw1
          have hb1 := blk_alloc (blk_alloc HO.out.hb (.cells #[.int .i64 y.f0, .int .i64 y.f1, .slice (some y.A) y.ws.length y.c] 40)) (.map #[] 0)
          have hb2 := blk_alloc (blk_new w1 (.cells #[.int .i64 y.f0, .int .i64 y.f1, .slice (some y.A) y.ws.length y.c] 40)) (.map #[] 0)
          have m0 : ((w1.alloc (.cells #[.int .i64 y.f0, .int .i64 y.f1, .slice (some y.A) y.ws.length y.c] 40)).alloc (.map #[] 0)).cell? ⟨w.heap.size + 1, 0, none⟩ = some (.map (some w.heap.size)) := (blk_cell hb1 0).trans rfl
          have m1 : ((w1.alloc (.cells #[.int .i64 y.f0, .int .i64 y.f1, .slice (some y.A) y.ws.length y.c] 40)).alloc (.map #[] 0)).cell? ⟨w1.heap.size, 0, none⟩ = some (.int .i64 y.f0) := (blk_cell hb2 0).trans rfl
          clear hb1 hb2
          have HI0 := Aside0.mk hI0
          have t1 : w3.cell? ⟨w1.heap.size, 1, none⟩ = some (.int .i64 y.f1) := (blk_cell hI0.hx 1).trans rfl
          have t2 : w3.cell? ⟨w1.heap.size, 2, none⟩ = some (.slice (some y.A) y.ws.length y.c) := (blk_cell hI0.hx 2).trans rfl
          have lbx := blk_lt hI0.hx
          clear hI0
          go_wp2
          go_loopg [43] (y.ws.length + 1) (fun kq v43 wr => ∃ (x43 : Int), v43 = .int .i64 x43 ∧ Aside0 (0 ≤ x43 ∧ x43 ≤ y.ws.length ∧ y.ws.length - x43.toNat < kq) ∧ Aside0 (ZTk_II y (ZTk_tab ((ys.take x15.toNat).map ZTk_toY)) x15.toNat w1.heap.size (w1.heap.size + 1) w x43.toNat wr))
          case atStart => exact ⟨0, rfl, ⟨by omega, by omega, by simp⟩, HI0⟩
          case round =>
            obtain ⟨x43, rfl, HK2, HJ⟩ := hrel
            cases gk with
            | zero => have := HK2.out; omega
            | succ k2 =>
              by_cases hlt2 : x43 < (y.ws.length : Int)
              · have hz0 : 0 ≤ x43 := HK2.out.1
                have hjn : x43.toNat < y.ws.length := by omega
                have hCs := Kd.C_below HG.out.hC HJ.out.hB
                obtain ⟨ad2, e2, hs0⟩ := Kd.at_string hCs x43 hz0 hlt2
                have erd : rdOf ByteArray.empty y.ws x43 = y.ws[x43.toNat] := by simp [rdOf, List.getD_eq_getElem?_getD, hjn]
                rw [erd] at hs0
                obtain rfl := Option.some.inj e2
                have hla2 := World.block_lt_of_cell? wr _ hs0
                obtain ⟨w5, hup, hI5⟩ := HJ.out.word hjn (HG.out.hs _ (List.getElem_mem hjn)) HKk.out HG.out.h2
                have u1 : wr.cell? ⟨w1.heap.size, 1, none⟩ = some (.int .i64 y.f1) := (blk_cell HJ.out.hx 1).trans rfl
                have lbx2 := blk_lt HJ.out.hx
                have HI5 := Aside0.mk hI5
                have hwr2 : Aside0 (wrap64 (x43 + 1) = x43 + 1) := ⟨by have := HG.out.h2; unfold wrap64; omega⟩
                have c43 : decide (x43 < (y.ws.length : Int)) = true := decide_eq_true hlt2
                have pz := eq_true hz0
                have qz := eq_true hlt2
                generalize y.ws[x43.toNat] = s2 at *
                clear hI5 hCs hz0 hlt2 erd hjn
                go_wp2
                go_roundg k2
                case measure => omega
                case rel =>
                  have hk := HK2.out
                  have e1 : (wrap64 (x43 + 1)).toNat = x43.toNat + 1 := by rw [hwr2.out]; omega
                  refine ⟨wrap64 (x43 + 1), rfl, ⟨by rw [hwr2.out]; have := of_eq_true qz; omega⟩, ?_⟩
                  rw [e1]
                  exact HI5
              · have hxe : x43.toNat = y.ws.length := by have := HK2.out; omega
                have c43 : decide (x43 < (y.ws.length : Int)) = false := decide_eq_false hlt2
                have HN : Aside0 (ZTk_OI ys w (x15.toNat + 1) wr) := ⟨ZTk_II.done (hxe ▸ HJ.out) HG.out.h2 HD.out⟩
                clear hxe hlt2
                go_wp2
                go_roundg k1
                case measure => omega
                case rel =>
                  have hk := HK.out
                  have e1 : (wrap64 (x15 + 1)).toNat = x15.toNat + 1 := by rw [hwr.out]; omega
                  refine ⟨wrap64 (x15 + 1), rfl, ⟨by rw [hwr.out]; have := of_eq_true q1; omega⟩, ?_⟩
                  rw [e1]
                  exact HN
        | some b =>
          have hI0 := ZTk_II.had HO.out hT hF
          rw [hF] at hlk
          have hlk' : (Instr.lookup 57 (.map (some w.heap.size)) (.int .i64 y.f0) true).run Tryd.prog (wr.alloc (.cells #[.int .i64 y.f0, .int .i64 y.f1, .slice (some y.A) y.ws.length y.c] 40)) = .ok (.tuple #[.map (some b), .bool true]) (wr.alloc (.cells #[.int .i64 y.f0, .int .i64 y.f1, .slice (some y.A) y.ws.length y.c] 40)) := hlk
          clear hlk hF hT
          obtain ⟨w1, hw1⟩ : ∃ w1, w1 = wr := ⟨_, rfl⟩
          subst hw1
          have HI0 := Aside0.mk hI0
          have t1 : (w1.alloc (.cells #[.int .i64 y.f0, .int .i64 y.f1, .slice (some y.A) y.ws.length y.c] 40)).cell? ⟨w1.heap.size, 1, none⟩ = some (.int .i64 y.f1) := (blk_cell hI0.hx 1).trans rfl
          have t2 : (w1.alloc (.cells #[.int .i64 y.f0, .int .i64 y.f1, .slice (some y.A) y.ws.length y.c] 40)).cell? ⟨w1.heap.size, 2, none⟩ = some (.slice (some y.A) y.ws.length y.c) := (blk_cell hI0.hx 2).trans rfl
          have lbx := blk_lt hI0.hx
          clear hI0
          go_wp2
          go_loopg [43] (y.ws.length + 1) (fun kq v43 wr => ∃ (x43 : Int), v43 = .int .i64 x43 ∧ Aside0 (0 ≤ x43 ∧ x43 ≤ y.ws.length ∧ y.ws.length - x43.toNat < kq) ∧ Aside0 (ZTk_II y (ZTk_tab ((ys.take x15.toNat).map ZTk_toY)) x15.toNat w1.heap.size b w x43.toNat wr))
          case atStart => exact ⟨0, rfl, ⟨by omega, by omega, by simp⟩, HI0⟩
          case round =>
            obtain ⟨x43, rfl, HK2, HJ⟩ := hrel
            cases gk with
            | zero => have := HK2.out; omega
            | succ k2 =>
              by_cases hlt2 : x43 < (y.ws.length : Int)
              · have hz0 : 0 ≤ x43 := HK2.out.1
                have hjn : x43.toNat < y.ws.length := by omega
                have hCs := Kd.C_below HG.out.hC HJ.out.hB
                obtain ⟨ad2, e2, hs0⟩ := Kd.at_string hCs x43 hz0 hlt2
                have erd : rdOf ByteArray.empty y.ws x43 = y.ws[x43.toNat] := by simp [rdOf, List.getD_eq_getElem?_getD, hjn]
                rw [erd] at hs0
                obtain rfl := Option.some.inj e2
                have hla2 := World.block_lt_of_cell? wr _ hs0
                obtain ⟨w5, hup, hI5⟩ := HJ.out.word hjn (HG.out.hs _ (List.getElem_mem hjn)) HKk.out HG.out.h2
                have u1 : wr.cell? ⟨w1.heap.size, 1, none⟩ = some (.int .i64 y.f1) := (blk_cell HJ.out.hx 1).trans rfl
                have lbx2 := blk_lt HJ.out.hx
                have HI5 := Aside0.mk hI5
                have hwr2 : Aside0 (wrap64 (x43 + 1) = x43 + 1) := ⟨by have := HG.out.h2; unfold wrap64; omega⟩
                have c43 : decide (x43 < (y.ws.length : Int)) = true := decide_eq_true hlt2
                have pz := eq_true hz0
                have qz := eq_true hlt2
                generalize y.ws[x43.toNat] = s2 at *
                clear hI5 hCs hz0 hlt2 erd hjn
                go_wp2
                go_roundg k2
                case measure => omega
                case rel =>
                  have hk := HK2.out
                  have e1 : (wrap64 (x43 + 1)).toNat = x43.toNat + 1 := by rw [hwr2.out]; omega
                  refine ⟨wrap64 (x43 + 1), rfl, ⟨by rw [hwr2.out]; have := of_eq_true qz; omega⟩, ?_⟩
                  rw [e1]
                  exact HI5
              · have hxe : x43.toNat = y.ws.length := by have := HK2.out; omega
                have c43 : decide (x43 < (y.ws.length : Int)) = false := decide_eq_false hlt2
                have HN : Aside0 (ZTk_OI ys w (x15.toNat + 1) wr) := ⟨ZTk_II.done (hxe ▸ HJ.out) HG.out.h2 HD.out⟩
                clear hxe hlt2
                go_wp2
                go_roundg k1
                case measure => omega
                case rel =>
                  have hk := HK.out
                  have e1 : (wrap64 (x15 + 1)).toNat = x15.toNat + 1 := by rw [hwr.out]; omega
                  refine ⟨wrap64 (x15 + 1), rfl, ⟨by rw [hwr.out]; have := of_eq_true q1; omega⟩, ?_⟩
                  rw [e1]
                  exact HN
      · have hxe : x15.toNat = ys.length := by have := HK.out; omega
        have c15 : decide (x15 < (ys.length : Int)) = false := decide_eq_false hlt
        go_wp2_with (go_at_call 20; refine (hrl _ _ _ _).mono ?_; rintro e w2 ⟨rfl, rfl⟩)
        go_ret
        exact ⟨_, rfl, rfl, hxe ▸ HO.out⟩
/-- What a call of the mapper hands back, laid into the buffer's block. -/
theorem lit_set {w : World} {base Bb Bn t : Nat} {cs : Array Value} {u v : Value} {l : List ZTk_C} (h : ZTk_RC w base v l) (hu : w.heap[Bb]? = some (.cells #[u] 51 (0, 0))) (hN : w.heap[Bn]? = some (.cells cs t (0, 0))) (hBn : Bn ≠ Bb) (t1 : 23 ≠ t) (t2 : 30 ≠ t) :
    ∃ g, LitAt (w.setCell ⟨Bb, 0, none⟩ v) Bb g l ∧ g < w.heap.size ∧ (g = Bn ∨ base ≤ g) := by
  obtain ⟨A, c, rfl⟩ := Kd.R_slice h
  obtain ⟨_, hc, hC⟩ := Kd.R_reads' h
  have hb := blk_lt hN
  have far : ∀ k, k ≠ Bb → (w.setCell ⟨Bb, 0, none⟩ (.slice A l.length c)).heap[k]? = w.heap[k]? := fun k hk => Below.heap_setCell _ ⟨Bb, 0, none⟩ _ k hk
  by_cases hne : l = []
  · exact ⟨Bn, ⟨A, c, blk_put hu 0 _ rfl, hc, ⟨_, _, (far _ hBn).trans hN, t1, t2⟩, hBn, fun h => absurd hne h⟩, hb, .inl rfl⟩
  have hpos : 0 < l.length := List.length_pos_iff.2 hne
  obtain ⟨g, cap, e, hbg, hlt, cs, hcs⟩ := Kd.R_form h hpos
  injection e with e _ _
  subst e
  have hgb : g ≠ Bb := blk_ne' hcs hu (by decide)
  refine ⟨g, ⟨some ⟨g, 0, none⟩, c, blk_put hu 0 _ rfl, hc, ⟨cs, _, (far _ hgb).trans hcs, by decide, by decide⟩, hgb, fun _ => ⟨0, rfl, fun i hi => ?_⟩⟩, hlt, .inr hbg⟩
  obtain ⟨ad, e1, h0, h1⟩ := at_T62 hC (i : Int) (by omega) (by omega)
  injection e1 with e1
  subst e1
  have rdC : rd_T62 l (i : Int) = l[i] := by simp [rd_T62, List.getD_eq_getElem?_getD, hi]
  rw [rdC] at h0 h1
  have q : ∀ a : Addr, a.block = g → (w.setCell ⟨Bb, 0, none⟩ (.slice (some ⟨g, 0, none⟩) l.length c)).cell? a = w.cell? a := fun a ha => World.cell?_of_block (by rw [ha]; exact far _ hgb)
  rw [q _ rfl, q _ rfl]
  have eA : (⟨g, 0, none⟩ : Addr).add ((i : Int).toNat * 2) = ⟨g, 0 + 2 * i, none⟩ := by
    rw [Int.toNat_natCast, Nat.mul_comm, Addr.add_lit]
  rw [eA] at h0 h1
  exact ⟨h0, h1⟩
/-- A remapping lexer's iterator: the buffer (blocks Bb, gb), the iterator under it (blocks Bi, Bt, g), the receiver (block Bq). -/
structure RmAt (W : World) (b0 b1 Bb Bi Bq Br Bt g gb : Nat) (buf l : List ZTk_C) : Prop where
  buf : LitAt W Bb gb buf
  it : W.heap[Bi]? = some (.cells #[ZTk_itV Bt] 79 (0, 0))
  bq : W.heap[Bq]? = some (.cells #[.pointer (some ⟨Br, 0, none⟩)] 82 (0, 0))
  lit : LitAt W Bt g l
  nb : b0 ≤ Bb ∧ Bb < b1
  ni : Bi < b1
  nq : Bq < b1
  nt : b0 ≤ Bt ∧ Bt < b1
  ng : g < b1
  bt : Bb ≠ Bt
  gB : g ≠ Bb
  gT : gb ≠ Bt
theorem RmAt.same {W W' : World} {b0 b1 Bb Bi Bq Br Bt g gb : Nat} {buf l : List ZTk_C} (h : RmAt W b0 b1 Bb Bi Bq Br Bt g gb buf l) (hk : ∀ k, k < b1 → k < W.heap.size → W'.heap[k]? = W.heap[k]?) (hg : W'.heap[gb]? = W.heap[gb]?) : RmAt W' b0 b1 Bb Bi Bq Br Bt g gb buf l :=
  ⟨h.buf.same (hk _ h.nb.2 h.buf.lt) hg, (hk _ h.ni (blk_lt h.it)).trans h.it, (hk _ h.nq (blk_lt h.bq)).trans h.bq, h.lit.same (hk _ h.nt.2 h.lit.lt) (hk _ h.ng (lit_g h.lit)), h.nb, h.ni, h.nq, h.nt, h.ng, h.bt, h.gB, h.gT⟩
/-- Behind a call of the iterator. -/
theorem RmAt.next {W W' : World} {b0 b1 Bb Bi Bq Br Bt g gb : Nat} {buf l : List ZTk_C} (h : RmAt W b0 b1 Bb Bi Bq Br Bt g gb buf l) (hg : W.grownBy W' (some Bt)) (hl : LitAt W' Bt g l.tail) : RmAt W' b0 b1 Bb Bi Bq Br Bt g gb buf l.tail := by
  obtain ⟨A, c, hB⟩ := lit_cell h.lit
  have n1 : Bi ≠ Bt := blk_ne' h.it hB (by decide)
  have n2 : Bq ≠ Bt := blk_ne' h.bq hB (by decide)
  exact ⟨h.buf.same (hg.block _ h.buf.lt (fun e => h.bt (by injection e))) (hg.block _ (lit_g h.buf) (fun e => h.gT (by injection e))), (hg.block _ (blk_lt h.it) (fun e => n1 (by injection e))).trans h.it, (hg.block _ (blk_lt h.bq) (fun e => n2 (by injection e))).trans h.bq, hl, h.nb, h.ni, h.nq, h.nt, h.ng, h.bt, h.gB, h.gT⟩
/-- Behind a store into the buffer's block. -/
theorem RmAt.put {W : World} {b0 b1 Bb Bi Bq Br Bt g gb g' : Nat} {buf buf' l : List ZTk_C} {v : Value} (h : RmAt W b0 b1 Bb Bi Bq Br Bt g gb buf l) (hl : LitAt (W.setCell ⟨Bb, 0, none⟩ v) Bb g' buf') (hg : g' ≠ Bt) : RmAt (W.setCell ⟨Bb, 0, none⟩ v) b0 b1 Bb Bi Bq Br Bt g g' buf' l := by
  obtain ⟨A, c, hB⟩ := lit_cell h.buf
  have far : ∀ k, k ≠ Bb → (W.setCell ⟨Bb, 0, none⟩ v).heap[k]? = W.heap[k]? := fun k hk => Below.heap_setCell _ ⟨Bb, 0, none⟩ _ k hk
  exact ⟨hl, (far _ (blk_ne' h.it hB (by decide))).trans h.it, (far _ (blk_ne' h.bq hB (by decide))).trans h.bq, h.lit.same (far _ (fun e => h.bt e.symm)) (far _ h.gB), h.nb, h.ni, h.nq, h.nt, h.ng, h.bt, h.gB, hg⟩
def rmL (cs : List ZTk_Ch) (buf l : List ZTk_C) : List ZTk_C := buf ++ l.flatMap (mapF cs)
/-- While the closure runs. -/
structure ZTk_RI (b0 b1 Bb Bi Bq Br Bt g gb : Nat) (cs : List ZTk_Ch) (xs : List ZTk_C) (w : World) (gb' : Nat) (buf l : List ZTk_C) (wr : World) : Prop where
  eq : rmL cs buf l = xs
  at_ : RmAt wr b0 b1 Bb Bi Bq Br Bt g gb' buf l
  hr : wr.heap[w.heap.size]? = some (.cells #[.int .i64 0, .string ⟨#[]⟩] 62 (0, 0))
  hF : ZTk_Fr b0 b1 w wr
  gn : gb' = gb ∨ w.heap.size < gb'
  nz : ∀ x ∈ l, ZTk_NZ x
theorem rm_fin {b0 b1 Bb Bi Bq Br Bt g gb : Nat} {buf l : List ZTk_C} {w W : World} (hb : b1 ≤ w.heap.size) (hF : ZTk_Fr b0 b1 w W) {cs : Array Value} (hr : W.heap[w.heap.size]? = some (.cells cs 62 (0, 0))) (hcs : cs.size = 2) (h : RmAt W b0 b1 Bb Bi Bq Br Bt g gb buf l) (hg : gb ≠ w.heap.size) (t : ZTk_C) (ob : Obj) :
    (((W.setCell ⟨w.heap.size, 0, none⟩ (.int .i64 t.f0)).setCell ⟨w.heap.size, 1, none⟩ (.string t.f1)).alloc ob).heap[w.heap.size]? = some (.cells #[.int .i64 t.f0, .string t.f1] 62 (0, 0)) ∧
    RmAt (((W.setCell ⟨w.heap.size, 0, none⟩ (.int .i64 t.f0)).setCell ⟨w.heap.size, 1, none⟩ (.string t.f1)).alloc ob) b0 b1 Bb Bi Bq Br Bt g gb buf l ∧ ZTk_Fr b0 b1 w (((W.setCell ⟨w.heap.size, 0, none⟩ (.int .i64 t.f0)).setCell ⟨w.heap.size, 1, none⟩ (.string t.f1)).alloc ob) := by
  have far : ∀ k, k ≠ w.heap.size → k < W.heap.size → (((W.setCell ⟨w.heap.size, 0, none⟩ (.int .i64 t.f0)).setCell ⟨w.heap.size, 1, none⟩ (.string t.f1)).alloc ob).heap[k]? = W.heap[k]? := fun k hk hlt =>
    (Below.heap_alloc _ ob k (by rw [World.size_setCell, World.size_setCell]; exact hlt)).trans ((Below.heap_setCell _ ⟨w.heap.size, 1, none⟩ _ k hk).trans (Below.heap_setCell _ ⟨w.heap.size, 0, none⟩ _ k hk))
  have hsz := hF.size
  refine ⟨blk_alloc (blk_put (blk_put hr 0 _ rfl) 1 _ ?_) _, h.same (fun k hk hlt => far k (by omega) hlt) (far _ hg (lit_g h.buf)), ⟨hF.os, hF.tape, hF.output, ?_, fun k hk hkb => (far k (by omega) (by omega)).trans (hF.block k hk hkb)⟩⟩
  · obtain ⟨x, y, rfl⟩ : ∃ x y, cs = #[x, y] := by
      obtain ⟨l⟩ := cs
      match l, hcs with
      | [a, b], _ => exact ⟨a, b, rfl⟩
    rfl
  · simp; omega
/-- The buffer gives a token. -/
theorem rm_pop {b0 b1 Bb Bi Bq Br Bt g gb gb' o c c' : Nat} {cs : List ZTk_Ch} {xs : List ZTk_C} {x : ZTk_C} {b l : List ZTk_C} {w wr : World} {A A' : Option Addr} (hb : b1 ≤ w.heap.size) (hgb : gb < w.heap.size) (H : ZTk_RI b0 b1 Bb Bi Bq Br Bt g gb cs xs w gb' (x :: b) l wr)
    (a1 : wr.heap[Bb]? = some (.cells #[.slice A (x :: b).length c] 51 (0, 0))) (hT : ZTk_Toks wr gb' o (x :: b)) (hc : b.length ≤ c') (hA : b ≠ [] → A' = some ⟨gb', o + 2, none⟩) (ob : Obj) :
    ((((wr.setCell ⟨Bb, 0, none⟩ (.slice A' b.length c')).setCell ⟨w.heap.size, 0, none⟩ (.int .i64 x.f0)).setCell ⟨w.heap.size, 1, none⟩ (.string x.f1)).alloc ob).heap[w.heap.size]? = some (.cells #[.int .i64 x.f0, .string x.f1] 62 (0, 0)) ∧
    RmAt ((((wr.setCell ⟨Bb, 0, none⟩ (.slice A' b.length c')).setCell ⟨w.heap.size, 0, none⟩ (.int .i64 x.f0)).setCell ⟨w.heap.size, 1, none⟩ (.string x.f1)).alloc ob) b0 b1 Bb Bi Bq Br Bt g gb' b l ∧
    ZTk_Fr b0 b1 w ((((wr.setCell ⟨Bb, 0, none⟩ (.slice A' b.length c')).setCell ⟨w.heap.size, 0, none⟩ (.int .i64 x.f0)).setCell ⟨w.heap.size, 1, none⟩ (.string x.f1)).alloc ob) := by
  obtain ⟨A2, c2, _, _, ⟨cs3, t3, a3, a6, a7⟩, a4, _⟩ := H.at_.buf
  have far : ∀ k, k ≠ Bb → (wr.setCell ⟨Bb, 0, none⟩ (.slice A' b.length c')).heap[k]? = wr.heap[k]? := fun k hk => Below.heap_setCell _ ⟨Bb, 0, none⟩ _ k hk
  have hl : LitAt (wr.setCell ⟨Bb, 0, none⟩ (.slice A' b.length c')) Bb gb' b := ⟨A', c', blk_put a1 0 _ rfl, hc, ⟨cs3, t3, (far _ a4).trans a3, a6, a7⟩, a4, fun hl => ⟨o + 2, hA hl, hT.tail.same (far _ a4)⟩⟩
  have n1 := H.at_.nb
  have hp := H.at_.put hl H.at_.gT
  exact rm_fin hb (H.hF.trans (ZTk_Fr.set wr 0 _ n1.1 n1.2)) ((far _ (by omega)).trans H.hr) rfl hp (by have := H.gn; omega) x ob
theorem ZTk_Fr.of_below {b0 b1 : Nat} {w w' : World} (h : Below w.heap.size w w') : ZTk_Fr b0 b1 w w' := ⟨h.os, h.tape, h.output, h.size, fun k hk _ => h.block k hk⟩
/-- The mapper has filled the buffer. -/
theorem rm_back {b0 b1 Bb Bi Bq Br Bt g gb gb' : Nat} {cs : List ZTk_Ch} {xs : List ZTk_C} {y : ZTk_C} {r : List ZTk_C} {w wr w8 w9 : World} {v : Value} (hb : b1 ≤ w.heap.size) (H : ZTk_RI b0 b1 Bb Bi Bq Br Bt g gb cs xs w gb' [] (y :: r) wr)
    (hF8 : ZTk_Fr b0 b1 w w8) (hA8 : RmAt w8 b0 b1 Bb Bi Bq Br Bt g gb' [] r) (hR8 : w8.heap[w.heap.size]? = some (.cells #[.int .i64 0, .string ⟨#[]⟩] 62 (0, 0))) (hR9 : ZTk_RC w9 w8.drew.heap.size v (mapF cs y)) (hB9 : Below w8.drew.heap.size w8.drew w9) :
    ∃ A c, w9.heap[Bb]? = some (.cells #[.slice A 0 c] 51 (0, 0)) ∧ w9.frozen? ⟨Bb, 0, none⟩ = false ∧ Bb < w9.heap.size ∧ ∃ g', ZTk_RI b0 b1 Bb Bi Bq Br Bt g gb cs xs w g' (mapF cs y) r (w9.setCell ⟨Bb, 0, none⟩ v) := by
  have hlt := blk_lt hR8
  have hk : ∀ k, k < w8.heap.size → w9.heap[k]? = w8.heap[k]? := fun k hk => hB9.block k hk
  have hA9 : RmAt w9 b0 b1 Bb Bi Bq Br Bt g gb' [] r := hA8.same (fun k _ h => hk k h) (hk _ (lit_g hA8.buf))
  obtain ⟨A, c, a1, a2, ⟨cs3, t3, a3, a6, a7⟩, a4, a5⟩ := hA9.buf
  obtain ⟨g', hl, hg1, hg2⟩ := lit_set hR9 a1 a3 a4 a6 a7
  have hg2 : g' = gb' ∨ w8.heap.size ≤ g' := hg2
  have hnt := hA8.lit.lt
  have n1 := hA8.nb
  refine ⟨A, c, a1, blk_frozen a1 0, blk_lt a1, g', ?_, hA9.put hl ?_, ?_, ?_, ?_, fun x hx => H.nz x (List.mem_cons_of_mem _ hx)⟩
  · rw [← H.eq]
    simp [rmL]
  · rcases hg2 with e | e
    · rw [e]; exact hA8.gT
    · omega
  · exact (Below.heap_setCell _ ⟨Bb, 0, none⟩ _ _ (by show w.heap.size ≠ Bb; omega)).trans ((hk _ hlt).trans hR8)
  · exact (hF8.trans (ZTk_Fr.of_below (Below.trans (Below.refl w8.heap.size w8).drew hB9))).trans (ZTk_Fr.set _ 0 _ n1.1 n1.2)
  · have := H.gn
    rcases hg2 with e | e
    · rw [e]; exact this
    · right; omega
set_option maxRecDepth 100000 in
set_option maxHeartbeats 8000000 in
theorem rm_c (w0 : World) (b1 Bb Bi Bq Br Bt g gb Bc : Nat) (lx : Value) (A0 : Option Addr) (c0 : Nat) (cs : List ZTk_Ch) (buf l : List ZTk_C) (w : World) (hV : Go.Proofs.YtchkijfnhhldfaaDoorFmt.VarsOK w) (hE : 0 < w0.heap.size) (hch : ChgB w0 Bc A0 c0 cs) (hok : OkC cs)
    (hbr : w0.heap[Br]? = some (.cells #[lx, .func (.func 21) #[] #[.pointer (some ⟨Bc, 0, none⟩)]] 84 (0, 0))) (hW : Below w0.heap.size w0 w)
    (h : RmAt w w0.heap.size b1 Bb Bi Bq Br Bt g gb buf l) (hb0 : w0.heap.size ≤ b1) (hb : b1 ≤ w.heap.size) (hz : ∀ x ∈ l, ZTk_NZ x) :
    Calls Tryd.prog 59 #[.pointer (some ⟨Bb, 0, none⟩), .pointer (some ⟨Bi, 0, none⟩), .pointer (some ⟨Bq, 0, none⟩)] w fun e w' => e = .returned (.agg #[.int .i64 (ZTk_hd (rmL cs buf l)).f0, .string (ZTk_hd (rmL cs buf l)).f1]) ∧
      ∃ gb' buf' l', RmAt w' w0.heap.size b1 Bb Bi Bq Br Bt g gb' buf' l' ∧ rmL cs buf' l' = (rmL cs buf l).tail ∧ (∀ x ∈ l', ZTk_NZ x) ∧ (gb' = gb ∨ w.heap.size < gb') ∧ ZTk_Fr w0.heap.size b1 w w' := by
  have hu := Tryd.underlying62
  have hu2 := Tryd.underlying84
  have HI : Aside0 (ZTk_RI w0.heap.size b1 Bb Bi Bq Br Bt g gb cs (rmL cs buf l) w gb buf l (w.alloc (.cells #[.int .i64 0, .string ⟨#[]⟩] 62))) :=
    ⟨⟨rfl, h.same (fun k hk hlt => Below.heap_alloc _ _ k hlt) (Below.heap_alloc _ _ _ (lit_g h.buf)), blk_new _ _, ZTk_Fr.alloc _ _, .inl rfl, hz⟩⟩
  have HC := Aside0.mk hch
  have HBr := Aside0.mk hbr
  have HW := Aside0.mk hW
  have HV := Aside0.mk hV
  generalize hxs : rmL cs buf l = xs at HI ⊢
  have hgb : gb < w.heap.size := lit_g h.buf
  clear h hch hbr hW hV hz
  go_enter Tryd.func59, Tryd.ntmps59
  go_wp2
  clear hxs
  go_loopg [5] (l.length + 1) (fun kq v5 wr => ∃ (gb' : Nat) (bf r : List ZTk_C), Aside0 (r.length < kq) ∧ Aside0 (ZTk_RI w0.heap.size b1 Bb Bi Bq Br Bt g gb cs xs w gb' bf r wr))
  case atStart => exact ⟨gb, buf, l, ⟨Nat.lt_succ_self _⟩, HI⟩
  case round =>
    obtain ⟨gb', bf, r, HK, HH⟩ := hrel
    clear HI
    cases gk with
    | zero => have := HK.out; omega
    | succ k1 =>
      have H := HH.out
      have V := co_vars HV.out hE H.hF
      have v0 := V.e0
      have v1 := V.e1
      have lv := vars_lt V
      have lr := blk_lt H.hr
      have r0 : wr.cell? ⟨w.heap.size, 0, none⟩ = some (.int .i64 0) := (blk_cell H.hr 0).trans rfl
      have r1 : wr.cell? ⟨w.heap.size, 1, none⟩ = some (.string ⟨#[]⟩) := (blk_cell H.hr 1).trans rfl
      have fr0 := blk_frozen H.hr 0
      have fr1 := blk_frozen H.hr 1
      have lB := H.at_.buf.lt
      have hBw : Bb < w.heap.size := Nat.lt_of_lt_of_le H.at_.nb.2 hb
      have nBw : Bb ≠ w.heap.size := by omega
      have nwB : w.heap.size ≠ Bb := by omega
      obtain ⟨A, c, a1, a2, ⟨cs3, t3, a3, a6, a7⟩, a4, a5⟩ := H.at_.buf
      have fB := blk_frozen a1 0
      have lg := blk_lt a3
      cases bf with
      | cons x b =>
        obtain ⟨o, rfl, hT⟩ := a5 (by simp)
        have bc : wr.cell? ⟨Bb, 0, none⟩ = some (.slice (some ⟨gb', o, none⟩) (b.length + 1) c) := (blk_cell a1 0).trans rfl
        have t0 := (hT 0 (by simp)).1
        have t1 := (hT 0 (by simp)).2
        simp only [Nat.mul_zero, Nat.add_zero, List.getElem_cons_zero] at t0 t1
        simp only [List.length_cons] at a2
        have hgt : decide ((b.length : Int) + 1 > 0) = true := decide_eq_true (by omega)
        have hle : (b.length : Int) + 1 ≤ c := by omega
        have hlb : gb' ≠ Bb := a4
        have HT := Aside0.mk hT
        have HA := Aside0.mk a1
        clear H V a5 a1 hT
        go_wp2
        · rename_i hc1
          have hb0 : b = [] := List.eq_nil_of_length_eq_zero (by omega)
          obtain ⟨f1, f2, f3⟩ := rm_pop hb hgb HH.out HA.out HT.out (A' := some ⟨gb', o, none⟩) (c' := 0) (by omega) (fun h => absurd hb0 h) (.cells #[.int .i64 x.f0, .string x.f1] 62)
          exact bodyPost_ret (results_cell_row rfl _ _ w.heap.size 62 #[.int .i64 x.f0, .string x.f1] (0, 0) _ rfl f1 Tryd.underlying62 rfl (by kernel_rfl)) rfl (by
            rw [← HH.out.eq]
            exact ⟨rfl, gb', b, r, f2, rfl, HH.out.nz, HH.out.gn, f3⟩)
        · obtain ⟨f1, f2, f3⟩ := rm_pop hb hgb HH.out HA.out HT.out (A' := some ⟨gb', o + 2, none⟩) (c' := c - 1) (by omega) (fun h => rfl) (.cells #[.int .i64 x.f0, .string x.f1] 62)
          exact bodyPost_ret (results_cell_row rfl _ _ w.heap.size 62 #[.int .i64 x.f0, .string x.f1] (0, 0) _ rfl f1 Tryd.underlying62 rfl (by kernel_rfl)) rfl (by
            rw [← HH.out.eq]
            exact ⟨rfl, gb', b, r, f2, rfl, HH.out.nz, HH.out.gn, f3⟩)
      | nil =>
        have bc : wr.cell? ⟨Bb, 0, none⟩ = some (.slice A 0 c) := (blk_cell a1 0).trans rfl
        have i0 : wr.cell? ⟨Bi, 0, none⟩ = some (.func (.func 52) #[] #[.pointer (some ⟨Bt, 0, none⟩)]) := (blk_cell H.at_.it 0).trans rfl
        have li := blk_lt H.at_.it
        have kn : Aside0 (Calls Tryd.prog 52 #[.pointer (some ⟨Bt, 0, none⟩)] wr fun e w' => e = .returned (.agg #[.int .i64 (ZTk_hd r).f0, .string (ZTk_hd r).f1]) ∧ RmAt w' w0.heap.size b1 Bb Bi Bq Br Bt g gb' [] r.tail ∧ ZTk_Fr w0.heap.size b1 w w' ∧ Go.Proofs.YtchkijfnhhldfaaDoorFmt.VarsOK w' ∧ w'.heap[w.heap.size]? = some (.cells #[.int .i64 0, .string ⟨#[]⟩] 62 (0, 0))) :=
          ⟨(next_c Bt g r wr V H.at_.lit).mono fun e w' h => ⟨h.1, H.at_.next h.2.2.1 h.2.1, H.hF.trans (ZTk_Fr.of_grown h.2.2.1 H.at_.nt.1 H.at_.nt.2), h.2.2.2, (h.2.2.1.block _ lr (fun e => by injection e with e; have := H.at_.nt.2; omega)).trans H.hr⟩⟩
        clear H V a5 a1
        cases r with
        | nil =>
          have kn2 : Aside0 (Calls Tryd.prog 52 #[.pointer (some ⟨Bt, 0, none⟩)] wr fun e w' => e = .returned (.agg #[.int .i64 0, .string ⟨#[]⟩]) ∧ RmAt w' w0.heap.size b1 Bb Bi Bq Br Bt g gb' [] [] ∧ ZTk_Fr w0.heap.size b1 w w' ∧ Go.Proofs.YtchkijfnhhldfaaDoorFmt.VarsOK w' ∧ w'.heap[w.heap.size]? = some (.cells #[.int .i64 0, .string ⟨#[]⟩] 62 (0, 0))) := kn
          clear kn
          go_wp2_with (go_at_call 52; refine kn2.out.mono ?_; rintro e w2 ⟨rfl, hA2, hF2, hV2, hr2⟩; have e0 := hV2.e0; have e1 := hV2.e1; have le := vars_lt hV2; have s0 : w2.cell? ⟨w.heap.size, 0, none⟩ = some (.int .i64 0) := (blk_cell hr2 0).trans rfl; have s1 : w2.cell? ⟨w.heap.size, 1, none⟩ = some (.string ⟨#[]⟩) := (blk_cell hr2 1).trans rfl; have sf0 := blk_frozen hr2 0; have sf1 := blk_frozen hr2 1; have sl := blk_lt hr2; have KA := Aside0.mk hA2; have KF := Aside0.mk hF2; have KR := Aside0.mk hr2; clear hA2 hF2 hV2 hr2)
          obtain ⟨f1, f2, f3⟩ := rm_fin hb KF.out KR.out rfl KA.out (by have := HH.out.gn; omega) ZTk_eof (.cells #[.int .i64 0, .string ⟨#[]⟩] 62)
          exact bodyPost_ret (results_cell_row rfl _ _ w.heap.size 62 #[.int .i64 0, .string ⟨#[]⟩] (0, 0) _ rfl f1 Tryd.underlying62 rfl (by kernel_rfl)) rfl (by
            rw [← HH.out.eq]
            exact ⟨rfl, gb', [], [], f2, rfl, fun x hx => (by cases hx), HH.out.gn, f3⟩)
        | cons y r =>
          have hyz : y.f0 ≠ 0 := (HH.out.nz y List.mem_cons_self).1
          have hyb : (y.f0 == 0) = false := beq_eq_false_iff_ne.2 hyz
          have kn2 : Aside0 (Calls Tryd.prog 52 #[.pointer (some ⟨Bt, 0, none⟩)] wr fun e w' => e = .returned (.agg #[.int .i64 y.f0, .string y.f1]) ∧ RmAt w' w0.heap.size b1 Bb Bi Bq Br Bt g gb' [] r ∧ ZTk_Fr w0.heap.size b1 w w' ∧ Go.Proofs.YtchkijfnhhldfaaDoorFmt.VarsOK w' ∧ w'.heap[w.heap.size]? = some (.cells #[.int .i64 0, .string ⟨#[]⟩] 62 (0, 0))) := kn
          clear kn
          go_wp2_with (go_at_call 52; refine kn2.out.mono ?_; rintro e w2 ⟨rfl, hA2, hF2, hV2, hr2⟩; have e0 := hV2.e0; have e1 := hV2.e1; have le := vars_lt hV2; have sl := blk_lt hr2; have KA := Aside0.mk hA2; have KF := Aside0.mk hF2; have KR := Aside0.mk hr2; have q0 : w2.cell? ⟨Bq, 0, none⟩ = some (.pointer (some ⟨Br, 0, none⟩)) := (blk_cell hA2.bq 0).trans rfl; have lq := blk_lt hA2.bq; clear hA2 hF2 hV2 hr2)
          obtain ⟨w8, h8⟩ : ∃ w8, w8 = w2.alloc (.cells #[.int .i64 y.f0, .string y.f1] 62) := ⟨_, rfl⟩
          rw [← h8]
          have hF8 : ZTk_Fr w0.heap.size b1 w w8 := by rw [h8]; exact KF.out.trans (ZTk_Fr.alloc _ _)
          have hA8 : RmAt w8 w0.heap.size b1 Bb Bi Bq Br Bt g gb' [] r := by rw [h8]; exact KA.out.same (fun k hk hlt => Below.heap_alloc _ _ k hlt) (Below.heap_alloc _ _ _ (lit_g KA.out.buf))
          have hR8 : w8.heap[w.heap.size]? = some (.cells #[.int .i64 0, .string ⟨#[]⟩] 62 (0, 0)) := by rw [h8]; exact blk_alloc KR.out _
          have hy8 : w8.heap[w2.heap.size]? = some (.cells #[.int .i64 y.f0, .string y.f1] 62 (0, 0)) := by rw [h8]; exact blk_new _ _
          have hB8 : Below w0.heap.size w0 w8 := hF8.below HW.out HW.out.size
          have hr8 := (hB8.block Br (blk_lt HBr.out)).trans HBr.out
          obtain ⟨Ab, cb, hb8⟩ := lit_cell hA8.buf
          generalize hn8 : w2.heap.size = n8 at hy8 ⊢
          have k8 : w8.cell? ⟨Br, 1, none⟩ = some (.func (.func 21) #[] #[.pointer (some ⟨Bc, 0, none⟩)]) := (blk_cell hr8 1).trans rfl
          have q8 : w8.cell? ⟨Bq, 0, none⟩ = some (.pointer (some ⟨Br, 0, none⟩)) := (blk_cell hA8.bq 0).trans rfl
          have y0 : w8.cell? ⟨n8, 0, none⟩ = some (.int .i64 y.f0) := (blk_cell hy8 0).trans rfl
          have y1 : w8.cell? ⟨n8, 1, none⟩ = some (.string y.f1) := (blk_cell hy8 1).trans rfl
          have lbr := blk_lt hr8
          have lbq := blk_lt hA8.bq
          have lby := blk_lt hy8
          have hB8d : Aside0 (Below w0.heap.size w0 w8.drew) := ⟨hB8.drew⟩
          have HF8 := Aside0.mk hF8
          have HA8 := Aside0.mk hA8
          have HR8 := Aside0.mk hR8
          have Hb8 := Aside0.mk hb8
          clear hB8 hr8 hF8 hA8 hR8 hy8 hb8 q0 lq h8 KF KA KR hn8 e0 e1 le sl
          go_still_tail 5, (by kernel_rfl)
          change wpList _ _ _ _ _ w8.drew
          go_wp2_with (go_at_call 21; refine (map_c Bc A0 c0 cs y _ (HC.out.below (hB8d.out)) hok (HH.out.nz y List.mem_cons_self)).mono ?_; rintro e w9 ⟨v9, rfl, hR9, hB9⟩; obtain ⟨A8, c8, b9, hfz9, hl9, HN⟩ := (rm_back hb HH.out HF8.out HA8.out HR8.out hR9 hB9); obtain ⟨A9, c9, rfl⟩ := Kd.R_slice hR9; have bc9 := (blk_cell b9 0).trans rfl; clear hR9 hB9 b9)
          go_roundg k1
          case measure => omega
          case rel =>
            obtain ⟨g', hN⟩ := HN
            exact ⟨g', mapF cs y, r, ⟨by have := HK.out; simp at this; omega⟩, ⟨hN⟩⟩
abbrev mpV (Bc : Nat) : Value := .func (.func 21) #[] #[.pointer (some ⟨Bc, 0, none⟩)]
set_option maxRecDepth 100000 in
set_option maxHeartbeats 4000000 in
theorem rt_c (Br Bk Bc : Nat) (A0 : Option Addr) (c0 : Nat) (l : List ZTk_T) (s : ByteArray) (w : World) (cfg : Option Addr) (h : TokB w Bk A0 c0 l) (hl : l.length ≤ 100000) (hr : w.heap[Br]? = some (.cells #[lxV cfg Bk, mpV Bc] 84 (0, 0))) :
    Calls Tryd.prog 58 #[.pointer (some ⟨Br, 0, none⟩), .pointer none, .string s] w fun e w' => ∃ Bb Bi Bq Bt g, e = .returned (.tuple #[.func (.func 59) #[] #[.pointer (some ⟨Bb, 0, none⟩), .pointer (some ⟨Bi, 0, none⟩), .pointer (some ⟨Bq, 0, none⟩)], .nilIface]) ∧ RmAt w' w.heap.size w'.heap.size Bb Bi Bq Br Bt g g [] (l.map toCC) ∧ Below w.heap.size w w' := by
  have hmf : ∀ (fn : Fn) (first cap : Array Value) (w : World), (Instr.makeFunc fn first cap).run Tryd.prog w = .ok (.func fn first cap) w := fun _ _ _ _ => rfl
  have HB := Aside0.mk ((Below.refl w.heap.size w).alloc (Nat.le_refl _) (.cells #[.pointer (some ⟨Br, 0, none⟩)] 82))
  have H := Aside0.mk (h.below HB.out)
  have r0 : w.cell? ⟨Br, 0, none⟩ = some (lxV cfg Bk) := (blk_cell hr 0).trans rfl
  have lr := blk_lt hr
  have hm := meth_g cfg Bk
  have hsf : ∀ (a : Addr) (fn : Fn) (x y : Array Value) (m : Mode) (w : World), (store a (.func fn x y) m).run Tryd.prog w = stored Tryd.prog w a (.func fn x y) m := fun a fn x y m w => run_store Tryd.prog w a _ m rfl
  have hnn : ∀ (w : World), (Go.binOp .neq 53 .nilIface .nilIface).run Tryd.prog w = .ok (.bool false) w := fun w => run_neq_nil_nil (P := Tryd.prog) w 53 (by kernel_rfl)
  clear h hr
  go_enter Tryd.func58, Tryd.ntmps58
  go_wp2_with (go_at_call 50; refine (gt_c Bk A0 c0 l s _ cfg H.out hl).mono ?_; rintro e w4 ⟨Bt, g, rfl, hP⟩; have HP := Aside0.mk hP; clear hP)
  go_ret2
  obtain ⟨hL, hb1, hb2, hb3, hB4⟩ := HP.out
  have hs4 := hB4.size
  rw [World.size_alloc] at hs4 hb1 hb2
  have hlt := hL.lt
  obtain ⟨A3, c3, a1, a2, ⟨cs3, t3, a3, a6, a7⟩, a4, a5⟩ := hL
  have hL : LitAt w4 Bt g (l.map toCC) := ⟨A3, c3, a1, a2, ⟨cs3, t3, a3, a6, a7⟩, a4, a5⟩
  have al : ∀ (o1 o2 : Obj) (k : Nat), k < w4.heap.size → ((w4.alloc o1).alloc o2).heap[k]? = w4.heap[k]? := fun o1 o2 k hk => (Below.heap_alloc _ _ _ (by simp; omega)).trans (Below.heap_alloc _ _ _ hk)
  have hbB : ∀ (o1 o2 : Obj), ((w4.alloc o1).alloc o2).heap[w4.heap.size + 1]? = some o2 := fun o1 o2 => by have h := blk_new (w4.alloc o1) o2; rw [World.size_alloc] at h; exact h
  have hsz : ∀ (o1 o2 : Obj), ((w4.alloc o1).alloc o2).heap.size = w4.heap.size + 2 := fun o1 o2 => by rw [World.size_alloc, World.size_alloc]
  refine ⟨w4.heap.size + 1, w4.heap.size, w.heap.size, Bt, g, rfl, ⟨⟨none, 0, hbB _ _, Nat.le_refl _, ⟨cs3, t3, (al _ _ _ hb3).trans a3, a6, a7⟩, by omega, fun h => absurd rfl h⟩, blk_alloc (blk_new _ _) _, (al _ _ _ (by omega)).trans ((hB4.block w.heap.size (by simp)).trans (blk_new w _)), hL.same (al _ _ _ hlt) (al _ _ _ hb3), ⟨by omega, by rw [hsz]; omega⟩, by rw [hsz]; omega, by rw [hsz]; omega, ⟨by omega, by rw [hsz]; omega⟩, by rw [hsz]; omega, by omega, by omega, a4⟩, ((below_step HB.out hB4).alloc (by omega) _).alloc (by rw [World.size_alloc]; omega) _⟩
def RmI (b0 b1 Bb Bi Bq Br Bt g : Nat) (cs : List ZTk_Ch) (W : World) (xs : List ZTk_C) (gb : Nat) : Prop :=
  ∃ buf l, RmAt W b0 b1 Bb Bi Bq Br Bt g gb buf l ∧ rmL cs buf l = xs ∧ ∀ x ∈ l, ZTk_NZ x
theorem RmI.same {W W' : World} {b0 b1 Bb Bi Bq Br Bt g gb : Nat} {cs : List ZTk_Ch} {xs : List ZTk_C} (h : RmI b0 b1 Bb Bi Bq Br Bt g cs W xs gb) (hk : ∀ k, k < b1 → k < W.heap.size → W'.heap[k]? = W.heap[k]?) (hg : W'.heap[gb]? = W.heap[gb]?) : RmI b0 b1 Bb Bi Bq Br Bt g cs W' xs gb := by
  obtain ⟨buf, l, h1, h2⟩ := h
  exact ⟨buf, l, h1.same hk hg, h2⟩
theorem RmI.lt {W : World} {b0 b1 Bb Bi Bq Br Bt g gb : Nat} {cs : List ZTk_Ch} {xs : List ZTk_C} (h : RmI b0 b1 Bb Bi Bq Br Bt g cs W xs gb) : gb < W.heap.size := by
  obtain ⟨buf, l, h1, h2⟩ := h
  exact lit_g h1.buf
structure TLr (b0 b1 Bb Bi Bq Br Bt g : Nat) (cs : List ZTk_Ch) (ps : List ZTk_C) (w : World) (v : Value) (Bx : Nat) (dn rest : List ZTk_C) (wr : World) : Prop where
  hf : ps = dn ++ rest
  hx : wr.heap[Bx]? = some (.cells #[.int .i64 (ZTk_hd rest).f0, .string (ZTk_hd rest).f1] 62 (0, 0))
  hxo : some Bx ≠ v.ownBlock
  hc : ∃ gb, RmI b0 b1 Bb Bi Bq Br Bt g cs wr rest.tail gb ∧ some gb ≠ v.ownBlock
  hF : ZTk_Fr b0 b1 w wr
  hR : ZTk_RC wr w.heap.size v dn
theorem tlr_append {b0 b1 Bb Bi Bq Br Bt g Bx : Nat} {cs : List ZTk_Ch} {ps : List ZTk_C} {w wr w8 : World} {v v1 : Value} {dn : List ZTk_C} {x : ZTk_C} {r : List ZTk_C} (hb : b1 ≤ w.heap.size) (H : TLr b0 b1 Bb Bi Bq Br Bt g cs ps w v Bx dn (x :: r) wr) (hg : wr.grownBy w8 v.ownBlock) (ho : ZTk_RC w8 w.heap.size v1 (dn ++ [x])) (hat : v1.ownBlock = v.ownBlock ∨ ∃ b, v1.ownBlock = some b ∧ wr.heap.size ≤ b) :
    w8.heap[Bx]? = some (.cells #[.int .i64 x.f0, .string x.f1] 62 (0, 0)) ∧ (∃ gb, RmI b0 b1 Bb Bi Bq Br Bt g cs w8 r gb ∧ some gb ≠ v1.ownBlock) ∧ ZTk_Fr b0 b1 w w8 := by
  have hsz := H.hF.size
  obtain ⟨gb, hI, hne⟩ := H.hc
  have hgl := hI.lt
  refine ⟨blk_grown H.hx hg H.hxo, ⟨gb, hI.same (fun k hk hlt => hg.block k hlt (fun e => ?_)) (hg.block gb hgl hne), ?_⟩, ⟨hg.os.trans H.hF.os, hg.tape.trans H.hF.tape, hg.output.trans H.hF.output, Nat.le_trans hsz hg.size, fun k hk hkb => (hg.block k (by omega) (fun e => ?_)).trans (H.hF.block k hk hkb)⟩⟩
  · have := Kd.R_base H.hR k e.symm
    omega
  · rcases hat with e | ⟨b, e, hb'⟩
    · rw [e]; exact hne
    · rw [e]; intro e2; injection e2 with e2; omega
  · have := Kd.R_base H.hR k e.symm
    omega
theorem tlr_next {b0 b1 Bb Bi Bq Br Bt g gb gb' Bx : Nat} {cs : List ZTk_Ch} {ps : List ZTk_C} {w wr w8 w9 : World} {v v1 : Value} {dn : List ZTk_C} {x : ZTk_C} {r : List ZTk_C} (hb : b1 ≤ w.heap.size) (H : TLr b0 b1 Bb Bi Bq Br Bt g cs ps w v Bx dn (x :: r) wr) (hF8 : ZTk_Fr b0 b1 w w8) (ho : ZTk_RC w8 w.heap.size v1 (dn ++ [x])) (hgl : gb < w8.heap.size) (hgo : some gb ≠ v1.ownBlock)
    (b9 : w9.heap[w8.heap.size]? = some (.cells #[.int .i64 x.f0, .string x.f1] 62 (0, 0))) (hC9 : RmI b0 b1 Bb Bi Bq Br Bt g cs w9 r.tail gb') (hgn : gb' = gb ∨ (w8.alloc (.cells #[.int .i64 x.f0, .string x.f1] 62)).heap.size < gb') (hF9 : ZTk_Fr b0 b1 (w8.alloc (.cells #[.int .i64 x.f0, .string x.f1] 62)) w9) :
    TLr b0 b1 Bb Bi Bq Br Bt g cs ps w v1 w8.heap.size (dn ++ [x]) r ((w9.setCell ⟨w8.heap.size, 0, none⟩ (.int .i64 (ZTk_hd r).f0)).setCell ⟨w8.heap.size, 1, none⟩ (.string (ZTk_hd r).f1)) := by
  have h8 := hF8.size
  have h9 := hF9.size
  rw [World.size_alloc] at h9 hgn
  have far : ∀ k, k ≠ w8.heap.size → ((w9.setCell ⟨w8.heap.size, 0, none⟩ (.int .i64 (ZTk_hd r).f0)).setCell ⟨w8.heap.size, 1, none⟩ (.string (ZTk_hd r).f1)).heap[k]? = w9.heap[k]? := fun k hk =>
    (Below.heap_setCell _ ⟨w8.heap.size, 1, none⟩ _ k hk).trans (Below.heap_setCell _ ⟨w8.heap.size, 0, none⟩ _ k hk)
  have hF := (hF8.trans (ZTk_Fr.alloc _ _)).trans hF9
  refine ⟨by rw [H.hf]; simp, blk_put (blk_put b9 0 _ rfl) 1 _ rfl, fun e => ?_, ⟨gb', hC9.same (fun k hk hlt => far k (by omega)) (far _ (by omega)), fun e => ?_⟩, ⟨hF.os, hF.tape, hF.output, by rw [World.size_setCell, World.size_setCell]; exact hF.size, fun k hk hkb => (far k (by omega)).trans (hF.block k hk hkb)⟩, ?_⟩
  · have := Kd.R_lt ho _ e.symm
    omega
  · have := Kd.R_lt ho _ e.symm
    rcases hgn with e2 | e2
    · rw [e2] at e; exact hgo e
    · omega
  · exact Kd.R_mono (Kd.R_step (Kd.R_bound ho) (fun k hk hlt => ((far k (by omega)).trans (hF9.block k (by simp; omega) (.inr (Nat.le_trans hb hk.2.1)))).trans (Below.heap_alloc _ _ k hlt))) (fun _ _ => trivial)
theorem tlr_box {b0 b1 : Nat} {w w8 w9 : World} (hb : b1 ≤ w.heap.size) (hF : ZTk_Fr b0 b1 w w8) (o' : Obj) (h9 : ZTk_Fr b0 b1 (w8.alloc o') w9) : w9.heap[w8.heap.size]? = some o' :=
  (h9.block _ (by simp) (.inr (Nat.le_trans hb hF.size))).trans (blk_new w8 o')
theorem meth_re (Br : Nat) (w : World) : (method 228 82 (.pointer (some ⟨Br, 0, none⟩)) "Tokenise").run Tryd.prog w = .ok (58, .pointer (some ⟨Br, 0, none⟩)) w := by kernel_rfl
set_option maxRecDepth 100000 in
set_option maxHeartbeats 8000000 in
theorem tkr_c (Br Bk Bc : Nat) (A0 : Option Addr) (c0 : Nat) (l : List ZTk_T) (Ac : Option Addr) (cc : Nat) (cs : List ZTk_Ch) (s : ByteArray) (w : World) (cfg : Option Addr) (hV : Go.Proofs.YtchkijfnhhldfaaDoorFmt.VarsOK w) (h : TokB w Bk A0 c0 l) (hl : l.length ≤ 1000) (hz : ∀ x ∈ l, ZTk_NZ (toCC x)) (hch : ChgB w Bc Ac cc cs) (hok : OkC cs) (hmz : ∀ t : ZTk_C, t.f0 ≠ 0 → ∀ y ∈ mapF cs t, y.f0 ≠ 0) (hlen : (rmL cs [] (l.map toCC)).length ≤ 900000) (hr : w.heap[Br]? = some (.cells #[lxV cfg Bk, mpV Bc] 84 (0, 0))) :
    Calls Tryd.prog 18 #[.iface 82 (.pointer (some ⟨Br, 0, none⟩)), .pointer none, .string s] w fun e w' => ∃ v, e = .returned (.tuple #[v, .nilIface]) ∧ ZTk_RC w' w.heap.size v (rmL cs [] (l.map toCC)) ∧ Below w.heap.size w w' := by
  have hu := Tryd.underlying62
  have hm := meth_re Br
  have hnn : ∀ (w : World), (Go.binOp .neq 53 .nilIface .nilIface).run Tryd.prog w = .ok (.bool false) w := fun w => run_neq_nil_nil (P := Tryd.prog) w 53 (by kernel_rfl)
  have HK0 := Aside0.mk (rt_c Br Bk Bc A0 c0 l s w cfg h (by omega) hr)
  have hE := vars_lt hV
  have HZ := Aside0.mk hz
  have hgood : Aside0 (∀ x ∈ rmL cs [] (l.map toCC), x.f0 ≠ 0) := ⟨fun x hx => by
    simp only [rmL, List.nil_append, List.mem_flatMap] at hx
    obtain ⟨t, ht, hx⟩ := hx
    obtain ⟨y, hy, rfl⟩ := List.mem_map.1 ht
    exact hmz _ (hz y hy).1 x hx⟩
  have HLn := Aside0.mk hlen
  have kall : Aside0 (∀ (b1 Bb Bi Bq Bt g gb : Nat) (xs : List ZTk_C) (W : World), Go.Proofs.YtchkijfnhhldfaaDoorFmt.VarsOK W → Below w.heap.size w W → RmI w.heap.size b1 Bb Bi Bq Br Bt g cs W xs gb → w.heap.size ≤ b1 → b1 ≤ W.heap.size →
      Calls Tryd.prog 59 #[.pointer (some ⟨Bb, 0, none⟩), .pointer (some ⟨Bi, 0, none⟩), .pointer (some ⟨Bq, 0, none⟩)] W fun e w' => e = .returned (.agg #[.int .i64 (ZTk_hd xs).f0, .string (ZTk_hd xs).f1]) ∧ ∃ gb', RmI w.heap.size b1 Bb Bi Bq Br Bt g cs w' xs.tail gb' ∧ (gb' = gb ∨ W.heap.size < gb') ∧ ZTk_Fr w.heap.size b1 W w') :=
    ⟨fun b1 Bb Bi Bq Bt g gb xs W hV' hW hI hb0 hb => by
      obtain ⟨buf, l', h1, rfl, h3⟩ := hI
      refine (rm_c w b1 Bb Bi Bq Br Bt g gb Bc _ Ac cc cs buf l' W hV' hE hch hok hr hW h1 hb0 hb h3).mono ?_
      rintro e w' ⟨rfl, gb', buf', l2, k1, k2, k3, k4, k5⟩
      exact ⟨rfl, gb', ⟨buf', l2, k1, k2, k3⟩, k4, k5⟩⟩
  clear h hr hz hch hlen hmz
  go_enter Tryd.func18, Tryd.ntmps18
  go_wp2_with (first | (go_at_call 58; refine HK0.out.mono ?_; rintro e w1 ⟨Bb, Bi, Bq, Bt, g, rfl, hP⟩; have HP := Aside0.mk hP; clear hP) | (go_at_call 59; refine (kall.out w1.heap.size Bb Bi Bq Bt g g (rmL cs [] (l.map toCC)) w1 (vars_kept hV (HP.out.2.block _ hE)) HP.out.2 ⟨[], _, HP.out.1, rfl, (fun x hx => by obtain ⟨y, hy, rfl⟩ := List.mem_map.1 hx; exact HZ.out y hy)⟩ HP.out.2.size (Nat.le_refl _)).mono ?_; rintro e w2 ⟨rfl, hQ⟩; have HQ := Aside0.mk hQ; clear hQ))
  have hV1 : Aside0 (Go.Proofs.YtchkijfnhhldfaaDoorFmt.VarsOK w1) := ⟨vars_kept hV (HP.out.2.block _ hE)⟩
  have hs1 : Aside0 (w.heap.size ≤ w1.heap.size) := ⟨HP.out.2.size⟩
  have HL : Aside0 (TLr w.heap.size w1.heap.size Bb Bi Bq Br Bt g cs (rmL cs [] (l.map toCC)) w1 (.slice none 0 0) w2.heap.size [] (rmL cs [] (l.map toCC)) (w2.alloc (.cells #[.int .i64 (ZTk_hd (rmL cs [] (l.map toCC))).f0, .string (ZTk_hd (rmL cs [] (l.map toCC))).f1] 62))) := by
    obtain ⟨gb', k1, k2, k3⟩ := HQ.out
    exact ⟨⟨rfl, blk_new _ _, by simp [Value.ownBlock], ⟨gb', k1.same (fun k hk hlt => Below.heap_alloc _ _ _ hlt) (Below.heap_alloc _ _ _ k1.lt), by simp [Value.ownBlock]⟩, k3.trans (ZTk_Fr.alloc _ _), Kd.R_nil _ _ _ _ _⟩⟩
  generalize hxs : rmL cs [] (l.map toCC) = xs at HL hgood HLn ⊢
  clear HQ HZ HK0
  go_loopg [8, 11] (xs.length + 1) (fun kq v8 v11 wr => ∃ (Bx : Nat) (dn rest : List ZTk_C), v11 = .pointer (some ⟨Bx, 0, none⟩) ∧ Aside0 (rest.length < kq) ∧ Aside0 (TLr w.heap.size w1.heap.size Bb Bi Bq Br Bt g cs xs w1 v8 Bx dn rest wr))
  case atStart => exact ⟨_, [], xs, rfl, ⟨Nat.lt_succ_self _⟩, HL⟩
  case round =>
    obtain ⟨Bx, dn, rest, rfl, HK, HH⟩ := hrel
    clear HL
    cases gk with
    | zero => have := HK.out; omega
    | succ k1 =>
      have H := HH.out
      have V := co_vars hV1.out hE H.hF
      have v0 := V.e0
      have v1 := V.e1
      have lv := vars_lt V
      have lx := blk_lt H.hx
      cases rest with
      | nil =>
        have x0 : wr.cell? ⟨Bx, 0, none⟩ = some (.int .i64 0) := (blk_cell H.hx 0).trans rfl
        have x1 : wr.cell? ⟨Bx, 1, none⟩ = some (.string ⟨#[]⟩) := (blk_cell H.hx 1).trans rfl
        clear H V
        go_wp2
        go_ret2
        have H := HH.out
        have hxd : xs = dn := by rw [H.hf, List.append_nil]
        exact ⟨u8, rfl, by rw [hxs, hxd]; exact Kd.R_lower H.hR hs1.out, H.hF.below HP.out.2 hs1.out⟩
      | cons x r =>
        have x0 : wr.cell? ⟨Bx, 0, none⟩ = some (.int .i64 x.f0) := (blk_cell H.hx 0).trans rfl
        have x1 : wr.cell? ⟨Bx, 1, none⟩ = some (.string x.f1) := (blk_cell H.hx 1).trans rfl
        have hxz : x.f0 ≠ 0 := hgood.out x (by rw [H.hf]; simp)
        have hxb : (x.f0 == 0) = false := beq_eq_false_iff_ne.2 hxz
        have hL : Aside0 (dn.length < 1000000) := ⟨by have := congrArg List.length H.hf; have := HLn.out; simp at *; omega⟩
        have hbs : Aside0 (w1.heap.size ≤ wr.heap.size) := ⟨H.hF.size⟩
        clear H V
        go_wp2_with (first | ((with_reducible refine gate_builtin (b := .append) (xs := #[.tmp 29, .tmp 31]) rfl ?_); at_builtin; refine Kd.R_append ZTk_kC (w0 := wr) w1.heap.size rfl (.tmp 29) (.tmp 31) 51 62 (.agg #[(.int .i64 0), (.string ⟨#[]⟩)]) 24 rfl Tryd.underlying51 info62 rfl (by decide) (by omega) u8 dn x [.int .i64 x.f0, .string x.f1] (fun _ => True) (fun _ => False) rfl (by first | (go_simp; done) | (go_simp; rfl)) ?aP (fun _ hk => hk.elim) ?aF ?aO ?aB ?aS ?aL ?_; (case aP => exact k62_mkM _ _ _ x); (case aB => exact Below.refl _ _); (case aF => exact (fun _ _ => trivial)); (case aO => exact HH.out.hR); (case aS => exact hbs.out); (case aL => have := hL.out; omega); intro v1 w8 ho hb8 hg hat; have hP8 := Aside0.mk (tlr_append (Nat.le_refl _) HH.out hg ho hat); have hO := Aside0.mk ho; have hx8 := hP8.out.1; have y0 : w8.cell? ⟨Bx, 0, none⟩ = some (.int .i64 x.f0) := (blk_cell hx8 0).trans rfl; have y1 : w8.cell? ⟨Bx, 1, none⟩ = some (.string x.f1) := (blk_cell hx8 1).trans rfl; have lx8 := blk_lt hx8; clear hx8 ho hb8 hg hat; obtain ⟨gb, hJ⟩ := hP8.out.2.1; have HJ := Aside0.mk hJ; clear hJ) | (go_at_call 59; refine (kall.out w1.heap.size Bb Bi Bq Bt g gb r _ (co_vars hV1.out hE (hP8.out.2.2.trans (ZTk_Fr.alloc _ _))) ((hP8.out.2.2.trans (ZTk_Fr.alloc _ _)).below HP.out.2 hs1.out) (HJ.out.1.same (fun k hk hlt => Below.heap_alloc _ _ _ hlt) (Below.heap_alloc _ _ _ HJ.out.1.lt)) hs1.out (by have := hP8.out.2.2.size; simp; omega)).mono ?_; rintro e w9 ⟨rfl, gb', hC9, hn9, hF9⟩; have b9 := tlr_box (Nat.le_refl _) hP8.out.2.2 (.cells #[.int .i64 x.f0, .string x.f1] 62) hF9; have z0 : w9.cell? ⟨w8.heap.size, 0, none⟩ = some (.int .i64 x.f0) := (blk_cell b9 0).trans rfl; have z1 : w9.cell? ⟨w8.heap.size, 1, none⟩ = some (.string x.f1) := (blk_cell b9 1).trans rfl; have zf0 := blk_frozen b9 0; have zf1 := blk_frozen b9 1; have Q1 := Aside0.mk b9; have Q3 := Aside0.mk hC9; have Q4 := Aside0.mk hF9; have Q5 := Aside0.mk hn9; clear b9 hC9 hF9 hn9))
        go_roundg k1
        case measure => omega
        case rel => exact ⟨w8.heap.size, dn ++ [x], r, rfl, ⟨by have := HK.out; simp at this; omega⟩, ⟨tlr_next (Nat.le_refl _) HH.out hP8.out.2.2 hO.out HJ.out.1.lt HJ.out.2 Q1.out Q3.out Q5.out Q4.out⟩⟩
set_option maxHeartbeats 4000000 in
theorem rl_c (x : Value) (tx : TypeId) (fn : Fn) (u v : Array Value) (w : World) : Calls Tryd.prog 20 #[.iface tx x, .func fn u v] w fun e w' => e = .returned (.iface 82 (.pointer (some ⟨w.heap.size, 0, none⟩))) ∧ w' = w.alloc (.cells #[.iface tx x, .func fn u v] 84) := by
  go_enter Tryd.func20, Tryd.ntmps20
  go_wp2
  go_ret
  exact ⟨rfl, rfl⟩
set_option maxHeartbeats 4000000 in
theorem lexedr_c (Br Bk Bc : Nat) (A0 : Option Addr) (c0 : Nat) (l : List ZTk_T) (Ac : Option Addr) (cc : Nat) (cs : List ZTk_Ch) (s : ByteArray) (w : World) (cfg : Option Addr) (hV : Go.Proofs.YtchkijfnhhldfaaDoorFmt.VarsOK w) (h : TokB w Bk A0 c0 l) (hl : l.length ≤ 1000) (hz : ∀ x ∈ l, ZTk_NZ (toCC x)) (hch : ChgB w Bc Ac cc cs) (hok : OkC cs) (hmz : ∀ t : ZTk_C, t.f0 ≠ 0 → ∀ y ∈ mapF cs t, y.f0 ≠ 0) (hlen : (rmL cs [] (l.map toCC)).length ≤ 900000) (hr : w.heap[Br]? = some (.cells #[lxV cfg Bk, mpV Bc] 84 (0, 0))) :
    Calls Tryd.prog 12 #[.iface 82 (.pointer (some ⟨Br, 0, none⟩)), .string s] w fun e w' => ∃ v, e = .returned (.tuple #[v, .bool true]) ∧ ZTk_RT w' w.heap.size v ((rmL cs [] (l.map toCC)).map toTT) ∧ Below w.heap.size w w' := by
  have hnn : ∀ (w : World), (Go.binOp .neq 53 .nilIface .nilIface).run Tryd.prog w = .ok (.bool false) w := fun w => run_neq_nil_nil (P := Tryd.prog) w 53 (by kernel_rfl)
  have HT := Aside0.mk (tkr_c Br Bk Bc A0 c0 l Ac cc cs s w cfg hV h hl hz hch hok hmz hlen hr)
  obtain ⟨k, hk⟩ := outer_some (rmL cs [] (l.map toCC)) (by omega)
  clear h hr hz hlen hch hok hmz
  go_enter Tryd.func12, Tryd.ntmps12
  go_wp2_with (first | (go_at_call 18; refine HT.out.mono ?_; rintro e w1 ⟨v1, rfl, hR1, hB1⟩; obtain ⟨A1, c1, rfl⟩ := Kd.R_slice hR1; have hq := Kd.R_reads' hR1; have HQ := Aside0.mk hq; have HR1 := Aside0.mk hR1; have HB1 := Aside0.mk hB1; clear hq hR1 hB1) | (go_at_call 19; refine (impl_outer.calls k A1 c1 _ _ _ HQ.out.2.2 HQ.out.2.1 hk).mono ?_; rintro e w2 ⟨v2, rfl, hR2, hB2⟩; have HR2 := Aside0.mk hR2; have HB2 := Aside0.mk hB2; clear hR2 hB2))
  go_ret2
  exact ⟨_, rfl, Kd.R_lower HR2.out HB1.out.size, below_step HB1.out HB2.out⟩
theorem infoY : (Tryd.prog.info? 40).map (fun i => (i.zero, i.size, i.bytes)) = some (some (.agg #[(.int .i64 0), (.int .i64 0), (.slice none 0 0)]), 3, 40) := by kernel_rfl
/-- What is asked of a mapping. -/
def OkM (m : ZTk_Ch) : Prop := 1 ≤ m.f2.length ∧ m.f2.length ≤ 1000 ∧ ZTk_Ok m.f0 ∧ m.f1 ≠ 0 ∧ ∀ s ∈ m.f2, s.size ≤ maxLen ∧ s ≠ ⟨#[]⟩
open Classical in
theorem last_mem (ty : Int) (v : ByteArray) (x : Int) : ∀ (ms : List ZTk_M) (a : Option Int), ZTk_last ms ty v a = some x → a = some x ∨ ∃ m ∈ ms, m.2.1 = x
  | [], a, h => .inl h
  | m :: r, a, h => by
    rcases last_mem ty v x r _ h with h1 | ⟨q, hq, e⟩
    · replace h1 : (if ty = m.1 ∧ v ∈ m.2.2 then some m.2.1 else a) = some x := h1
      split at h1
      · exact .inr ⟨m, List.mem_cons_self, Option.some.inj h1⟩
      · exact .inl h1
    · exact .inr ⟨q, List.mem_cons_of_mem _ hq, e⟩
theorem mapF_nz (cs : List ZTk_Ch) (h : ∀ m ∈ cs, m.f1 ≠ 0) (t : ZTk_C) (ht : t.f0 ≠ 0) : ∀ y ∈ mapF cs t, y.f0 ≠ 0 := by
  intro y hy
  obtain rfl := List.mem_singleton.1 hy
  show (ZTk_at2 (tabOf cs) t.f0 t.f1).getD t.f0 ≠ 0
  cases he : ZTk_at2 (tabOf cs) t.f0 t.f1 with
  | none => exact ht
  | some x =>
    unfold tabOf at he
    rw [at2_tab] at he
    rcases last_mem _ _ _ _ _ he with h1 | ⟨m, hm, e⟩
    · cases h1
    · obtain ⟨c, hc, rfl⟩ := List.mem_map.1 hm
      have := h c hc
      show x ≠ 0
      rw [← e]; exact this
theorem rm_len (cs : List ZTk_Ch) : ∀ l : List ZTk_C, (rmL cs [] l).length = l.length
  | [] => by simp [rmL]
  | a :: r => by
    have h2 := rm_len cs r
    simp only [rmL, List.nil_append, List.flatMap_cons, List.length_append, List.length_cons] at h2 ⊢
    rw [h2]; simp [mapF]; omega
theorem rdM_mem {cs : List ZTk_Ch} {x : Int} (h0 : 0 ≤ x) (h1 : x < cs.length) : cs.take (x.toNat + 1) = cs.take x.toNat ++ [rd_T28 cs x] ∧ rd_T28 cs x ∈ cs := by
  have h : x.toNat < cs.length := by omega
  have e : rd_T28 cs x = cs[x.toNat] := by simp [rd_T28, List.getD_eq_getElem?_getD, h]
  rw [e]
  exact ⟨by rw [List.take_succ_eq_append_getElem h], List.getElem_mem h⟩
/-- Rounds of the loop. -/
structure ZTk_MI (ms : List ZTk_Ch) (w : World) (k : Nat) (v : Value) (wr : World) : Prop where
  hB : Below w.heap.size w wr
  hR : ∃ ys, Kd.R ZTk_kY 40 wr w.heap.size (fun _ => True) v ys ∧ ys.map ZTk_toY = (ms.take k).map ZTk_toM ∧ ys.length = k ∧ ∀ y ∈ ys, Good w y
theorem Good.below {w w' : World} {y : ZTk_Y} (h : Good w y) (hB : Below w.heap.size w w') : Good w' y := ⟨h.hc, Kd.C_below h.hC hB, h.h1, h.h2, h.ok, h.hs⟩
set_option maxRecDepth 100000 in
set_option maxHeartbeats 8000000 in
theorem tremap_c (Am : Option Addr) (cm : Nat) (ms : List ZTk_Ch) (A0 : Option Addr) (c0 : Nat) (l : List ZTk_T) (w : World) (hV : Go.Proofs.YtchkijfnhhldfaaDoorFmt.VarsOK w) (hrm : Kd.C k28 w Am ms.length ms) (hcm : ms.length ≤ cm) (hr0 : Kd.C ZTk_kT w A0 l.length l) (hc0 : l.length ≤ c0) (hl : l.length ≤ 1000) (hz : ∀ x ∈ l, ZTk_NZ (toCC x)) (hml : ms.length ≤ 1000) (hmw : ∀ m ∈ ms, OkM m) :
    Calls Tryd.prog 8 #[.slice Am ms.length cm, .slice A0 l.length c0] w fun e w' => ∃ v : Value, e = .returned v ∧ ZTk_RT w' w.heap.size v ((rmL ms [] (l.map toCC)).map toTT) ∧ Below w.heap.size w w' := by
  have hu := Tryd.underlying28
  have hu2 := Tryd.underlying40
  have HM := Aside0.mk hrm
  have HW := Aside0.mk hmw
  have HC := Aside0.mk (And.intro hr0 hc0)
  have HZ := Aside0.mk hz
  have HL := Aside0.mk (And.intro hl hml)
  have hE := vars_lt hV
  have HV := Aside0.mk hV
  have HLn : Aside0 ((rmL ms [] (l.map toCC)).length ≤ 900000) := ⟨by rw [rm_len, List.length_map]; omega⟩
  clear hrm hmw hr0 hc0 hz hl hV
  go_enter Tryd.func8, Tryd.ntmps8
  go_wp2
  go_loopg [5, 12] (ms.length + 1) (fun kq v5 v12 wr => ∃ (x12 : Int), v12 = .int .i64 x12 ∧ Aside0 (0 ≤ x12 ∧ x12 ≤ ms.length ∧ ms.length - x12.toNat < kq) ∧ Aside0 (ZTk_MI ms w x12.toNat v5 wr))
  case atStart => exact ⟨0, rfl, ⟨by omega, by omega, by simp⟩, ⟨⟨Below.refl _ _, [], Kd.R_nil _ _ _ _ _, rfl, rfl, fun y hy => (by cases hy)⟩⟩⟩
  case round =>
    obtain ⟨x12, rfl, HK, HO⟩ := hrel
    cases gk with
    | zero => have := HK.out; omega
    | succ k1 =>
      by_cases hlt : x12 < (ms.length : Int)
      · have hx0 : 0 ≤ x12 := HK.out.1
        obtain ⟨ad, A1, c1, e, hy0, hy1, hy2, hcl, hCs⟩ := at_T28 HM.out x12 hx0 hlt
        cases e
        replace hy0 := (HO.out.hB.cell (World.block_lt_of_cell? w _ hy0)).trans hy0
        replace hy1 := (HO.out.hB.cell (World.block_lt_of_cell? w _ hy1)).trans hy1
        replace hy2 := (HO.out.hB.cell (World.block_lt_of_cell? w _ hy2)).trans hy2
        have hla := World.block_lt_of_cell? wr _ hy0
        obtain ⟨hdr, hmem⟩ := rdM_mem hx0 hlt
        have HG0 := HW.out _ hmem
        have hwr : Aside0 (wrap64 (x12 + 1) = x12 + 1) := ⟨by unfold wrap64; omega⟩
        have c12 : decide (x12 < (ms.length : Int)) = true := decide_eq_true hlt
        have p1 := eq_true hx0
        have q1 := eq_true hlt
        generalize rd_T28 ms x12 = m at *
        obtain ⟨adw, ew, _⟩ := Kd.at_string hCs 0 (by omega) (by have := HG0.1; omega)
        subst ew
        have HY : Aside0 (Good w ⟨m.f0, m.f1, adw, c1, m.f2⟩) := ⟨⟨hcl, hCs, HG0.1, HG0.2.1, HG0.2.2.1, fun s hs => (HG0.2.2.2.2 s hs).1⟩⟩
        obtain ⟨ys, hR, hym, hyl, hyg⟩ := HO.out.hR
        have HR := Aside0.mk hR
        have HYs : Aside0 (ys.map ZTk_toY = (ms.take x12.toNat).map ZTk_toM ∧ ys.length = x12.toNat ∧ (∀ y ∈ ys, Good w y) ∧ ms.take (x12.toNat + 1) = ms.take x12.toNat ++ [m]) := ⟨hym, hyl, hyg, hdr⟩
        clear hR hym hyl hyg hdr hmem HG0 hcl hCs hx0 hlt
        go_wp2_with ((with_reducible refine gate_builtin (b := .append) (xs := #[.tmp 16, .tmp 24]) rfl ?_); at_builtin; refine Kd.R_append ZTk_kY (w0 := w) w.heap.size rfl (.tmp 16) (.tmp 24) 38 40 (.agg #[(.int .i64 0), (.int .i64 0), (.slice none 0 0)]) 40 rfl Tryd.underlying38 infoY rfl (by decide) (by omega) u5 ys ⟨m.f0, m.f1, adw, c1, m.f2⟩ [.int .i64 m.f0, .int .i64 m.f1, .slice (some adw) m.f2.length c1] (fun _ => True) (fun _ => False) rfl (by first | (go_simp; done) | (go_simp; rfl)) ?aP (fun _ hk => hk.elim) ?aF ?aO ?aB ?aS ?aL ?_; (case aP => exact kY_mkM _ _ _ ⟨m.f0, m.f1, adw, c1, m.f2⟩); (case aB => exact HO.out.hB.alloc HO.out.hB.size _); (case aF => exact (fun _ _ => trivial)); (case aO => exact Kd.R_below HR.out ((Below.refl _ _).alloc (Nat.le_refl _) _)); (case aS => have := HO.out.hB.size; rw [World.size_alloc]; omega); (case aL => have h1 := HYs.out.2.1; have h2 := HK.out; have h3 := HL.out; omega); intro v1 w8 ho hb8 hg hat; have HO8 := Aside0.mk ho; have HB8 := Aside0.mk hb8; clear ho hb8 hg hat)
        go_roundg k1
        case measure => omega
        case rel =>
          have hk := HK.out
          have e1 : (wrap64 (x12 + 1)).toNat = x12.toNat + 1 := by rw [hwr.out]; omega
          refine ⟨wrap64 (x12 + 1), rfl, ⟨by rw [hwr.out]; have := of_eq_true q1; omega⟩, ?_⟩
          rw [e1]
          refine ⟨HB8.out, _, HO8.out, ?_, by rw [List.length_append, HYs.out.2.1]; rfl, fun y hy => ?_⟩
          · rw [List.map_append, HYs.out.1, HYs.out.2.2.2, List.map_append]; rfl
          · rcases List.mem_append.1 hy with hy | hy
            · exact HYs.out.2.2.1 y hy
            · rw [List.mem_singleton.1 hy]; exact HY.out
      · have hxe : x12.toNat = ms.length := by have := HK.out; omega
        have c12 : decide (x12 < (ms.length : Int)) = false := decide_eq_false hlt
        obtain ⟨ys, hR, hym, hyl, hyg⟩ := HO.out.hR
        obtain ⟨A5, c5, rfl, hc5, hC5⟩ := Kd.R_reads hR
        have HB0 := Aside0.mk HO.out.hB
        have HYs : Aside0 (ys.map ZTk_toY = ms.map ZTk_toM ∧ ys.length ≤ 1000 ∧ (∀ y ∈ ys, Good w y) ∧ ys.length ≤ c5 ∧ Kd.C ZTk_kY wr A5 ys.length ys) := ⟨by rw [hym, hxe, List.take_length], by have := HL.out.2; omega, hyg, hc5, hC5⟩
        have HOk : Aside0 (OkC ms) := ⟨fun m hm he => ((HW.out m hm).2.2.2.2 _ he).2 rfl⟩
        have HNz : Aside0 (∀ t : ZTk_C, t.f0 ≠ 0 → ∀ y ∈ mapF ms t, y.f0 ≠ 0) := ⟨mapF_nz ms (fun m hm => (HW.out m hm).2.2.2.1)⟩
        clear hR hym hyl hyg hc5 hC5 hxe HO hlt
        go_wp2_with (first | (go_at_call 14; refine (lit_c _ _ _ _).mono ?_; rintro e w1 ⟨cfg, rfl, hP⟩; have HP := Aside0.mk hP; clear hP) | (go_at_call 13; refine (trl_c _ _ A5 c5 ys w1 (Kd.C_below HYs.out.2.2.2.2 HP.out.1) HYs.out.2.2.2.1 (fun y hy => (HYs.out.2.2.1 y hy).below (below_step HB0.out HP.out.1)) HYs.out.2.1 (fun u v fn w => rl_c _ _ fn u v w)).mono ?_; rintro e w2 ⟨W, rfl, rfl, hO2⟩; have HO2 := Aside0.mk hO2; clear hO2) | (go_at_call 12; have HBW := Aside0.mk (below_step (below_step HB0.out HP.out.1) HO2.out.hB); have HCh : Aside0 (ChgB W (w1.heap.size + 1) none 0 ms) := ⟨by obtain ⟨F, hT⟩ := HO2.out.hT; rw [List.take_length, HYs.out.1] at hT; exact ⟨_, _, _, F, HO2.out.hb, hT⟩⟩; have HTk : Aside0 (TokB W wr.heap.size A0 c0 l) := ⟨⟨(HO2.out.hB.block _ (blk_lt HP.out.2)).trans HP.out.2, Kd.C_below HC.out.1 HBW.out, HC.out.2⟩⟩; refine (lexedr_c W.heap.size wr.heap.size (w1.heap.size + 1) A0 c0 l none 0 ms _ _ cfg (vars_kept HV.out ((Below.heap_alloc _ _ _ (Nat.lt_of_lt_of_le hE HBW.out.size)).trans (HBW.out.block _ hE))) (HTk.out.below ((Below.refl _ _).alloc (Nat.le_refl _) _)) HL.out.1 HZ.out (HCh.out.below ((Below.refl _ _).alloc (Nat.le_refl _) _)) HOk.out HNz.out HLn.out (blk_new _ _)).mono ?_; rintro e w3 ⟨v3, rfl, hQ⟩; have HQ := Aside0.mk hQ; clear hQ))
        go_ret
        have s1 := HBW.out.size
        exact ⟨_, rfl, Kd.R_lower HQ.out.1 (by simp; omega), below_step (HBW.out.alloc s1 _) HQ.out.2⟩
end ZCoal
def impl_TypeRemap.f (l0 : List (S28)) (l1 : List (S30)) : Option (List (S30)) := if l0.length ≤ 1000 ∧ (l0.all fun m => decide (1 ≤ m.f2.length) && decide (m.f2.length ≤ 1000) && decide (-9223372036854775808 ≤ m.f0) && decide (m.f0 ≤ 9223372036854775807) && (m.f1 != 0) && m.f2.all fun s => decide (s.size ≤ 9223372036854775807) && decide (s.size ≠ 0)) = true ∧ l1.length ≤ 1000 ∧ (l1.all fun x => (x.f0 != 0) && decide (-9223372036854775808 ≤ x.f0) && decide (x.f0 ≤ 9223372036854775807) && decide (x.f1.size ≤ 9223372036854775807)) = true then some ((ZCoal.rmL l0 [] (l1.map ZCoal.toCC)).map ZCoal.toTT) else none
theorem impl_TypeRemap.calls (A0 : Option Addr) (c0 : Nat) (l0 : List (S28)) (A1 : Option Addr) (c1 : Nat) (l1 : List (S30)) (r : List (S30)) (w : World) (hr0 : Kd.C k28 w A0 l0.length l0) (hc0 : l0.length ≤ c0) (hr1 : Kd.C k30 w A1 l1.length l1) (hc1 : l1.length ≤ c1) (hV : Go.Proofs.YtchkijfnhhldfaaDoorFmt.VarsOK w) (h : impl_TypeRemap.f l0 l1 = some r) :
    Calls Tryd.prog 8 #[.slice A0 l0.length c0, .slice A1 l1.length c1] w fun e w' => ∃ v0_ : Value, e = .returned (v0_) ∧ Kd.R k30 30 w' w.heap.size (fun _ => True) v0_ r ∧ Below w.heap.size w w' := by
  unfold impl_TypeRemap.f at h
  by_cases h0 : l0.length ≤ 1000 ∧ (l0.all fun m => decide (1 ≤ m.f2.length) && decide (m.f2.length ≤ 1000) && decide (-9223372036854775808 ≤ m.f0) && decide (m.f0 ≤ 9223372036854775807) && (m.f1 != 0) && m.f2.all fun s => decide (s.size ≤ 9223372036854775807) && decide (s.size ≠ 0)) = true ∧ l1.length ≤ 1000 ∧ (l1.all fun x => (x.f0 != 0) && decide (-9223372036854775808 ≤ x.f0) && decide (x.f0 ≤ 9223372036854775807) && decide (x.f1.size ≤ 9223372036854775807)) = true
  · rw [if_pos h0] at h
    obtain rfl := Option.some.inj h
    obtain ⟨g1, g2, g3, g4⟩ := h0
    exact ZCoal.tremap_c A0 c0 l0 A1 c1 l1 w hV hr0 hc0 hr1 hc1 g3 (fun x hx => by
      have := List.all_eq_true.1 g4 x hx
      simp only [Bool.and_eq_true, decide_eq_true_eq, bne_iff_ne] at this
      exact ⟨this.1.1.1, ZCoal.ok_of this.1.1.2 this.1.2, this.2⟩) g1 (fun m hm => by
      have := List.all_eq_true.1 g2 m hm
      simp only [Bool.and_eq_true, decide_eq_true_eq, bne_iff_ne, List.all_eq_true] at this
      exact ⟨this.1.1.1.1.1, this.1.1.1.1.2, ZCoal.ok_of this.1.1.1.2 this.1.1.2, this.1.2, fun s hs => ⟨(this.2 s hs).1, fun e => (this.2 s hs).2 (by rw [e]; rfl)⟩⟩)
  · rw [if_neg h0] at h; cases h

end Go.Proofs.YtchkijfnhhldfaaDoor.R
