-- WRITTEN BY OUR myprint.py, a program of this session's over the kit's printer
import Derived.Test.YtgpamoanclhbhaaDoorMx0
import Derived.Test.YtgpamoanclhbhaaDoorMx2
namespace Go.Proofs.YtgpamoanclhbhaaDoor.M
open Go.RowKit Go.Proofs.YtgpamoanclhbhaaDoorW.PrintWords Go.Proofs.YtgpamoanclhbhaaDoorW.PrintLast Go.Proofs.YtgpamoanclhbhaaDoorW.PrintMore
attribute [local go_sem] max2_int min2_int max_two min_two max_three min_three max_four min_four   -- for this text's walks alone
set_option linter.unusedVariables false
set_option linter.unusedSimpArgs false

/-! ### impl_CoalesceTokens: function 9 -/
namespace ZCoal
abbrev ZTk_C := S51
def ZTk_tokV (x : ZTk_C) : Value := .agg #[.int .i64 x.f0, .string x.f1]
def ZTk_eof : ZTk_C := ⟨0, ⟨#[]⟩⟩
/-- The next token, or the mark of the end. -/
def ZTk_hd : List ZTk_C → ZTk_C
  | [] => ZTk_eof
  | x :: _ => x
/-- Block g has from cell o on the tokens l. -/
def ZTk_Toks (W : World) (g o : Nat) (l : List ZTk_C) : Prop :=
  ∀ i (h : i < l.length), W.cell? ⟨g, o + 2 * i, none⟩ = some (.int .i64 l[i].f0) ∧ W.cell? ⟨g, o + 2 * i + 1, none⟩ = some (.string l[i].f1)
theorem ZTk_Toks.tail {W : World} {g o : Nat} {x : ZTk_C} {l : List ZTk_C} (h : ZTk_Toks W g o (x :: l)) : ZTk_Toks W g (o + 2) l := fun i hi => by
  have := h (i + 1) (by simp; omega)
  simp only [List.getElem_cons_succ] at this
  rw [show o + 2 * (i + 1) = o + 2 + 2 * i by omega] at this
  exact this
theorem ZTk_Toks.same {W W' : World} {g o : Nat} {l : List ZTk_C} (h : ZTk_Toks W g o l) (hb : W'.heap[g]? = W.heap[g]?) : ZTk_Toks W' g o l := fun i hi =>
  ⟨(World.cell?_of_block (a := ⟨g, _, none⟩) hb).trans (h i hi).1, (World.cell?_of_block (a := ⟨g, _, none⟩) hb).trans (h i hi).2⟩
/-- Block Bt holds what is left of a slice of tokens, l, in block g. -/
def LitAt (W : World) (Bt g : Nat) (l : List ZTk_C) : Prop :=
  ∃ A c, W.heap[Bt]? = some (.cells #[.slice A l.length c] 52 (0, 0)) ∧ l.length ≤ c ∧ (∃ cs t, W.heap[g]? = some (.cells cs t (0, 0)) ∧ 22 ≠ t ∧ 29 ≠ t) ∧ g ≠ Bt ∧ (l ≠ [] → ∃ o, A = some ⟨g, o, none⟩ ∧ ZTk_Toks W g o l)
theorem LitAt.lt {W : World} {Bt g : Nat} {l : List ZTk_C} (h : LitAt W Bt g l) : Bt < W.heap.size := by
  obtain ⟨A, c, h, _⟩ := h; exact blk_lt h
theorem LitAt.same {W W' : World} {Bt g : Nat} {l : List ZTk_C} (h : LitAt W Bt g l) (h1 : W'.heap[Bt]? = W.heap[Bt]?) (h2 : W'.heap[g]? = W.heap[g]?) : LitAt W' Bt g l := by
  obtain ⟨A, c, a1, a2, a3, a4, a5⟩ := h
  refine ⟨A, c, h1.trans a1, a2, ?_, a4, fun hl => ?_⟩
  · obtain ⟨cs, t, a3, a6, a7⟩ := a3
    exact ⟨cs, t, h2.trans a3, a6, a7⟩
  · obtain ⟨o, b1, b2⟩ := a5 hl
    exact ⟨o, b1, b2.same h2⟩
set_option maxHeartbeats 4000000 in
theorem next_nil (Bt g : Nat) (w : World) (hV : Go.Proofs.YtgpamoanclhbhaaDoorFmt.VarsOK w) (h : LitAt w Bt g []) :
    Calls Tryd.prog 57 #[.pointer (some ⟨Bt, 0, none⟩)] w fun e w' => e = .returned (ZTk_tokV ZTk_eof) ∧ w.grownBy w' none := by
  have hu := Tryd.underlying51
  obtain ⟨A, c, a1, a2, a3, a4, a5⟩ := h
  have c0 : w.cell? ⟨Bt, 0, none⟩ = some (.slice A 0 c) := (blk_cell a1 0).trans rfl
  have e0 := hV.e0
  have e1 := hV.e1
  have hlt : Bt < w.heap.size := blk_lt a1
  have hl0 : 0 < w.heap.size := World.block_lt_of_cell? w _ e0
  clear a1 a2 a3 a4 a5 hV
  go_enter Tryd.func57, Tryd.ntmps57
  go_wp2
  exact bodyPost_ret (results_cell_row rfl _ _ w.heap.size 51 #[.int .i64 0, .string ⟨#[]⟩] (0, 0) _ rfl (by simpa using heap_alloc_new w _) Tryd.underlying51 rfl (by kernel_rfl)) rfl ⟨rfl, World.grownBy_alloc w _ none⟩
theorem res_at (w : World) (p : Addr) (v : Value) (o1 o2 : Obj) : (((w.setCell p v).alloc o1).alloc o2).heap[w.heap.size]? = some o1 := by
  refine blk_alloc ?_ _
  have := blk_new (w.setCell p v) o1
  rw [World.size_setCell] at this
  exact this
theorem next_post {w : World} {Bt g o c : Nat} {x : ZTk_C} {l : List ZTk_C} {A : Option Addr} (A' : Option Addr) (c' : Nat) (a1 : w.heap[Bt]? = some (.cells #[.slice A (x :: l).length c] 52 (0, 0))) (a3 : ∃ cs t, w.heap[g]? = some (.cells cs t (0, 0)) ∧ 22 ≠ t ∧ 29 ≠ t) (a4 : g ≠ Bt)
    (hT : ZTk_Toks w g o (x :: l)) (hc : l.length ≤ c') (hA : l ≠ [] → A' = some ⟨g, o + 2, none⟩) (o1 o2 : Obj) :
    LitAt (((w.setCell ⟨Bt, 0, none⟩ (.slice A' l.length c')).alloc o1).alloc o2) Bt g l ∧ w.grownBy (((w.setCell ⟨Bt, 0, none⟩ (.slice A' l.length c')).alloc o1).alloc o2) (some Bt) := by
  have hg : w.grownBy (((w.setCell ⟨Bt, 0, none⟩ (.slice A' l.length c')).alloc o1).alloc o2) (some Bt) := by
    refine ⟨rfl, rfl, rfl, by simp; omega, fun k hk hne => ?_⟩
    have hk' : k < (w.setCell ⟨Bt, 0, none⟩ (.slice A' l.length c')).heap.size := by rw [World.size_setCell]; exact hk
    refine ((Below.heap_alloc _ o2 k (by simp; omega)).trans (Below.heap_alloc _ o1 k hk')).trans ?_
    exact Below.heap_setCell w ⟨Bt, 0, none⟩ _ k (fun e => hne (by rw [e]))
  obtain ⟨cs, t, a3, a6, a7⟩ := a3
  have hgs := hg.block g (blk_lt a3) (fun e => a4 (by injection e))
  exact ⟨⟨A', c', blk_alloc (blk_alloc (blk_put a1 0 _ rfl) _) _, hc, ⟨cs, t, hgs.trans a3, a6, a7⟩, a4, fun hl => ⟨o + 2, hA hl, hT.tail.same hgs⟩⟩, hg⟩
set_option maxRecDepth 100000 in
set_option maxHeartbeats 4000000 in
theorem next_cons (Bt g : Nat) (x : ZTk_C) (l : List ZTk_C) (w : World) (h : LitAt w Bt g (x :: l)) :
    Calls Tryd.prog 57 #[.pointer (some ⟨Bt, 0, none⟩)] w fun e w' => e = .returned (ZTk_tokV x) ∧ LitAt w' Bt g l ∧ w.grownBy w' (some Bt) := by
  have hu := Tryd.underlying51
  obtain ⟨A, c, a1, a2, a3, a4, a5⟩ := h
  obtain ⟨o, rfl, hT⟩ := a5 (by simp)
  have c0 : w.cell? ⟨Bt, 0, none⟩ = some (.slice (some ⟨g, o, none⟩) (l.length + 1) c) := (blk_cell a1 0).trans rfl
  have f0 := blk_frozen a1 0
  have t0 := (hT 0 (by simp)).1
  have t1 := (hT 0 (by simp)).2
  simp only [Nat.mul_zero, Nat.add_zero, List.getElem_cons_zero] at t0 t1
  simp only [List.length_cons] at a2
  have hne : ((l.length : Int) + 1 == 0) = false := beq_eq_false_iff_ne.2 (by omega)
  have hle : (l.length : Int) + 1 ≤ c := by omega
  have hlt : Bt < w.heap.size := blk_lt a1
  have hlg : g < w.heap.size := by
    obtain ⟨cs, t, a3, _⟩ := a3
    exact blk_lt a3
  go_enter Tryd.func57, Tryd.ntmps57
  go_wp2
  · have hl : l = [] := List.eq_nil_of_length_eq_zero (by omega)
    obtain ⟨p1, p2⟩ := next_post (some ⟨g, o, none⟩) 0 a1 a3 a4 hT (by omega) (fun h => absurd hl h) (.cells #[.int .i64 x.f0, .string x.f1] 51) (.cells #[.int .i64 x.f0, .string x.f1] 51)
    exact bodyPost_ret (results_cell_row rfl _ _ w.heap.size 51 #[.int .i64 x.f0, .string x.f1] (0, 0) _ rfl (res_at _ _ _ _ _) Tryd.underlying51 rfl (by kernel_rfl)) rfl ⟨rfl, p1, p2⟩
  · obtain ⟨p1, p2⟩ := next_post (some ⟨g, o + 2, none⟩) (c - 1) a1 a3 a4 hT (by omega) (fun h => rfl) (.cells #[.int .i64 x.f0, .string x.f1] 51) (.cells #[.int .i64 x.f0, .string x.f1] 51)
    exact bodyPost_ret (results_cell_row rfl _ _ w.heap.size 51 #[.int .i64 x.f0, .string x.f1] (0, 0) _ rfl (res_at _ _ _ _ _) Tryd.underlying51 rfl (by kernel_rfl)) rfl ⟨rfl, p1, p2⟩
theorem eof_ne {w : World} {Bt : Nat} {v : Value} {t : TypeId} (hV : Go.Proofs.YtgpamoanclhbhaaDoorFmt.VarsOK w) (h : w.heap[Bt]? = some (.cells #[v] t (0, 0))) : 0 ≠ Bt := fun e => by
  have h1 := blk_cell h 1
  rw [← e, hV.e1] at h1
  cases h1
theorem vars_kept {w w' : World} (hV : Go.Proofs.YtgpamoanclhbhaaDoorFmt.VarsOK w) (h : w'.heap[0]? = w.heap[0]?) : Go.Proofs.YtgpamoanclhbhaaDoorFmt.VarsOK w' :=
  ⟨(World.cell?_of_block (a := ⟨0, 0, none⟩) h).trans hV.e0, (World.cell?_of_block (a := ⟨0, 1, none⟩) h).trans hV.e1⟩
theorem vars_lt {w : World} (hV : Go.Proofs.YtgpamoanclhbhaaDoorFmt.VarsOK w) : 0 < w.heap.size := World.block_lt_of_cell? w _ hV.e0
/-- The closure at any rest. -/
theorem next_c (Bt g : Nat) (l : List ZTk_C) (w : World) (hV : Go.Proofs.YtgpamoanclhbhaaDoorFmt.VarsOK w) (h : LitAt w Bt g l) :
    Calls Tryd.prog 57 #[.pointer (some ⟨Bt, 0, none⟩)] w fun e w' => e = .returned (ZTk_tokV (ZTk_hd l)) ∧ LitAt w' Bt g l.tail ∧ w.grownBy w' (some Bt) ∧ Go.Proofs.YtgpamoanclhbhaaDoorFmt.VarsOK w' := by
  cases l with
  | nil =>
    refine (next_nil Bt g w hV h).mono ?_
    rintro e w' ⟨rfl, hg⟩
    have h1 := hg.block Bt h.lt (by simp)
    obtain ⟨A, c, a1, a2, ⟨cs, t, a3, a6, a7⟩, a4, a5⟩ := h
    exact ⟨rfl, LitAt.same ⟨A, c, a1, a2, ⟨cs, t, a3, a6, a7⟩, a4, a5⟩ h1 (hg.block g (blk_lt a3) (by simp)), World.grownBy.but hg _, vars_kept hV (hg.block _ (vars_lt hV) (by simp))⟩
  | cons x l =>
    refine (next_cons Bt g x l w h).mono ?_
    rintro e w' ⟨rfl, h1, hg⟩
    obtain ⟨A, c, a1, _⟩ := h
    exact ⟨rfl, h1, hg, vars_kept hV (hg.block _ (vars_lt hV) (fun e => eof_ne hV a1 (by injection e)))⟩
/-- What a step keeps: all but the blocks from b0 to b1. -/
structure ZTk_Fr (b0 b1 : Nat) (w w' : World) : Prop where
  os : w'.os = w.os
  tape : w'.tape = w.tape
  output : w'.output = w.output
  size : w.heap.size ≤ w'.heap.size
  block : ∀ k, k < w.heap.size → k < b0 ∨ b1 ≤ k → w'.heap[k]? = w.heap[k]?
theorem ZTk_Fr.refl (b0 b1 : Nat) (w : World) : ZTk_Fr b0 b1 w w := ⟨rfl, rfl, rfl, Nat.le_refl _, fun _ _ _ => rfl⟩
theorem ZTk_Fr.trans {b0 b1 : Nat} {a b c : World} (h : ZTk_Fr b0 b1 a b) (k : ZTk_Fr b0 b1 b c) : ZTk_Fr b0 b1 a c :=
  ⟨k.os.trans h.os, k.tape.trans h.tape, k.output.trans h.output, Nat.le_trans h.size k.size, fun i hi hb => (k.block i (Nat.lt_of_lt_of_le hi h.size) hb).trans (h.block i hi hb)⟩
theorem ZTk_Fr.of_grown {b0 b1 B : Nat} {w w' : World} (h : w.grownBy w' (some B)) (h0 : b0 ≤ B) (h1 : B < b1) : ZTk_Fr b0 b1 w w' :=
  ⟨h.os, h.tape, h.output, h.size, fun k hk hb => h.block k hk (fun e => by injection e; omega)⟩
theorem ZTk_Fr.set {b0 b1 B : Nat} (w : World) (j : Nat) (v : Value) (h0 : b0 ≤ B) (h1 : B < b1) : ZTk_Fr b0 b1 w (w.setCell ⟨B, j, none⟩ v) :=
  ⟨rfl, rfl, rfl, by rw [World.size_setCell]; exact Nat.le_refl _, fun k hk hb => Below.heap_setCell w ⟨B, j, none⟩ v k (by show k ≠ B; omega)⟩
theorem ZTk_Fr.alloc {b0 b1 : Nat} (w : World) (o : Obj) : ZTk_Fr b0 b1 w (w.alloc o) :=
  ⟨rfl, rfl, rfl, by simp, fun k hk _ => Below.heap_alloc w o k hk⟩
theorem ZTk_Fr.below {b0 b1 : Nat} {w0 w w' : World} (h : ZTk_Fr b0 b1 w w') (hB : Below b0 w0 w) (hb : b0 ≤ w.heap.size) : Below b0 w0 w' :=
  ⟨h.os.trans hB.os, h.tape.trans hB.tape, h.output.trans hB.output, Nat.le_trans hB.size h.size, fun k hk => (h.block k (by omega) (.inl hk)).trans (hB.block k hk)⟩
def ZTk_itV (Bt : Nat) : Value := .func (.func 57) #[] #[.pointer (some ⟨Bt, 0, none⟩)]
/-- No token has been kept. -/
def isE (p : ZTk_C) : Bool := p.f0 == 0 && p.f1.size == 0
/-- What a call gives: a token, the one that is kept then, and what is left. -/
def coalN : ZTk_C → List ZTk_C → ZTk_C × ZTk_C × List ZTk_C
  | p, [] => (p, ZTk_eof, [])
  | p, t :: r => if t.f1.size = 0 then coalN p r else if isE p = true then coalN t r else if p.f0 = t.f0 then coalN ⟨p.f0, p.f1 ++ t.f1⟩ r else (p, t, r)
/-- All that the calls give. -/
def runsL : ZTk_C → List ZTk_C → List ZTk_C
  | p, [] => if isE p = true then [] else [p]
  | p, t :: r => if t.f1.size = 0 then runsL p r else if isE p = true then runsL t r else if p.f0 = t.f0 then runsL ⟨p.f0, p.f1 ++ t.f1⟩ r else p :: runsL t r
theorem bytes0 {s : ByteArray} (h : s.size = 0) : s = ⟨#[]⟩ := by
  obtain ⟨⟨l⟩⟩ := s
  have : l.length = 0 := h
  rw [List.eq_nil_of_length_eq_zero this]
theorem isE_eof {p : ZTk_C} (h : isE p = true) : p = ZTk_eof := by
  obtain ⟨a, b⟩ := p
  unfold isE at h
  rw [Bool.and_eq_true, beq_iff_eq, beq_iff_eq] at h
  obtain ⟨h1, h2⟩ := h
  have h1 : a = 0 := h1
  have h2 : b.size = 0 := h2
  rw [h1, bytes0 h2]
  rfl
theorem coalN_hd : ∀ (l : List ZTk_C) (p : ZTk_C), (coalN p l).1 = ZTk_hd (runsL p l)
  | [], p => by
    unfold coalN runsL
    by_cases h : isE p = true
    · rw [if_pos h]; exact isE_eof h
    · rw [if_neg h]; rfl
  | t :: r, p => by
    unfold coalN runsL
    by_cases h1 : t.f1.size = 0
    · rw [if_pos h1, if_pos h1]; exact coalN_hd r p
    · rw [if_neg h1, if_neg h1]
      by_cases h2 : isE p = true
      · rw [if_pos h2, if_pos h2]; exact coalN_hd r t
      · rw [if_neg h2, if_neg h2]
        by_cases h3 : p.f0 = t.f0
        · rw [if_pos h3, if_pos h3]; exact coalN_hd r _
        · rw [if_neg h3, if_neg h3]; rfl
theorem coalN_tail : ∀ (l : List ZTk_C) (p : ZTk_C), runsL (coalN p l).2.1 (coalN p l).2.2 = (runsL p l).tail
  | [], p => by
    have e : runsL ZTk_eof [] = [] := by unfold runsL; rw [if_pos (by rfl)]
    unfold coalN
    show runsL ZTk_eof [] = _
    rw [e]
    unfold runsL
    split <;> rfl
  | t :: r, p => by
    unfold coalN
    conv => rhs; unfold runsL
    by_cases h1 : t.f1.size = 0
    · rw [if_pos h1, if_pos h1]; exact coalN_tail r p
    · rw [if_neg h1, if_neg h1]
      by_cases h2 : isE p = true
      · rw [if_pos h2, if_pos h2]; exact coalN_tail r t
      · rw [if_neg h2, if_neg h2]
        by_cases h3 : p.f0 = t.f0
        · rw [if_pos h3, if_pos h3]; exact coalN_tail r _
        · rw [if_neg h3, if_neg h3]; rfl
/-- How many bytes tokens have. -/
def szL (l : List ZTk_C) : Nat := (l.map fun x => x.f1.size).sum
theorem szL_cons (x : ZTk_C) (l : List ZTk_C) : szL (x :: l) = x.f1.size + szL l := rfl
theorem size_cat (a b : ByteArray) : (a ++ b).size = a.size + b.size := ByteArray.size_append
theorem coalN_sz : ∀ (l : List ZTk_C) (p : ZTk_C), (coalN p l).2.1.f1.size + szL (coalN p l).2.2 ≤ p.f1.size + szL l ∧ (coalN p l).2.2.length ≤ l.length ∧ ((∀ x ∈ l, x.f0 ≠ 0) → (∀ x ∈ (coalN p l).2.2, x.f0 ≠ 0) ∧ ((isE (coalN p l).2.1 = true) ∨ (coalN p l).2.1.f0 ≠ 0))
  | [], p => by
    unfold coalN
    exact ⟨Nat.zero_le _, Nat.le_refl _, fun _ => ⟨fun x hx => (by cases hx), .inl rfl⟩⟩
  | t :: r, p => by
    have k := szL_cons t r
    have hmem : (∀ x ∈ t :: r, x.f0 ≠ 0) → ∀ x ∈ r, x.f0 ≠ 0 := fun h x hx => h x (List.mem_cons_of_mem _ hx)
    unfold coalN
    by_cases h1 : t.f1.size = 0
    · rw [if_pos h1]
      obtain ⟨a, b, c⟩ := coalN_sz r p
      exact ⟨by omega, by simp; omega, fun h => c (hmem h)⟩
    · rw [if_neg h1]
      by_cases h2 : isE p = true
      · rw [if_pos h2]
        obtain ⟨a, b, c⟩ := coalN_sz r t
        exact ⟨by omega, by simp; omega, fun h => c (hmem h)⟩
      · rw [if_neg h2]
        by_cases h3 : p.f0 = t.f0
        · rw [if_pos h3]
          obtain ⟨a, b, c⟩ := coalN_sz r ⟨p.f0, p.f1 ++ t.f1⟩
          have e : (⟨p.f0, p.f1 ++ t.f1⟩ : ZTk_C).f1.size = p.f1.size + t.f1.size := size_cat _ _
          exact ⟨by omega, by simp; omega, fun h => c (hmem h)⟩
        · rw [if_neg h3]
          exact ⟨by show t.f1.size + szL r ≤ _; omega, by simp, fun h => ⟨hmem h, .inr (h t List.mem_cons_self)⟩⟩
theorem runsL_good : ∀ (l : List ZTk_C) (p : ZTk_C), (∀ x ∈ l, x.f0 ≠ 0) → (isE p = true ∨ p.f0 ≠ 0) → ∀ x ∈ runsL p l, x.f0 ≠ 0
  | [], p, _, hp, x, hx => by
    unfold runsL at hx
    split at hx
    · cases hx
    · rename_i h
      rw [List.mem_singleton.1 hx]
      rcases hp with hp | hp
      · exact absurd hp h
      · exact hp
  | t :: r, p, hl, hp, x, hx => by
    have hr : ∀ x ∈ r, x.f0 ≠ 0 := fun x hx => hl x (List.mem_cons_of_mem _ hx)
    have ht : t.f0 ≠ 0 := hl t List.mem_cons_self
    unfold runsL at hx
    split at hx
    · exact runsL_good r p hr hp x hx
    · split at hx
      · exact runsL_good r t hr (.inr ht) x hx
      · rename_i h2
        have hp0 : p.f0 ≠ 0 := by
          rcases hp with hp | hp
          · exact absurd hp h2
          · exact hp
        split at hx
        · exact runsL_good r ⟨p.f0, p.f1 ++ t.f1⟩ hr (.inr hp0) x hx
        · rcases List.mem_cons.1 hx with e | hx
          · rw [e]; exact hp0
          · exact runsL_good r t hr (.inr ht) x hx
theorem runsL_len : ∀ (l : List ZTk_C) (p : ZTk_C), (runsL p l).length ≤ l.length + 1
  | [], p => by unfold runsL; split <;> simp
  | t :: r, p => by
    have h1 := runsL_len r p
    have h2 := runsL_len r t
    have h3 := runsL_len r ⟨p.f0, p.f1 ++ t.f1⟩
    unfold runsL
    split
    · simp; omega
    · split
      · simp; omega
      · split
        · simp; omega
        · simp; omega
/-- A coalescer's state: the token that is kept (block Bp), the iterator (block Bi) over what is left of a slice (blocks Bt, g). -/
structure CoAt (W : World) (b0 b1 Bp Bi Bt g : Nat) (p : ZTk_C) (l : List ZTk_C) : Prop where
  prev : W.heap[Bp]? = some (.cells #[.int .i64 p.f0, .string p.f1] 51 (0, 0))
  it : W.heap[Bi]? = some (.cells #[ZTk_itV Bt] 79 (0, 0))
  lit : LitAt W Bt g l
  np : b0 ≤ Bp ∧ Bp < b1
  ni : Bi < b1
  nt : b0 ≤ Bt ∧ Bt < b1
  ng : g < b1
  pg : Bp ≠ g
theorem lit_cell {W : World} {Bt g : Nat} {l : List ZTk_C} (h : LitAt W Bt g l) : ∃ A c, W.heap[Bt]? = some (.cells #[.slice A l.length c] 52 (0, 0)) := by
  obtain ⟨A, c, h, _⟩ := h; exact ⟨A, c, h⟩
theorem lit_g {W : World} {Bt g : Nat} {l : List ZTk_C} (h : LitAt W Bt g l) : g < W.heap.size := by
  obtain ⟨A, c, _, _, ⟨cs, t, h, _⟩, _⟩ := h; exact blk_lt h
theorem blk_ne' {W : World} {a b t u : Nat} {cs ds : Array Value} (h1 : W.heap[a]? = some (.cells cs t (0, 0))) (h2 : W.heap[b]? = some (.cells ds u (0, 0))) (hne : t ≠ u) : a ≠ b := fun e => by
  rw [e, h2] at h1
  injection h1 with h1
  injection h1 with _ h1
  exact hne h1.symm
theorem CoAt.pt {W : World} {b0 b1 Bp Bi Bt g : Nat} {p : ZTk_C} {l : List ZTk_C} (h : CoAt W b0 b1 Bp Bi Bt g p l) : Bp ≠ Bt ∧ Bi ≠ Bt ∧ Bi ≠ Bp := by
  obtain ⟨A, c, hB⟩ := lit_cell h.lit
  exact ⟨blk_ne' h.prev hB (by decide), blk_ne' h.it hB (by decide), blk_ne' h.it h.prev (by decide)⟩
/-- Behind whatever leaves the blocks below b1 as they were. -/
theorem CoAt.same {W W' : World} {b0 b1 Bp Bi Bt g : Nat} {p : ZTk_C} {l : List ZTk_C} (h : CoAt W b0 b1 Bp Bi Bt g p l) (hk : ∀ k, k < b1 → k < W.heap.size → W'.heap[k]? = W.heap[k]?) : CoAt W' b0 b1 Bp Bi Bt g p l :=
  ⟨(hk _ h.np.2 (blk_lt h.prev)).trans h.prev, (hk _ h.ni (blk_lt h.it)).trans h.it, h.lit.same (hk _ h.nt.2 h.lit.lt) (hk _ h.ng (lit_g h.lit)), h.np, h.ni, h.nt, h.ng, h.pg⟩
/-- Behind a call of the iterator. -/
theorem CoAt.next {W W' : World} {b0 b1 Bp Bi Bt g : Nat} {p : ZTk_C} {l : List ZTk_C} (h : CoAt W b0 b1 Bp Bi Bt g p l) (hg : W.grownBy W' (some Bt)) (hl : LitAt W' Bt g l.tail) : CoAt W' b0 b1 Bp Bi Bt g p l.tail := by
  obtain ⟨h1, h2, h3⟩ := h.pt
  exact ⟨(hg.block _ (blk_lt h.prev) (fun e => h1 (by injection e))).trans h.prev, (hg.block _ (blk_lt h.it) (fun e => h2 (by injection e))).trans h.it, hl, h.np, h.ni, h.nt, h.ng, h.pg⟩
/-- Behind the stores of another token into the block of the one that is kept. -/
theorem CoAt.keep {W : World} {b0 b1 Bp Bi Bt g : Nat} {p : ZTk_C} {l : List ZTk_C} (h : CoAt W b0 b1 Bp Bi Bt g p l) (q : ZTk_C) : CoAt ((W.setCell ⟨Bp, 0, none⟩ (.int .i64 q.f0)).setCell ⟨Bp, 1, none⟩ (.string q.f1)) b0 b1 Bp Bi Bt g q l := by
  obtain ⟨h1, h2, h3⟩ := h.pt
  have far : ∀ k, k ≠ Bp → ((W.setCell ⟨Bp, 0, none⟩ (.int .i64 q.f0)).setCell ⟨Bp, 1, none⟩ (.string q.f1)).heap[k]? = W.heap[k]? := fun k hk =>
    (Below.heap_setCell _ ⟨Bp, 1, none⟩ _ k hk).trans (Below.heap_setCell _ ⟨Bp, 0, none⟩ _ k hk)
  exact ⟨blk_put (blk_put h.prev 0 _ rfl) 1 _ rfl, (far _ h3).trans h.it, h.lit.same (far _ (fun e => h1 e.symm)) (far _ (fun e => h.pg e.symm)), h.np, h.ni, h.nt, h.ng, h.pg⟩
theorem CoAt.keep1 {W : World} {b0 b1 Bp Bi Bt g : Nat} {p : ZTk_C} {l : List ZTk_C} (h : CoAt W b0 b1 Bp Bi Bt g p l) (s : ByteArray) : CoAt (W.setCell ⟨Bp, 1, none⟩ (.string s)) b0 b1 Bp Bi Bt g ⟨p.f0, s⟩ l := by
  obtain ⟨h1, h2, h3⟩ := h.pt
  have far : ∀ k, k ≠ Bp → (W.setCell ⟨Bp, 1, none⟩ (.string s)).heap[k]? = W.heap[k]? := fun k hk => Below.heap_setCell _ ⟨Bp, 1, none⟩ _ k hk
  exact ⟨blk_put h.prev 1 _ rfl, (far _ h3).trans h.it, h.lit.same (far _ (fun e => h1 e.symm)) (far _ (fun e => h.pg e.symm)), h.np, h.ni, h.nt, h.ng, h.pg⟩
theorem ZTk_Fr.keep {b0 b1 Bp : Nat} (W : World) (q : ZTk_C) (h : b0 ≤ Bp ∧ Bp < b1) : ZTk_Fr b0 b1 W ((W.setCell ⟨Bp, 0, none⟩ (.int .i64 q.f0)).setCell ⟨Bp, 1, none⟩ (.string q.f1)) := (ZTk_Fr.set W 0 _ h.1 h.2).trans (ZTk_Fr.set _ 1 _ h.1 h.2)
/-- While the closure runs: q is kept, the token in block Bx and what the iterator has left are to come. -/
structure CI (b0 b1 Bp Bi Bt g : Nat) (p : ZTk_C) (l : List ZTk_C) (w : World) (Bx : Nat) (q : ZTk_C) (rest : List ZTk_C) (wr : World) : Prop where
  eq : coalN q rest = coalN p l
  co : CoAt wr b0 b1 Bp Bi Bt g q rest.tail
  hx : wr.heap[Bx]? = some (.cells #[.int .i64 (ZTk_hd rest).f0, .string (ZTk_hd rest).f1] 51 (0, 0))
  bx : w.heap.size < Bx
  hr : wr.heap[w.heap.size]? = some (.cells #[.int .i64 0, .string ⟨#[]⟩] 51 (0, 0))
  hF : ZTk_Fr b0 b1 w wr
  nz : ∀ x ∈ rest, x.f0 ≠ 0
  ok : isE q = true ∨ q.f0 ≠ 0
  sz : q.f1.size + szL rest ≤ 8191
theorem co_vars {b0 b1 : Nat} {w w' : World} (hV : Go.Proofs.YtgpamoanclhbhaaDoorFmt.VarsOK w) (hE : 0 < b0) (h : ZTk_Fr b0 b1 w w') : Go.Proofs.YtgpamoanclhbhaaDoorFmt.VarsOK w' := vars_kept hV (h.block _ (vars_lt hV) (.inl hE))
theorem ZTk_Fr.far {b0 b1 k : Nat} {w w' : World} {o : Obj} (h : ZTk_Fr b0 b1 w w') (hk : b1 ≤ k) (hb : w.heap[k]? = some o) : w'.heap[k]? = some o := by
  have hlt : k < w.heap.size := by
    rcases Nat.lt_or_ge k w.heap.size with h | h
    · exact h
    · rw [Array.getElem?_eq_none h] at hb; cases hb
  exact (h.block k hlt (.inr hk)).trans hb
theorem co_fin {b0 b1 Bp Bi Bt g : Nat} {q : ZTk_C} {l : List ZTk_C} {w W : World} (hb : b1 ≤ w.heap.size) (hF : ZTk_Fr b0 b1 w W) {cs : Array Value} (hr : W.heap[w.heap.size]? = some (.cells cs 51 (0, 0))) (hcs : cs.size = 2) (co : CoAt W b0 b1 Bp Bi Bt g q l) (t : ZTk_C) (ob : Obj) :
    (((W.setCell ⟨w.heap.size, 0, none⟩ (.int .i64 t.f0)).setCell ⟨w.heap.size, 1, none⟩ (.string t.f1)).alloc ob).heap[w.heap.size]? = some (.cells #[.int .i64 t.f0, .string t.f1] 51 (0, 0)) ∧
    CoAt (((W.setCell ⟨w.heap.size, 0, none⟩ (.int .i64 t.f0)).setCell ⟨w.heap.size, 1, none⟩ (.string t.f1)).alloc ob) b0 b1 Bp Bi Bt g q l ∧ ZTk_Fr b0 b1 w (((W.setCell ⟨w.heap.size, 0, none⟩ (.int .i64 t.f0)).setCell ⟨w.heap.size, 1, none⟩ (.string t.f1)).alloc ob) := by
  have far : ∀ k, k ≠ w.heap.size → k < W.heap.size → (((W.setCell ⟨w.heap.size, 0, none⟩ (.int .i64 t.f0)).setCell ⟨w.heap.size, 1, none⟩ (.string t.f1)).alloc ob).heap[k]? = W.heap[k]? := fun k hk hlt =>
    (Below.heap_alloc _ ob k (by rw [World.size_setCell, World.size_setCell]; exact hlt)).trans ((Below.heap_setCell _ ⟨w.heap.size, 1, none⟩ _ k hk).trans (Below.heap_setCell _ ⟨w.heap.size, 0, none⟩ _ k hk))
  have hsz := hF.size
  refine ⟨blk_alloc (blk_put (blk_put hr 0 _ rfl) 1 _ ?_) _, co.same (fun k hk hlt => far k (by omega) hlt), ⟨hF.os, hF.tape, hF.output, ?_, fun k hk hkb => (far k (by omega) (by omega)).trans (hF.block k hk hkb)⟩⟩
  · obtain ⟨x, y, rfl⟩ : ∃ x y, cs = #[x, y] := by
      obtain ⟨l⟩ := cs
      match l, hcs with
      | [a, b], _ => exact ⟨a, b, rfl⟩
    rfl
  · simp; omega
theorem ci_box {b0 b1 Bt B9 : Nat} {x : ZTk_C} {w W w2 : World} (hb : b1 ≤ w.heap.size) (ht : Bt < b1) (hF : ZTk_Fr b0 b1 w W) (h9 : B9 = W.heap.size) (hg : (W.alloc (.cells #[.int .i64 x.f0, .string x.f1] 51)).grownBy w2 (some Bt)) :
    w2.heap[B9]? = some (.cells #[.int .i64 x.f0, .string x.f1] 51 (0, 0)) := by
  subst h9
  have := hF.size
  exact (hg.block _ (by simp) (fun e => by injection e with e; omega)).trans (blk_new W _)
theorem ci_next {b0 b1 Bp Bi Bt g B9 : Nat} {p x q : ZTk_C} {l r : List ZTk_C} {w W w2 : World} (hb : b1 ≤ w.heap.size) (hF : ZTk_Fr b0 b1 w W) (h9 : B9 = W.heap.size) (co : CoAt W b0 b1 Bp Bi Bt g q r) (hr : W.heap[w.heap.size]? = some (.cells #[.int .i64 0, .string ⟨#[]⟩] 51 (0, 0)))
    (hg : (W.alloc (.cells #[.int .i64 x.f0, .string x.f1] 51)).grownBy w2 (some Bt)) (hl : LitAt w2 Bt g r.tail) (heq : coalN q r = coalN p l) (nz : ∀ y ∈ r, y.f0 ≠ 0) (ok : isE q = true ∨ q.f0 ≠ 0) (sz : q.f1.size + szL r ≤ 8191) :
    CI b0 b1 Bp Bi Bt g p l w B9 q r ((w2.setCell ⟨B9, 0, none⟩ (.int .i64 (ZTk_hd r).f0)).setCell ⟨B9, 1, none⟩ (.string (ZTk_hd r).f1)) := by
  have hx2 := ci_box hb co.nt.2 hF h9 hg
  subst h9
  have hsz := hF.size
  have hlr := blk_lt hr
  have hF2 : ZTk_Fr b0 b1 w w2 := (hF.trans (ZTk_Fr.alloc W _)).trans (ZTk_Fr.of_grown hg co.nt.1 co.nt.2)
  have co2 : CoAt w2 b0 b1 Bp Bi Bt g q r.tail := (co.same (fun k hk hlt => Below.heap_alloc W _ k hlt)).next hg hl
  have hr2 : w2.heap[w.heap.size]? = some (.cells #[.int .i64 0, .string ⟨#[]⟩] 51 (0, 0)) := (hg.block _ (by simp; omega) (fun e => by injection e with e; have := co.nt.2; omega)).trans (blk_alloc hr _)
  have far : ∀ k, k ≠ W.heap.size → ((w2.setCell ⟨W.heap.size, 0, none⟩ (.int .i64 (ZTk_hd r).f0)).setCell ⟨W.heap.size, 1, none⟩ (.string (ZTk_hd r).f1)).heap[k]? = w2.heap[k]? := fun k hk =>
    (Below.heap_setCell _ ⟨W.heap.size, 1, none⟩ _ k hk).trans (Below.heap_setCell _ ⟨W.heap.size, 0, none⟩ _ k hk)
  refine ⟨heq, co2.same (fun k hk _ => far k (by omega)), blk_put (blk_put hx2 0 _ rfl) 1 _ rfl, by omega, (far _ (by omega)).trans hr2, ⟨hF2.os, hF2.tape, hF2.output, ?_, fun k hk hkb => (far k (by omega)).trans (hF2.block k hk hkb)⟩, nz, ok, sz⟩
  rw [World.size_setCell, World.size_setCell]; exact hF2.size
def CoRes (b0 b1 Bp Bi Bt g : Nat) (r : ZTk_C × ZTk_C × List ZTk_C) (w : World) (e : Ending) (w' : World) : Prop :=
  e = .returned (.agg #[.int .i64 r.1.f0, .string r.1.f1]) ∧ CoAt w' b0 b1 Bp Bi Bt g r.2.1 r.2.2 ∧ ZTk_Fr b0 b1 w w'
set_option maxRecDepth 100000 in
set_option maxHeartbeats 8000000 in
theorem coal_c (b0 b1 Bp Bi Bt g : Nat) (p : ZTk_C) (l : List ZTk_C) (w : World) (hV : Go.Proofs.YtgpamoanclhbhaaDoorFmt.VarsOK w) (hE : 0 < b0) (h : CoAt w b0 b1 Bp Bi Bt g p l) (hb0 : b0 ≤ b1) (hb : b1 ≤ w.heap.size)
    (hz : ∀ x ∈ l, x.f0 ≠ 0) (hp : isE p = true ∨ p.f0 ≠ 0) (hs : p.f1.size + szL l ≤ 8191) :
    Calls Tryd.prog 50 #[.pointer (some ⟨Bi, 0, none⟩), .pointer (some ⟨Bp, 0, none⟩)] w fun e w' => CoRes b0 b1 Bp Bi Bt g (coalN p l) w e w' := by
  have hu := Tryd.underlying51
  have c0 : w.cell? ⟨Bi, 0, none⟩ = some (ZTk_itV Bt) := (blk_cell h.it 0).trans rfl
  have li := blk_lt h.it
  have HC := Aside0.mk h
  have HZ := Aside0.mk hz
  have HP := Aside0.mk hp
  have HS := Aside0.mk hs
  have kn : Aside0 (Calls Tryd.prog 57 #[.pointer (some ⟨Bt, 0, none⟩)] (w.alloc (.cells #[.int .i64 0, .string ⟨#[]⟩] 51)) fun e w' => e = .returned (.agg #[.int .i64 (ZTk_hd l).f0, .string (ZTk_hd l).f1]) ∧ LitAt w' Bt g l.tail ∧ (w.alloc (.cells #[.int .i64 0, .string ⟨#[]⟩] 51)).grownBy w' (some Bt)) :=
    ⟨(next_c Bt g l _ (co_vars hV hE (ZTk_Fr.alloc (b0 := b0) (b1 := b1) w _)) (h.same (fun k hk hlt => Below.heap_alloc w _ k hlt)).lit).mono fun e w' h => ⟨h.1, h.2.1, h.2.2.1⟩⟩
  unfold ZTk_itV at c0
  clear h hz hp hs
  go_enter Tryd.func50, Tryd.ntmps50
  go_wp2_with (go_at_call 57; refine kn.out.mono ?_; rintro e w1 ⟨rfl, hl1, hg1⟩)
  have hC1 : CoAt w1 b0 b1 Bp Bi Bt g p l.tail := (HC.out.same (fun k hk hlt => Below.heap_alloc w _ k hlt)).next hg1 hl1
  have hF1 : ZTk_Fr b0 b1 w w1 := (ZTk_Fr.alloc w _).trans (ZTk_Fr.of_grown hg1 HC.out.nt.1 HC.out.nt.2)
  have hr1 : w1.heap[w.heap.size]? = some (.cells #[.int .i64 0, .string ⟨#[]⟩] 51 (0, 0)) := (hg1.block _ (by simp) (fun e => by injection e with e; have := HC.out.nt.2; omega)).trans (blk_new w _)
  have hs1 : w.heap.size < w1.heap.size := blk_lt hr1
  have HI : Aside0 (CI b0 b1 Bp Bi Bt g p l w w1.heap.size p l (w1.alloc (.cells #[.int .i64 (ZTk_hd l).f0, .string (ZTk_hd l).f1] 51))) :=
    ⟨⟨rfl, hC1.same (fun k hk hlt => Below.heap_alloc _ _ k hlt), blk_new _ _, hs1, blk_alloc hr1 _, hF1.trans (ZTk_Fr.alloc _ _), HZ.out, HP.out, HS.out⟩⟩
  clear kn hl1 hg1 hC1 hF1 hr1 hs1 c0 li
  go_loopg [3] (l.length + 1) (fun kq v3 wr => ∃ (Bx : Nat) (q : ZTk_C) (rest : List ZTk_C), v3 = .pointer (some ⟨Bx, 0, none⟩) ∧ Aside0 (rest.length < kq) ∧ Aside0 (CI b0 b1 Bp Bi Bt g p l w Bx q rest wr))
  case atStart => exact ⟨_, p, l, rfl, ⟨Nat.lt_succ_self _⟩, HI⟩
  case round =>
    obtain ⟨Bx, q, rest, rfl, HK, HH⟩ := hrel
    clear HI
    cases gk with
    | zero => have := HK.out; omega
    | succ k1 =>
      have H := HH.out
      have V := co_vars hV hE H.hF
      have v0 := V.e0
      have v1 := V.e1
      have lv := vars_lt V
      have lx := blk_lt H.hx
      have lp := blk_lt H.co.prev
      have lr := blk_lt H.hr
      have p0 : wr.cell? ⟨Bp, 0, none⟩ = some (.int .i64 q.f0) := (blk_cell H.co.prev 0).trans rfl
      have p1 : wr.cell? ⟨Bp, 1, none⟩ = some (.string q.f1) := (blk_cell H.co.prev 1).trans rfl
      have fp0 := blk_frozen H.co.prev 0
      have fp1 := blk_frozen H.co.prev 1
      have q1 : Bp < w.heap.size := Nat.lt_of_lt_of_le H.co.np.2 hb
      have q2 : w.heap.size < Bx := H.bx
      have r0 : wr.cell? ⟨w.heap.size, 0, none⟩ = some (.int .i64 0) := (blk_cell H.hr 0).trans rfl
      have r1 : wr.cell? ⟨w.heap.size, 1, none⟩ = some (.string ⟨#[]⟩) := (blk_cell H.hr 1).trans rfl
      have fr0 := blk_frozen H.hr 0
      have fr1 := blk_frozen H.hr 1
      cases rest with
      | nil =>
        have x0 : wr.cell? ⟨Bx, 0, none⟩ = some (.int .i64 0) := (blk_cell H.hx 0).trans rfl
        have x1 : wr.cell? ⟨Bx, 1, none⟩ = some (.string ⟨#[]⟩) := (blk_cell H.hx 1).trans rfl
        clear H V
        go_wp2
        have H := HH.out
        have hrk : ((wr.setCell ⟨Bp, 0, none⟩ (.int .i64 ZTk_eof.f0)).setCell ⟨Bp, 1, none⟩ (.string ZTk_eof.f1)).heap[w.heap.size]? = some (.cells #[.int .i64 0, .string ⟨#[]⟩] 51 (0, 0)) := (ZTk_Fr.keep (b0 := b0) (b1 := b1) wr ZTk_eof H.co.np).far hb H.hr
        obtain ⟨f1, f2, f3⟩ := co_fin hb (H.hF.trans (ZTk_Fr.keep wr ZTk_eof H.co.np)) hrk rfl (H.co.keep ZTk_eof) q (.cells #[.int .i64 q.f0, .string q.f1] 51)
        exact bodyPost_ret (results_cell_row rfl _ _ w.heap.size 51 #[.int .i64 q.f0, .string q.f1] (0, 0) _ rfl f1 Tryd.underlying51 rfl (by kernel_rfl)) rfl (by
          rw [← H.eq]
          exact ⟨rfl, f2, f3⟩)
      | cons x r =>
        have x0 : wr.cell? ⟨Bx, 0, none⟩ = some (.int .i64 x.f0) := (blk_cell H.hx 0).trans rfl
        have x1 : wr.cell? ⟨Bx, 1, none⟩ = some (.string x.f1) := (blk_cell H.hx 1).trans rfl
        have hxz : x.f0 ≠ 0 := H.nz x List.mem_cons_self
        have hxb : (x.f0 == 0) = false := beq_eq_false_iff_ne.2 hxz
        have HC2 := Aside0.mk H.co
        have kn : Aside0 (∀ (q2 : ZTk_C) (W : World), Go.Proofs.YtgpamoanclhbhaaDoorFmt.VarsOK W → CoAt W b0 b1 Bp Bi Bt g q2 r → Calls Tryd.prog 57 #[.pointer (some ⟨Bt, 0, none⟩)] W fun e w' => e = .returned (.agg #[.int .i64 (ZTk_hd r).f0, .string (ZTk_hd r).f1]) ∧ LitAt w' Bt g r.tail ∧ W.grownBy w' (some Bt)) :=
          ⟨fun q2 W hV hC => (next_c Bt g r W hV hC.lit).mono fun e w' h => ⟨h.1, h.2.1, h.2.2.1⟩⟩
        have i0 : wr.cell? ⟨Bi, 0, none⟩ = some (.func (.func 57) #[] #[.pointer (some ⟨Bt, 0, none⟩)]) := (blk_cell H.co.it 0).trans rfl
        have li := blk_lt H.co.it
        have hz1 := H.nz
        clear H V
        by_cases h1 : x.f1.size = 0
        · have hlen : ((x.f1.size : Int) == 0) = true := by rw [h1]; rfl
          have HL1 := Aside0.mk h1
          clear h1
          have hVa : Go.Proofs.YtgpamoanclhbhaaDoorFmt.VarsOK (wr.alloc (.cells #[.int .i64 x.f0, .string x.f1] 51)) := co_vars hV hE (HH.out.hF.trans (ZTk_Fr.alloc _ _))
          have HVa := Aside0.mk hVa
          clear hVa
          have hFk : ZTk_Fr b0 b1 w wr := HH.out.hF
          go_wp2_with (go_at_call 57; refine (kn.out q _ HVa.out (HC2.out.same (fun k hk hlt => Below.heap_alloc _ _ k hlt))).mono ?_; rintro e w2 ⟨rfl, hl2, hg2⟩; have hx2 := ci_box hb HC2.out.nt.2 HH.out.hF rfl hg2; have y0 := (blk_cell hx2 0).trans rfl; have y1 := (blk_cell hx2 1).trans rfl; have z0 := blk_frozen hx2 0; have z1 := blk_frozen hx2 1; have HX2 := Aside0.mk hx2; clear hx2)
          have HN : Aside0 (CI b0 b1 Bp Bi Bt g p l w wr.heap.size q r ((w2.setCell ⟨wr.heap.size, 0, none⟩ (.int .i64 (ZTk_hd r).f0)).setCell ⟨wr.heap.size, 1, none⟩ (.string (ZTk_hd r).f1))) :=
            ⟨ci_next hb HH.out.hF (by simp) HC2.out HH.out.hr hg2 hl2 ((by conv => rhs; rw [← HH.out.eq]; unfold coalN; rw [if_pos HL1.out])) (fun y hy => HH.out.nz y (List.mem_cons_of_mem _ hy)) HH.out.ok (by have := HH.out.sz; rw [szL_cons] at this; omega)⟩
          clear hl2 hg2 y0 y1 z0 z1 HX2
          go_wp2
          go_roundg k1
          case measure => omega
          case rel => exact ⟨_, q, r, rfl, ⟨by have := HK.out; simp at this; omega⟩, HN⟩
        · have hlen : ((x.f1.size : Int) == 0) = false := beq_eq_false_iff_ne.2 (by omega)
          have HL1 := Aside0.mk h1
          clear h1
          have ip : Bi ≠ Bp := HC2.out.pt.2.2
          have pi : Bp ≠ Bi := fun e => ip e.symm
          have bxp : Bx ≠ Bp := by omega
          have bpx : Bp ≠ Bx := by omega
          by_cases h2 : isE q = true
          · obtain rfl := isE_eof h2
            clear h2
            replace p0 : wr.cell? ⟨Bp, 0, none⟩ = some (.int .i64 0) := p0
            replace p1 : wr.cell? ⟨Bp, 1, none⟩ = some (.string ⟨#[]⟩) := p1
            have HVa : Aside0 (Go.Proofs.YtgpamoanclhbhaaDoorFmt.VarsOK (((wr.setCell ⟨Bp, 0, none⟩ (.int .i64 x.f0)).setCell ⟨Bp, 1, none⟩ (.string x.f1)).alloc (.cells #[.int .i64 x.f0, .string x.f1] 51))) := ⟨co_vars hV hE ((HH.out.hF.trans (ZTk_Fr.keep wr x HC2.out.np)).trans (ZTk_Fr.alloc _ _))⟩
            go_wp2_with (go_at_call 57; refine (kn.out x _ HVa.out ((HC2.out.keep x).same (fun k hk hlt => Below.heap_alloc _ _ k hlt))).mono ?_; rintro e w2 ⟨rfl, hl2, hg2⟩; have hx2 : w2.heap[wr.heap.size]? = _ := ci_box hb HC2.out.nt.2 (HH.out.hF.trans (ZTk_Fr.keep wr x HC2.out.np)) (by simp) hg2; have y0 := (blk_cell hx2 0).trans rfl; have y1 := (blk_cell hx2 1).trans rfl; have z0 := blk_frozen hx2 0; have z1 := blk_frozen hx2 1; have HX2 := Aside0.mk hx2; clear hx2)
            have HN : Aside0 (CI b0 b1 Bp Bi Bt g p l w wr.heap.size x r ((w2.setCell ⟨wr.heap.size, 0, none⟩ (.int .i64 (ZTk_hd r).f0)).setCell ⟨wr.heap.size, 1, none⟩ (.string (ZTk_hd r).f1))) :=
              ⟨ci_next hb (HH.out.hF.trans (ZTk_Fr.keep wr x HC2.out.np)) (by simp) (HC2.out.keep x) ((ZTk_Fr.keep (b0 := b0) (b1 := b1) wr x HC2.out.np).far hb HH.out.hr) hg2 hl2 (by conv => rhs; rw [← HH.out.eq]; unfold coalN; rw [if_neg HL1.out, if_pos (by rfl)]) (fun y hy => HH.out.nz y (List.mem_cons_of_mem _ hy)) (.inr hxz) (by have := HH.out.sz; rw [szL_cons] at this; omega)⟩
            clear hl2 hg2 y0 y1 z0 z1 HX2
            go_wp2
            go_roundg k1
            case measure => omega
            case rel => exact ⟨_, x, r, rfl, ⟨by have := HK.out; simp at this; omega⟩, HN⟩
          · have hq0 : q.f0 ≠ 0 := by
              rcases HH.out.ok with h | h
              · exact absurd h h2
              · exact h
            have hqb : (q.f0 == 0) = false := beq_eq_false_iff_ne.2 hq0
            have HL2 := Aside0.mk h2
            clear h2
            by_cases h3 : q.f0 = x.f0
            · have hqx : (q.f0 == x.f0) = true := beq_iff_eq.2 h3
              have h8 : decide ((q.f1.size : Int) < 8192) = true := decide_eq_true (by have := HH.out.sz; rw [szL_cons] at this; omega)
              have hcap : ¬ (9223372036854775807 < q.f1.size + x.f1.size) := by have := HH.out.sz; rw [szL_cons] at this; omega
              have HL3 := Aside0.mk h3
              clear h3
              have HC3 : Aside0 (CoAt (wr.setCell ⟨Bp, 1, none⟩ (.string (q.f1 ++ x.f1))) b0 b1 Bp Bi Bt g ⟨q.f0, q.f1 ++ x.f1⟩ r) := ⟨HC2.out.keep1 _⟩
              have HF3 : Aside0 (ZTk_Fr b0 b1 wr (wr.setCell ⟨Bp, 1, none⟩ (.string (q.f1 ++ x.f1)))) := ⟨ZTk_Fr.set wr 1 _ HC2.out.np.1 HC2.out.np.2⟩
              have HVa : Aside0 (Go.Proofs.YtgpamoanclhbhaaDoorFmt.VarsOK ((wr.setCell ⟨Bp, 1, none⟩ (.string (q.f1 ++ x.f1))).alloc (.cells #[.int .i64 x.f0, .string x.f1] 51))) := ⟨co_vars hV hE ((HH.out.hF.trans HF3.out).trans (ZTk_Fr.alloc _ _))⟩
              go_wp2_with (go_at_call 57; refine (kn.out _ _ HVa.out (HC3.out.same (fun k hk hlt => Below.heap_alloc _ _ k hlt))).mono ?_; rintro e w2 ⟨rfl, hl2, hg2⟩; have hx2 : w2.heap[wr.heap.size]? = _ := ci_box hb HC2.out.nt.2 (HH.out.hF.trans HF3.out) (by simp) hg2; have y0 := (blk_cell hx2 0).trans rfl; have y1 := (blk_cell hx2 1).trans rfl; have z0 := blk_frozen hx2 0; have z1 := blk_frozen hx2 1; have HX2 := Aside0.mk hx2; clear hx2)
              have HN : Aside0 (CI b0 b1 Bp Bi Bt g p l w wr.heap.size ⟨q.f0, q.f1 ++ x.f1⟩ r ((w2.setCell ⟨wr.heap.size, 0, none⟩ (.int .i64 (ZTk_hd r).f0)).setCell ⟨wr.heap.size, 1, none⟩ (.string (ZTk_hd r).f1))) :=
                ⟨ci_next hb (HH.out.hF.trans HF3.out) (by simp) HC3.out (HF3.out.far hb HH.out.hr) hg2 hl2 (by conv => rhs; rw [← HH.out.eq]; unfold coalN; rw [if_neg HL1.out, if_neg HL2.out, if_pos HL3.out]) (fun y hy => HH.out.nz y (List.mem_cons_of_mem _ hy)) (.inr hq0) (by have := HH.out.sz; rw [szL_cons] at this; have e : (⟨q.f0, q.f1 ++ x.f1⟩ : ZTk_C).f1.size = q.f1.size + x.f1.size := size_cat _ _; omega)⟩
              clear hl2 hg2 y0 y1 z0 z1 HX2
              go_wp2
              go_roundg k1
              case measure => omega
              case rel => exact ⟨_, _, r, rfl, ⟨by have := HK.out; simp at this; omega⟩, HN⟩
            · have hqx : (q.f0 == x.f0) = false := beq_eq_false_iff_ne.2 h3
              have HL3 := Aside0.mk h3
              clear h3
              go_wp2
              have H := HH.out
              have hrk : ((wr.setCell ⟨Bp, 0, none⟩ (.int .i64 x.f0)).setCell ⟨Bp, 1, none⟩ (.string x.f1)).heap[w.heap.size]? = some (.cells #[.int .i64 0, .string ⟨#[]⟩] 51 (0, 0)) := (ZTk_Fr.keep (b0 := b0) (b1 := b1) wr x H.co.np).far hb H.hr
              obtain ⟨f1, f2, f3⟩ := co_fin hb (H.hF.trans (ZTk_Fr.keep wr x H.co.np)) hrk rfl (H.co.keep x) q (.cells #[.int .i64 q.f0, .string q.f1] 51)
              exact bodyPost_ret (results_cell_row rfl _ _ w.heap.size 51 #[.int .i64 q.f0, .string q.f1] (0, 0) _ rfl f1 Tryd.underlying51 rfl (by kernel_rfl)) rfl (by
                rw [← H.eq]
                unfold coalN
                rw [if_neg HL1.out, if_neg HL2.out, if_neg HL3.out]
                exact ⟨rfl, f2, f3⟩)
abbrev ZTk_T := S29
abbrev ZTk_kT : Kd ZTk_T := k29
abbrev ZTk_kC : Kd ZTk_C := k51
abbrev ZTk_RC (w : World) (base : Nat) (v : Value) (xs : List ZTk_C) : Prop := Kd.R ZTk_kC 51 w base (fun _ => True) v xs
abbrev toCC (x : ZTk_T) : ZTk_C := ⟨x.f0, x.f1⟩
abbrev toTT (x : ZTk_C) : ZTk_T := ⟨x.f0, x.f1⟩
open Go.Proofs.YtgpamoanclhbhaaDoorEvt (Evt Evt.step Evt.pure Evt.congr wrap_nat) in
theorem inner_loop (xs : List ZTk_T) (hn : xs.length ≤ 2147483647) : ∀ (d i : Nat) (acc : List ZTk_C), xs.length = i + d → acc.length ≤ i →
    Evt (fun k => impl_inner.l0 k acc xs (xs.length : Int) (i : Int)) (acc ++ (xs.drop i).map toCC) := by
  have rdT : ∀ (i : Nat) (h : i < xs.length), rd_T29 xs (i : Int) = xs[i] := fun i h => by simp [rd_T29, List.getD_eq_getElem?_getD, h]
  intro d
  induction d with
  | zero =>
    intro i acc hi hacc
    refine Evt.step (h := fun _ => some _) (fun k => ?_) (Evt.pure _)
    simp only [impl_inner.l0]; rw [if_neg (by omega), List.drop_eq_nil_of_le (by omega)]; simp
  | succ d ih =>
    intro i acc hi hacc
    have hlt : i < xs.length := by omega
    have h1 := ih (i + 1) (acc ++ [⟨xs[i].f0, xs[i].f1⟩]) (by omega) (by simp; omega)
    rw [List.drop_eq_getElem_cons hlt, List.map_cons, ← List.singleton_append, ← List.append_assoc]
    refine Evt.step (fun k => ?_) h1
    simp only [impl_inner.l0]; rw [if_pos (by omega), if_pos (by omega), if_pos (by omega), rdT _ hlt, if_pos (by omega), wrap_nat (by omega)]
theorem inner_some (xs : List ZTk_T) (hn : xs.length ≤ 2147483647) : ∃ k, impl_inner.f k xs = some (xs.map toCC) := by
  obtain ⟨N, h⟩ := inner_loop xs hn xs.length 0 [] (by omega) (by simp)
  refine ⟨N, ?_⟩
  have := h N (Nat.le_refl _)
  simpa [impl_inner.f] using this
open Go.Proofs.YtgpamoanclhbhaaDoorEvt (Evt Evt.step Evt.pure Evt.congr wrap_nat) in
theorem outer_loop (xs : List ZTk_C) (hn : xs.length ≤ 2147483647) : ∀ (d i : Nat) (acc : List ZTk_T), xs.length = i + d → acc.length ≤ i →
    Evt (fun k => impl_outer.l0 k acc xs (xs.length : Int) (i : Int)) (acc ++ (xs.drop i).map toTT) := by
  have rdC : ∀ (i : Nat) (h : i < xs.length), rd_T51 xs (i : Int) = xs[i] := fun i h => by simp [rd_T51, List.getD_eq_getElem?_getD, h]
  intro d
  induction d with
  | zero =>
    intro i acc hi hacc
    refine Evt.step (h := fun _ => some _) (fun k => ?_) (Evt.pure _)
    simp only [impl_outer.l0]; rw [if_neg (by omega), List.drop_eq_nil_of_le (by omega)]; simp
  | succ d ih =>
    intro i acc hi hacc
    have hlt : i < xs.length := by omega
    have h1 := ih (i + 1) (acc ++ [⟨xs[i].f0, xs[i].f1⟩]) (by omega) (by simp; omega)
    rw [List.drop_eq_getElem_cons hlt, List.map_cons, ← List.singleton_append, ← List.append_assoc]
    refine Evt.step (fun k => ?_) h1
    simp only [impl_outer.l0]; rw [if_pos (by omega), if_pos (by omega), if_pos (by omega), rdC _ hlt, if_pos (by omega), wrap_nat (by omega)]
theorem outer_some (xs : List ZTk_C) (hn : xs.length ≤ 2147483647) : ∃ k, impl_outer.f k xs = some (xs.map toTT) := by
  obtain ⟨N, h⟩ := outer_loop xs hn xs.length 0 [] (by omega) (by simp)
  refine ⟨N, ?_⟩
  have := h N (Nat.le_refl _)
  simpa [impl_outer.f] using this
set_option maxHeartbeats 4000000 in
theorem litm_c (A0 : Option Addr) (n c : Nat) (w : World) : Calls Tryd.prog 56 #[.slice A0 n c] w fun e w' => e = .returned (ZTk_itV w.heap.size) ∧ w' = w.alloc (.cells #[.slice A0 n c] 52) := by
  have hmf : ∀ (fn : Fn) (first cap : Array Value) (w : World), (Instr.makeFunc fn first cap).run Tryd.prog w = .ok (.func fn first cap) w := fun _ _ _ _ => rfl
  go_enter Tryd.func56, Tryd.ntmps56
  go_wp2
  go_ret
  exact ⟨rfl, rfl⟩
/-- What inner hands back is a slice for the closure; Bn: any block for an empty one. -/
theorem lit_of {w : World} {base Bn t : Nat} {cs : Array Value} {v : Value} {l : List ZTk_C} (h : ZTk_RC w base v l) (hb : base ≤ w.heap.size) (hN : w.heap[Bn]? = some (.cells cs t (0, 0))) (t1 : 22 ≠ t) (t2 : 29 ≠ t) :
    ∃ A c, v = .slice A l.length c ∧ ∃ g, LitAt (w.alloc (.cells #[v] 52)) w.heap.size g l ∧ g < w.heap.size ∧ (g = Bn ∨ base ≤ g) := by
  obtain ⟨A, c, rfl⟩ := Kd.R_slice h
  obtain ⟨_, hc, hC⟩ := Kd.R_reads' h
  by_cases hne : l = []
  · have hb := blk_lt hN
    exact ⟨A, c, rfl, Bn, ⟨A, c, blk_new _ _, hc, ⟨_, _, blk_alloc hN _, t1, t2⟩, by omega, fun h => absurd hne h⟩, hb, .inl rfl⟩
  have hpos : 0 < l.length := List.length_pos_iff.2 hne
  obtain ⟨g, cap, e, hbg, hlt, cs, hcs⟩ := Kd.R_form h hpos
  injection e with e _ _
  subst e
  refine ⟨some ⟨g, 0, none⟩, c, rfl, g, ⟨some ⟨g, 0, none⟩, c, blk_new _ _, hc, ⟨cs, _, blk_alloc hcs _, by decide, by decide⟩, by omega, fun _ => ⟨0, rfl, fun i hi => ?_⟩⟩, hlt, .inr hbg⟩
  obtain ⟨ad, e1, h0, h1⟩ := at_T51 hC (i : Int) (by omega) (by omega)
  injection e1 with e1
  subst e1
  have rdC : rd_T51 l (i : Int) = l[i] := by simp [rd_T51, List.getD_eq_getElem?_getD, hi]
  rw [rdC] at h0 h1
  have q : ∀ a : Addr, a.block = g → (w.alloc (.cells #[.slice (some ⟨g, 0, none⟩) l.length c] 52)).cell? a = w.cell? a := fun a ha => World.cell?_of_block (Below.heap_alloc _ _ _ (by omega))
  rw [q _ rfl, q _ rfl]
  have eA : (⟨g, 0, none⟩ : Addr).add ((i : Int).toNat * 2) = ⟨g, 0 + 2 * i, none⟩ := by
    rw [Int.toNat_natCast, Nat.mul_comm, Addr.add_lit]
  rw [eA] at h0 h1
  exact ⟨h0, h1⟩
/-- Block Bk holds a slice of tokens. -/
structure TokB (w : World) (Bk : Nat) (A0 : Option Addr) (c0 : Nat) (l : List ZTk_T) : Prop where
  bk : w.heap[Bk]? = some (.cells #[.slice A0 l.length c0] 22 (0, 0))
  hC : Kd.C ZTk_kT w A0 l.length l
  hc : l.length ≤ c0
theorem TokB.below {w w' : World} {Bk : Nat} {A0 : Option Addr} {c0 : Nat} {l : List ZTk_T} (h : TokB w Bk A0 c0 l) (hB : Below w.heap.size w w') : TokB w' Bk A0 c0 l :=
  ⟨(hB.block _ (blk_lt h.bk)).trans h.bk, Kd.C_below h.hC hB, h.hc⟩
set_option maxHeartbeats 4000000 in
theorem lit1_c (Bk : Nat) (A0 : Option Addr) (c0 : Nat) (l : List ZTk_T) (s : ByteArray) (w : World) (h : TokB w Bk A0 c0 l) (hl : l.length ≤ 100000) :
    Calls Tryd.prog 26 #[.string s, .pointer (some ⟨Bk, 0, none⟩)] w fun e w' => ∃ v : Value, e = .returned v ∧ ZTk_RC w' w.heap.size v (l.map toCC) ∧ Below w.heap.size w w' := by
  obtain ⟨k, hk⟩ := inner_some l (by omega)
  have c0' : w.cell? ⟨Bk, 0, none⟩ = some (.slice A0 l.length c0) := (blk_cell h.bk 0).trans rfl
  have lb := blk_lt h.bk
  have H := Aside0.mk h
  clear h
  go_enter Tryd.func26, Tryd.ntmps26
  go_wp2_with (go_at_call 23; refine (impl_inner.calls k A0 c0 l _ _ H.out.hC H.out.hc hk).mono ?_; rintro e w2 ⟨v, rfl, hR2, hB2⟩)
  go_ret
  exact ⟨_, rfl, hR2, hB2⟩
set_option maxHeartbeats 4000000 in
theorem gt_c (Bk : Nat) (A0 : Option Addr) (c0 : Nat) (l : List ZTk_T) (s : ByteArray) (w : World) (cfg : Option Addr) (h : TokB w Bk A0 c0 l) (hl : l.length ≤ 100000) :
    Calls Tryd.prog 55 #[.agg #[.pointer cfg, .func (.func 26) #[] #[.pointer (some ⟨Bk, 0, none⟩)]], .pointer none, .string s] w fun e w' => ∃ Bt g, e = .returned (.tuple #[.func (.func 57) #[] #[.pointer (some ⟨Bt, 0, none⟩)], .nilIface]) ∧ LitAt w' Bt g (l.map toCC) ∧ w.heap.size ≤ Bt ∧ w.heap.size ≤ g ∧ g < w'.heap.size ∧ Below w.heap.size w w' := by
  have HB := Aside0.mk ((Below.refl w.heap.size w).alloc (Nat.le_refl _) (.cells #[.pointer cfg, .func (.func 26) #[] #[.pointer (some ⟨Bk, 0, none⟩)]] 71))
  have H := Aside0.mk (h.below HB.out)
  clear h
  go_enter Tryd.func55, Tryd.ntmps55
  go_wp2_with (first | (go_at_call 26; refine (lit1_c _ _ _ _ _ _ H.out hl).mono ?_; rintro e w2 ⟨v, rfl, hR2, hB2⟩; obtain ⟨A2, c2, rfl, g, hL, hg1, hg2⟩ := lit_of hR2 hB2.size ((hB2.block w.heap.size (by simp)).trans (blk_new w _)) (by decide) (by decide)) | (go_at_call 56; refine (litm_c _ _ _ _).mono ?_; rintro e w3 ⟨rfl, rfl⟩))
  go_ret2
  have hs2 := hB2.size
  rw [World.size_alloc] at hs2 hg2
  rw [List.length_map] at hL
  exact ⟨_, g, rfl, (by first | exact hL | (rw [List.length_map]; exact hL)), by omega, by omega, by simp; omega, (below_step HB.out hB2).alloc (by omega) _⟩
/-- A lexer over the tokens in block Bk. -/
abbrev lxV (cfg : Option Addr) (Bk : Nat) : Value := .iface 71 (.agg #[.pointer cfg, .func (.func 26) #[] #[.pointer (some ⟨Bk, 0, none⟩)]])
theorem meth_g (cfg : Option Addr) (Bk : Nat) (w : World) : (method 225 71 (.agg #[.pointer cfg, .func (.func 26) #[] #[.pointer (some ⟨Bk, 0, none⟩)]]) "Tokenise").run Tryd.prog w = .ok (55, .agg #[.pointer cfg, .func (.func 26) #[] #[.pointer (some ⟨Bk, 0, none⟩)]]) w := by kernel_rfl
set_option maxRecDepth 100000 in
set_option maxHeartbeats 4000000 in
theorem ct_c (Br Bk : Nat) (A0 : Option Addr) (c0 : Nat) (l : List ZTk_T) (s : ByteArray) (w : World) (cfg : Option Addr) (h : TokB w Bk A0 c0 l) (hl : l.length ≤ 100000) (hr : w.heap[Br]? = some (.cells #[lxV cfg Bk] 62 (0, 0))) :
    Calls Tryd.prog 49 #[.pointer (some ⟨Br, 0, none⟩), .pointer none, .string s] w fun e w' => ∃ Bi Bp Bt g, e = .returned (.tuple #[.func (.func 50) #[] #[.pointer (some ⟨Bi, 0, none⟩), .pointer (some ⟨Bp, 0, none⟩)], .nilIface]) ∧ CoAt w' w.heap.size w'.heap.size Bp Bi Bt g ZTk_eof (l.map toCC) ∧ Below w.heap.size w w' := by
  have hmf : ∀ (fn : Fn) (first cap : Array Value) (w : World), (Instr.makeFunc fn first cap).run Tryd.prog w = .ok (.func fn first cap) w := fun _ _ _ _ => rfl
  have HB := Aside0.mk ((Below.refl w.heap.size w).alloc (Nat.le_refl _) (.cells #[.int .i64 0, .string ⟨#[]⟩] 51))
  have H := Aside0.mk (h.below HB.out)
  have r0 : w.cell? ⟨Br, 0, none⟩ = some (lxV cfg Bk) := (blk_cell hr 0).trans rfl
  have lr := blk_lt hr
  have hm := meth_g cfg Bk
  have hsf : ∀ (a : Addr) (fn : Fn) (x y : Array Value) (m : Mode) (w : World), (store a (.func fn x y) m).run Tryd.prog w = stored Tryd.prog w a (.func fn x y) m := fun a fn x y m w => run_store Tryd.prog w a _ m rfl
  have hnn : ∀ (w : World), (Go.binOp .neq 56 .nilIface .nilIface).run Tryd.prog w = .ok (.bool false) w := fun w => run_neq_nil_nil (P := Tryd.prog) w 56 (by kernel_rfl)
  clear h hr
  go_enter Tryd.func49, Tryd.ntmps49
  go_wp2_with (go_at_call 55; refine (gt_c Bk A0 c0 l s _ cfg H.out hl).mono ?_; rintro e w4 ⟨Bt, g, rfl, hP⟩; have HP := Aside0.mk hP; clear hP)
  go_ret2
  obtain ⟨hL, hb1, hb2, hb3, hB4⟩ := HP.out
  have hs4 := hB4.size
  rw [World.size_alloc] at hs4 hb1 hb2
  have hlt := hL.lt
  refine ⟨_, _, Bt, g, rfl, ⟨blk_alloc ((hB4.block w.heap.size (by simp)).trans (blk_new w _)) _, blk_new _ _, hL.same (Below.heap_alloc _ _ _ hlt) (Below.heap_alloc _ _ _ hb3), ⟨Nat.le_refl _, by simp; omega⟩, by simp, ⟨by omega, by simp; omega⟩, by simp; omega, by omega⟩, (below_step HB.out hB4).alloc (by omega) _⟩
/-- A coalescer that is to give the tokens xs. -/
def CoI (b0 b1 Bp Bi : Nat) (W : World) (xs : List ZTk_C) : Prop :=
  ∃ Bt g p l, CoAt W b0 b1 Bp Bi Bt g p l ∧ runsL p l = xs ∧ (∀ x ∈ l, x.f0 ≠ 0) ∧ (isE p = true ∨ p.f0 ≠ 0) ∧ p.f1.size + szL l ≤ 8191
theorem CoI.same {W W' : World} {b0 b1 Bp Bi : Nat} {xs : List ZTk_C} (h : CoI b0 b1 Bp Bi W xs) (hk : ∀ k, k < b1 → k < W.heap.size → W'.heap[k]? = W.heap[k]?) : CoI b0 b1 Bp Bi W' xs := by
  obtain ⟨Bt, g, p, l, h1, h2⟩ := h
  exact ⟨Bt, g, p, l, h1.same hk, h2⟩
theorem coi_c (b0 b1 Bp Bi : Nat) (xs : List ZTk_C) (w : World) (hV : Go.Proofs.YtgpamoanclhbhaaDoorFmt.VarsOK w) (hE : 0 < b0) (h : CoI b0 b1 Bp Bi w xs) (hb0 : b0 ≤ b1) (hb : b1 ≤ w.heap.size) :
    Calls Tryd.prog 50 #[.pointer (some ⟨Bi, 0, none⟩), .pointer (some ⟨Bp, 0, none⟩)] w fun e w' => e = .returned (.agg #[.int .i64 (ZTk_hd xs).f0, .string (ZTk_hd xs).f1]) ∧ CoI b0 b1 Bp Bi w' xs.tail ∧ ZTk_Fr b0 b1 w w' := by
  obtain ⟨Bt, g, p, l, h1, rfl, h3, h4, h5⟩ := h
  refine (coal_c b0 b1 Bp Bi Bt g p l w hV hE h1 hb0 hb h3 h4 h5).mono ?_
  rintro e w' ⟨rfl, h6, h7⟩
  obtain ⟨s1, s2, s3⟩ := coalN_sz l p
  refine ⟨by rw [coalN_hd], ⟨Bt, g, _, _, h6, coalN_tail l p, (s3 h3).1, (s3 h3).2, by omega⟩, h7⟩
structure TLc (b0 b1 Bp Bi : Nat) (ps : List ZTk_C) (w : World) (v : Value) (Bx : Nat) (dn rest : List ZTk_C) (wr : World) : Prop where
  hf : ps = dn ++ rest
  hx : wr.heap[Bx]? = some (.cells #[.int .i64 (ZTk_hd rest).f0, .string (ZTk_hd rest).f1] 51 (0, 0))
  hxo : some Bx ≠ v.ownBlock
  hc : CoI b0 b1 Bp Bi wr rest.tail
  hF : ZTk_Fr b0 b1 w wr
  hR : ZTk_RC wr w.heap.size v dn
theorem tlc_append {b0 b1 Bp Bi Bx : Nat} {ps : List ZTk_C} {w wr w8 : World} {v v1 : Value} {dn : List ZTk_C} {x : ZTk_C} {r : List ZTk_C} (hb : b1 ≤ w.heap.size) (H : TLc b0 b1 Bp Bi ps w v Bx dn (x :: r) wr) (hg : wr.grownBy w8 v.ownBlock) (ho : ZTk_RC w8 w.heap.size v1 (dn ++ [x])) :
    w8.heap[Bx]? = some (.cells #[.int .i64 x.f0, .string x.f1] 51 (0, 0)) ∧ CoI b0 b1 Bp Bi w8 r ∧ ZTk_Fr b0 b1 w w8 := by
  have hsz := H.hF.size
  refine ⟨blk_grown H.hx hg H.hxo, H.hc.same (fun k hk hlt => hg.block k hlt (fun e => ?_)), ⟨hg.os.trans H.hF.os, hg.tape.trans H.hF.tape, hg.output.trans H.hF.output, Nat.le_trans hsz hg.size, fun k hk hkb => (hg.block k (by omega) (fun e => ?_)).trans (H.hF.block k hk hkb)⟩⟩
  · have := Kd.R_base H.hR k e.symm
    omega
  · have := Kd.R_base H.hR k e.symm
    omega
theorem tlc_next {b0 b1 Bp Bi Bx : Nat} {ps : List ZTk_C} {w wr w8 w9 : World} {v v1 : Value} {dn : List ZTk_C} {x : ZTk_C} {r : List ZTk_C} (hb : b1 ≤ w.heap.size) (H : TLc b0 b1 Bp Bi ps w v Bx dn (x :: r) wr) (hF8 : ZTk_Fr b0 b1 w w8) (ho : ZTk_RC w8 w.heap.size v1 (dn ++ [x]))
    (b9 : w9.heap[w8.heap.size]? = some (.cells #[.int .i64 x.f0, .string x.f1] 51 (0, 0))) (hC9 : CoI b0 b1 Bp Bi w9 r.tail) (hF9 : ZTk_Fr b0 b1 (w8.alloc (.cells #[.int .i64 x.f0, .string x.f1] 51)) w9) :
    TLc b0 b1 Bp Bi ps w v1 w8.heap.size (dn ++ [x]) r ((w9.setCell ⟨w8.heap.size, 0, none⟩ (.int .i64 (ZTk_hd r).f0)).setCell ⟨w8.heap.size, 1, none⟩ (.string (ZTk_hd r).f1)) := by
  have h8 := hF8.size
  have h9 := hF9.size
  rw [World.size_alloc] at h9
  have far : ∀ k, k ≠ w8.heap.size → ((w9.setCell ⟨w8.heap.size, 0, none⟩ (.int .i64 (ZTk_hd r).f0)).setCell ⟨w8.heap.size, 1, none⟩ (.string (ZTk_hd r).f1)).heap[k]? = w9.heap[k]? := fun k hk =>
    (Below.heap_setCell _ ⟨w8.heap.size, 1, none⟩ _ k hk).trans (Below.heap_setCell _ ⟨w8.heap.size, 0, none⟩ _ k hk)
  have hF := (hF8.trans (ZTk_Fr.alloc _ _)).trans hF9
  refine ⟨by rw [H.hf]; simp, blk_put (blk_put b9 0 _ rfl) 1 _ rfl, fun e => ?_, hC9.same (fun k hk hlt => far k (by omega)), ⟨hF.os, hF.tape, hF.output, by rw [World.size_setCell, World.size_setCell]; exact hF.size, fun k hk hkb => (far k (by omega)).trans (hF.block k hk hkb)⟩, ?_⟩
  · have := Kd.R_lt ho _ e.symm
    omega
  · exact Kd.R_mono (Kd.R_step (Kd.R_bound ho) (fun k hk hlt => ((far k (by omega)).trans (hF9.block k (by simp; omega) (.inr (Nat.le_trans hb hk.2.1)))).trans (Below.heap_alloc _ _ k hlt))) (fun _ _ => trivial)
theorem tlc_box {b0 b1 : Nat} {w w8 w9 : World} (hb : b1 ≤ w.heap.size) (hF : ZTk_Fr b0 b1 w w8) (o' : Obj) (h9 : ZTk_Fr b0 b1 (w8.alloc o') w9) : w9.heap[w8.heap.size]? = some o' :=
  (h9.block _ (by simp) (.inr (Nat.le_trans hb hF.size))).trans (blk_new w8 o')
theorem meth_co (Br : Nat) (w : World) : (method 225 60 (.pointer (some ⟨Br, 0, none⟩)) "Tokenise").run Tryd.prog w = .ok (49, .pointer (some ⟨Br, 0, none⟩)) w := by kernel_rfl
set_option maxRecDepth 100000 in
set_option maxHeartbeats 8000000 in
theorem tk_c (Br Bk : Nat) (A0 : Option Addr) (c0 : Nat) (l : List ZTk_T) (s : ByteArray) (w : World) (cfg : Option Addr) (hV : Go.Proofs.YtgpamoanclhbhaaDoorFmt.VarsOK w) (h : TokB w Bk A0 c0 l) (hl : l.length ≤ 90000) (hz : ∀ x ∈ l, x.f0 ≠ 0) (hs : szL (l.map toCC) ≤ 8191) (hr : w.heap[Br]? = some (.cells #[lxV cfg Bk] 62 (0, 0))) :
    Calls Tryd.prog 24 #[.iface 60 (.pointer (some ⟨Br, 0, none⟩)), .pointer none, .string s] w fun e w' => ∃ v, e = .returned (.tuple #[v, .nilIface]) ∧ ZTk_RC w' w.heap.size v (runsL ZTk_eof (l.map toCC)) ∧ Below w.heap.size w w' := by
  have hu := Tryd.underlying51
  have hm := meth_co Br
  have hnn : ∀ (w : World), (Go.binOp .neq 56 .nilIface .nilIface).run Tryd.prog w = .ok (.bool false) w := fun w => run_neq_nil_nil (P := Tryd.prog) w 56 (by kernel_rfl)
  have HK0 := Aside0.mk (ct_c Br Bk A0 c0 l s w cfg h (by omega) hr)
  have hE := vars_lt hV
  have HZ := Aside0.mk hz
  have HS := Aside0.mk hs
  have hgood := Aside0.mk (runsL_good (l.map toCC) ZTk_eof (fun x hx => by obtain ⟨y, hy, rfl⟩ := List.mem_map.1 hx; exact hz y hy) (.inl rfl))
  have hlen := Aside0.mk (runsL_len (l.map toCC) ZTk_eof)
  clear h hr hz hs
  go_enter Tryd.func24, Tryd.ntmps24
  go_wp2_with (first | (go_at_call 49; refine HK0.out.mono ?_; rintro e w1 ⟨Bi, Bp, Bt, g, rfl, hP⟩; have HP := Aside0.mk hP; clear hP) | (go_at_call 50; refine (coi_c w.heap.size w1.heap.size Bp Bi (runsL ZTk_eof (l.map toCC)) w1 (vars_kept hV (HP.out.2.block _ hE)) hE ⟨Bt, g, ZTk_eof, _, HP.out.1, rfl, (fun x hx => by obtain ⟨y, hy, rfl⟩ := List.mem_map.1 hx; exact HZ.out y hy), .inl rfl, by have := HS.out; show 0 + _ ≤ _; omega⟩ HP.out.2.size (Nat.le_refl _)).mono ?_; rintro e w2 ⟨rfl, hQ⟩; have HQ := Aside0.mk hQ; clear hQ))
  have hV1 : Aside0 (Go.Proofs.YtgpamoanclhbhaaDoorFmt.VarsOK w1) := ⟨vars_kept hV (HP.out.2.block _ hE)⟩
  have hs1 : Aside0 (w.heap.size ≤ w1.heap.size) := ⟨HP.out.2.size⟩
  have HL : Aside0 (TLc w.heap.size w1.heap.size Bp Bi (runsL ZTk_eof (l.map toCC)) w1 (.slice none 0 0) w2.heap.size [] (runsL ZTk_eof (l.map toCC)) (w2.alloc (.cells #[.int .i64 (ZTk_hd (runsL ZTk_eof (l.map toCC))).f0, .string (ZTk_hd (runsL ZTk_eof (l.map toCC))).f1] 51))) :=
    ⟨⟨rfl, blk_new _ _, by simp [Value.ownBlock], HQ.out.1.same (fun k hk hlt => Below.heap_alloc _ _ _ hlt), HQ.out.2.trans (ZTk_Fr.alloc _ _), Kd.R_nil _ _ _ _ _⟩⟩
  generalize hxs : runsL ZTk_eof (l.map toCC) = xs at HL hgood hlen ⊢
  clear HQ HZ HS HK0
  go_loopg [8, 11] (xs.length + 1) (fun kq v8 v11 wr => ∃ (Bx : Nat) (dn rest : List ZTk_C), v11 = .pointer (some ⟨Bx, 0, none⟩) ∧ Aside0 (rest.length < kq) ∧ Aside0 (TLc w.heap.size w1.heap.size Bp Bi xs w1 v8 Bx dn rest wr))
  case atStart => exact ⟨_, [], xs, rfl, ⟨Nat.lt_succ_self _⟩, HL⟩
  case round =>
    obtain ⟨Bx, dn, rest, rfl, HK, HH⟩ := hrel
    clear HL
    cases gk with
    | zero => have := HK.out; omega
    | succ k1 =>
      have H := HH.out
      have V := co_vars hV1.out hE H.hF
      have v0 := V.e0
      have v1 := V.e1
      have lv := vars_lt V
      have lx := blk_lt H.hx
      cases rest with
      | nil =>
        have x0 : wr.cell? ⟨Bx, 0, none⟩ = some (.int .i64 0) := (blk_cell H.hx 0).trans rfl
        have x1 : wr.cell? ⟨Bx, 1, none⟩ = some (.string ⟨#[]⟩) := (blk_cell H.hx 1).trans rfl
        clear H V
        go_wp2
        go_ret2
        have H := HH.out
        have hxd : xs = dn := by rw [H.hf, List.append_nil]
        exact ⟨u8, rfl, by rw [hxs, hxd]; exact Kd.R_lower H.hR hs1.out, H.hF.below HP.out.2 hs1.out⟩
      | cons x r =>
        have x0 : wr.cell? ⟨Bx, 0, none⟩ = some (.int .i64 x.f0) := (blk_cell H.hx 0).trans rfl
        have x1 : wr.cell? ⟨Bx, 1, none⟩ = some (.string x.f1) := (blk_cell H.hx 1).trans rfl
        have hxz : x.f0 ≠ 0 := hgood.out x (by rw [H.hf]; simp)
        have hxb : (x.f0 == 0) = false := beq_eq_false_iff_ne.2 hxz
        have hL : Aside0 (dn.length < 1000000) := ⟨by have := congrArg List.length H.hf; have := hlen.out; simp at *; omega⟩
        have hbs : Aside0 (w1.heap.size ≤ wr.heap.size) := ⟨H.hF.size⟩
        clear H V
        go_wp2_with (first | ((with_reducible refine gate_builtin (b := .append) (xs := #[.tmp 29, .tmp 31]) rfl ?_); at_builtin; refine Kd.R_append ZTk_kC (w0 := wr) w1.heap.size rfl (.tmp 29) (.tmp 31) 52 51 (.agg #[(.int .i64 0), (.string ⟨#[]⟩)]) 24 rfl Tryd.underlying52 info51 rfl (by decide) (by omega) u8 dn x [.int .i64 x.f0, .string x.f1] (fun _ => True) (fun _ => False) rfl (by first | (go_simp; done) | (go_simp; rfl)) ?aP (fun _ hk => hk.elim) ?aF ?aO ?aB ?aS ?aL ?_; (case aP => exact k51_mkM _ _ _ x); (case aB => exact Below.refl _ _); (case aF => exact (fun _ _ => trivial)); (case aO => exact HH.out.hR); (case aS => exact hbs.out); (case aL => have := hL.out; omega); intro v1 w8 ho hb8 hg hat; have hP8 := Aside0.mk (tlc_append (Nat.le_refl _) HH.out hg ho); have hO := Aside0.mk ho; have hx8 := hP8.out.1; have y0 : w8.cell? ⟨Bx, 0, none⟩ = some (.int .i64 x.f0) := (blk_cell hx8 0).trans rfl; have y1 : w8.cell? ⟨Bx, 1, none⟩ = some (.string x.f1) := (blk_cell hx8 1).trans rfl; have lx8 := blk_lt hx8; clear hx8 ho hb8 hg hat) | (go_at_call 50; refine (coi_c w.heap.size w1.heap.size Bp Bi r _ (co_vars hV1.out hE (hP8.out.2.2.trans (ZTk_Fr.alloc _ _))) hE (hP8.out.2.1.same (fun k hk hlt => Below.heap_alloc _ _ _ hlt)) hs1.out (by have := hP8.out.2.2.size; simp; omega)).mono ?_; rintro e w9 ⟨rfl, hC9, hF9⟩; have b9 := tlc_box (Nat.le_refl _) hP8.out.2.2 (.cells #[.int .i64 x.f0, .string x.f1] 51) hF9; have z0 : w9.cell? ⟨w8.heap.size, 0, none⟩ = some (.int .i64 x.f0) := (blk_cell b9 0).trans rfl; have z1 : w9.cell? ⟨w8.heap.size, 1, none⟩ = some (.string x.f1) := (blk_cell b9 1).trans rfl; have zf0 := blk_frozen b9 0; have zf1 := blk_frozen b9 1; have Q1 := Aside0.mk b9; have Q3 := Aside0.mk hC9; have Q4 := Aside0.mk hF9; clear b9 hC9 hF9))
        go_roundg k1
        case measure => omega
        case rel => exact ⟨w8.heap.size, dn ++ [x], r, rfl, ⟨by have := HK.out; simp at this; omega⟩, ⟨tlc_next (Nat.le_refl _) HH.out hP8.out.2.2 hO.out Q1.out Q3.out Q4.out⟩⟩
abbrev ZTk_RT (w : World) (base : Nat) (v : Value) (xs : List ZTk_T) : Prop := Kd.R ZTk_kT 29 w base (fun _ => True) v xs
set_option maxHeartbeats 4000000 in
theorem lit_c (A0 : Option Addr) (n c : Nat) (w : World) : Calls Tryd.prog 17 #[.slice A0 n c] w fun e w' => ∃ cfg, e = .returned (lxV cfg w.heap.size) ∧ Below w.heap.size w w' ∧ w'.heap[w.heap.size]? = some (.cells #[.slice A0 n c] 22 (0, 0)) := by
  have hmf : ∀ (fn : Fn) (first cap : Array Value) (w : World), (Instr.makeFunc fn first cap).run Tryd.prog w = .ok (.func fn first cap) w := fun _ _ _ _ => rfl
  go_enter Tryd.func17, Tryd.ntmps17
  go_wp2
  go_ret
  exact ⟨_, rfl, ((Below.refl w.heap.size w).alloc (Nat.le_refl _) _).alloc (by simp) _, blk_alloc (blk_new w _) _⟩
set_option maxHeartbeats 4000000 in
theorem co_c (x : Value) (tx : TypeId) (w : World) : Calls Tryd.prog 16 #[.iface tx x] w fun e w' => e = .returned (.iface 60 (.pointer (some ⟨w.heap.size, 0, none⟩))) ∧ w' = w.alloc (.cells #[.iface tx x] 62) := by
  go_enter Tryd.func16, Tryd.ntmps16
  go_wp2
  go_ret
  exact ⟨rfl, rfl⟩
set_option maxHeartbeats 4000000 in
theorem lexed_c (Br Bk : Nat) (A0 : Option Addr) (c0 : Nat) (l : List ZTk_T) (s : ByteArray) (w : World) (cfg : Option Addr) (hV : Go.Proofs.YtgpamoanclhbhaaDoorFmt.VarsOK w) (h : TokB w Bk A0 c0 l) (hl : l.length ≤ 90000) (hz : ∀ x ∈ l, x.f0 ≠ 0) (hs : szL (l.map toCC) ≤ 8191) (hr : w.heap[Br]? = some (.cells #[lxV cfg Bk] 62 (0, 0))) :
    Calls Tryd.prog 15 #[.iface 60 (.pointer (some ⟨Br, 0, none⟩)), .string s] w fun e w' => ∃ v, e = .returned (.tuple #[v, .bool true]) ∧ ZTk_RT w' w.heap.size v ((runsL ZTk_eof (l.map toCC)).map toTT) ∧ Below w.heap.size w w' := by
  have hnn : ∀ (w : World), (Go.binOp .neq 56 .nilIface .nilIface).run Tryd.prog w = .ok (.bool false) w := fun w => run_neq_nil_nil (P := Tryd.prog) w 56 (by kernel_rfl)
  have HT := Aside0.mk (tk_c Br Bk A0 c0 l s w cfg hV h hl hz hs hr)
  have hlen := runsL_len (l.map toCC) ZTk_eof
  rw [List.length_map] at hlen
  obtain ⟨k, hk⟩ := outer_some (runsL ZTk_eof (l.map toCC)) (by omega)
  clear h hr hs hz hlen
  go_enter Tryd.func15, Tryd.ntmps15
  go_wp2_with (first | (go_at_call 24; refine HT.out.mono ?_; rintro e w1 ⟨v1, rfl, hR1, hB1⟩; obtain ⟨A1, c1, rfl⟩ := Kd.R_slice hR1; have hq := Kd.R_reads' hR1; have HQ := Aside0.mk hq; have HR1 := Aside0.mk hR1; have HB1 := Aside0.mk hB1; clear hq hR1 hB1) | (go_at_call 25; refine (impl_outer.calls k A1 c1 _ _ _ HQ.out.2.2 HQ.out.2.1 hk).mono ?_; rintro e w2 ⟨v2, rfl, hR2, hB2⟩; have HR2 := Aside0.mk hR2; have HB2 := Aside0.mk hB2; clear hR2 hB2))
  go_ret2
  exact ⟨_, rfl, Kd.R_lower HR2.out HB1.out.size, below_step HB1.out HB2.out⟩
set_option maxHeartbeats 4000000 in
theorem coaltok_c (A0 : Option Addr) (c0 : Nat) (l : List ZTk_T) (w : World) (hV : Go.Proofs.YtgpamoanclhbhaaDoorFmt.VarsOK w) (hr0 : Kd.C ZTk_kT w A0 l.length l) (hc0 : l.length ≤ c0) (hl : l.length ≤ 90000) (hz : ∀ x ∈ l, x.f0 ≠ 0) (hs : szL (l.map toCC) ≤ 8191) :
    Calls Tryd.prog 9 #[.slice A0 l.length c0] w fun e w' => ∃ v : Value, e = .returned v ∧ ZTk_RT w' w.heap.size v ((runsL ZTk_eof (l.map toCC)).map toTT) ∧ Below w.heap.size w w' := by
  have HC := Aside0.mk (And.intro hr0 hc0)
  have HZ := Aside0.mk (And.intro hz hs)
  have hE := vars_lt hV
  have HV := Aside0.mk hV
  clear hr0 hc0 hz hs hV
  go_enter Tryd.func9, Tryd.ntmps9
  go_wp2_with (first | (go_at_call 17; refine (lit_c _ _ _ _).mono ?_; rintro e w1 ⟨cfg, rfl, hP⟩; have HP := Aside0.mk hP; clear hP) | (go_at_call 16; refine (co_c _ _ _).mono ?_; rintro e w2 ⟨rfl, rfl⟩) | (go_at_call 15; refine (lexed_c w1.heap.size w.heap.size A0 c0 l _ _ cfg (vars_kept HV.out ((Below.heap_alloc _ _ _ (Nat.lt_of_lt_of_le hE HP.out.1.size)).trans (HP.out.1.block _ hE))) (TokB.below ⟨HP.out.2, Kd.C_below HC.out.1 HP.out.1, HC.out.2⟩ ((Below.refl _ _).alloc (Nat.le_refl _) _)) hl HZ.out.1 HZ.out.2 (blk_new _ _)).mono ?_; rintro e w3 ⟨v3, rfl, hQ⟩; have HQ := Aside0.mk hQ; clear hQ))
  go_ret
  have s1 := HP.out.1.size
  exact ⟨_, rfl, Kd.R_lower HQ.out.1 (by simp; omega), below_step (HP.out.1.alloc s1 _) HQ.out.2⟩
end ZCoal
def impl_CoalesceTokens.f (l0 : List (S29)) : Option (List (S29)) := if l0.length ≤ 90000 ∧ ZCoal.szL (l0.map ZCoal.toCC) ≤ 8191 ∧ (l0.all fun x => x.f0 != 0) = true then some ((ZCoal.runsL ZCoal.ZTk_eof (l0.map ZCoal.toCC)).map ZCoal.toTT) else none
theorem impl_CoalesceTokens.calls (A0 : Option Addr) (c0 : Nat) (l0 : List (S29)) (r : List (S29)) (w : World) (hr0 : Kd.C k29 w A0 l0.length l0) (hc0 : l0.length ≤ c0) (hV : Go.Proofs.YtgpamoanclhbhaaDoorFmt.VarsOK w) (h : impl_CoalesceTokens.f l0 = some r) :
    Calls Tryd.prog 9 #[.slice A0 l0.length c0] w fun e w' => ∃ v0_ : Value, e = .returned (v0_) ∧ Kd.R k29 29 w' w.heap.size (fun _ => True) v0_ r ∧ Below w.heap.size w w' := by
  unfold impl_CoalesceTokens.f at h
  by_cases h0 : l0.length ≤ 90000 ∧ ZCoal.szL (l0.map ZCoal.toCC) ≤ 8191 ∧ (l0.all fun x => x.f0 != 0) = true
  · rw [if_pos h0] at h
    obtain rfl := Option.some.inj h
    exact ZCoal.coaltok_c A0 c0 l0 w hV hr0 hc0 h0.1 (fun x hx => by have := List.all_eq_true.1 h0.2.2 x hx; simpa using this) h0.2.1
  · rw [if_neg h0] at h; cases h

end Go.Proofs.YtgpamoanclhbhaaDoor.M
