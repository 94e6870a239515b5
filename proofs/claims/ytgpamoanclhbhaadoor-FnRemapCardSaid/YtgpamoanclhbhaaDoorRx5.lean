-- WRITTEN BY OUR myprint.py, a program of this session's over the kit's printer
import Derived.Test.YtgpamoanclhbhaaDoorRx0
import Derived.Test.YtgpamoanclhbhaaDoorRx2
namespace Go.Proofs.YtgpamoanclhbhaaDoor.R
open Go.RowKit Go.Proofs.YtgpamoanclhbhaaDoorW.PrintWords Go.Proofs.YtgpamoanclhbhaaDoorW.PrintLast Go.Proofs.YtgpamoanclhbhaaDoorW.PrintMore
attribute [local go_sem] max2_int min2_int max_two min_two max_three min_three max_four min_four   -- for this text's walks alone
set_option linter.unusedVariables false
set_option linter.unusedSimpArgs false

/-! ### impl_Remap: function 13 -/
namespace ZCoal
abbrev ZTk_C := S51
def ZTk_tokV (x : ZTk_C) : Value := .agg #[.int .i64 x.f0, .string x.f1]
def ZTk_eof : ZTk_C := ⟨0, ⟨#[]⟩⟩
/-- The next token, or the mark of the end. -/
def ZTk_hd : List ZTk_C → ZTk_C
  | [] => ZTk_eof
  | x :: _ => x
/-- Block g has from cell o on the tokens l. -/
def ZTk_Toks (W : World) (g o : Nat) (l : List ZTk_C) : Prop :=
  ∀ i (h : i < l.length), W.cell? ⟨g, o + 2 * i, none⟩ = some (.int .i64 l[i].f0) ∧ W.cell? ⟨g, o + 2 * i + 1, none⟩ = some (.string l[i].f1)
theorem ZTk_Toks.tail {W : World} {g o : Nat} {x : ZTk_C} {l : List ZTk_C} (h : ZTk_Toks W g o (x :: l)) : ZTk_Toks W g (o + 2) l := fun i hi => by
  have := h (i + 1) (by simp; omega)
  simp only [List.getElem_cons_succ] at this
  rw [show o + 2 * (i + 1) = o + 2 + 2 * i by omega] at this
  exact this
theorem ZTk_Toks.same {W W' : World} {g o : Nat} {l : List ZTk_C} (h : ZTk_Toks W g o l) (hb : W'.heap[g]? = W.heap[g]?) : ZTk_Toks W' g o l := fun i hi =>
  ⟨(World.cell?_of_block (a := ⟨g, _, none⟩) hb).trans (h i hi).1, (World.cell?_of_block (a := ⟨g, _, none⟩) hb).trans (h i hi).2⟩
/-- Block Bt holds what is left of a slice of tokens, l, in block g. -/
def LitAt (W : World) (Bt g : Nat) (l : List ZTk_C) : Prop :=
  ∃ A c, W.heap[Bt]? = some (.cells #[.slice A l.length c] 52 (0, 0)) ∧ l.length ≤ c ∧ (∃ cs t, W.heap[g]? = some (.cells cs t (0, 0)) ∧ 22 ≠ t ∧ 29 ≠ t) ∧ g ≠ Bt ∧ (l ≠ [] → ∃ o, A = some ⟨g, o, none⟩ ∧ ZTk_Toks W g o l)
theorem LitAt.lt {W : World} {Bt g : Nat} {l : List ZTk_C} (h : LitAt W Bt g l) : Bt < W.heap.size := by
  obtain ⟨A, c, h, _⟩ := h; exact blk_lt h
theorem LitAt.same {W W' : World} {Bt g : Nat} {l : List ZTk_C} (h : LitAt W Bt g l) (h1 : W'.heap[Bt]? = W.heap[Bt]?) (h2 : W'.heap[g]? = W.heap[g]?) : LitAt W' Bt g l := by
  obtain ⟨A, c, a1, a2, a3, a4, a5⟩ := h
  refine ⟨A, c, h1.trans a1, a2, ?_, a4, fun hl => ?_⟩
  · obtain ⟨cs, t, a3, a6, a7⟩ := a3
    exact ⟨cs, t, h2.trans a3, a6, a7⟩
  · obtain ⟨o, b1, b2⟩ := a5 hl
    exact ⟨o, b1, b2.same h2⟩
set_option maxHeartbeats 4000000 in
theorem next_nil (Bt g : Nat) (w : World) (hV : Go.Proofs.YtgpamoanclhbhaaDoorFmt.VarsOK w) (h : LitAt w Bt g []) :
    Calls Tryd.prog 57 #[.pointer (some ⟨Bt, 0, none⟩)] w fun e w' => e = .returned (ZTk_tokV ZTk_eof) ∧ w.grownBy w' none := by
  have hu := Tryd.underlying51
  obtain ⟨A, c, a1, a2, a3, a4, a5⟩ := h
  have c0 : w.cell? ⟨Bt, 0, none⟩ = some (.slice A 0 c) := (blk_cell a1 0).trans rfl
  have e0 := hV.e0
  have e1 := hV.e1
  have hlt : Bt < w.heap.size := blk_lt a1
  have hl0 : 0 < w.heap.size := World.block_lt_of_cell? w _ e0
  clear a1 a2 a3 a4 a5 hV
  go_enter Tryd.func57, Tryd.ntmps57
  go_wp2
  exact bodyPost_ret (results_cell_row rfl _ _ w.heap.size 51 #[.int .i64 0, .string ⟨#[]⟩] (0, 0) _ rfl (by simpa using heap_alloc_new w _) Tryd.underlying51 rfl (by kernel_rfl)) rfl ⟨rfl, World.grownBy_alloc w _ none⟩
theorem res_at (w : World) (p : Addr) (v : Value) (o1 o2 : Obj) : (((w.setCell p v).alloc o1).alloc o2).heap[w.heap.size]? = some o1 := by
  refine blk_alloc ?_ _
  have := blk_new (w.setCell p v) o1
  rw [World.size_setCell] at this
  exact this
theorem next_post {w : World} {Bt g o c : Nat} {x : ZTk_C} {l : List ZTk_C} {A : Option Addr} (A' : Option Addr) (c' : Nat) (a1 : w.heap[Bt]? = some (.cells #[.slice A (x :: l).length c] 52 (0, 0))) (a3 : ∃ cs t, w.heap[g]? = some (.cells cs t (0, 0)) ∧ 22 ≠ t ∧ 29 ≠ t) (a4 : g ≠ Bt)
    (hT : ZTk_Toks w g o (x :: l)) (hc : l.length ≤ c') (hA : l ≠ [] → A' = some ⟨g, o + 2, none⟩) (o1 o2 : Obj) :
    LitAt (((w.setCell ⟨Bt, 0, none⟩ (.slice A' l.length c')).alloc o1).alloc o2) Bt g l ∧ w.grownBy (((w.setCell ⟨Bt, 0, none⟩ (.slice A' l.length c')).alloc o1).alloc o2) (some Bt) := by
  have hg : w.grownBy (((w.setCell ⟨Bt, 0, none⟩ (.slice A' l.length c')).alloc o1).alloc o2) (some Bt) := by
    refine ⟨rfl, rfl, rfl, by simp; omega, fun k hk hne => ?_⟩
    have hk' : k < (w.setCell ⟨Bt, 0, none⟩ (.slice A' l.length c')).heap.size := by rw [World.size_setCell]; exact hk
    refine ((Below.heap_alloc _ o2 k (by simp; omega)).trans (Below.heap_alloc _ o1 k hk')).trans ?_
    exact Below.heap_setCell w ⟨Bt, 0, none⟩ _ k (fun e => hne (by rw [e]))
  obtain ⟨cs, t, a3, a6, a7⟩ := a3
  have hgs := hg.block g (blk_lt a3) (fun e => a4 (by injection e))
  exact ⟨⟨A', c', blk_alloc (blk_alloc (blk_put a1 0 _ rfl) _) _, hc, ⟨cs, t, hgs.trans a3, a6, a7⟩, a4, fun hl => ⟨o + 2, hA hl, hT.tail.same hgs⟩⟩, hg⟩
set_option maxRecDepth 100000 in
set_option maxHeartbeats 4000000 in
theorem next_cons (Bt g : Nat) (x : ZTk_C) (l : List ZTk_C) (w : World) (h : LitAt w Bt g (x :: l)) :
    Calls Tryd.prog 57 #[.pointer (some ⟨Bt, 0, none⟩)] w fun e w' => e = .returned (ZTk_tokV x) ∧ LitAt w' Bt g l ∧ w.grownBy w' (some Bt) := by
  have hu := Tryd.underlying51
  obtain ⟨A, c, a1, a2, a3, a4, a5⟩ := h
  obtain ⟨o, rfl, hT⟩ := a5 (by simp)
  have c0 : w.cell? ⟨Bt, 0, none⟩ = some (.slice (some ⟨g, o, none⟩) (l.length + 1) c) := (blk_cell a1 0).trans rfl
  have f0 := blk_frozen a1 0
  have t0 := (hT 0 (by simp)).1
  have t1 := (hT 0 (by simp)).2
  simp only [Nat.mul_zero, Nat.add_zero, List.getElem_cons_zero] at t0 t1
  simp only [List.length_cons] at a2
  have hne : ((l.length : Int) + 1 == 0) = false := beq_eq_false_iff_ne.2 (by omega)
  have hle : (l.length : Int) + 1 ≤ c := by omega
  have hlt : Bt < w.heap.size := blk_lt a1
  have hlg : g < w.heap.size := by
    obtain ⟨cs, t, a3, _⟩ := a3
    exact blk_lt a3
  go_enter Tryd.func57, Tryd.ntmps57
  go_wp2
  · have hl : l = [] := List.eq_nil_of_length_eq_zero (by omega)
    obtain ⟨p1, p2⟩ := next_post (some ⟨g, o, none⟩) 0 a1 a3 a4 hT (by omega) (fun h => absurd hl h) (.cells #[.int .i64 x.f0, .string x.f1] 51) (.cells #[.int .i64 x.f0, .string x.f1] 51)
    exact bodyPost_ret (results_cell_row rfl _ _ w.heap.size 51 #[.int .i64 x.f0, .string x.f1] (0, 0) _ rfl (res_at _ _ _ _ _) Tryd.underlying51 rfl (by kernel_rfl)) rfl ⟨rfl, p1, p2⟩
  · obtain ⟨p1, p2⟩ := next_post (some ⟨g, o + 2, none⟩) (c - 1) a1 a3 a4 hT (by omega) (fun h => rfl) (.cells #[.int .i64 x.f0, .string x.f1] 51) (.cells #[.int .i64 x.f0, .string x.f1] 51)
    exact bodyPost_ret (results_cell_row rfl _ _ w.heap.size 51 #[.int .i64 x.f0, .string x.f1] (0, 0) _ rfl (res_at _ _ _ _ _) Tryd.underlying51 rfl (by kernel_rfl)) rfl ⟨rfl, p1, p2⟩
theorem eof_ne {w : World} {Bt : Nat} {v : Value} {t : TypeId} (hV : Go.Proofs.YtgpamoanclhbhaaDoorFmt.VarsOK w) (h : w.heap[Bt]? = some (.cells #[v] t (0, 0))) : 0 ≠ Bt := fun e => by
  have h1 := blk_cell h 1
  rw [← e, hV.e1] at h1
  cases h1
theorem vars_kept {w w' : World} (hV : Go.Proofs.YtgpamoanclhbhaaDoorFmt.VarsOK w) (h : w'.heap[0]? = w.heap[0]?) : Go.Proofs.YtgpamoanclhbhaaDoorFmt.VarsOK w' :=
  ⟨(World.cell?_of_block (a := ⟨0, 0, none⟩) h).trans hV.e0, (World.cell?_of_block (a := ⟨0, 1, none⟩) h).trans hV.e1⟩
theorem vars_lt {w : World} (hV : Go.Proofs.YtgpamoanclhbhaaDoorFmt.VarsOK w) : 0 < w.heap.size := World.block_lt_of_cell? w _ hV.e0
/-- The closure at any rest. -/
theorem next_c (Bt g : Nat) (l : List ZTk_C) (w : World) (hV : Go.Proofs.YtgpamoanclhbhaaDoorFmt.VarsOK w) (h : LitAt w Bt g l) :
    Calls Tryd.prog 57 #[.pointer (some ⟨Bt, 0, none⟩)] w fun e w' => e = .returned (ZTk_tokV (ZTk_hd l)) ∧ LitAt w' Bt g l.tail ∧ w.grownBy w' (some Bt) ∧ Go.Proofs.YtgpamoanclhbhaaDoorFmt.VarsOK w' := by
  cases l with
  | nil =>
    refine (next_nil Bt g w hV h).mono ?_
    rintro e w' ⟨rfl, hg⟩
    have h1 := hg.block Bt h.lt (by simp)
    obtain ⟨A, c, a1, a2, ⟨cs, t, a3, a6, a7⟩, a4, a5⟩ := h
    exact ⟨rfl, LitAt.same ⟨A, c, a1, a2, ⟨cs, t, a3, a6, a7⟩, a4, a5⟩ h1 (hg.block g (blk_lt a3) (by simp)), World.grownBy.but hg _, vars_kept hV (hg.block _ (vars_lt hV) (by simp))⟩
  | cons x l =>
    refine (next_cons Bt g x l w h).mono ?_
    rintro e w' ⟨rfl, h1, hg⟩
    obtain ⟨A, c, a1, _⟩ := h
    exact ⟨rfl, h1, hg, vars_kept hV (hg.block _ (vars_lt hV) (fun e => eof_ne hV a1 (by injection e)))⟩
/-- What a step keeps: all but the blocks from b0 to b1. -/
structure ZTk_Fr (b0 b1 : Nat) (w w' : World) : Prop where
  os : w'.os = w.os
  tape : w'.tape = w.tape
  output : w'.output = w.output
  size : w.heap.size ≤ w'.heap.size
  block : ∀ k, k < w.heap.size → k < b0 ∨ b1 ≤ k → w'.heap[k]? = w.heap[k]?
theorem ZTk_Fr.refl (b0 b1 : Nat) (w : World) : ZTk_Fr b0 b1 w w := ⟨rfl, rfl, rfl, Nat.le_refl _, fun _ _ _ => rfl⟩
theorem ZTk_Fr.trans {b0 b1 : Nat} {a b c : World} (h : ZTk_Fr b0 b1 a b) (k : ZTk_Fr b0 b1 b c) : ZTk_Fr b0 b1 a c :=
  ⟨k.os.trans h.os, k.tape.trans h.tape, k.output.trans h.output, Nat.le_trans h.size k.size, fun i hi hb => (k.block i (Nat.lt_of_lt_of_le hi h.size) hb).trans (h.block i hi hb)⟩
theorem ZTk_Fr.of_grown {b0 b1 B : Nat} {w w' : World} (h : w.grownBy w' (some B)) (h0 : b0 ≤ B) (h1 : B < b1) : ZTk_Fr b0 b1 w w' :=
  ⟨h.os, h.tape, h.output, h.size, fun k hk hb => h.block k hk (fun e => by injection e; omega)⟩
theorem ZTk_Fr.set {b0 b1 B : Nat} (w : World) (j : Nat) (v : Value) (h0 : b0 ≤ B) (h1 : B < b1) : ZTk_Fr b0 b1 w (w.setCell ⟨B, j, none⟩ v) :=
  ⟨rfl, rfl, rfl, by rw [World.size_setCell]; exact Nat.le_refl _, fun k hk hb => Below.heap_setCell w ⟨B, j, none⟩ v k (by show k ≠ B; omega)⟩
theorem ZTk_Fr.alloc {b0 b1 : Nat} (w : World) (o : Obj) : ZTk_Fr b0 b1 w (w.alloc o) :=
  ⟨rfl, rfl, rfl, by simp, fun k hk _ => Below.heap_alloc w o k hk⟩
theorem ZTk_Fr.below {b0 b1 : Nat} {w0 w w' : World} (h : ZTk_Fr b0 b1 w w') (hB : Below b0 w0 w) (hb : b0 ≤ w.heap.size) : Below b0 w0 w' :=
  ⟨h.os.trans hB.os, h.tape.trans hB.tape, h.output.trans hB.output, Nat.le_trans hB.size h.size, fun k hk => (h.block k (by omega) (.inl hk)).trans (hB.block k hk)⟩
def ZTk_itV (Bt : Nat) : Value := .func (.func 57) #[] #[.pointer (some ⟨Bt, 0, none⟩)]
/-- No token has been kept. -/
def isE (p : ZTk_C) : Bool := p.f0 == 0 && p.f1.size == 0
/-- What a call gives: a token, the one that is kept then, and what is left. -/
def coalN : ZTk_C → List ZTk_C → ZTk_C × ZTk_C × List ZTk_C
  | p, [] => (p, ZTk_eof, [])
  | p, t :: r => if t.f1.size = 0 then coalN p r else if isE p = true then coalN t r else if p.f0 = t.f0 then coalN ⟨p.f0, p.f1 ++ t.f1⟩ r else (p, t, r)
/-- All that the calls give. -/
def runsL : ZTk_C → List ZTk_C → List ZTk_C
  | p, [] => if isE p = true then [] else [p]
  | p, t :: r => if t.f1.size = 0 then runsL p r else if isE p = true then runsL t r else if p.f0 = t.f0 then runsL ⟨p.f0, p.f1 ++ t.f1⟩ r else p :: runsL t r
theorem bytes0 {s : ByteArray} (h : s.size = 0) : s = ⟨#[]⟩ := by
  obtain ⟨⟨l⟩⟩ := s
  have : l.length = 0 := h
  rw [List.eq_nil_of_length_eq_zero this]
theorem isE_eof {p : ZTk_C} (h : isE p = true) : p = ZTk_eof := by
  obtain ⟨a, b⟩ := p
  unfold isE at h
  rw [Bool.and_eq_true, beq_iff_eq, beq_iff_eq] at h
  obtain ⟨h1, h2⟩ := h
  have h1 : a = 0 := h1
  have h2 : b.size = 0 := h2
  rw [h1, bytes0 h2]
  rfl
theorem coalN_hd : ∀ (l : List ZTk_C) (p : ZTk_C), (coalN p l).1 = ZTk_hd (runsL p l)
  | [], p => by
    unfold coalN runsL
    by_cases h : isE p = true
    · rw [if_pos h]; exact isE_eof h
    · rw [if_neg h]; rfl
  | t :: r, p => by
    unfold coalN runsL
    by_cases h1 : t.f1.size = 0
    · rw [if_pos h1, if_pos h1]; exact coalN_hd r p
    · rw [if_neg h1, if_neg h1]
      by_cases h2 : isE p = true
      · rw [if_pos h2, if_pos h2]; exact coalN_hd r t
      · rw [if_neg h2, if_neg h2]
        by_cases h3 : p.f0 = t.f0
        · rw [if_pos h3, if_pos h3]; exact coalN_hd r _
        · rw [if_neg h3, if_neg h3]; rfl
theorem coalN_tail : ∀ (l : List ZTk_C) (p : ZTk_C), runsL (coalN p l).2.1 (coalN p l).2.2 = (runsL p l).tail
  | [], p => by
    have e : runsL ZTk_eof [] = [] := by unfold runsL; rw [if_pos (by rfl)]
    unfold coalN
    show runsL ZTk_eof [] = _
    rw [e]
    unfold runsL
    split <;> rfl
  | t :: r, p => by
    unfold coalN
    conv => rhs; unfold runsL
    by_cases h1 : t.f1.size = 0
    · rw [if_pos h1, if_pos h1]; exact coalN_tail r p
    · rw [if_neg h1, if_neg h1]
      by_cases h2 : isE p = true
      · rw [if_pos h2, if_pos h2]; exact coalN_tail r t
      · rw [if_neg h2, if_neg h2]
        by_cases h3 : p.f0 = t.f0
        · rw [if_pos h3, if_pos h3]; exact coalN_tail r _
        · rw [if_neg h3, if_neg h3]; rfl
/-- How many bytes tokens have. -/
def szL (l : List ZTk_C) : Nat := (l.map fun x => x.f1.size).sum
theorem szL_cons (x : ZTk_C) (l : List ZTk_C) : szL (x :: l) = x.f1.size + szL l := rfl
theorem size_cat (a b : ByteArray) : (a ++ b).size = a.size + b.size := ByteArray.size_append
theorem coalN_sz : ∀ (l : List ZTk_C) (p : ZTk_C), (coalN p l).2.1.f1.size + szL (coalN p l).2.2 ≤ p.f1.size + szL l ∧ (coalN p l).2.2.length ≤ l.length ∧ ((∀ x ∈ l, x.f0 ≠ 0) → (∀ x ∈ (coalN p l).2.2, x.f0 ≠ 0) ∧ ((isE (coalN p l).2.1 = true) ∨ (coalN p l).2.1.f0 ≠ 0))
  | [], p => by
    unfold coalN
    exact ⟨Nat.zero_le _, Nat.le_refl _, fun _ => ⟨fun x hx => (by cases hx), .inl rfl⟩⟩
  | t :: r, p => by
    have k := szL_cons t r
    have hmem : (∀ x ∈ t :: r, x.f0 ≠ 0) → ∀ x ∈ r, x.f0 ≠ 0 := fun h x hx => h x (List.mem_cons_of_mem _ hx)
    unfold coalN
    by_cases h1 : t.f1.size = 0
    · rw [if_pos h1]
      obtain ⟨a, b, c⟩ := coalN_sz r p
      exact ⟨by omega, by simp; omega, fun h => c (hmem h)⟩
    · rw [if_neg h1]
      by_cases h2 : isE p = true
      · rw [if_pos h2]
        obtain ⟨a, b, c⟩ := coalN_sz r t
        exact ⟨by omega, by simp; omega, fun h => c (hmem h)⟩
      · rw [if_neg h2]
        by_cases h3 : p.f0 = t.f0
        · rw [if_pos h3]
          obtain ⟨a, b, c⟩ := coalN_sz r ⟨p.f0, p.f1 ++ t.f1⟩
          have e : (⟨p.f0, p.f1 ++ t.f1⟩ : ZTk_C).f1.size = p.f1.size + t.f1.size := size_cat _ _
          exact ⟨by omega, by simp; omega, fun h => c (hmem h)⟩
        · rw [if_neg h3]
          exact ⟨by show t.f1.size + szL r ≤ _; omega, by simp, fun h => ⟨hmem h, .inr (h t List.mem_cons_self)⟩⟩
theorem runsL_good : ∀ (l : List ZTk_C) (p : ZTk_C), (∀ x ∈ l, x.f0 ≠ 0) → (isE p = true ∨ p.f0 ≠ 0) → ∀ x ∈ runsL p l, x.f0 ≠ 0
  | [], p, _, hp, x, hx => by
    unfold runsL at hx
    split at hx
    · cases hx
    · rename_i h
      rw [List.mem_singleton.1 hx]
      rcases hp with hp | hp
      · exact absurd hp h
      · exact hp
  | t :: r, p, hl, hp, x, hx => by
    have hr : ∀ x ∈ r, x.f0 ≠ 0 := fun x hx => hl x (List.mem_cons_of_mem _ hx)
    have ht : t.f0 ≠ 0 := hl t List.mem_cons_self
    unfold runsL at hx
    split at hx
    · exact runsL_good r p hr hp x hx
    · split at hx
      · exact runsL_good r t hr (.inr ht) x hx
      · rename_i h2
        have hp0 : p.f0 ≠ 0 := by
          rcases hp with hp | hp
          · exact absurd hp h2
          · exact hp
        split at hx
        · exact runsL_good r ⟨p.f0, p.f1 ++ t.f1⟩ hr (.inr hp0) x hx
        · rcases List.mem_cons.1 hx with e | hx
          · rw [e]; exact hp0
          · exact runsL_good r t hr (.inr ht) x hx
theorem runsL_len : ∀ (l : List ZTk_C) (p : ZTk_C), (runsL p l).length ≤ l.length + 1
  | [], p => by unfold runsL; split <;> simp
  | t :: r, p => by
    have h1 := runsL_len r p
    have h2 := runsL_len r t
    have h3 := runsL_len r ⟨p.f0, p.f1 ++ t.f1⟩
    unfold runsL
    split
    · simp; omega
    · split
      · simp; omega
      · split
        · simp; omega
        · simp; omega
/-- A coalescer's state: the token that is kept (block Bp), the iterator (block Bi) over what is left of a slice (blocks Bt, g). -/
structure CoAt (W : World) (b0 b1 Bp Bi Bt g : Nat) (p : ZTk_C) (l : List ZTk_C) : Prop where
  prev : W.heap[Bp]? = some (.cells #[.int .i64 p.f0, .string p.f1] 51 (0, 0))
  it : W.heap[Bi]? = some (.cells #[ZTk_itV Bt] 79 (0, 0))
  lit : LitAt W Bt g l
  np : b0 ≤ Bp ∧ Bp < b1
  ni : Bi < b1
  nt : b0 ≤ Bt ∧ Bt < b1
  ng : g < b1
  pg : Bp ≠ g
theorem lit_cell {W : World} {Bt g : Nat} {l : List ZTk_C} (h : LitAt W Bt g l) : ∃ A c, W.heap[Bt]? = some (.cells #[.slice A l.length c] 52 (0, 0)) := by
  obtain ⟨A, c, h, _⟩ := h; exact ⟨A, c, h⟩
theorem lit_g {W : World} {Bt g : Nat} {l : List ZTk_C} (h : LitAt W Bt g l) : g < W.heap.size := by
  obtain ⟨A, c, _, _, ⟨cs, t, h, _⟩, _⟩ := h; exact blk_lt h
theorem blk_ne' {W : World} {a b t u : Nat} {cs ds : Array Value} (h1 : W.heap[a]? = some (.cells cs t (0, 0))) (h2 : W.heap[b]? = some (.cells ds u (0, 0))) (hne : t ≠ u) : a ≠ b := fun e => by
  rw [e, h2] at h1
  injection h1 with h1
  injection h1 with _ h1
  exact hne h1.symm
theorem CoAt.pt {W : World} {b0 b1 Bp Bi Bt g : Nat} {p : ZTk_C} {l : List ZTk_C} (h : CoAt W b0 b1 Bp Bi Bt g p l) : Bp ≠ Bt ∧ Bi ≠ Bt ∧ Bi ≠ Bp := by
  obtain ⟨A, c, hB⟩ := lit_cell h.lit
  exact ⟨blk_ne' h.prev hB (by decide), blk_ne' h.it hB (by decide), blk_ne' h.it h.prev (by decide)⟩
/-- Behind whatever leaves the blocks below b1 as they were. -/
theorem CoAt.same {W W' : World} {b0 b1 Bp Bi Bt g : Nat} {p : ZTk_C} {l : List ZTk_C} (h : CoAt W b0 b1 Bp Bi Bt g p l) (hk : ∀ k, k < b1 → k < W.heap.size → W'.heap[k]? = W.heap[k]?) : CoAt W' b0 b1 Bp Bi Bt g p l :=
  ⟨(hk _ h.np.2 (blk_lt h.prev)).trans h.prev, (hk _ h.ni (blk_lt h.it)).trans h.it, h.lit.same (hk _ h.nt.2 h.lit.lt) (hk _ h.ng (lit_g h.lit)), h.np, h.ni, h.nt, h.ng, h.pg⟩
/-- Behind a call of the iterator. -/
theorem CoAt.next {W W' : World} {b0 b1 Bp Bi Bt g : Nat} {p : ZTk_C} {l : List ZTk_C} (h : CoAt W b0 b1 Bp Bi Bt g p l) (hg : W.grownBy W' (some Bt)) (hl : LitAt W' Bt g l.tail) : CoAt W' b0 b1 Bp Bi Bt g p l.tail := by
  obtain ⟨h1, h2, h3⟩ := h.pt
  exact ⟨(hg.block _ (blk_lt h.prev) (fun e => h1 (by injection e))).trans h.prev, (hg.block _ (blk_lt h.it) (fun e => h2 (by injection e))).trans h.it, hl, h.np, h.ni, h.nt, h.ng, h.pg⟩
/-- Behind the stores of another token into the block of the one that is kept. -/
theorem CoAt.keep {W : World} {b0 b1 Bp Bi Bt g : Nat} {p : ZTk_C} {l : List ZTk_C} (h : CoAt W b0 b1 Bp Bi Bt g p l) (q : ZTk_C) : CoAt ((W.setCell ⟨Bp, 0, none⟩ (.int .i64 q.f0)).setCell ⟨Bp, 1, none⟩ (.string q.f1)) b0 b1 Bp Bi Bt g q l := by
  obtain ⟨h1, h2, h3⟩ := h.pt
  have far : ∀ k, k ≠ Bp → ((W.setCell ⟨Bp, 0, none⟩ (.int .i64 q.f0)).setCell ⟨Bp, 1, none⟩ (.string q.f1)).heap[k]? = W.heap[k]? := fun k hk =>
    (Below.heap_setCell _ ⟨Bp, 1, none⟩ _ k hk).trans (Below.heap_setCell _ ⟨Bp, 0, none⟩ _ k hk)
  exact ⟨blk_put (blk_put h.prev 0 _ rfl) 1 _ rfl, (far _ h3).trans h.it, h.lit.same (far _ (fun e => h1 e.symm)) (far _ (fun e => h.pg e.symm)), h.np, h.ni, h.nt, h.ng, h.pg⟩
theorem CoAt.keep1 {W : World} {b0 b1 Bp Bi Bt g : Nat} {p : ZTk_C} {l : List ZTk_C} (h : CoAt W b0 b1 Bp Bi Bt g p l) (s : ByteArray) : CoAt (W.setCell ⟨Bp, 1, none⟩ (.string s)) b0 b1 Bp Bi Bt g ⟨p.f0, s⟩ l := by
  obtain ⟨h1, h2, h3⟩ := h.pt
  have far : ∀ k, k ≠ Bp → (W.setCell ⟨Bp, 1, none⟩ (.string s)).heap[k]? = W.heap[k]? := fun k hk => Below.heap_setCell _ ⟨Bp, 1, none⟩ _ k hk
  exact ⟨blk_put h.prev 1 _ rfl, (far _ h3).trans h.it, h.lit.same (far _ (fun e => h1 e.symm)) (far _ (fun e => h.pg e.symm)), h.np, h.ni, h.nt, h.ng, h.pg⟩
theorem ZTk_Fr.keep {b0 b1 Bp : Nat} (W : World) (q : ZTk_C) (h : b0 ≤ Bp ∧ Bp < b1) : ZTk_Fr b0 b1 W ((W.setCell ⟨Bp, 0, none⟩ (.int .i64 q.f0)).setCell ⟨Bp, 1, none⟩ (.string q.f1)) := (ZTk_Fr.set W 0 _ h.1 h.2).trans (ZTk_Fr.set _ 1 _ h.1 h.2)
/-- While the closure runs: q is kept, the token in block Bx and what the iterator has left are to come. -/
structure CI (b0 b1 Bp Bi Bt g : Nat) (p : ZTk_C) (l : List ZTk_C) (w : World) (Bx : Nat) (q : ZTk_C) (rest : List ZTk_C) (wr : World) : Prop where
  eq : coalN q rest = coalN p l
  co : CoAt wr b0 b1 Bp Bi Bt g q rest.tail
  hx : wr.heap[Bx]? = some (.cells #[.int .i64 (ZTk_hd rest).f0, .string (ZTk_hd rest).f1] 51 (0, 0))
  bx : w.heap.size < Bx
  hr : wr.heap[w.heap.size]? = some (.cells #[.int .i64 0, .string ⟨#[]⟩] 51 (0, 0))
  hF : ZTk_Fr b0 b1 w wr
  nz : ∀ x ∈ rest, x.f0 ≠ 0
  ok : isE q = true ∨ q.f0 ≠ 0
  sz : q.f1.size + szL rest ≤ 8191
theorem co_vars {b0 b1 : Nat} {w w' : World} (hV : Go.Proofs.YtgpamoanclhbhaaDoorFmt.VarsOK w) (hE : 0 < b0) (h : ZTk_Fr b0 b1 w w') : Go.Proofs.YtgpamoanclhbhaaDoorFmt.VarsOK w' := vars_kept hV (h.block _ (vars_lt hV) (.inl hE))
theorem ZTk_Fr.far {b0 b1 k : Nat} {w w' : World} {o : Obj} (h : ZTk_Fr b0 b1 w w') (hk : b1 ≤ k) (hb : w.heap[k]? = some o) : w'.heap[k]? = some o := by
  have hlt : k < w.heap.size := by
    rcases Nat.lt_or_ge k w.heap.size with h | h
    · exact h
    · rw [Array.getElem?_eq_none h] at hb; cases hb
  exact (h.block k hlt (.inr hk)).trans hb
theorem co_fin {b0 b1 Bp Bi Bt g : Nat} {q : ZTk_C} {l : List ZTk_C} {w W : World} (hb : b1 ≤ w.heap.size) (hF : ZTk_Fr b0 b1 w W) {cs : Array Value} (hr : W.heap[w.heap.size]? = some (.cells cs 51 (0, 0))) (hcs : cs.size = 2) (co : CoAt W b0 b1 Bp Bi Bt g q l) (t : ZTk_C) (ob : Obj) :
    (((W.setCell ⟨w.heap.size, 0, none⟩ (.int .i64 t.f0)).setCell ⟨w.heap.size, 1, none⟩ (.string t.f1)).alloc ob).heap[w.heap.size]? = some (.cells #[.int .i64 t.f0, .string t.f1] 51 (0, 0)) ∧
    CoAt (((W.setCell ⟨w.heap.size, 0, none⟩ (.int .i64 t.f0)).setCell ⟨w.heap.size, 1, none⟩ (.string t.f1)).alloc ob) b0 b1 Bp Bi Bt g q l ∧ ZTk_Fr b0 b1 w (((W.setCell ⟨w.heap.size, 0, none⟩ (.int .i64 t.f0)).setCell ⟨w.heap.size, 1, none⟩ (.string t.f1)).alloc ob) := by
  have far : ∀ k, k ≠ w.heap.size → k < W.heap.size → (((W.setCell ⟨w.heap.size, 0, none⟩ (.int .i64 t.f0)).setCell ⟨w.heap.size, 1, none⟩ (.string t.f1)).alloc ob).heap[k]? = W.heap[k]? := fun k hk hlt =>
    (Below.heap_alloc _ ob k (by rw [World.size_setCell, World.size_setCell]; exact hlt)).trans ((Below.heap_setCell _ ⟨w.heap.size, 1, none⟩ _ k hk).trans (Below.heap_setCell _ ⟨w.heap.size, 0, none⟩ _ k hk))
  have hsz := hF.size
  refine ⟨blk_alloc (blk_put (blk_put hr 0 _ rfl) 1 _ ?_) _, co.same (fun k hk hlt => far k (by omega) hlt), ⟨hF.os, hF.tape, hF.output, ?_, fun k hk hkb => (far k (by omega) (by omega)).trans (hF.block k hk hkb)⟩⟩
  · obtain ⟨x, y, rfl⟩ : ∃ x y, cs = #[x, y] := by
      obtain ⟨l⟩ := cs
      match l, hcs with
      | [a, b], _ => exact ⟨a, b, rfl⟩
    rfl
  · simp; omega
theorem ci_box {b0 b1 Bt B9 : Nat} {x : ZTk_C} {w W w2 : World} (hb : b1 ≤ w.heap.size) (ht : Bt < b1) (hF : ZTk_Fr b0 b1 w W) (h9 : B9 = W.heap.size) (hg : (W.alloc (.cells #[.int .i64 x.f0, .string x.f1] 51)).grownBy w2 (some Bt)) :
    w2.heap[B9]? = some (.cells #[.int .i64 x.f0, .string x.f1] 51 (0, 0)) := by
  subst h9
  have := hF.size
  exact (hg.block _ (by simp) (fun e => by injection e with e; omega)).trans (blk_new W _)
theorem ci_next {b0 b1 Bp Bi Bt g B9 : Nat} {p x q : ZTk_C} {l r : List ZTk_C} {w W w2 : World} (hb : b1 ≤ w.heap.size) (hF : ZTk_Fr b0 b1 w W) (h9 : B9 = W.heap.size) (co : CoAt W b0 b1 Bp Bi Bt g q r) (hr : W.heap[w.heap.size]? = some (.cells #[.int .i64 0, .string ⟨#[]⟩] 51 (0, 0)))
    (hg : (W.alloc (.cells #[.int .i64 x.f0, .string x.f1] 51)).grownBy w2 (some Bt)) (hl : LitAt w2 Bt g r.tail) (heq : coalN q r = coalN p l) (nz : ∀ y ∈ r, y.f0 ≠ 0) (ok : isE q = true ∨ q.f0 ≠ 0) (sz : q.f1.size + szL r ≤ 8191) :
    CI b0 b1 Bp Bi Bt g p l w B9 q r ((w2.setCell ⟨B9, 0, none⟩ (.int .i64 (ZTk_hd r).f0)).setCell ⟨B9, 1, none⟩ (.string (ZTk_hd r).f1)) := by
  have hx2 := ci_box hb co.nt.2 hF h9 hg
  subst h9
  have hsz := hF.size
  have hlr := blk_lt hr
  have hF2 : ZTk_Fr b0 b1 w w2 := (hF.trans (ZTk_Fr.alloc W _)).trans (ZTk_Fr.of_grown hg co.nt.1 co.nt.2)
  have co2 : CoAt w2 b0 b1 Bp Bi Bt g q r.tail := (co.same (fun k hk hlt => Below.heap_alloc W _ k hlt)).next hg hl
  have hr2 : w2.heap[w.heap.size]? = some (.cells #[.int .i64 0, .string ⟨#[]⟩] 51 (0, 0)) := (hg.block _ (by simp; omega) (fun e => by injection e with e; have := co.nt.2; omega)).trans (blk_alloc hr _)
  have far : ∀ k, k ≠ W.heap.size → ((w2.setCell ⟨W.heap.size, 0, none⟩ (.int .i64 (ZTk_hd r).f0)).setCell ⟨W.heap.size, 1, none⟩ (.string (ZTk_hd r).f1)).heap[k]? = w2.heap[k]? := fun k hk =>
    (Below.heap_setCell _ ⟨W.heap.size, 1, none⟩ _ k hk).trans (Below.heap_setCell _ ⟨W.heap.size, 0, none⟩ _ k hk)
  refine ⟨heq, co2.same (fun k hk _ => far k (by omega)), blk_put (blk_put hx2 0 _ rfl) 1 _ rfl, by omega, (far _ (by omega)).trans hr2, ⟨hF2.os, hF2.tape, hF2.output, ?_, fun k hk hkb => (far k (by omega)).trans (hF2.block k hk hkb)⟩, nz, ok, sz⟩
  rw [World.size_setCell, World.size_setCell]; exact hF2.size
def CoRes (b0 b1 Bp Bi Bt g : Nat) (r : ZTk_C × ZTk_C × List ZTk_C) (w : World) (e : Ending) (w' : World) : Prop :=
  e = .returned (.agg #[.int .i64 r.1.f0, .string r.1.f1]) ∧ CoAt w' b0 b1 Bp Bi Bt g r.2.1 r.2.2 ∧ ZTk_Fr b0 b1 w w'
set_option maxRecDepth 100000 in
set_option maxHeartbeats 8000000 in
theorem coal_c (b0 b1 Bp Bi Bt g : Nat) (p : ZTk_C) (l : List ZTk_C) (w : World) (hV : Go.Proofs.YtgpamoanclhbhaaDoorFmt.VarsOK w) (hE : 0 < b0) (h : CoAt w b0 b1 Bp Bi Bt g p l) (hb0 : b0 ≤ b1) (hb : b1 ≤ w.heap.size)
    (hz : ∀ x ∈ l, x.f0 ≠ 0) (hp : isE p = true ∨ p.f0 ≠ 0) (hs : p.f1.size + szL l ≤ 8191) :
    Calls Tryd.prog 50 #[.pointer (some ⟨Bi, 0, none⟩), .pointer (some ⟨Bp, 0, none⟩)] w fun e w' => CoRes b0 b1 Bp Bi Bt g (coalN p l) w e w' := by
  have hu := Tryd.underlying51
  have c0 : w.cell? ⟨Bi, 0, none⟩ = some (ZTk_itV Bt) := (blk_cell h.it 0).trans rfl
  have li := blk_lt h.it
  have HC := Aside0.mk h
  have HZ := Aside0.mk hz
  have HP := Aside0.mk hp
  have HS := Aside0.mk hs
  have kn : Aside0 (Calls Tryd.prog 57 #[.pointer (some ⟨Bt, 0, none⟩)] (w.alloc (.cells #[.int .i64 0, .string ⟨#[]⟩] 51)) fun e w' => e = .returned (.agg #[.int .i64 (ZTk_hd l).f0, .string (ZTk_hd l).f1]) ∧ LitAt w' Bt g l.tail ∧ (w.alloc (.cells #[.int .i64 0, .string ⟨#[]⟩] 51)).grownBy w' (some Bt)) :=
    ⟨(next_c Bt g l _ (co_vars hV hE (ZTk_Fr.alloc (b0 := b0) (b1 := b1) w _)) (h.same (fun k hk hlt => Below.heap_alloc w _ k hlt)).lit).mono fun e w' h => ⟨h.1, h.2.1, h.2.2.1⟩⟩
  unfold ZTk_itV at c0
  clear h hz hp hs
  go_enter Tryd.func50, Tryd.ntmps50
  go_wp2_with (go_at_call 57; refine kn.out.mono ?_; rintro e w1 ⟨rfl, hl1, hg1⟩)
  have hC1 : CoAt w1 b0 b1 Bp Bi Bt g p l.tail := (HC.out.same (fun k hk hlt => Below.heap_alloc w _ k hlt)).next hg1 hl1
  have hF1 : ZTk_Fr b0 b1 w w1 := (ZTk_Fr.alloc w _).trans (ZTk_Fr.of_grown hg1 HC.out.nt.1 HC.out.nt.2)
  have hr1 : w1.heap[w.heap.size]? = some (.cells #[.int .i64 0, .string ⟨#[]⟩] 51 (0, 0)) := (hg1.block _ (by simp) (fun e => by injection e with e; have := HC.out.nt.2; omega)).trans (blk_new w _)
  have hs1 : w.heap.size < w1.heap.size := blk_lt hr1
  have HI : Aside0 (CI b0 b1 Bp Bi Bt g p l w w1.heap.size p l (w1.alloc (.cells #[.int .i64 (ZTk_hd l).f0, .string (ZTk_hd l).f1] 51))) :=
    ⟨⟨rfl, hC1.same (fun k hk hlt => Below.heap_alloc _ _ k hlt), blk_new _ _, hs1, blk_alloc hr1 _, hF1.trans (ZTk_Fr.alloc _ _), HZ.out, HP.out, HS.out⟩⟩
  clear kn hl1 hg1 hC1 hF1 hr1 hs1 c0 li
  go_loopg [3] (l.length + 1) (fun kq v3 wr => ∃ (Bx : Nat) (q : ZTk_C) (rest : List ZTk_C), v3 = .pointer (some ⟨Bx, 0, none⟩) ∧ Aside0 (rest.length < kq) ∧ Aside0 (CI b0 b1 Bp Bi Bt g p l w Bx q rest wr))
  case atStart => exact ⟨_, p, l, rfl, ⟨Nat.lt_succ_self _⟩, HI⟩
  case round =>
    obtain ⟨Bx, q, rest, rfl, HK, HH⟩ := hrel
    clear HI
    cases gk with
    | zero => have := HK.out; omega
    | succ k1 =>
      have H := HH.out
      have V := co_vars hV hE H.hF
      have v0 := V.e0
      have v1 := V.e1
      have lv := vars_lt V
      have lx := blk_lt H.hx
      have lp := blk_lt H.co.prev
      have lr := blk_lt H.hr
      have p0 : wr.cell? ⟨Bp, 0, none⟩ = some (.int .i64 q.f0) := (blk_cell H.co.prev 0).trans rfl
      have p1 : wr.cell? ⟨Bp, 1, none⟩ = some (.string q.f1) := (blk_cell H.co.prev 1).trans rfl
      have fp0 := blk_frozen H.co.prev 0
      have fp1 := blk_frozen H.co.prev 1
      have q1 : Bp < w.heap.size := Nat.lt_of_lt_of_le H.co.np.2 hb
      have q2 : w.heap.size < Bx := H.bx
      have r0 : wr.cell? ⟨w.heap.size, 0, none⟩ = some (.int .i64 0) := (blk_cell H.hr 0).trans rfl
      have r1 : wr.cell? ⟨w.heap.size, 1, none⟩ = some (.string ⟨#[]⟩) := (blk_cell H.hr 1).trans rfl
      have fr0 := blk_frozen H.hr 0
      have fr1 := blk_frozen H.hr 1
      cases rest with
      | nil =>
        have x0 : wr.cell? ⟨Bx, 0, none⟩ = some (.int .i64 0) := (blk_cell H.hx 0).trans rfl
        have x1 : wr.cell? ⟨Bx, 1, none⟩ = some (.string ⟨#[]⟩) := (blk_cell H.hx 1).trans rfl
        clear H V
        go_wp2
        have H := HH.out
        have hrk : ((wr.setCell ⟨Bp, 0, none⟩ (.int .i64 ZTk_eof.f0)).setCell ⟨Bp, 1, none⟩ (.string ZTk_eof.f1)).heap[w.heap.size]? = some (.cells #[.int .i64 0, .string ⟨#[]⟩] 51 (0, 0)) := (ZTk_Fr.keep (b0 := b0) (b1 := b1) wr ZTk_eof H.co.np).far hb H.hr
        obtain ⟨f1, f2, f3⟩ := co_fin hb (H.hF.trans (ZTk_Fr.keep wr ZTk_eof H.co.np)) hrk rfl (H.co.keep ZTk_eof) q (.cells #[.int .i64 q.f0, .string q.f1] 51)
        exact bodyPost_ret (results_cell_row rfl _ _ w.heap.size 51 #[.int .i64 q.f0, .string q.f1] (0, 0) _ rfl f1 Tryd.underlying51 rfl (by kernel_rfl)) rfl (by
          rw [← H.eq]
          exact ⟨rfl, f2, f3⟩)
      | cons x r =>
        have x0 : wr.cell? ⟨Bx, 0, none⟩ = some (.int .i64 x.f0) := (blk_cell H.hx 0).trans rfl
        have x1 : wr.cell? ⟨Bx, 1, none⟩ = some (.string x.f1) := (blk_cell H.hx 1).trans rfl
        have hxz : x.f0 ≠ 0 := H.nz x List.mem_cons_self
        have hxb : (x.f0 == 0) = false := beq_eq_false_iff_ne.2 hxz
        have HC2 := Aside0.mk H.co
        have kn : Aside0 (∀ (q2 : ZTk_C) (W : World), Go.Proofs.YtgpamoanclhbhaaDoorFmt.VarsOK W → CoAt W b0 b1 Bp Bi Bt g q2 r → Calls Tryd.prog 57 #[.pointer (some ⟨Bt, 0, none⟩)] W fun e w' => e = .returned (.agg #[.int .i64 (ZTk_hd r).f0, .string (ZTk_hd r).f1]) ∧ LitAt w' Bt g r.tail ∧ W.grownBy w' (some Bt)) :=
          ⟨fun q2 W hV hC => (next_c Bt g r W hV hC.lit).mono fun e w' h => ⟨h.1, h.2.1, h.2.2.1⟩⟩
        have i0 : wr.cell? ⟨Bi, 0, none⟩ = some (.func (.func 57) #[] #[.pointer (some ⟨Bt, 0, none⟩)]) := (blk_cell H.co.it 0).trans rfl
        have li := blk_lt H.co.it
        have hz1 := H.nz
        clear H V
        by_cases h1 : x.f1.size = 0
        · have hlen : ((x.f1.size : Int) == 0) = true := by rw [h1]; rfl
          have HL1 := Aside0.mk h1
          clear h1
          have hVa : Go.Proofs.YtgpamoanclhbhaaDoorFmt.VarsOK (wr.alloc (.cells #[.int .i64 x.f0, .string x.f1] 51)) := co_vars hV hE (HH.out.hF.trans (ZTk_Fr.alloc _ _))
          have HVa := Aside0.mk hVa
          clear hVa
          have hFk : ZTk_Fr b0 b1 w wr := HH.out.hF
          go_wp2_with (go_at_call 57; refine (kn.out q _ HVa.out (HC2.out.same (fun k hk hlt => Below.heap_alloc _ _ k hlt))).mono ?_; rintro e w2 ⟨rfl, hl2, hg2⟩; have hx2 := ci_box hb HC2.out.nt.2 HH.out.hF rfl hg2; have y0 := (blk_cell hx2 0).trans rfl; have y1 := (blk_cell hx2 1).trans rfl; have z0 := blk_frozen hx2 0; have z1 := blk_frozen hx2 1; have HX2 := Aside0.mk hx2; clear hx2)
          have HN : Aside0 (CI b0 b1 Bp Bi Bt g p l w wr.heap.size q r ((w2.setCell ⟨wr.heap.size, 0, none⟩ (.int .i64 (ZTk_hd r).f0)).setCell ⟨wr.heap.size, 1, none⟩ (.string (ZTk_hd r).f1))) :=
            ⟨ci_next hb HH.out.hF (by simp) HC2.out HH.out.hr hg2 hl2 ((by conv => rhs; rw [← HH.out.eq]; unfold coalN; rw [if_pos HL1.out])) (fun y hy => HH.out.nz y (List.mem_cons_of_mem _ hy)) HH.out.ok (by have := HH.out.sz; rw [szL_cons] at this; omega)⟩
          clear hl2 hg2 y0 y1 z0 z1 HX2
          go_wp2
          go_roundg k1
          case measure => omega
          case rel => exact ⟨_, q, r, rfl, ⟨by have := HK.out; simp at this; omega⟩, HN⟩
        · have hlen : ((x.f1.size : Int) == 0) = false := beq_eq_false_iff_ne.2 (by omega)
          have HL1 := Aside0.mk h1
          clear h1
          have ip : Bi ≠ Bp := HC2.out.pt.2.2
          have pi : Bp ≠ Bi := fun e => ip e.symm
          have bxp : Bx ≠ Bp := by omega
          have bpx : Bp ≠ Bx := by omega
          by_cases h2 : isE q = true
          · obtain rfl := isE_eof h2
            clear h2
            replace p0 : wr.cell? ⟨Bp, 0, none⟩ = some (.int .i64 0) := p0
            replace p1 : wr.cell? ⟨Bp, 1, none⟩ = some (.string ⟨#[]⟩) := p1
            have HVa : Aside0 (Go.Proofs.YtgpamoanclhbhaaDoorFmt.VarsOK (((wr.setCell ⟨Bp, 0, none⟩ (.int .i64 x.f0)).setCell ⟨Bp, 1, none⟩ (.string x.f1)).alloc (.cells #[.int .i64 x.f0, .string x.f1] 51))) := ⟨co_vars hV hE ((HH.out.hF.trans (ZTk_Fr.keep wr x HC2.out.np)).trans (ZTk_Fr.alloc _ _))⟩
            go_wp2_with (go_at_call 57; refine (kn.out x _ HVa.out ((HC2.out.keep x).same (fun k hk hlt => Below.heap_alloc _ _ k hlt))).mono ?_; rintro e w2 ⟨rfl, hl2, hg2⟩; have hx2 : w2.heap[wr.heap.size]? = _ := ci_box hb HC2.out.nt.2 (HH.out.hF.trans (ZTk_Fr.keep wr x HC2.out.np)) (by simp) hg2; have y0 := (blk_cell hx2 0).trans rfl; have y1 := (blk_cell hx2 1).trans rfl; have z0 := blk_frozen hx2 0; have z1 := blk_frozen hx2 1; have HX2 := Aside0.mk hx2; clear hx2)
            have HN : Aside0 (CI b0 b1 Bp Bi Bt g p l w wr.heap.size x r ((w2.setCell ⟨wr.heap.size, 0, none⟩ (.int .i64 (ZTk_hd r).f0)).setCell ⟨wr.heap.size, 1, none⟩ (.string (ZTk_hd r).f1))) :=
              ⟨ci_next hb (HH.out.hF.trans (ZTk_Fr.keep wr x HC2.out.np)) (by simp) (HC2.out.keep x) ((ZTk_Fr.keep (b0 := b0) (b1 := b1) wr x HC2.out.np).far hb HH.out.hr) hg2 hl2 (by conv => rhs; rw [← HH.out.eq]; unfold coalN; rw [if_neg HL1.out, if_pos (by rfl)]) (fun y hy => HH.out.nz y (List.mem_cons_of_mem _ hy)) (.inr hxz) (by have := HH.out.sz; rw [szL_cons] at this; omega)⟩
            clear hl2 hg2 y0 y1 z0 z1 HX2
            go_wp2
            go_roundg k1
            case measure => omega
            case rel => exact ⟨_, x, r, rfl, ⟨by have := HK.out; simp at this; omega⟩, HN⟩
          · have hq0 : q.f0 ≠ 0 := by
              rcases HH.out.ok with h | h
              · exact absurd h h2
              · exact h
            have hqb : (q.f0 == 0) = false := beq_eq_false_iff_ne.2 hq0
            have HL2 := Aside0.mk h2
            clear h2
            by_cases h3 : q.f0 = x.f0
            · have hqx : (q.f0 == x.f0) = true := beq_iff_eq.2 h3
              have h8 : decide ((q.f1.size : Int) < 8192) = true := decide_eq_true (by have := HH.out.sz; rw [szL_cons] at this; omega)
              have hcap : ¬ (9223372036854775807 < q.f1.size + x.f1.size) := by have := HH.out.sz; rw [szL_cons] at this; omega
              have HL3 := Aside0.mk h3
              clear h3
              have HC3 : Aside0 (CoAt (wr.setCell ⟨Bp, 1, none⟩ (.string (q.f1 ++ x.f1))) b0 b1 Bp Bi Bt g ⟨q.f0, q.f1 ++ x.f1⟩ r) := ⟨HC2.out.keep1 _⟩
              have HF3 : Aside0 (ZTk_Fr b0 b1 wr (wr.setCell ⟨Bp, 1, none⟩ (.string (q.f1 ++ x.f1)))) := ⟨ZTk_Fr.set wr 1 _ HC2.out.np.1 HC2.out.np.2⟩
              have HVa : Aside0 (Go.Proofs.YtgpamoanclhbhaaDoorFmt.VarsOK ((wr.setCell ⟨Bp, 1, none⟩ (.string (q.f1 ++ x.f1))).alloc (.cells #[.int .i64 x.f0, .string x.f1] 51))) := ⟨co_vars hV hE ((HH.out.hF.trans HF3.out).trans (ZTk_Fr.alloc _ _))⟩
              go_wp2_with (go_at_call 57; refine (kn.out _ _ HVa.out (HC3.out.same (fun k hk hlt => Below.heap_alloc _ _ k hlt))).mono ?_; rintro e w2 ⟨rfl, hl2, hg2⟩; have hx2 : w2.heap[wr.heap.size]? = _ := ci_box hb HC2.out.nt.2 (HH.out.hF.trans HF3.out) (by simp) hg2; have y0 := (blk_cell hx2 0).trans rfl; have y1 := (blk_cell hx2 1).trans rfl; have z0 := blk_frozen hx2 0; have z1 := blk_frozen hx2 1; have HX2 := Aside0.mk hx2; clear hx2)
              have HN : Aside0 (CI b0 b1 Bp Bi Bt g p l w wr.heap.size ⟨q.f0, q.f1 ++ x.f1⟩ r ((w2.setCell ⟨wr.heap.size, 0, none⟩ (.int .i64 (ZTk_hd r).f0)).setCell ⟨wr.heap.size, 1, none⟩ (.string (ZTk_hd r).f1))) :=
                ⟨ci_next hb (HH.out.hF.trans HF3.out) (by simp) HC3.out (HF3.out.far hb HH.out.hr) hg2 hl2 (by conv => rhs; rw [← HH.out.eq]; unfold coalN; rw [if_neg HL1.out, if_neg HL2.out, if_pos HL3.out]) (fun y hy => HH.out.nz y (List.mem_cons_of_mem _ hy)) (.inr hq0) (by have := HH.out.sz; rw [szL_cons] at this; have e : (⟨q.f0, q.f1 ++ x.f1⟩ : ZTk_C).f1.size = q.f1.size + x.f1.size := size_cat _ _; omega)⟩
              clear hl2 hg2 y0 y1 z0 z1 HX2
              go_wp2
              go_roundg k1
              case measure => omega
              case rel => exact ⟨_, _, r, rfl, ⟨by have := HK.out; simp at this; omega⟩, HN⟩
            · have hqx : (q.f0 == x.f0) = false := beq_eq_false_iff_ne.2 h3
              have HL3 := Aside0.mk h3
              clear h3
              go_wp2
              have H := HH.out
              have hrk : ((wr.setCell ⟨Bp, 0, none⟩ (.int .i64 x.f0)).setCell ⟨Bp, 1, none⟩ (.string x.f1)).heap[w.heap.size]? = some (.cells #[.int .i64 0, .string ⟨#[]⟩] 51 (0, 0)) := (ZTk_Fr.keep (b0 := b0) (b1 := b1) wr x H.co.np).far hb H.hr
              obtain ⟨f1, f2, f3⟩ := co_fin hb (H.hF.trans (ZTk_Fr.keep wr x H.co.np)) hrk rfl (H.co.keep x) q (.cells #[.int .i64 q.f0, .string q.f1] 51)
              exact bodyPost_ret (results_cell_row rfl _ _ w.heap.size 51 #[.int .i64 q.f0, .string q.f1] (0, 0) _ rfl f1 Tryd.underlying51 rfl (by kernel_rfl)) rfl (by
                rw [← H.eq]
                unfold coalN
                rw [if_neg HL1.out, if_neg HL2.out, if_neg HL3.out]
                exact ⟨rfl, f2, f3⟩)
abbrev ZTk_T := S29
abbrev ZTk_kT : Kd ZTk_T := k29
abbrev ZTk_kC : Kd ZTk_C := k51
abbrev ZTk_RC (w : World) (base : Nat) (v : Value) (xs : List ZTk_C) : Prop := Kd.R ZTk_kC 51 w base (fun _ => True) v xs
abbrev toCC (x : ZTk_T) : ZTk_C := ⟨x.f0, x.f1⟩
abbrev toTT (x : ZTk_C) : ZTk_T := ⟨x.f0, x.f1⟩
open Go.Proofs.YtgpamoanclhbhaaDoorEvt (Evt Evt.step Evt.pure Evt.congr wrap_nat) in
theorem inner_loop (xs : List ZTk_T) (hn : xs.length ≤ 2147483647) : ∀ (d i : Nat) (acc : List ZTk_C), xs.length = i + d → acc.length ≤ i →
    Evt (fun k => impl_inner.l0 k acc xs (xs.length : Int) (i : Int)) (acc ++ (xs.drop i).map toCC) := by
  have rdT : ∀ (i : Nat) (h : i < xs.length), rd_T29 xs (i : Int) = xs[i] := fun i h => by simp [rd_T29, List.getD_eq_getElem?_getD, h]
  intro d
  induction d with
  | zero =>
    intro i acc hi hacc
    refine Evt.step (h := fun _ => some _) (fun k => ?_) (Evt.pure _)
    simp only [impl_inner.l0]; rw [if_neg (by omega), List.drop_eq_nil_of_le (by omega)]; simp
  | succ d ih =>
    intro i acc hi hacc
    have hlt : i < xs.length := by omega
    have h1 := ih (i + 1) (acc ++ [⟨xs[i].f0, xs[i].f1⟩]) (by omega) (by simp; omega)
    rw [List.drop_eq_getElem_cons hlt, List.map_cons, ← List.singleton_append, ← List.append_assoc]
    refine Evt.step (fun k => ?_) h1
    simp only [impl_inner.l0]; rw [if_pos (by omega), if_pos (by omega), if_pos (by omega), rdT _ hlt, if_pos (by omega), wrap_nat (by omega)]
theorem inner_some (xs : List ZTk_T) (hn : xs.length ≤ 2147483647) : ∃ k, impl_inner.f k xs = some (xs.map toCC) := by
  obtain ⟨N, h⟩ := inner_loop xs hn xs.length 0 [] (by omega) (by simp)
  refine ⟨N, ?_⟩
  have := h N (Nat.le_refl _)
  simpa [impl_inner.f] using this
open Go.Proofs.YtgpamoanclhbhaaDoorEvt (Evt Evt.step Evt.pure Evt.congr wrap_nat) in
theorem outer_loop (xs : List ZTk_C) (hn : xs.length ≤ 2147483647) : ∀ (d i : Nat) (acc : List ZTk_T), xs.length = i + d → acc.length ≤ i →
    Evt (fun k => impl_outer.l0 k acc xs (xs.length : Int) (i : Int)) (acc ++ (xs.drop i).map toTT) := by
  have rdC : ∀ (i : Nat) (h : i < xs.length), rd_T51 xs (i : Int) = xs[i] := fun i h => by simp [rd_T51, List.getD_eq_getElem?_getD, h]
  intro d
  induction d with
  | zero =>
    intro i acc hi hacc
    refine Evt.step (h := fun _ => some _) (fun k => ?_) (Evt.pure _)
    simp only [impl_outer.l0]; rw [if_neg (by omega), List.drop_eq_nil_of_le (by omega)]; simp
  | succ d ih =>
    intro i acc hi hacc
    have hlt : i < xs.length := by omega
    have h1 := ih (i + 1) (acc ++ [⟨xs[i].f0, xs[i].f1⟩]) (by omega) (by simp; omega)
    rw [List.drop_eq_getElem_cons hlt, List.map_cons, ← List.singleton_append, ← List.append_assoc]
    refine Evt.step (fun k => ?_) h1
    simp only [impl_outer.l0]; rw [if_pos (by omega), if_pos (by omega), if_pos (by omega), rdC _ hlt, if_pos (by omega), wrap_nat (by omega)]
theorem outer_some (xs : List ZTk_C) (hn : xs.length ≤ 2147483647) : ∃ k, impl_outer.f k xs = some (xs.map toTT) := by
  obtain ⟨N, h⟩ := outer_loop xs hn xs.length 0 [] (by omega) (by simp)
  refine ⟨N, ?_⟩
  have := h N (Nat.le_refl _)
  simpa [impl_outer.f] using this
set_option maxHeartbeats 4000000 in
theorem litm_c (A0 : Option Addr) (n c : Nat) (w : World) : Calls Tryd.prog 56 #[.slice A0 n c] w fun e w' => e = .returned (ZTk_itV w.heap.size) ∧ w' = w.alloc (.cells #[.slice A0 n c] 52) := by
  have hmf : ∀ (fn : Fn) (first cap : Array Value) (w : World), (Instr.makeFunc fn first cap).run Tryd.prog w = .ok (.func fn first cap) w := fun _ _ _ _ => rfl
  go_enter Tryd.func56, Tryd.ntmps56
  go_wp2
  go_ret
  exact ⟨rfl, rfl⟩
/-- What inner hands back is a slice for the closure; Bn: any block for an empty one. -/
theorem lit_of {w : World} {base Bn t : Nat} {cs : Array Value} {v : Value} {l : List ZTk_C} (h : ZTk_RC w base v l) (hb : base ≤ w.heap.size) (hN : w.heap[Bn]? = some (.cells cs t (0, 0))) (t1 : 22 ≠ t) (t2 : 29 ≠ t) :
    ∃ A c, v = .slice A l.length c ∧ ∃ g, LitAt (w.alloc (.cells #[v] 52)) w.heap.size g l ∧ g < w.heap.size ∧ (g = Bn ∨ base ≤ g) := by
  obtain ⟨A, c, rfl⟩ := Kd.R_slice h
  obtain ⟨_, hc, hC⟩ := Kd.R_reads' h
  by_cases hne : l = []
  · have hb := blk_lt hN
    exact ⟨A, c, rfl, Bn, ⟨A, c, blk_new _ _, hc, ⟨_, _, blk_alloc hN _, t1, t2⟩, by omega, fun h => absurd hne h⟩, hb, .inl rfl⟩
  have hpos : 0 < l.length := List.length_pos_iff.2 hne
  obtain ⟨g, cap, e, hbg, hlt, cs, hcs⟩ := Kd.R_form h hpos
  injection e with e _ _
  subst e
  refine ⟨some ⟨g, 0, none⟩, c, rfl, g, ⟨some ⟨g, 0, none⟩, c, blk_new _ _, hc, ⟨cs, _, blk_alloc hcs _, by decide, by decide⟩, by omega, fun _ => ⟨0, rfl, fun i hi => ?_⟩⟩, hlt, .inr hbg⟩
  obtain ⟨ad, e1, h0, h1⟩ := at_T51 hC (i : Int) (by omega) (by omega)
  injection e1 with e1
  subst e1
  have rdC : rd_T51 l (i : Int) = l[i] := by simp [rd_T51, List.getD_eq_getElem?_getD, hi]
  rw [rdC] at h0 h1
  have q : ∀ a : Addr, a.block = g → (w.alloc (.cells #[.slice (some ⟨g, 0, none⟩) l.length c] 52)).cell? a = w.cell? a := fun a ha => World.cell?_of_block (Below.heap_alloc _ _ _ (by omega))
  rw [q _ rfl, q _ rfl]
  have eA : (⟨g, 0, none⟩ : Addr).add ((i : Int).toNat * 2) = ⟨g, 0 + 2 * i, none⟩ := by
    rw [Int.toNat_natCast, Nat.mul_comm, Addr.add_lit]
  rw [eA] at h0 h1
  exact ⟨h0, h1⟩
/-- Block Bk holds a slice of tokens. -/
structure TokB (w : World) (Bk : Nat) (A0 : Option Addr) (c0 : Nat) (l : List ZTk_T) : Prop where
  bk : w.heap[Bk]? = some (.cells #[.slice A0 l.length c0] 22 (0, 0))
  hC : Kd.C ZTk_kT w A0 l.length l
  hc : l.length ≤ c0
theorem TokB.below {w w' : World} {Bk : Nat} {A0 : Option Addr} {c0 : Nat} {l : List ZTk_T} (h : TokB w Bk A0 c0 l) (hB : Below w.heap.size w w') : TokB w' Bk A0 c0 l :=
  ⟨(hB.block _ (blk_lt h.bk)).trans h.bk, Kd.C_below h.hC hB, h.hc⟩
set_option maxHeartbeats 4000000 in
theorem lit1_c (Bk : Nat) (A0 : Option Addr) (c0 : Nat) (l : List ZTk_T) (s : ByteArray) (w : World) (h : TokB w Bk A0 c0 l) (hl : l.length ≤ 100000) :
    Calls Tryd.prog 26 #[.string s, .pointer (some ⟨Bk, 0, none⟩)] w fun e w' => ∃ v : Value, e = .returned v ∧ ZTk_RC w' w.heap.size v (l.map toCC) ∧ Below w.heap.size w w' := by
  obtain ⟨k, hk⟩ := inner_some l (by omega)
  have c0' : w.cell? ⟨Bk, 0, none⟩ = some (.slice A0 l.length c0) := (blk_cell h.bk 0).trans rfl
  have lb := blk_lt h.bk
  have H := Aside0.mk h
  clear h
  go_enter Tryd.func26, Tryd.ntmps26
  go_wp2_with (go_at_call 23; refine (impl_inner.calls k A0 c0 l _ _ H.out.hC H.out.hc hk).mono ?_; rintro e w2 ⟨v, rfl, hR2, hB2⟩)
  go_ret
  exact ⟨_, rfl, hR2, hB2⟩
set_option maxHeartbeats 4000000 in
theorem gt_c (Bk : Nat) (A0 : Option Addr) (c0 : Nat) (l : List ZTk_T) (s : ByteArray) (w : World) (cfg : Option Addr) (h : TokB w Bk A0 c0 l) (hl : l.length ≤ 100000) :
    Calls Tryd.prog 55 #[.agg #[.pointer cfg, .func (.func 26) #[] #[.pointer (some ⟨Bk, 0, none⟩)]], .pointer none, .string s] w fun e w' => ∃ Bt g, e = .returned (.tuple #[.func (.func 57) #[] #[.pointer (some ⟨Bt, 0, none⟩)], .nilIface]) ∧ LitAt w' Bt g (l.map toCC) ∧ w.heap.size ≤ Bt ∧ w.heap.size ≤ g ∧ g < w'.heap.size ∧ Below w.heap.size w w' := by
  have HB := Aside0.mk ((Below.refl w.heap.size w).alloc (Nat.le_refl _) (.cells #[.pointer cfg, .func (.func 26) #[] #[.pointer (some ⟨Bk, 0, none⟩)]] 71))
  have H := Aside0.mk (h.below HB.out)
  clear h
  go_enter Tryd.func55, Tryd.ntmps55
  go_wp2_with (first | (go_at_call 26; refine (lit1_c _ _ _ _ _ _ H.out hl).mono ?_; rintro e w2 ⟨v, rfl, hR2, hB2⟩; obtain ⟨A2, c2, rfl, g, hL, hg1, hg2⟩ := lit_of hR2 hB2.size ((hB2.block w.heap.size (by simp)).trans (blk_new w _)) (by decide) (by decide)) | (go_at_call 56; refine (litm_c _ _ _ _).mono ?_; rintro e w3 ⟨rfl, rfl⟩))
  go_ret2
  have hs2 := hB2.size
  rw [World.size_alloc] at hs2 hg2
  rw [List.length_map] at hL
  exact ⟨_, g, rfl, (by first | exact hL | (rw [List.length_map]; exact hL)), by omega, by omega, by simp; omega, (below_step HB.out hB2).alloc (by omega) _⟩
/-- A lexer over the tokens in block Bk. -/
abbrev lxV (cfg : Option Addr) (Bk : Nat) : Value := .iface 71 (.agg #[.pointer cfg, .func (.func 26) #[] #[.pointer (some ⟨Bk, 0, none⟩)]])
theorem meth_g (cfg : Option Addr) (Bk : Nat) (w : World) : (method 225 71 (.agg #[.pointer cfg, .func (.func 26) #[] #[.pointer (some ⟨Bk, 0, none⟩)]]) "Tokenise").run Tryd.prog w = .ok (55, .agg #[.pointer cfg, .func (.func 26) #[] #[.pointer (some ⟨Bk, 0, none⟩)]]) w := by kernel_rfl
set_option maxRecDepth 100000 in
set_option maxHeartbeats 4000000 in
theorem ct_c (Br Bk : Nat) (A0 : Option Addr) (c0 : Nat) (l : List ZTk_T) (s : ByteArray) (w : World) (cfg : Option Addr) (h : TokB w Bk A0 c0 l) (hl : l.length ≤ 100000) (hr : w.heap[Br]? = some (.cells #[lxV cfg Bk] 62 (0, 0))) :
    Calls Tryd.prog 49 #[.pointer (some ⟨Br, 0, none⟩), .pointer none, .string s] w fun e w' => ∃ Bi Bp Bt g, e = .returned (.tuple #[.func (.func 50) #[] #[.pointer (some ⟨Bi, 0, none⟩), .pointer (some ⟨Bp, 0, none⟩)], .nilIface]) ∧ CoAt w' w.heap.size w'.heap.size Bp Bi Bt g ZTk_eof (l.map toCC) ∧ Below w.heap.size w w' := by
  have hmf : ∀ (fn : Fn) (first cap : Array Value) (w : World), (Instr.makeFunc fn first cap).run Tryd.prog w = .ok (.func fn first cap) w := fun _ _ _ _ => rfl
  have HB := Aside0.mk ((Below.refl w.heap.size w).alloc (Nat.le_refl _) (.cells #[.int .i64 0, .string ⟨#[]⟩] 51))
  have H := Aside0.mk (h.below HB.out)
  have r0 : w.cell? ⟨Br, 0, none⟩ = some (lxV cfg Bk) := (blk_cell hr 0).trans rfl
  have lr := blk_lt hr
  have hm := meth_g cfg Bk
  have hsf : ∀ (a : Addr) (fn : Fn) (x y : Array Value) (m : Mode) (w : World), (store a (.func fn x y) m).run Tryd.prog w = stored Tryd.prog w a (.func fn x y) m := fun a fn x y m w => run_store Tryd.prog w a _ m rfl
  have hnn : ∀ (w : World), (Go.binOp .neq 56 .nilIface .nilIface).run Tryd.prog w = .ok (.bool false) w := fun w => run_neq_nil_nil (P := Tryd.prog) w 56 (by kernel_rfl)
  clear h hr
  go_enter Tryd.func49, Tryd.ntmps49
  go_wp2_with (go_at_call 55; refine (gt_c Bk A0 c0 l s _ cfg H.out hl).mono ?_; rintro e w4 ⟨Bt, g, rfl, hP⟩; have HP := Aside0.mk hP; clear hP)
  go_ret2
  obtain ⟨hL, hb1, hb2, hb3, hB4⟩ := HP.out
  have hs4 := hB4.size
  rw [World.size_alloc] at hs4 hb1 hb2
  have hlt := hL.lt
  refine ⟨_, _, Bt, g, rfl, ⟨blk_alloc ((hB4.block w.heap.size (by simp)).trans (blk_new w _)) _, blk_new _ _, hL.same (Below.heap_alloc _ _ _ hlt) (Below.heap_alloc _ _ _ hb3), ⟨Nat.le_refl _, by simp; omega⟩, by simp, ⟨by omega, by simp; omega⟩, by simp; omega, by omega⟩, (below_step HB.out hB4).alloc (by omega) _⟩
/-- A coalescer that is to give the tokens xs. -/
def CoI (b0 b1 Bp Bi : Nat) (W : World) (xs : List ZTk_C) : Prop :=
  ∃ Bt g p l, CoAt W b0 b1 Bp Bi Bt g p l ∧ runsL p l = xs ∧ (∀ x ∈ l, x.f0 ≠ 0) ∧ (isE p = true ∨ p.f0 ≠ 0) ∧ p.f1.size + szL l ≤ 8191
theorem CoI.same {W W' : World} {b0 b1 Bp Bi : Nat} {xs : List ZTk_C} (h : CoI b0 b1 Bp Bi W xs) (hk : ∀ k, k < b1 → k < W.heap.size → W'.heap[k]? = W.heap[k]?) : CoI b0 b1 Bp Bi W' xs := by
  obtain ⟨Bt, g, p, l, h1, h2⟩ := h
  exact ⟨Bt, g, p, l, h1.same hk, h2⟩
theorem coi_c (b0 b1 Bp Bi : Nat) (xs : List ZTk_C) (w : World) (hV : Go.Proofs.YtgpamoanclhbhaaDoorFmt.VarsOK w) (hE : 0 < b0) (h : CoI b0 b1 Bp Bi w xs) (hb0 : b0 ≤ b1) (hb : b1 ≤ w.heap.size) :
    Calls Tryd.prog 50 #[.pointer (some ⟨Bi, 0, none⟩), .pointer (some ⟨Bp, 0, none⟩)] w fun e w' => e = .returned (.agg #[.int .i64 (ZTk_hd xs).f0, .string (ZTk_hd xs).f1]) ∧ CoI b0 b1 Bp Bi w' xs.tail ∧ ZTk_Fr b0 b1 w w' := by
  obtain ⟨Bt, g, p, l, h1, rfl, h3, h4, h5⟩ := h
  refine (coal_c b0 b1 Bp Bi Bt g p l w hV hE h1 hb0 hb h3 h4 h5).mono ?_
  rintro e w' ⟨rfl, h6, h7⟩
  obtain ⟨s1, s2, s3⟩ := coalN_sz l p
  refine ⟨by rw [coalN_hd], ⟨Bt, g, _, _, h6, coalN_tail l p, (s3 h3).1, (s3 h3).2, by omega⟩, h7⟩
structure TLc (b0 b1 Bp Bi : Nat) (ps : List ZTk_C) (w : World) (v : Value) (Bx : Nat) (dn rest : List ZTk_C) (wr : World) : Prop where
  hf : ps = dn ++ rest
  hx : wr.heap[Bx]? = some (.cells #[.int .i64 (ZTk_hd rest).f0, .string (ZTk_hd rest).f1] 51 (0, 0))
  hxo : some Bx ≠ v.ownBlock
  hc : CoI b0 b1 Bp Bi wr rest.tail
  hF : ZTk_Fr b0 b1 w wr
  hR : ZTk_RC wr w.heap.size v dn
theorem tlc_append {b0 b1 Bp Bi Bx : Nat} {ps : List ZTk_C} {w wr w8 : World} {v v1 : Value} {dn : List ZTk_C} {x : ZTk_C} {r : List ZTk_C} (hb : b1 ≤ w.heap.size) (H : TLc b0 b1 Bp Bi ps w v Bx dn (x :: r) wr) (hg : wr.grownBy w8 v.ownBlock) (ho : ZTk_RC w8 w.heap.size v1 (dn ++ [x])) :
    w8.heap[Bx]? = some (.cells #[.int .i64 x.f0, .string x.f1] 51 (0, 0)) ∧ CoI b0 b1 Bp Bi w8 r ∧ ZTk_Fr b0 b1 w w8 := by
  have hsz := H.hF.size
  refine ⟨blk_grown H.hx hg H.hxo, H.hc.same (fun k hk hlt => hg.block k hlt (fun e => ?_)), ⟨hg.os.trans H.hF.os, hg.tape.trans H.hF.tape, hg.output.trans H.hF.output, Nat.le_trans hsz hg.size, fun k hk hkb => (hg.block k (by omega) (fun e => ?_)).trans (H.hF.block k hk hkb)⟩⟩
  · have := Kd.R_base H.hR k e.symm
    omega
  · have := Kd.R_base H.hR k e.symm
    omega
theorem tlc_next {b0 b1 Bp Bi Bx : Nat} {ps : List ZTk_C} {w wr w8 w9 : World} {v v1 : Value} {dn : List ZTk_C} {x : ZTk_C} {r : List ZTk_C} (hb : b1 ≤ w.heap.size) (H : TLc b0 b1 Bp Bi ps w v Bx dn (x :: r) wr) (hF8 : ZTk_Fr b0 b1 w w8) (ho : ZTk_RC w8 w.heap.size v1 (dn ++ [x]))
    (b9 : w9.heap[w8.heap.size]? = some (.cells #[.int .i64 x.f0, .string x.f1] 51 (0, 0))) (hC9 : CoI b0 b1 Bp Bi w9 r.tail) (hF9 : ZTk_Fr b0 b1 (w8.alloc (.cells #[.int .i64 x.f0, .string x.f1] 51)) w9) :
    TLc b0 b1 Bp Bi ps w v1 w8.heap.size (dn ++ [x]) r ((w9.setCell ⟨w8.heap.size, 0, none⟩ (.int .i64 (ZTk_hd r).f0)).setCell ⟨w8.heap.size, 1, none⟩ (.string (ZTk_hd r).f1)) := by
  have h8 := hF8.size
  have h9 := hF9.size
  rw [World.size_alloc] at h9
  have far : ∀ k, k ≠ w8.heap.size → ((w9.setCell ⟨w8.heap.size, 0, none⟩ (.int .i64 (ZTk_hd r).f0)).setCell ⟨w8.heap.size, 1, none⟩ (.string (ZTk_hd r).f1)).heap[k]? = w9.heap[k]? := fun k hk =>
    (Below.heap_setCell _ ⟨w8.heap.size, 1, none⟩ _ k hk).trans (Below.heap_setCell _ ⟨w8.heap.size, 0, none⟩ _ k hk)
  have hF := (hF8.trans (ZTk_Fr.alloc _ _)).trans hF9
  refine ⟨by rw [H.hf]; simp, blk_put (blk_put b9 0 _ rfl) 1 _ rfl, fun e => ?_, hC9.same (fun k hk hlt => far k (by omega)), ⟨hF.os, hF.tape, hF.output, by rw [World.size_setCell, World.size_setCell]; exact hF.size, fun k hk hkb => (far k (by omega)).trans (hF.block k hk hkb)⟩, ?_⟩
  · have := Kd.R_lt ho _ e.symm
    omega
  · exact Kd.R_mono (Kd.R_step (Kd.R_bound ho) (fun k hk hlt => ((far k (by omega)).trans (hF9.block k (by simp; omega) (.inr (Nat.le_trans hb hk.2.1)))).trans (Below.heap_alloc _ _ k hlt))) (fun _ _ => trivial)
theorem tlc_box {b0 b1 : Nat} {w w8 w9 : World} (hb : b1 ≤ w.heap.size) (hF : ZTk_Fr b0 b1 w w8) (o' : Obj) (h9 : ZTk_Fr b0 b1 (w8.alloc o') w9) : w9.heap[w8.heap.size]? = some o' :=
  (h9.block _ (by simp) (.inr (Nat.le_trans hb hF.size))).trans (blk_new w8 o')
theorem meth_co (Br : Nat) (w : World) : (method 225 60 (.pointer (some ⟨Br, 0, none⟩)) "Tokenise").run Tryd.prog w = .ok (49, .pointer (some ⟨Br, 0, none⟩)) w := by kernel_rfl
set_option maxRecDepth 100000 in
set_option maxHeartbeats 8000000 in
theorem tk_c (Br Bk : Nat) (A0 : Option Addr) (c0 : Nat) (l : List ZTk_T) (s : ByteArray) (w : World) (cfg : Option Addr) (hV : Go.Proofs.YtgpamoanclhbhaaDoorFmt.VarsOK w) (h : TokB w Bk A0 c0 l) (hl : l.length ≤ 90000) (hz : ∀ x ∈ l, x.f0 ≠ 0) (hs : szL (l.map toCC) ≤ 8191) (hr : w.heap[Br]? = some (.cells #[lxV cfg Bk] 62 (0, 0))) :
    Calls Tryd.prog 24 #[.iface 60 (.pointer (some ⟨Br, 0, none⟩)), .pointer none, .string s] w fun e w' => ∃ v, e = .returned (.tuple #[v, .nilIface]) ∧ ZTk_RC w' w.heap.size v (runsL ZTk_eof (l.map toCC)) ∧ Below w.heap.size w w' := by
  have hu := Tryd.underlying51
  have hm := meth_co Br
  have hnn : ∀ (w : World), (Go.binOp .neq 56 .nilIface .nilIface).run Tryd.prog w = .ok (.bool false) w := fun w => run_neq_nil_nil (P := Tryd.prog) w 56 (by kernel_rfl)
  have HK0 := Aside0.mk (ct_c Br Bk A0 c0 l s w cfg h (by omega) hr)
  have hE := vars_lt hV
  have HZ := Aside0.mk hz
  have HS := Aside0.mk hs
  have hgood := Aside0.mk (runsL_good (l.map toCC) ZTk_eof (fun x hx => by obtain ⟨y, hy, rfl⟩ := List.mem_map.1 hx; exact hz y hy) (.inl rfl))
  have hlen := Aside0.mk (runsL_len (l.map toCC) ZTk_eof)
  clear h hr hz hs
  go_enter Tryd.func24, Tryd.ntmps24
  go_wp2_with (first | (go_at_call 49; refine HK0.out.mono ?_; rintro e w1 ⟨Bi, Bp, Bt, g, rfl, hP⟩; have HP := Aside0.mk hP; clear hP) | (go_at_call 50; refine (coi_c w.heap.size w1.heap.size Bp Bi (runsL ZTk_eof (l.map toCC)) w1 (vars_kept hV (HP.out.2.block _ hE)) hE ⟨Bt, g, ZTk_eof, _, HP.out.1, rfl, (fun x hx => by obtain ⟨y, hy, rfl⟩ := List.mem_map.1 hx; exact HZ.out y hy), .inl rfl, by have := HS.out; show 0 + _ ≤ _; omega⟩ HP.out.2.size (Nat.le_refl _)).mono ?_; rintro e w2 ⟨rfl, hQ⟩; have HQ := Aside0.mk hQ; clear hQ))
  have hV1 : Aside0 (Go.Proofs.YtgpamoanclhbhaaDoorFmt.VarsOK w1) := ⟨vars_kept hV (HP.out.2.block _ hE)⟩
  have hs1 : Aside0 (w.heap.size ≤ w1.heap.size) := ⟨HP.out.2.size⟩
  have HL : Aside0 (TLc w.heap.size w1.heap.size Bp Bi (runsL ZTk_eof (l.map toCC)) w1 (.slice none 0 0) w2.heap.size [] (runsL ZTk_eof (l.map toCC)) (w2.alloc (.cells #[.int .i64 (ZTk_hd (runsL ZTk_eof (l.map toCC))).f0, .string (ZTk_hd (runsL ZTk_eof (l.map toCC))).f1] 51))) :=
    ⟨⟨rfl, blk_new _ _, by simp [Value.ownBlock], HQ.out.1.same (fun k hk hlt => Below.heap_alloc _ _ _ hlt), HQ.out.2.trans (ZTk_Fr.alloc _ _), Kd.R_nil _ _ _ _ _⟩⟩
  generalize hxs : runsL ZTk_eof (l.map toCC) = xs at HL hgood hlen ⊢
  clear HQ HZ HS HK0
  go_loopg [8, 11] (xs.length + 1) (fun kq v8 v11 wr => ∃ (Bx : Nat) (dn rest : List ZTk_C), v11 = .pointer (some ⟨Bx, 0, none⟩) ∧ Aside0 (rest.length < kq) ∧ Aside0 (TLc w.heap.size w1.heap.size Bp Bi xs w1 v8 Bx dn rest wr))
  case atStart => exact ⟨_, [], xs, rfl, ⟨Nat.lt_succ_self _⟩, HL⟩
  case round =>
    obtain ⟨Bx, dn, rest, rfl, HK, HH⟩ := hrel
    clear HL
    cases gk with
    | zero => have := HK.out; omega
    | succ k1 =>
      have H := HH.out
      have V := co_vars hV1.out hE H.hF
      have v0 := V.e0
      have v1 := V.e1
      have lv := vars_lt V
      have lx := blk_lt H.hx
      cases rest with
      | nil =>
        have x0 : wr.cell? ⟨Bx, 0, none⟩ = some (.int .i64 0) := (blk_cell H.hx 0).trans rfl
        have x1 : wr.cell? ⟨Bx, 1, none⟩ = some (.string ⟨#[]⟩) := (blk_cell H.hx 1).trans rfl
        clear H V
        go_wp2
        go_ret2
        have H := HH.out
        have hxd : xs = dn := by rw [H.hf, List.append_nil]
        exact ⟨u8, rfl, by rw [hxs, hxd]; exact Kd.R_lower H.hR hs1.out, H.hF.below HP.out.2 hs1.out⟩
      | cons x r =>
        have x0 : wr.cell? ⟨Bx, 0, none⟩ = some (.int .i64 x.f0) := (blk_cell H.hx 0).trans rfl
        have x1 : wr.cell? ⟨Bx, 1, none⟩ = some (.string x.f1) := (blk_cell H.hx 1).trans rfl
        have hxz : x.f0 ≠ 0 := hgood.out x (by rw [H.hf]; simp)
        have hxb : (x.f0 == 0) = false := beq_eq_false_iff_ne.2 hxz
        have hL : Aside0 (dn.length < 1000000) := ⟨by have := congrArg List.length H.hf; have := hlen.out; simp at *; omega⟩
        have hbs : Aside0 (w1.heap.size ≤ wr.heap.size) := ⟨H.hF.size⟩
        clear H V
        go_wp2_with (first | ((with_reducible refine gate_builtin (b := .append) (xs := #[.tmp 29, .tmp 31]) rfl ?_); at_builtin; refine Kd.R_append ZTk_kC (w0 := wr) w1.heap.size rfl (.tmp 29) (.tmp 31) 52 51 (.agg #[(.int .i64 0), (.string ⟨#[]⟩)]) 24 rfl Tryd.underlying52 info51 rfl (by decide) (by omega) u8 dn x [.int .i64 x.f0, .string x.f1] (fun _ => True) (fun _ => False) rfl (by first | (go_simp; done) | (go_simp; rfl)) ?aP (fun _ hk => hk.elim) ?aF ?aO ?aB ?aS ?aL ?_; (case aP => exact k51_mkM _ _ _ x); (case aB => exact Below.refl _ _); (case aF => exact (fun _ _ => trivial)); (case aO => exact HH.out.hR); (case aS => exact hbs.out); (case aL => have := hL.out; omega); intro v1 w8 ho hb8 hg hat; have hP8 := Aside0.mk (tlc_append (Nat.le_refl _) HH.out hg ho); have hO := Aside0.mk ho; have hx8 := hP8.out.1; have y0 : w8.cell? ⟨Bx, 0, none⟩ = some (.int .i64 x.f0) := (blk_cell hx8 0).trans rfl; have y1 : w8.cell? ⟨Bx, 1, none⟩ = some (.string x.f1) := (blk_cell hx8 1).trans rfl; have lx8 := blk_lt hx8; clear hx8 ho hb8 hg hat) | (go_at_call 50; refine (coi_c w.heap.size w1.heap.size Bp Bi r _ (co_vars hV1.out hE (hP8.out.2.2.trans (ZTk_Fr.alloc _ _))) hE (hP8.out.2.1.same (fun k hk hlt => Below.heap_alloc _ _ _ hlt)) hs1.out (by have := hP8.out.2.2.size; simp; omega)).mono ?_; rintro e w9 ⟨rfl, hC9, hF9⟩; have b9 := tlc_box (Nat.le_refl _) hP8.out.2.2 (.cells #[.int .i64 x.f0, .string x.f1] 51) hF9; have z0 : w9.cell? ⟨w8.heap.size, 0, none⟩ = some (.int .i64 x.f0) := (blk_cell b9 0).trans rfl; have z1 : w9.cell? ⟨w8.heap.size, 1, none⟩ = some (.string x.f1) := (blk_cell b9 1).trans rfl; have zf0 := blk_frozen b9 0; have zf1 := blk_frozen b9 1; have Q1 := Aside0.mk b9; have Q3 := Aside0.mk hC9; have Q4 := Aside0.mk hF9; clear b9 hC9 hF9))
        go_roundg k1
        case measure => omega
        case rel => exact ⟨w8.heap.size, dn ++ [x], r, rfl, ⟨by have := HK.out; simp at this; omega⟩, ⟨tlc_next (Nat.le_refl _) HH.out hP8.out.2.2 hO.out Q1.out Q3.out Q4.out⟩⟩
abbrev ZTk_RT (w : World) (base : Nat) (v : Value) (xs : List ZTk_T) : Prop := Kd.R ZTk_kT 29 w base (fun _ => True) v xs
set_option maxHeartbeats 4000000 in
theorem lit_c (A0 : Option Addr) (n c : Nat) (w : World) : Calls Tryd.prog 17 #[.slice A0 n c] w fun e w' => ∃ cfg, e = .returned (lxV cfg w.heap.size) ∧ Below w.heap.size w w' ∧ w'.heap[w.heap.size]? = some (.cells #[.slice A0 n c] 22 (0, 0)) := by
  have hmf : ∀ (fn : Fn) (first cap : Array Value) (w : World), (Instr.makeFunc fn first cap).run Tryd.prog w = .ok (.func fn first cap) w := fun _ _ _ _ => rfl
  go_enter Tryd.func17, Tryd.ntmps17
  go_wp2
  go_ret
  exact ⟨_, rfl, ((Below.refl w.heap.size w).alloc (Nat.le_refl _) _).alloc (by simp) _, blk_alloc (blk_new w _) _⟩
set_option maxHeartbeats 4000000 in
theorem co_c (x : Value) (tx : TypeId) (w : World) : Calls Tryd.prog 16 #[.iface tx x] w fun e w' => e = .returned (.iface 60 (.pointer (some ⟨w.heap.size, 0, none⟩))) ∧ w' = w.alloc (.cells #[.iface tx x] 62) := by
  go_enter Tryd.func16, Tryd.ntmps16
  go_wp2
  go_ret
  exact ⟨rfl, rfl⟩
set_option maxHeartbeats 4000000 in
theorem lexed_c (Br Bk : Nat) (A0 : Option Addr) (c0 : Nat) (l : List ZTk_T) (s : ByteArray) (w : World) (cfg : Option Addr) (hV : Go.Proofs.YtgpamoanclhbhaaDoorFmt.VarsOK w) (h : TokB w Bk A0 c0 l) (hl : l.length ≤ 90000) (hz : ∀ x ∈ l, x.f0 ≠ 0) (hs : szL (l.map toCC) ≤ 8191) (hr : w.heap[Br]? = some (.cells #[lxV cfg Bk] 62 (0, 0))) :
    Calls Tryd.prog 15 #[.iface 60 (.pointer (some ⟨Br, 0, none⟩)), .string s] w fun e w' => ∃ v, e = .returned (.tuple #[v, .bool true]) ∧ ZTk_RT w' w.heap.size v ((runsL ZTk_eof (l.map toCC)).map toTT) ∧ Below w.heap.size w w' := by
  have hnn : ∀ (w : World), (Go.binOp .neq 56 .nilIface .nilIface).run Tryd.prog w = .ok (.bool false) w := fun w => run_neq_nil_nil (P := Tryd.prog) w 56 (by kernel_rfl)
  have HT := Aside0.mk (tk_c Br Bk A0 c0 l s w cfg hV h hl hz hs hr)
  have hlen := runsL_len (l.map toCC) ZTk_eof
  rw [List.length_map] at hlen
  obtain ⟨k, hk⟩ := outer_some (runsL ZTk_eof (l.map toCC)) (by omega)
  clear h hr hs hz hlen
  go_enter Tryd.func15, Tryd.ntmps15
  go_wp2_with (first | (go_at_call 24; refine HT.out.mono ?_; rintro e w1 ⟨v1, rfl, hR1, hB1⟩; obtain ⟨A1, c1, rfl⟩ := Kd.R_slice hR1; have hq := Kd.R_reads' hR1; have HQ := Aside0.mk hq; have HR1 := Aside0.mk hR1; have HB1 := Aside0.mk hB1; clear hq hR1 hB1) | (go_at_call 25; refine (impl_outer.calls k A1 c1 _ _ _ HQ.out.2.2 HQ.out.2.1 hk).mono ?_; rintro e w2 ⟨v2, rfl, hR2, hB2⟩; have HR2 := Aside0.mk hR2; have HB2 := Aside0.mk hB2; clear hR2 hB2))
  go_ret2
  exact ⟨_, rfl, Kd.R_lower HR2.out HB1.out.size, below_step HB1.out HB2.out⟩
set_option maxHeartbeats 4000000 in
theorem coaltok_c (A0 : Option Addr) (c0 : Nat) (l : List ZTk_T) (w : World) (hV : Go.Proofs.YtgpamoanclhbhaaDoorFmt.VarsOK w) (hr0 : Kd.C ZTk_kT w A0 l.length l) (hc0 : l.length ≤ c0) (hl : l.length ≤ 90000) (hz : ∀ x ∈ l, x.f0 ≠ 0) (hs : szL (l.map toCC) ≤ 8191) :
    Calls Tryd.prog 9 #[.slice A0 l.length c0] w fun e w' => ∃ v : Value, e = .returned v ∧ ZTk_RT w' w.heap.size v ((runsL ZTk_eof (l.map toCC)).map toTT) ∧ Below w.heap.size w w' := by
  have HC := Aside0.mk (And.intro hr0 hc0)
  have HZ := Aside0.mk (And.intro hz hs)
  have hE := vars_lt hV
  have HV := Aside0.mk hV
  clear hr0 hc0 hz hs hV
  go_enter Tryd.func9, Tryd.ntmps9
  go_wp2_with (first | (go_at_call 17; refine (lit_c _ _ _ _).mono ?_; rintro e w1 ⟨cfg, rfl, hP⟩; have HP := Aside0.mk hP; clear hP) | (go_at_call 16; refine (co_c _ _ _).mono ?_; rintro e w2 ⟨rfl, rfl⟩) | (go_at_call 15; refine (lexed_c w1.heap.size w.heap.size A0 c0 l _ _ cfg (vars_kept HV.out ((Below.heap_alloc _ _ _ (Nat.lt_of_lt_of_le hE HP.out.1.size)).trans (HP.out.1.block _ hE))) (TokB.below ⟨HP.out.2, Kd.C_below HC.out.1 HP.out.1, HC.out.2⟩ ((Below.refl _ _).alloc (Nat.le_refl _) _)) hl HZ.out.1 HZ.out.2 (blk_new _ _)).mono ?_; rintro e w3 ⟨v3, rfl, hQ⟩; have HQ := Aside0.mk hQ; clear hQ))
  go_ret
  have s1 := HP.out.1.size
  exact ⟨_, rfl, Kd.R_lower HQ.out.1 (by simp; omega), below_step (HP.out.1.alloc s1 _) HQ.out.2⟩
abbrev Ch := S34
/-- What the mapper makes of a token. -/
def mapF (cs : List Ch) (t : ZTk_C) : List ZTk_C :=
  match cs with
  | [] => [t]
  | x :: r => if x.f0 = t.f0 then x.f1.map toCC else mapF r t
/-- Block Bc holds a slice of changes. -/
structure ChgB (w : World) (Bc : Nat) (A0 : Option Addr) (c0 : Nat) (cs : List Ch) : Prop where
  bk : w.heap[Bc]? = some (.cells #[.slice A0 cs.length c0] 31 (0, 0))
  hC : Kd.C k34 w A0 cs.length cs
  hc : cs.length ≤ c0
theorem ChgB.below {w w' : World} {Bk : Nat} {A0 : Option Addr} {c0 : Nat} {l : List Ch} (h : ChgB w Bk A0 c0 l) (hB : Below w.heap.size w w') : ChgB w' Bk A0 c0 l :=
  ⟨(hB.block _ (blk_lt h.bk)).trans h.bk, Kd.C_below h.hC hB, h.hc⟩
theorem one_row (W : World) (base : Nat) (t : ZTk_C) (hb : base ≤ W.heap.size) : ZTk_RC (W.alloc (.cells #[.int .i64 t.f0, .string t.f1] 51)) base (.slice (some ⟨W.heap.size, 0, none⟩) 1 1) [t] :=
  ⟨fun _ _ => trivial, [.int .i64 t.f0, .string t.f1], ⟨rfl, .inr ⟨W.heap.size, 1, _, rfl, hb, blk_new _ _, Nat.le_refl _, by decide, rfl, rfl⟩⟩, Reps.c2 (k51_mkM _ _ _ t) (Reps.none _ _)⟩
structure ML (cs : List Ch) (t : ZTk_C) (w wr : World) (i : Nat) : Prop where
  hB : Below w.heap.size w wr
  hb : wr.heap[w.heap.size]? = some (.cells #[.int .i64 t.f0, .string t.f1] 51 (0, 0))
  eq : mapF (cs.drop i) t = mapF cs t
theorem rd_mem {cs : List Ch} {x : Int} (h0 : 0 ≤ x) (h1 : x < cs.length) : cs.drop x.toNat = rd_T34 cs x :: cs.drop (x.toNat + 1) ∧ rd_T34 cs x ∈ cs := by
  have h : x.toNat < cs.length := by omega
  have e : rd_T34 cs x = cs[x.toNat] := by simp [rd_T34, List.getD_eq_getElem?_getD, h]
  rw [e]
  exact ⟨List.drop_eq_getElem_cons h, List.getElem_mem h⟩
set_option maxRecDepth 100000 in
set_option maxHeartbeats 8000000 in
theorem map_c (Bc : Nat) (A0 : Option Addr) (c0 : Nat) (cs : List Ch) (t : ZTk_C) (w : World) (h : ChgB w Bc A0 c0 cs) (hl : cs.length ≤ 1000) (hn : ∀ x ∈ cs, x.f1.length ≤ 100000) :
    Calls Tryd.prog 22 #[.agg #[.int .i64 t.f0, .string t.f1], .pointer (some ⟨Bc, 0, none⟩)] w fun e w' => ∃ v : Value, e = .returned v ∧ ZTk_RC w' w.heap.size v (mapF cs t) ∧ Below w.heap.size w w' := by
  have hu := Tryd.underlying51
  have hu2 := Tryd.underlying34
  have b0 : w.cell? ⟨Bc, 0, none⟩ = some (.slice A0 cs.length c0) := (blk_cell h.bk 0).trans rfl
  have lb := blk_lt h.bk
  have H := Aside0.mk h
  clear h
  go_enter Tryd.func22, Tryd.ntmps22
  go_wp2
  go_loopg [8] (cs.length + 1) (fun kq v8 wr => ∃ (x8 : Int), v8 = .int .i64 x8 ∧ Aside0 (0 ≤ x8 ∧ x8 ≤ cs.length ∧ cs.length - x8.toNat < kq) ∧ Aside0 (ML cs t w wr x8.toNat))
  case atStart => exact ⟨0, rfl, ⟨by omega, by omega, by simp⟩, ⟨⟨(Below.refl _ _).alloc (Nat.le_refl _) _, blk_new _ _, rfl⟩⟩⟩
  case round =>
    obtain ⟨x8, rfl, HK, HH⟩ := hrel
    cases gk with
    | zero => have := HK.out; omega
    | succ k1 =>
      have t0 : wr.cell? ⟨w.heap.size, 0, none⟩ = some (.int .i64 t.f0) := (blk_cell HH.out.hb 0).trans rfl
      have t1 : wr.cell? ⟨w.heap.size, 1, none⟩ = some (.string t.f1) := (blk_cell HH.out.hb 1).trans rfl
      have lt0 := blk_lt HH.out.hb
      by_cases hlt : x8 < (cs.length : Int)
      · have hx0 : 0 ≤ x8 := HK.out.1
        have c2b0 : decide (x8 < (cs.length : Int)) = true := decide_eq_true hlt
        have c3b0 : decide (0 ≤ x8) = true := decide_eq_true hx0
        have hCw := Kd.C_below H.out.hC HH.out.hB
        obtain ⟨ad, A1, c1, e, hy0, hy1, hlr, hCr⟩ := at_T34 hCw x8 hx0 hlt
        cases e
        obtain ⟨hdr, hmem⟩ := rd_mem hx0 hlt
        have hnr := hn _ hmem
        have HD := Aside0.mk hdr
        have hla := World.block_lt_of_cell? wr _ hy0
        have hCr' := Aside0.mk hCr
        have hlr' := Aside0.mk hlr
        have hwr : wrap64 (x8 + 1) = x8 + 1 := by unfold wrap64; omega
        have p1 := eq_true hx0
        have q1 := eq_true hlt
        generalize hrow : rd_T34 cs x8 = row at *
        obtain ⟨kk, hkk⟩ := inner_some row.f1 (by omega)
        clear hCw hCr hlr hx0 hlt hdr hmem hnr
        by_cases hf : row.f0 = t.f0
        · have hqx : (row.f0 == t.f0) = true := beq_iff_eq.2 hf
          have HB1 : Aside0 (∀ o, Below w.heap.size w (wr.alloc o)) := ⟨fun o => HH.out.hB.alloc HH.out.hB.size o⟩
          go_wp2_with (go_at_call 23; refine (impl_inner.calls kk A1 c1 row.f1 _ _ (Kd.C_below hCr'.out ((Below.refl _ _).alloc (Nat.le_refl _) _)) hlr'.out hkk).mono ?_; rintro e w2 ⟨vi, rfl, hR2, hB2⟩; have G1 := Aside0.mk hR2; have G2 := Aside0.mk hB2; clear hR2 hB2)
          go_ret
          have e1 : mapF cs t = row.f1.map toCC := by
            rw [← HH.out.eq, HD.out]
            show (if row.f0 = t.f0 then row.f1.map toCC else _) = _
            rw [if_pos hf]
          exact ⟨_, rfl, by rw [e1]; exact Kd.R_lower G1.out (HB1.out _).size, below_step (HB1.out _) G2.out⟩
        · have hqx : (row.f0 == t.f0) = false := beq_eq_false_iff_ne.2 hf
          have HN : Aside0 (ML cs t w (wr.alloc (.cells #[.int .i64 row.f0, .slice A1 row.f1.length c1] 34)) (x8.toNat + 1)) := ⟨⟨HH.out.hB.alloc HH.out.hB.size _, blk_alloc HH.out.hb _, by
            rw [← HH.out.eq, HD.out]
            show _ = (if row.f0 = t.f0 then row.f1.map toCC else mapF (cs.drop (x8.toNat + 1)) t)
            rw [if_neg hf]⟩⟩
          go_wp2
          go_roundg k1
          case measure => omega
          case rel =>
            have hk := HK.out
            have e1 : (wrap64 (x8 + 1)).toNat = x8.toNat + 1 := by rw [hwr]; omega
            refine ⟨wrap64 (x8 + 1), rfl, ⟨by rw [hwr]; have := of_eq_true q1; omega⟩, ?_⟩
            rw [e1]
            exact HN
      · have hxe : x8.toNat = cs.length := by have := HK.out; omega
        have c2b0 : decide (x8 < (cs.length : Int)) = false := decide_eq_false hlt
        go_wp2
        go_ret
        have e1 : mapF cs t = [t] := by
          rw [← HH.out.eq, hxe, List.drop_eq_nil_of_le (Nat.le_refl _)]
          rfl
        exact ⟨_, rfl, by rw [e1]; exact one_row wr _ t HH.out.hB.size, HH.out.hB.alloc HH.out.hB.size _⟩
/-- What a call of the mapper hands back, laid into the buffer's block. -/
theorem lit_set {w : World} {base Bb Bn t : Nat} {cs : Array Value} {u v : Value} {l : List ZTk_C} (h : ZTk_RC w base v l) (hu : w.heap[Bb]? = some (.cells #[u] 52 (0, 0))) (hN : w.heap[Bn]? = some (.cells cs t (0, 0))) (hBn : Bn ≠ Bb) (t1 : 22 ≠ t) (t2 : 29 ≠ t) :
    ∃ g, LitAt (w.setCell ⟨Bb, 0, none⟩ v) Bb g l ∧ g < w.heap.size ∧ (g = Bn ∨ base ≤ g) := by
  obtain ⟨A, c, rfl⟩ := Kd.R_slice h
  obtain ⟨_, hc, hC⟩ := Kd.R_reads' h
  have hb := blk_lt hN
  have far : ∀ k, k ≠ Bb → (w.setCell ⟨Bb, 0, none⟩ (.slice A l.length c)).heap[k]? = w.heap[k]? := fun k hk => Below.heap_setCell _ ⟨Bb, 0, none⟩ _ k hk
  by_cases hne : l = []
  · exact ⟨Bn, ⟨A, c, blk_put hu 0 _ rfl, hc, ⟨_, _, (far _ hBn).trans hN, t1, t2⟩, hBn, fun h => absurd hne h⟩, hb, .inl rfl⟩
  have hpos : 0 < l.length := List.length_pos_iff.2 hne
  obtain ⟨g, cap, e, hbg, hlt, cs, hcs⟩ := Kd.R_form h hpos
  injection e with e _ _
  subst e
  have hgb : g ≠ Bb := blk_ne' hcs hu (by decide)
  refine ⟨g, ⟨some ⟨g, 0, none⟩, c, blk_put hu 0 _ rfl, hc, ⟨cs, _, (far _ hgb).trans hcs, by decide, by decide⟩, hgb, fun _ => ⟨0, rfl, fun i hi => ?_⟩⟩, hlt, .inr hbg⟩
  obtain ⟨ad, e1, h0, h1⟩ := at_T51 hC (i : Int) (by omega) (by omega)
  injection e1 with e1
  subst e1
  have rdC : rd_T51 l (i : Int) = l[i] := by simp [rd_T51, List.getD_eq_getElem?_getD, hi]
  rw [rdC] at h0 h1
  have q : ∀ a : Addr, a.block = g → (w.setCell ⟨Bb, 0, none⟩ (.slice (some ⟨g, 0, none⟩) l.length c)).cell? a = w.cell? a := fun a ha => World.cell?_of_block (by rw [ha]; exact far _ hgb)
  rw [q _ rfl, q _ rfl]
  have eA : (⟨g, 0, none⟩ : Addr).add ((i : Int).toNat * 2) = ⟨g, 0 + 2 * i, none⟩ := by
    rw [Int.toNat_natCast, Nat.mul_comm, Addr.add_lit]
  rw [eA] at h0 h1
  exact ⟨h0, h1⟩
/-- A remapping lexer's iterator: the buffer (blocks Bb, gb), the iterator under it (blocks Bi, Bt, g), the receiver (block Bq). -/
structure RmAt (W : World) (b0 b1 Bb Bi Bq Br Bt g gb : Nat) (buf l : List ZTk_C) : Prop where
  buf : LitAt W Bb gb buf
  it : W.heap[Bi]? = some (.cells #[ZTk_itV Bt] 79 (0, 0))
  bq : W.heap[Bq]? = some (.cells #[.pointer (some ⟨Br, 0, none⟩)] 74 (0, 0))
  lit : LitAt W Bt g l
  nb : b0 ≤ Bb ∧ Bb < b1
  ni : Bi < b1
  nq : Bq < b1
  nt : b0 ≤ Bt ∧ Bt < b1
  ng : g < b1
  bt : Bb ≠ Bt
  gB : g ≠ Bb
  gT : gb ≠ Bt
theorem RmAt.same {W W' : World} {b0 b1 Bb Bi Bq Br Bt g gb : Nat} {buf l : List ZTk_C} (h : RmAt W b0 b1 Bb Bi Bq Br Bt g gb buf l) (hk : ∀ k, k < b1 → k < W.heap.size → W'.heap[k]? = W.heap[k]?) (hg : W'.heap[gb]? = W.heap[gb]?) : RmAt W' b0 b1 Bb Bi Bq Br Bt g gb buf l :=
  ⟨h.buf.same (hk _ h.nb.2 h.buf.lt) hg, (hk _ h.ni (blk_lt h.it)).trans h.it, (hk _ h.nq (blk_lt h.bq)).trans h.bq, h.lit.same (hk _ h.nt.2 h.lit.lt) (hk _ h.ng (lit_g h.lit)), h.nb, h.ni, h.nq, h.nt, h.ng, h.bt, h.gB, h.gT⟩
/-- Behind a call of the iterator. -/
theorem RmAt.next {W W' : World} {b0 b1 Bb Bi Bq Br Bt g gb : Nat} {buf l : List ZTk_C} (h : RmAt W b0 b1 Bb Bi Bq Br Bt g gb buf l) (hg : W.grownBy W' (some Bt)) (hl : LitAt W' Bt g l.tail) : RmAt W' b0 b1 Bb Bi Bq Br Bt g gb buf l.tail := by
  obtain ⟨A, c, hB⟩ := lit_cell h.lit
  have n1 : Bi ≠ Bt := blk_ne' h.it hB (by decide)
  have n2 : Bq ≠ Bt := blk_ne' h.bq hB (by decide)
  exact ⟨h.buf.same (hg.block _ h.buf.lt (fun e => h.bt (by injection e))) (hg.block _ (lit_g h.buf) (fun e => h.gT (by injection e))), (hg.block _ (blk_lt h.it) (fun e => n1 (by injection e))).trans h.it, (hg.block _ (blk_lt h.bq) (fun e => n2 (by injection e))).trans h.bq, hl, h.nb, h.ni, h.nq, h.nt, h.ng, h.bt, h.gB, h.gT⟩
/-- Behind a store into the buffer's block. -/
theorem RmAt.put {W : World} {b0 b1 Bb Bi Bq Br Bt g gb g' : Nat} {buf buf' l : List ZTk_C} {v : Value} (h : RmAt W b0 b1 Bb Bi Bq Br Bt g gb buf l) (hl : LitAt (W.setCell ⟨Bb, 0, none⟩ v) Bb g' buf') (hg : g' ≠ Bt) : RmAt (W.setCell ⟨Bb, 0, none⟩ v) b0 b1 Bb Bi Bq Br Bt g g' buf' l := by
  obtain ⟨A, c, hB⟩ := lit_cell h.buf
  have far : ∀ k, k ≠ Bb → (W.setCell ⟨Bb, 0, none⟩ v).heap[k]? = W.heap[k]? := fun k hk => Below.heap_setCell _ ⟨Bb, 0, none⟩ _ k hk
  exact ⟨hl, (far _ (blk_ne' h.it hB (by decide))).trans h.it, (far _ (blk_ne' h.bq hB (by decide))).trans h.bq, h.lit.same (far _ (fun e => h.bt e.symm)) (far _ h.gB), h.nb, h.ni, h.nq, h.nt, h.ng, h.bt, h.gB, hg⟩
def rmL (cs : List Ch) (buf l : List ZTk_C) : List ZTk_C := buf ++ l.flatMap (mapF cs)
/-- While the closure runs. -/
structure RI (b0 b1 Bb Bi Bq Br Bt g gb : Nat) (cs : List Ch) (xs : List ZTk_C) (w : World) (gb' : Nat) (buf l : List ZTk_C) (wr : World) : Prop where
  eq : rmL cs buf l = xs
  at_ : RmAt wr b0 b1 Bb Bi Bq Br Bt g gb' buf l
  hr : wr.heap[w.heap.size]? = some (.cells #[.int .i64 0, .string ⟨#[]⟩] 51 (0, 0))
  hF : ZTk_Fr b0 b1 w wr
  gn : gb' = gb ∨ w.heap.size < gb'
  nz : ∀ x ∈ l, x.f0 ≠ 0
theorem rm_fin {b0 b1 Bb Bi Bq Br Bt g gb : Nat} {buf l : List ZTk_C} {w W : World} (hb : b1 ≤ w.heap.size) (hF : ZTk_Fr b0 b1 w W) {cs : Array Value} (hr : W.heap[w.heap.size]? = some (.cells cs 51 (0, 0))) (hcs : cs.size = 2) (h : RmAt W b0 b1 Bb Bi Bq Br Bt g gb buf l) (hg : gb ≠ w.heap.size) (t : ZTk_C) (ob : Obj) :
    (((W.setCell ⟨w.heap.size, 0, none⟩ (.int .i64 t.f0)).setCell ⟨w.heap.size, 1, none⟩ (.string t.f1)).alloc ob).heap[w.heap.size]? = some (.cells #[.int .i64 t.f0, .string t.f1] 51 (0, 0)) ∧
    RmAt (((W.setCell ⟨w.heap.size, 0, none⟩ (.int .i64 t.f0)).setCell ⟨w.heap.size, 1, none⟩ (.string t.f1)).alloc ob) b0 b1 Bb Bi Bq Br Bt g gb buf l ∧ ZTk_Fr b0 b1 w (((W.setCell ⟨w.heap.size, 0, none⟩ (.int .i64 t.f0)).setCell ⟨w.heap.size, 1, none⟩ (.string t.f1)).alloc ob) := by
  have far : ∀ k, k ≠ w.heap.size → k < W.heap.size → (((W.setCell ⟨w.heap.size, 0, none⟩ (.int .i64 t.f0)).setCell ⟨w.heap.size, 1, none⟩ (.string t.f1)).alloc ob).heap[k]? = W.heap[k]? := fun k hk hlt =>
    (Below.heap_alloc _ ob k (by rw [World.size_setCell, World.size_setCell]; exact hlt)).trans ((Below.heap_setCell _ ⟨w.heap.size, 1, none⟩ _ k hk).trans (Below.heap_setCell _ ⟨w.heap.size, 0, none⟩ _ k hk))
  have hsz := hF.size
  refine ⟨blk_alloc (blk_put (blk_put hr 0 _ rfl) 1 _ ?_) _, h.same (fun k hk hlt => far k (by omega) hlt) (far _ hg (lit_g h.buf)), ⟨hF.os, hF.tape, hF.output, ?_, fun k hk hkb => (far k (by omega) (by omega)).trans (hF.block k hk hkb)⟩⟩
  · obtain ⟨x, y, rfl⟩ : ∃ x y, cs = #[x, y] := by
      obtain ⟨l⟩ := cs
      match l, hcs with
      | [a, b], _ => exact ⟨a, b, rfl⟩
    rfl
  · simp; omega
/-- The buffer gives a token. -/
theorem rm_pop {b0 b1 Bb Bi Bq Br Bt g gb gb' o c c' : Nat} {cs : List Ch} {xs : List ZTk_C} {x : ZTk_C} {b l : List ZTk_C} {w wr : World} {A A' : Option Addr} (hb : b1 ≤ w.heap.size) (hgb : gb < w.heap.size) (H : RI b0 b1 Bb Bi Bq Br Bt g gb cs xs w gb' (x :: b) l wr)
    (a1 : wr.heap[Bb]? = some (.cells #[.slice A (x :: b).length c] 52 (0, 0))) (hT : ZTk_Toks wr gb' o (x :: b)) (hc : b.length ≤ c') (hA : b ≠ [] → A' = some ⟨gb', o + 2, none⟩) (ob : Obj) :
    ((((wr.setCell ⟨Bb, 0, none⟩ (.slice A' b.length c')).setCell ⟨w.heap.size, 0, none⟩ (.int .i64 x.f0)).setCell ⟨w.heap.size, 1, none⟩ (.string x.f1)).alloc ob).heap[w.heap.size]? = some (.cells #[.int .i64 x.f0, .string x.f1] 51 (0, 0)) ∧
    RmAt ((((wr.setCell ⟨Bb, 0, none⟩ (.slice A' b.length c')).setCell ⟨w.heap.size, 0, none⟩ (.int .i64 x.f0)).setCell ⟨w.heap.size, 1, none⟩ (.string x.f1)).alloc ob) b0 b1 Bb Bi Bq Br Bt g gb' b l ∧
    ZTk_Fr b0 b1 w ((((wr.setCell ⟨Bb, 0, none⟩ (.slice A' b.length c')).setCell ⟨w.heap.size, 0, none⟩ (.int .i64 x.f0)).setCell ⟨w.heap.size, 1, none⟩ (.string x.f1)).alloc ob) := by
  obtain ⟨A2, c2, _, _, ⟨cs3, t3, a3, a6, a7⟩, a4, _⟩ := H.at_.buf
  have far : ∀ k, k ≠ Bb → (wr.setCell ⟨Bb, 0, none⟩ (.slice A' b.length c')).heap[k]? = wr.heap[k]? := fun k hk => Below.heap_setCell _ ⟨Bb, 0, none⟩ _ k hk
  have hl : LitAt (wr.setCell ⟨Bb, 0, none⟩ (.slice A' b.length c')) Bb gb' b := ⟨A', c', blk_put a1 0 _ rfl, hc, ⟨cs3, t3, (far _ a4).trans a3, a6, a7⟩, a4, fun hl => ⟨o + 2, hA hl, hT.tail.same (far _ a4)⟩⟩
  have n1 := H.at_.nb
  have hp := H.at_.put hl H.at_.gT
  exact rm_fin hb (H.hF.trans (ZTk_Fr.set wr 0 _ n1.1 n1.2)) ((far _ (by omega)).trans H.hr) rfl hp (by have := H.gn; omega) x ob
theorem ZTk_Fr.of_below {b0 b1 : Nat} {w w' : World} (h : Below w.heap.size w w') : ZTk_Fr b0 b1 w w' := ⟨h.os, h.tape, h.output, h.size, fun k hk _ => h.block k hk⟩
/-- The mapper has filled the buffer. -/
theorem rm_back {b0 b1 Bb Bi Bq Br Bt g gb gb' : Nat} {cs : List Ch} {xs : List ZTk_C} {y : ZTk_C} {r : List ZTk_C} {w wr w8 w9 : World} {v : Value} (hb : b1 ≤ w.heap.size) (H : RI b0 b1 Bb Bi Bq Br Bt g gb cs xs w gb' [] (y :: r) wr)
    (hF8 : ZTk_Fr b0 b1 w w8) (hA8 : RmAt w8 b0 b1 Bb Bi Bq Br Bt g gb' [] r) (hR8 : w8.heap[w.heap.size]? = some (.cells #[.int .i64 0, .string ⟨#[]⟩] 51 (0, 0))) (hR9 : ZTk_RC w9 w8.drew.heap.size v (mapF cs y)) (hB9 : Below w8.drew.heap.size w8.drew w9) :
    ∃ A c, w9.heap[Bb]? = some (.cells #[.slice A 0 c] 52 (0, 0)) ∧ w9.frozen? ⟨Bb, 0, none⟩ = false ∧ Bb < w9.heap.size ∧ ∃ g', RI b0 b1 Bb Bi Bq Br Bt g gb cs xs w g' (mapF cs y) r (w9.setCell ⟨Bb, 0, none⟩ v) := by
  have hlt := blk_lt hR8
  have hk : ∀ k, k < w8.heap.size → w9.heap[k]? = w8.heap[k]? := fun k hk => hB9.block k hk
  have hA9 : RmAt w9 b0 b1 Bb Bi Bq Br Bt g gb' [] r := hA8.same (fun k _ h => hk k h) (hk _ (lit_g hA8.buf))
  obtain ⟨A, c, a1, a2, ⟨cs3, t3, a3, a6, a7⟩, a4, a5⟩ := hA9.buf
  obtain ⟨g', hl, hg1, hg2⟩ := lit_set hR9 a1 a3 a4 a6 a7
  have hg2 : g' = gb' ∨ w8.heap.size ≤ g' := hg2
  have hnt := hA8.lit.lt
  have n1 := hA8.nb
  refine ⟨A, c, a1, blk_frozen a1 0, blk_lt a1, g', ?_, hA9.put hl ?_, ?_, ?_, ?_, fun x hx => H.nz x (List.mem_cons_of_mem _ hx)⟩
  · rw [← H.eq]
    simp [rmL]
  · rcases hg2 with e | e
    · rw [e]; exact hA8.gT
    · omega
  · exact (Below.heap_setCell _ ⟨Bb, 0, none⟩ _ _ (by show w.heap.size ≠ Bb; omega)).trans ((hk _ hlt).trans hR8)
  · exact (hF8.trans (ZTk_Fr.of_below (Below.trans (Below.refl w8.heap.size w8).drew hB9))).trans (ZTk_Fr.set _ 0 _ n1.1 n1.2)
  · have := H.gn
    rcases hg2 with e | e
    · rw [e]; exact this
    · right; omega
set_option maxRecDepth 100000 in
set_option maxHeartbeats 8000000 in
theorem rm_c (w0 : World) (b1 Bb Bi Bq Br Bt g gb Bc : Nat) (lx : Value) (A0 : Option Addr) (c0 : Nat) (cs : List Ch) (buf l : List ZTk_C) (w : World) (hV : Go.Proofs.YtgpamoanclhbhaaDoorFmt.VarsOK w) (hE : 0 < w0.heap.size) (hch : ChgB w0 Bc A0 c0 cs) (hcl : cs.length ≤ 1000) (hcn : ∀ x ∈ cs, x.f1.length ≤ 100000)
    (hbr : w0.heap[Br]? = some (.cells #[lx, .func (.func 22) #[] #[.pointer (some ⟨Bc, 0, none⟩)]] 76 (0, 0))) (hW : Below w0.heap.size w0 w)
    (h : RmAt w w0.heap.size b1 Bb Bi Bq Br Bt g gb buf l) (hb0 : w0.heap.size ≤ b1) (hb : b1 ≤ w.heap.size) (hz : ∀ x ∈ l, x.f0 ≠ 0) :
    Calls Tryd.prog 63 #[.pointer (some ⟨Bb, 0, none⟩), .pointer (some ⟨Bi, 0, none⟩), .pointer (some ⟨Bq, 0, none⟩)] w fun e w' => e = .returned (.agg #[.int .i64 (ZTk_hd (rmL cs buf l)).f0, .string (ZTk_hd (rmL cs buf l)).f1]) ∧
      ∃ gb' buf' l', RmAt w' w0.heap.size b1 Bb Bi Bq Br Bt g gb' buf' l' ∧ rmL cs buf' l' = (rmL cs buf l).tail ∧ (∀ x ∈ l', x.f0 ≠ 0) ∧ (gb' = gb ∨ w.heap.size < gb') ∧ ZTk_Fr w0.heap.size b1 w w' := by
  have hu := Tryd.underlying51
  have hu2 := Tryd.underlying76
  have HI : Aside0 (RI w0.heap.size b1 Bb Bi Bq Br Bt g gb cs (rmL cs buf l) w gb buf l (w.alloc (.cells #[.int .i64 0, .string ⟨#[]⟩] 51))) :=
    ⟨⟨rfl, h.same (fun k hk hlt => Below.heap_alloc _ _ k hlt) (Below.heap_alloc _ _ _ (lit_g h.buf)), blk_new _ _, ZTk_Fr.alloc _ _, .inl rfl, hz⟩⟩
  have HC := Aside0.mk hch
  have HBr := Aside0.mk hbr
  have HW := Aside0.mk hW
  have HV := Aside0.mk hV
  generalize hxs : rmL cs buf l = xs at HI ⊢
  have hgb : gb < w.heap.size := lit_g h.buf
  clear h hch hbr hW hV hz
  go_enter Tryd.func63, Tryd.ntmps63
  go_wp2
  clear hxs
  go_loopg [5] (l.length + 1) (fun kq v5 wr => ∃ (gb' : Nat) (bf r : List ZTk_C), Aside0 (r.length < kq) ∧ Aside0 (RI w0.heap.size b1 Bb Bi Bq Br Bt g gb cs xs w gb' bf r wr))
  case atStart => exact ⟨gb, buf, l, ⟨Nat.lt_succ_self _⟩, HI⟩
  case round =>
    obtain ⟨gb', bf, r, HK, HH⟩ := hrel
    clear HI
    cases gk with
    | zero => have := HK.out; omega
    | succ k1 =>
      have H := HH.out
      have V := co_vars HV.out hE H.hF
      have v0 := V.e0
      have v1 := V.e1
      have lv := vars_lt V
      have lr := blk_lt H.hr
      have r0 : wr.cell? ⟨w.heap.size, 0, none⟩ = some (.int .i64 0) := (blk_cell H.hr 0).trans rfl
      have r1 : wr.cell? ⟨w.heap.size, 1, none⟩ = some (.string ⟨#[]⟩) := (blk_cell H.hr 1).trans rfl
      have fr0 := blk_frozen H.hr 0
      have fr1 := blk_frozen H.hr 1
      have lB := H.at_.buf.lt
      have hBw : Bb < w.heap.size := Nat.lt_of_lt_of_le H.at_.nb.2 hb
      have nBw : Bb ≠ w.heap.size := by omega
      have nwB : w.heap.size ≠ Bb := by omega
      obtain ⟨A, c, a1, a2, ⟨cs3, t3, a3, a6, a7⟩, a4, a5⟩ := H.at_.buf
      have fB := blk_frozen a1 0
      have lg := blk_lt a3
      cases bf with
      | cons x b =>
        obtain ⟨o, rfl, hT⟩ := a5 (by simp)
        have bc : wr.cell? ⟨Bb, 0, none⟩ = some (.slice (some ⟨gb', o, none⟩) (b.length + 1) c) := (blk_cell a1 0).trans rfl
        have t0 := (hT 0 (by simp)).1
        have t1 := (hT 0 (by simp)).2
        simp only [Nat.mul_zero, Nat.add_zero, List.getElem_cons_zero] at t0 t1
        simp only [List.length_cons] at a2
        have hgt : decide ((b.length : Int) + 1 > 0) = true := decide_eq_true (by omega)
        have hle : (b.length : Int) + 1 ≤ c := by omega
        have hlb : gb' ≠ Bb := a4
        have HT := Aside0.mk hT
        have HA := Aside0.mk a1
        clear H V a5 a1 hT
        go_wp2
        · rename_i hc1
          have hb0 : b = [] := List.eq_nil_of_length_eq_zero (by omega)
          obtain ⟨f1, f2, f3⟩ := rm_pop hb hgb HH.out HA.out HT.out (A' := some ⟨gb', o, none⟩) (c' := 0) (by omega) (fun h => absurd hb0 h) (.cells #[.int .i64 x.f0, .string x.f1] 51)
          exact bodyPost_ret (results_cell_row rfl _ _ w.heap.size 51 #[.int .i64 x.f0, .string x.f1] (0, 0) _ rfl f1 Tryd.underlying51 rfl (by kernel_rfl)) rfl (by
            rw [← HH.out.eq]
            exact ⟨rfl, gb', b, r, f2, rfl, HH.out.nz, HH.out.gn, f3⟩)
        · obtain ⟨f1, f2, f3⟩ := rm_pop hb hgb HH.out HA.out HT.out (A' := some ⟨gb', o + 2, none⟩) (c' := c - 1) (by omega) (fun h => rfl) (.cells #[.int .i64 x.f0, .string x.f1] 51)
          exact bodyPost_ret (results_cell_row rfl _ _ w.heap.size 51 #[.int .i64 x.f0, .string x.f1] (0, 0) _ rfl f1 Tryd.underlying51 rfl (by kernel_rfl)) rfl (by
            rw [← HH.out.eq]
            exact ⟨rfl, gb', b, r, f2, rfl, HH.out.nz, HH.out.gn, f3⟩)
      | nil =>
        have bc : wr.cell? ⟨Bb, 0, none⟩ = some (.slice A 0 c) := (blk_cell a1 0).trans rfl
        have i0 : wr.cell? ⟨Bi, 0, none⟩ = some (.func (.func 57) #[] #[.pointer (some ⟨Bt, 0, none⟩)]) := (blk_cell H.at_.it 0).trans rfl
        have li := blk_lt H.at_.it
        have kn : Aside0 (Calls Tryd.prog 57 #[.pointer (some ⟨Bt, 0, none⟩)] wr fun e w' => e = .returned (.agg #[.int .i64 (ZTk_hd r).f0, .string (ZTk_hd r).f1]) ∧ RmAt w' w0.heap.size b1 Bb Bi Bq Br Bt g gb' [] r.tail ∧ ZTk_Fr w0.heap.size b1 w w' ∧ Go.Proofs.YtgpamoanclhbhaaDoorFmt.VarsOK w' ∧ w'.heap[w.heap.size]? = some (.cells #[.int .i64 0, .string ⟨#[]⟩] 51 (0, 0))) :=
          ⟨(next_c Bt g r wr V H.at_.lit).mono fun e w' h => ⟨h.1, H.at_.next h.2.2.1 h.2.1, H.hF.trans (ZTk_Fr.of_grown h.2.2.1 H.at_.nt.1 H.at_.nt.2), h.2.2.2, (h.2.2.1.block _ lr (fun e => by injection e with e; have := H.at_.nt.2; omega)).trans H.hr⟩⟩
        clear H V a5 a1
        cases r with
        | nil =>
          have kn2 : Aside0 (Calls Tryd.prog 57 #[.pointer (some ⟨Bt, 0, none⟩)] wr fun e w' => e = .returned (.agg #[.int .i64 0, .string ⟨#[]⟩]) ∧ RmAt w' w0.heap.size b1 Bb Bi Bq Br Bt g gb' [] [] ∧ ZTk_Fr w0.heap.size b1 w w' ∧ Go.Proofs.YtgpamoanclhbhaaDoorFmt.VarsOK w' ∧ w'.heap[w.heap.size]? = some (.cells #[.int .i64 0, .string ⟨#[]⟩] 51 (0, 0))) := kn
          clear kn
          go_wp2_with (go_at_call 57; refine kn2.out.mono ?_; rintro e w2 ⟨rfl, hA2, hF2, hV2, hr2⟩; have e0 := hV2.e0; have e1 := hV2.e1; have le := vars_lt hV2; have s0 : w2.cell? ⟨w.heap.size, 0, none⟩ = some (.int .i64 0) := (blk_cell hr2 0).trans rfl; have s1 : w2.cell? ⟨w.heap.size, 1, none⟩ = some (.string ⟨#[]⟩) := (blk_cell hr2 1).trans rfl; have sf0 := blk_frozen hr2 0; have sf1 := blk_frozen hr2 1; have sl := blk_lt hr2; have KA := Aside0.mk hA2; have KF := Aside0.mk hF2; have KR := Aside0.mk hr2; clear hA2 hF2 hV2 hr2)
          obtain ⟨f1, f2, f3⟩ := rm_fin hb KF.out KR.out rfl KA.out (by have := HH.out.gn; omega) ZTk_eof (.cells #[.int .i64 0, .string ⟨#[]⟩] 51)
          exact bodyPost_ret (results_cell_row rfl _ _ w.heap.size 51 #[.int .i64 0, .string ⟨#[]⟩] (0, 0) _ rfl f1 Tryd.underlying51 rfl (by kernel_rfl)) rfl (by
            rw [← HH.out.eq]
            exact ⟨rfl, gb', [], [], f2, rfl, fun x hx => (by cases hx), HH.out.gn, f3⟩)
        | cons y r =>
          have hyz : y.f0 ≠ 0 := HH.out.nz y List.mem_cons_self
          have hyb : (y.f0 == 0) = false := beq_eq_false_iff_ne.2 hyz
          have kn2 : Aside0 (Calls Tryd.prog 57 #[.pointer (some ⟨Bt, 0, none⟩)] wr fun e w' => e = .returned (.agg #[.int .i64 y.f0, .string y.f1]) ∧ RmAt w' w0.heap.size b1 Bb Bi Bq Br Bt g gb' [] r ∧ ZTk_Fr w0.heap.size b1 w w' ∧ Go.Proofs.YtgpamoanclhbhaaDoorFmt.VarsOK w' ∧ w'.heap[w.heap.size]? = some (.cells #[.int .i64 0, .string ⟨#[]⟩] 51 (0, 0))) := kn
          clear kn
          go_wp2_with (go_at_call 57; refine kn2.out.mono ?_; rintro e w2 ⟨rfl, hA2, hF2, hV2, hr2⟩; have e0 := hV2.e0; have e1 := hV2.e1; have le := vars_lt hV2; have sl := blk_lt hr2; have KA := Aside0.mk hA2; have KF := Aside0.mk hF2; have KR := Aside0.mk hr2; have q0 : w2.cell? ⟨Bq, 0, none⟩ = some (.pointer (some ⟨Br, 0, none⟩)) := (blk_cell hA2.bq 0).trans rfl; have lq := blk_lt hA2.bq; clear hA2 hF2 hV2 hr2)
          obtain ⟨w8, h8⟩ : ∃ w8, w8 = w2.alloc (.cells #[.int .i64 y.f0, .string y.f1] 51) := ⟨_, rfl⟩
          rw [← h8]
          have hF8 : ZTk_Fr w0.heap.size b1 w w8 := by rw [h8]; exact KF.out.trans (ZTk_Fr.alloc _ _)
          have hA8 : RmAt w8 w0.heap.size b1 Bb Bi Bq Br Bt g gb' [] r := by rw [h8]; exact KA.out.same (fun k hk hlt => Below.heap_alloc _ _ k hlt) (Below.heap_alloc _ _ _ (lit_g KA.out.buf))
          have hR8 : w8.heap[w.heap.size]? = some (.cells #[.int .i64 0, .string ⟨#[]⟩] 51 (0, 0)) := by rw [h8]; exact blk_alloc KR.out _
          have hy8 : w8.heap[w2.heap.size]? = some (.cells #[.int .i64 y.f0, .string y.f1] 51 (0, 0)) := by rw [h8]; exact blk_new _ _
          have hB8 : Below w0.heap.size w0 w8 := hF8.below HW.out HW.out.size
          have hr8 := (hB8.block Br (blk_lt HBr.out)).trans HBr.out
          obtain ⟨Ab, cb, hb8⟩ := lit_cell hA8.buf
          generalize hn8 : w2.heap.size = n8 at hy8 ⊢
          have k8 : w8.cell? ⟨Br, 1, none⟩ = some (.func (.func 22) #[] #[.pointer (some ⟨Bc, 0, none⟩)]) := (blk_cell hr8 1).trans rfl
          have q8 : w8.cell? ⟨Bq, 0, none⟩ = some (.pointer (some ⟨Br, 0, none⟩)) := (blk_cell hA8.bq 0).trans rfl
          have y0 : w8.cell? ⟨n8, 0, none⟩ = some (.int .i64 y.f0) := (blk_cell hy8 0).trans rfl
          have y1 : w8.cell? ⟨n8, 1, none⟩ = some (.string y.f1) := (blk_cell hy8 1).trans rfl
          have lbr := blk_lt hr8
          have lbq := blk_lt hA8.bq
          have lby := blk_lt hy8
          have hB8d : Aside0 (Below w0.heap.size w0 w8.drew) := ⟨hB8.drew⟩
          have HF8 := Aside0.mk hF8
          have HA8 := Aside0.mk hA8
          have HR8 := Aside0.mk hR8
          have Hb8 := Aside0.mk hb8
          clear hB8 hr8 hF8 hA8 hR8 hy8 hb8 q0 lq h8 KF KA KR hn8 e0 e1 le sl
          go_still_tail 5, (by kernel_rfl)
          change wpList _ _ _ _ _ w8.drew
          go_wp2_with (go_at_call 22; refine (map_c Bc A0 c0 cs y _ (HC.out.below (hB8d.out)) hcl hcn).mono ?_; rintro e w9 ⟨v9, rfl, hR9, hB9⟩; obtain ⟨A8, c8, b9, hfz9, hl9, HN⟩ := (rm_back hb HH.out HF8.out HA8.out HR8.out hR9 hB9); obtain ⟨A9, c9, rfl⟩ := Kd.R_slice hR9; have bc9 := (blk_cell b9 0).trans rfl; clear hR9 hB9 b9)
          go_roundg k1
          case measure => omega
          case rel =>
            obtain ⟨g', hN⟩ := HN
            exact ⟨g', mapF cs y, r, ⟨by have := HK.out; simp at this; omega⟩, ⟨hN⟩⟩
abbrev mpV (Bc : Nat) : Value := .func (.func 22) #[] #[.pointer (some ⟨Bc, 0, none⟩)]
set_option maxRecDepth 100000 in
set_option maxHeartbeats 4000000 in
theorem rt_c (Br Bk Bc : Nat) (A0 : Option Addr) (c0 : Nat) (l : List ZTk_T) (s : ByteArray) (w : World) (cfg : Option Addr) (h : TokB w Bk A0 c0 l) (hl : l.length ≤ 100000) (hr : w.heap[Br]? = some (.cells #[lxV cfg Bk, mpV Bc] 76 (0, 0))) :
    Calls Tryd.prog 62 #[.pointer (some ⟨Br, 0, none⟩), .pointer none, .string s] w fun e w' => ∃ Bb Bi Bq Bt g, e = .returned (.tuple #[.func (.func 63) #[] #[.pointer (some ⟨Bb, 0, none⟩), .pointer (some ⟨Bi, 0, none⟩), .pointer (some ⟨Bq, 0, none⟩)], .nilIface]) ∧ RmAt w' w.heap.size w'.heap.size Bb Bi Bq Br Bt g g [] (l.map toCC) ∧ Below w.heap.size w w' := by
  have hmf : ∀ (fn : Fn) (first cap : Array Value) (w : World), (Instr.makeFunc fn first cap).run Tryd.prog w = .ok (.func fn first cap) w := fun _ _ _ _ => rfl
  have HB := Aside0.mk ((Below.refl w.heap.size w).alloc (Nat.le_refl _) (.cells #[.pointer (some ⟨Br, 0, none⟩)] 74))
  have H := Aside0.mk (h.below HB.out)
  have r0 : w.cell? ⟨Br, 0, none⟩ = some (lxV cfg Bk) := (blk_cell hr 0).trans rfl
  have lr := blk_lt hr
  have hm := meth_g cfg Bk
  have hsf : ∀ (a : Addr) (fn : Fn) (x y : Array Value) (m : Mode) (w : World), (store a (.func fn x y) m).run Tryd.prog w = stored Tryd.prog w a (.func fn x y) m := fun a fn x y m w => run_store Tryd.prog w a _ m rfl
  have hnn : ∀ (w : World), (Go.binOp .neq 56 .nilIface .nilIface).run Tryd.prog w = .ok (.bool false) w := fun w => run_neq_nil_nil (P := Tryd.prog) w 56 (by kernel_rfl)
  clear h hr
  go_enter Tryd.func62, Tryd.ntmps62
  go_wp2_with (go_at_call 55; refine (gt_c Bk A0 c0 l s _ cfg H.out hl).mono ?_; rintro e w4 ⟨Bt, g, rfl, hP⟩; have HP := Aside0.mk hP; clear hP)
  go_ret2
  obtain ⟨hL, hb1, hb2, hb3, hB4⟩ := HP.out
  have hs4 := hB4.size
  rw [World.size_alloc] at hs4 hb1 hb2
  have hlt := hL.lt
  obtain ⟨A3, c3, a1, a2, ⟨cs3, t3, a3, a6, a7⟩, a4, a5⟩ := hL
  have hL : LitAt w4 Bt g (l.map toCC) := ⟨A3, c3, a1, a2, ⟨cs3, t3, a3, a6, a7⟩, a4, a5⟩
  have al : ∀ (o1 o2 : Obj) (k : Nat), k < w4.heap.size → ((w4.alloc o1).alloc o2).heap[k]? = w4.heap[k]? := fun o1 o2 k hk => (Below.heap_alloc _ _ _ (by simp; omega)).trans (Below.heap_alloc _ _ _ hk)
  have hbB : ∀ (o1 o2 : Obj), ((w4.alloc o1).alloc o2).heap[w4.heap.size + 1]? = some o2 := fun o1 o2 => by have h := blk_new (w4.alloc o1) o2; rw [World.size_alloc] at h; exact h
  have hsz : ∀ (o1 o2 : Obj), ((w4.alloc o1).alloc o2).heap.size = w4.heap.size + 2 := fun o1 o2 => by rw [World.size_alloc, World.size_alloc]
  refine ⟨w4.heap.size + 1, w4.heap.size, w.heap.size, Bt, g, rfl, ⟨⟨none, 0, hbB _ _, Nat.le_refl _, ⟨cs3, t3, (al _ _ _ hb3).trans a3, a6, a7⟩, by omega, fun h => absurd rfl h⟩, blk_alloc (blk_new _ _) _, (al _ _ _ (by omega)).trans ((hB4.block w.heap.size (by simp)).trans (blk_new w _)), hL.same (al _ _ _ hlt) (al _ _ _ hb3), ⟨by omega, by rw [hsz]; omega⟩, by rw [hsz]; omega, by rw [hsz]; omega, ⟨by omega, by rw [hsz]; omega⟩, by rw [hsz]; omega, by omega, by omega, a4⟩, ((below_step HB.out hB4).alloc (by omega) _).alloc (by rw [World.size_alloc]; omega) _⟩
def RmI (b0 b1 Bb Bi Bq Br Bt g : Nat) (cs : List Ch) (W : World) (xs : List ZTk_C) (gb : Nat) : Prop :=
  ∃ buf l, RmAt W b0 b1 Bb Bi Bq Br Bt g gb buf l ∧ rmL cs buf l = xs ∧ ∀ x ∈ l, x.f0 ≠ 0
theorem RmI.same {W W' : World} {b0 b1 Bb Bi Bq Br Bt g gb : Nat} {cs : List Ch} {xs : List ZTk_C} (h : RmI b0 b1 Bb Bi Bq Br Bt g cs W xs gb) (hk : ∀ k, k < b1 → k < W.heap.size → W'.heap[k]? = W.heap[k]?) (hg : W'.heap[gb]? = W.heap[gb]?) : RmI b0 b1 Bb Bi Bq Br Bt g cs W' xs gb := by
  obtain ⟨buf, l, h1, h2⟩ := h
  exact ⟨buf, l, h1.same hk hg, h2⟩
theorem RmI.lt {W : World} {b0 b1 Bb Bi Bq Br Bt g gb : Nat} {cs : List Ch} {xs : List ZTk_C} (h : RmI b0 b1 Bb Bi Bq Br Bt g cs W xs gb) : gb < W.heap.size := by
  obtain ⟨buf, l, h1, h2⟩ := h
  exact lit_g h1.buf
structure TLr (b0 b1 Bb Bi Bq Br Bt g : Nat) (cs : List Ch) (ps : List ZTk_C) (w : World) (v : Value) (Bx : Nat) (dn rest : List ZTk_C) (wr : World) : Prop where
  hf : ps = dn ++ rest
  hx : wr.heap[Bx]? = some (.cells #[.int .i64 (ZTk_hd rest).f0, .string (ZTk_hd rest).f1] 51 (0, 0))
  hxo : some Bx ≠ v.ownBlock
  hc : ∃ gb, RmI b0 b1 Bb Bi Bq Br Bt g cs wr rest.tail gb ∧ some gb ≠ v.ownBlock
  hF : ZTk_Fr b0 b1 w wr
  hR : ZTk_RC wr w.heap.size v dn
theorem tlr_append {b0 b1 Bb Bi Bq Br Bt g Bx : Nat} {cs : List Ch} {ps : List ZTk_C} {w wr w8 : World} {v v1 : Value} {dn : List ZTk_C} {x : ZTk_C} {r : List ZTk_C} (hb : b1 ≤ w.heap.size) (H : TLr b0 b1 Bb Bi Bq Br Bt g cs ps w v Bx dn (x :: r) wr) (hg : wr.grownBy w8 v.ownBlock) (ho : ZTk_RC w8 w.heap.size v1 (dn ++ [x])) (hat : v1.ownBlock = v.ownBlock ∨ ∃ b, v1.ownBlock = some b ∧ wr.heap.size ≤ b) :
    w8.heap[Bx]? = some (.cells #[.int .i64 x.f0, .string x.f1] 51 (0, 0)) ∧ (∃ gb, RmI b0 b1 Bb Bi Bq Br Bt g cs w8 r gb ∧ some gb ≠ v1.ownBlock) ∧ ZTk_Fr b0 b1 w w8 := by
  have hsz := H.hF.size
  obtain ⟨gb, hI, hne⟩ := H.hc
  have hgl := hI.lt
  refine ⟨blk_grown H.hx hg H.hxo, ⟨gb, hI.same (fun k hk hlt => hg.block k hlt (fun e => ?_)) (hg.block gb hgl hne), ?_⟩, ⟨hg.os.trans H.hF.os, hg.tape.trans H.hF.tape, hg.output.trans H.hF.output, Nat.le_trans hsz hg.size, fun k hk hkb => (hg.block k (by omega) (fun e => ?_)).trans (H.hF.block k hk hkb)⟩⟩
  · have := Kd.R_base H.hR k e.symm
    omega
  · rcases hat with e | ⟨b, e, hb'⟩
    · rw [e]; exact hne
    · rw [e]; intro e2; injection e2 with e2; omega
  · have := Kd.R_base H.hR k e.symm
    omega
theorem tlr_next {b0 b1 Bb Bi Bq Br Bt g gb gb' Bx : Nat} {cs : List Ch} {ps : List ZTk_C} {w wr w8 w9 : World} {v v1 : Value} {dn : List ZTk_C} {x : ZTk_C} {r : List ZTk_C} (hb : b1 ≤ w.heap.size) (H : TLr b0 b1 Bb Bi Bq Br Bt g cs ps w v Bx dn (x :: r) wr) (hF8 : ZTk_Fr b0 b1 w w8) (ho : ZTk_RC w8 w.heap.size v1 (dn ++ [x])) (hgl : gb < w8.heap.size) (hgo : some gb ≠ v1.ownBlock)
    (b9 : w9.heap[w8.heap.size]? = some (.cells #[.int .i64 x.f0, .string x.f1] 51 (0, 0))) (hC9 : RmI b0 b1 Bb Bi Bq Br Bt g cs w9 r.tail gb') (hgn : gb' = gb ∨ (w8.alloc (.cells #[.int .i64 x.f0, .string x.f1] 51)).heap.size < gb') (hF9 : ZTk_Fr b0 b1 (w8.alloc (.cells #[.int .i64 x.f0, .string x.f1] 51)) w9) :
    TLr b0 b1 Bb Bi Bq Br Bt g cs ps w v1 w8.heap.size (dn ++ [x]) r ((w9.setCell ⟨w8.heap.size, 0, none⟩ (.int .i64 (ZTk_hd r).f0)).setCell ⟨w8.heap.size, 1, none⟩ (.string (ZTk_hd r).f1)) := by
  have h8 := hF8.size
  have h9 := hF9.size
  rw [World.size_alloc] at h9 hgn
  have far : ∀ k, k ≠ w8.heap.size → ((w9.setCell ⟨w8.heap.size, 0, none⟩ (.int .i64 (ZTk_hd r).f0)).setCell ⟨w8.heap.size, 1, none⟩ (.string (ZTk_hd r).f1)).heap[k]? = w9.heap[k]? := fun k hk =>
    (Below.heap_setCell _ ⟨w8.heap.size, 1, none⟩ _ k hk).trans (Below.heap_setCell _ ⟨w8.heap.size, 0, none⟩ _ k hk)
  have hF := (hF8.trans (ZTk_Fr.alloc _ _)).trans hF9
  refine ⟨by rw [H.hf]; simp, blk_put (blk_put b9 0 _ rfl) 1 _ rfl, fun e => ?_, ⟨gb', hC9.same (fun k hk hlt => far k (by omega)) (far _ (by omega)), fun e => ?_⟩, ⟨hF.os, hF.tape, hF.output, by rw [World.size_setCell, World.size_setCell]; exact hF.size, fun k hk hkb => (far k (by omega)).trans (hF.block k hk hkb)⟩, ?_⟩
  · have := Kd.R_lt ho _ e.symm
    omega
  · have := Kd.R_lt ho _ e.symm
    rcases hgn with e2 | e2
    · rw [e2] at e; exact hgo e
    · omega
  · exact Kd.R_mono (Kd.R_step (Kd.R_bound ho) (fun k hk hlt => ((far k (by omega)).trans (hF9.block k (by simp; omega) (.inr (Nat.le_trans hb hk.2.1)))).trans (Below.heap_alloc _ _ k hlt))) (fun _ _ => trivial)
theorem tlr_box {b0 b1 : Nat} {w w8 w9 : World} (hb : b1 ≤ w.heap.size) (hF : ZTk_Fr b0 b1 w w8) (o' : Obj) (h9 : ZTk_Fr b0 b1 (w8.alloc o') w9) : w9.heap[w8.heap.size]? = some o' :=
  (h9.block _ (by simp) (.inr (Nat.le_trans hb hF.size))).trans (blk_new w8 o')
theorem meth_re (Br : Nat) (w : World) : (method 225 74 (.pointer (some ⟨Br, 0, none⟩)) "Tokenise").run Tryd.prog w = .ok (62, .pointer (some ⟨Br, 0, none⟩)) w := by kernel_rfl
set_option maxRecDepth 100000 in
set_option maxHeartbeats 8000000 in
theorem tkr_c (Br Bk Bc : Nat) (A0 : Option Addr) (c0 : Nat) (l : List ZTk_T) (Ac : Option Addr) (cc : Nat) (cs : List Ch) (s : ByteArray) (w : World) (cfg : Option Addr) (hV : Go.Proofs.YtgpamoanclhbhaaDoorFmt.VarsOK w) (h : TokB w Bk A0 c0 l) (hl : l.length ≤ 1000) (hz : ∀ x ∈ l, x.f0 ≠ 0) (hch : ChgB w Bc Ac cc cs) (hcl : cs.length ≤ 1000) (hcn : ∀ x ∈ cs, x.f1.length ≤ 100000) (hcz : ∀ x ∈ cs, ∀ y ∈ x.f1, y.f0 ≠ 0) (hlen : (rmL cs [] (l.map toCC)).length ≤ 900000) (hr : w.heap[Br]? = some (.cells #[lxV cfg Bk, mpV Bc] 76 (0, 0))) :
    Calls Tryd.prog 24 #[.iface 74 (.pointer (some ⟨Br, 0, none⟩)), .pointer none, .string s] w fun e w' => ∃ v, e = .returned (.tuple #[v, .nilIface]) ∧ ZTk_RC w' w.heap.size v (rmL cs [] (l.map toCC)) ∧ Below w.heap.size w w' := by
  have hu := Tryd.underlying51
  have hm := meth_re Br
  have hnn : ∀ (w : World), (Go.binOp .neq 56 .nilIface .nilIface).run Tryd.prog w = .ok (.bool false) w := fun w => run_neq_nil_nil (P := Tryd.prog) w 56 (by kernel_rfl)
  have HK0 := Aside0.mk (rt_c Br Bk Bc A0 c0 l s w cfg h (by omega) hr)
  have hE := vars_lt hV
  have HZ := Aside0.mk hz
  have hmz : ∀ (cs : List Ch), (∀ x ∈ cs, ∀ y ∈ x.f1, y.f0 ≠ 0) → ∀ t : ZTk_C, t.f0 ≠ 0 → ∀ y ∈ mapF cs t, y.f0 ≠ 0 := fun cs => by
    induction cs with
    | nil => intro _ t ht y hy; rw [List.mem_singleton.1 hy]; exact ht
    | cons a r ih =>
      intro hq t ht y hy
      unfold mapF at hy
      split at hy
      · obtain ⟨z, hz, rfl⟩ := List.mem_map.1 hy
        exact hq a List.mem_cons_self z hz
      · exact ih (fun x hx => hq x (List.mem_cons_of_mem _ hx)) t ht y hy
  have hgood : Aside0 (∀ x ∈ rmL cs [] (l.map toCC), x.f0 ≠ 0) := ⟨fun x hx => by
    simp only [rmL, List.nil_append, List.mem_flatMap] at hx
    obtain ⟨t, ht, hx⟩ := hx
    obtain ⟨y, hy, rfl⟩ := List.mem_map.1 ht
    exact hmz cs hcz _ (hz y hy) x hx⟩
  have HLn := Aside0.mk hlen
  have kall : Aside0 (∀ (b1 Bb Bi Bq Bt g gb : Nat) (xs : List ZTk_C) (W : World), Go.Proofs.YtgpamoanclhbhaaDoorFmt.VarsOK W → Below w.heap.size w W → RmI w.heap.size b1 Bb Bi Bq Br Bt g cs W xs gb → w.heap.size ≤ b1 → b1 ≤ W.heap.size →
      Calls Tryd.prog 63 #[.pointer (some ⟨Bb, 0, none⟩), .pointer (some ⟨Bi, 0, none⟩), .pointer (some ⟨Bq, 0, none⟩)] W fun e w' => e = .returned (.agg #[.int .i64 (ZTk_hd xs).f0, .string (ZTk_hd xs).f1]) ∧ ∃ gb', RmI w.heap.size b1 Bb Bi Bq Br Bt g cs w' xs.tail gb' ∧ (gb' = gb ∨ W.heap.size < gb') ∧ ZTk_Fr w.heap.size b1 W w') :=
    ⟨fun b1 Bb Bi Bq Bt g gb xs W hV' hW hI hb0 hb => by
      obtain ⟨buf, l', h1, rfl, h3⟩ := hI
      refine (rm_c w b1 Bb Bi Bq Br Bt g gb Bc _ Ac cc cs buf l' W hV' hE hch hcl hcn hr hW h1 hb0 hb h3).mono ?_
      rintro e w' ⟨rfl, gb', buf', l2, k1, k2, k3, k4, k5⟩
      exact ⟨rfl, gb', ⟨buf', l2, k1, k2, k3⟩, k4, k5⟩⟩
  clear h hr hz hch hcl hcn hcz hlen hmz
  go_enter Tryd.func24, Tryd.ntmps24
  go_wp2_with (first | (go_at_call 62; refine HK0.out.mono ?_; rintro e w1 ⟨Bb, Bi, Bq, Bt, g, rfl, hP⟩; have HP := Aside0.mk hP; clear hP) | (go_at_call 63; refine (kall.out w1.heap.size Bb Bi Bq Bt g g (rmL cs [] (l.map toCC)) w1 (vars_kept hV (HP.out.2.block _ hE)) HP.out.2 ⟨[], _, HP.out.1, rfl, (fun x hx => by obtain ⟨y, hy, rfl⟩ := List.mem_map.1 hx; exact HZ.out y hy)⟩ HP.out.2.size (Nat.le_refl _)).mono ?_; rintro e w2 ⟨rfl, hQ⟩; have HQ := Aside0.mk hQ; clear hQ))
  have hV1 : Aside0 (Go.Proofs.YtgpamoanclhbhaaDoorFmt.VarsOK w1) := ⟨vars_kept hV (HP.out.2.block _ hE)⟩
  have hs1 : Aside0 (w.heap.size ≤ w1.heap.size) := ⟨HP.out.2.size⟩
  have HL : Aside0 (TLr w.heap.size w1.heap.size Bb Bi Bq Br Bt g cs (rmL cs [] (l.map toCC)) w1 (.slice none 0 0) w2.heap.size [] (rmL cs [] (l.map toCC)) (w2.alloc (.cells #[.int .i64 (ZTk_hd (rmL cs [] (l.map toCC))).f0, .string (ZTk_hd (rmL cs [] (l.map toCC))).f1] 51))) := by
    obtain ⟨gb', k1, k2, k3⟩ := HQ.out
    exact ⟨⟨rfl, blk_new _ _, by simp [Value.ownBlock], ⟨gb', k1.same (fun k hk hlt => Below.heap_alloc _ _ _ hlt) (Below.heap_alloc _ _ _ k1.lt), by simp [Value.ownBlock]⟩, k3.trans (ZTk_Fr.alloc _ _), Kd.R_nil _ _ _ _ _⟩⟩
  generalize hxs : rmL cs [] (l.map toCC) = xs at HL hgood HLn ⊢
  clear HQ HZ HK0
  go_loopg [8, 11] (xs.length + 1) (fun kq v8 v11 wr => ∃ (Bx : Nat) (dn rest : List ZTk_C), v11 = .pointer (some ⟨Bx, 0, none⟩) ∧ Aside0 (rest.length < kq) ∧ Aside0 (TLr w.heap.size w1.heap.size Bb Bi Bq Br Bt g cs xs w1 v8 Bx dn rest wr))
  case atStart => exact ⟨_, [], xs, rfl, ⟨Nat.lt_succ_self _⟩, HL⟩
  case round =>
    obtain ⟨Bx, dn, rest, rfl, HK, HH⟩ := hrel
    clear HL
    cases gk with
    | zero => have := HK.out; omega
    | succ k1 =>
      have H := HH.out
      have V := co_vars hV1.out hE H.hF
      have v0 := V.e0
      have v1 := V.e1
      have lv := vars_lt V
      have lx := blk_lt H.hx
      cases rest with
      | nil =>
        have x0 : wr.cell? ⟨Bx, 0, none⟩ = some (.int .i64 0) := (blk_cell H.hx 0).trans rfl
        have x1 : wr.cell? ⟨Bx, 1, none⟩ = some (.string ⟨#[]⟩) := (blk_cell H.hx 1).trans rfl
        clear H V
        go_wp2
        go_ret2
        have H := HH.out
        have hxd : xs = dn := by rw [H.hf, List.append_nil]
        exact ⟨u8, rfl, by rw [hxs, hxd]; exact Kd.R_lower H.hR hs1.out, H.hF.below HP.out.2 hs1.out⟩
      | cons x r =>
        have x0 : wr.cell? ⟨Bx, 0, none⟩ = some (.int .i64 x.f0) := (blk_cell H.hx 0).trans rfl
        have x1 : wr.cell? ⟨Bx, 1, none⟩ = some (.string x.f1) := (blk_cell H.hx 1).trans rfl
        have hxz : x.f0 ≠ 0 := hgood.out x (by rw [H.hf]; simp)
        have hxb : (x.f0 == 0) = false := beq_eq_false_iff_ne.2 hxz
        have hL : Aside0 (dn.length < 1000000) := ⟨by have := congrArg List.length H.hf; have := HLn.out; simp at *; omega⟩
        have hbs : Aside0 (w1.heap.size ≤ wr.heap.size) := ⟨H.hF.size⟩
        clear H V
        go_wp2_with (first | ((with_reducible refine gate_builtin (b := .append) (xs := #[.tmp 29, .tmp 31]) rfl ?_); at_builtin; refine Kd.R_append ZTk_kC (w0 := wr) w1.heap.size rfl (.tmp 29) (.tmp 31) 52 51 (.agg #[(.int .i64 0), (.string ⟨#[]⟩)]) 24 rfl Tryd.underlying52 info51 rfl (by decide) (by omega) u8 dn x [.int .i64 x.f0, .string x.f1] (fun _ => True) (fun _ => False) rfl (by first | (go_simp; done) | (go_simp; rfl)) ?aP (fun _ hk => hk.elim) ?aF ?aO ?aB ?aS ?aL ?_; (case aP => exact k51_mkM _ _ _ x); (case aB => exact Below.refl _ _); (case aF => exact (fun _ _ => trivial)); (case aO => exact HH.out.hR); (case aS => exact hbs.out); (case aL => have := hL.out; omega); intro v1 w8 ho hb8 hg hat; have hP8 := Aside0.mk (tlr_append (Nat.le_refl _) HH.out hg ho hat); have hO := Aside0.mk ho; have hx8 := hP8.out.1; have y0 : w8.cell? ⟨Bx, 0, none⟩ = some (.int .i64 x.f0) := (blk_cell hx8 0).trans rfl; have y1 : w8.cell? ⟨Bx, 1, none⟩ = some (.string x.f1) := (blk_cell hx8 1).trans rfl; have lx8 := blk_lt hx8; clear hx8 ho hb8 hg hat; obtain ⟨gb, hJ⟩ := hP8.out.2.1; have HJ := Aside0.mk hJ; clear hJ) | (go_at_call 63; refine (kall.out w1.heap.size Bb Bi Bq Bt g gb r _ (co_vars hV1.out hE (hP8.out.2.2.trans (ZTk_Fr.alloc _ _))) ((hP8.out.2.2.trans (ZTk_Fr.alloc _ _)).below HP.out.2 hs1.out) (HJ.out.1.same (fun k hk hlt => Below.heap_alloc _ _ _ hlt) (Below.heap_alloc _ _ _ HJ.out.1.lt)) hs1.out (by have := hP8.out.2.2.size; simp; omega)).mono ?_; rintro e w9 ⟨rfl, gb', hC9, hn9, hF9⟩; have b9 := tlr_box (Nat.le_refl _) hP8.out.2.2 (.cells #[.int .i64 x.f0, .string x.f1] 51) hF9; have z0 : w9.cell? ⟨w8.heap.size, 0, none⟩ = some (.int .i64 x.f0) := (blk_cell b9 0).trans rfl; have z1 : w9.cell? ⟨w8.heap.size, 1, none⟩ = some (.string x.f1) := (blk_cell b9 1).trans rfl; have zf0 := blk_frozen b9 0; have zf1 := blk_frozen b9 1; have Q1 := Aside0.mk b9; have Q3 := Aside0.mk hC9; have Q4 := Aside0.mk hF9; have Q5 := Aside0.mk hn9; clear b9 hC9 hF9 hn9))
        go_roundg k1
        case measure => omega
        case rel => exact ⟨w8.heap.size, dn ++ [x], r, rfl, ⟨by have := HK.out; simp at this; omega⟩, ⟨tlr_next (Nat.le_refl _) HH.out hP8.out.2.2 hO.out HJ.out.1.lt HJ.out.2 Q1.out Q3.out Q5.out Q4.out⟩⟩
theorem mapF_len (t : ZTk_C) : ∀ cs : List Ch, (∀ x ∈ cs, x.f1.length ≤ 100) → (mapF cs t).length ≤ 100
  | [], _ => by simp [mapF]
  | a :: r, h => by
    unfold mapF
    split
    · rw [List.length_map]; exact h a List.mem_cons_self
    · exact mapF_len t r (fun x hx => h x (List.mem_cons_of_mem _ hx))
theorem rm_len (cs : List Ch) (h : ∀ x ∈ cs, x.f1.length ≤ 100) : ∀ l : List ZTk_C, (rmL cs [] l).length ≤ l.length * 100
  | [] => by simp [rmL]
  | a :: r => by
    have h1 := mapF_len a cs h
    have h2 := rm_len cs h r
    simp only [rmL, List.nil_append, List.flatMap_cons, List.length_append, List.length_cons] at h2 ⊢
    omega
set_option maxHeartbeats 4000000 in
theorem rl_c (x : Value) (tx : TypeId) (fn : Fn) (u v : Array Value) (w : World) : Calls Tryd.prog 21 #[.iface tx x, .func fn u v] w fun e w' => e = .returned (.iface 74 (.pointer (some ⟨w.heap.size, 0, none⟩))) ∧ w' = w.alloc (.cells #[.iface tx x, .func fn u v] 76) := by
  go_enter Tryd.func21, Tryd.ntmps21
  go_wp2
  go_ret
  exact ⟨rfl, rfl⟩
set_option maxHeartbeats 4000000 in
theorem lexedr_c (Br Bk Bc : Nat) (A0 : Option Addr) (c0 : Nat) (l : List ZTk_T) (Ac : Option Addr) (cc : Nat) (cs : List Ch) (s : ByteArray) (w : World) (cfg : Option Addr) (hV : Go.Proofs.YtgpamoanclhbhaaDoorFmt.VarsOK w) (h : TokB w Bk A0 c0 l) (hl : l.length ≤ 1000) (hz : ∀ x ∈ l, x.f0 ≠ 0) (hch : ChgB w Bc Ac cc cs) (hcl : cs.length ≤ 1000) (hcn : ∀ x ∈ cs, x.f1.length ≤ 100) (hcz : ∀ x ∈ cs, ∀ y ∈ x.f1, y.f0 ≠ 0) (hr : w.heap[Br]? = some (.cells #[lxV cfg Bk, mpV Bc] 76 (0, 0))) :
    Calls Tryd.prog 15 #[.iface 74 (.pointer (some ⟨Br, 0, none⟩)), .string s] w fun e w' => ∃ v, e = .returned (.tuple #[v, .bool true]) ∧ ZTk_RT w' w.heap.size v ((rmL cs [] (l.map toCC)).map toTT) ∧ Below w.heap.size w w' := by
  have hnn : ∀ (w : World), (Go.binOp .neq 56 .nilIface .nilIface).run Tryd.prog w = .ok (.bool false) w := fun w => run_neq_nil_nil (P := Tryd.prog) w 56 (by kernel_rfl)
  have hlen := rm_len cs hcn (l.map toCC)
  rw [List.length_map] at hlen
  have HT := Aside0.mk (tkr_c Br Bk Bc A0 c0 l Ac cc cs s w cfg hV h hl hz hch hcl (fun x hx => Nat.le_trans (hcn x hx) (by omega)) hcz (by omega) hr)
  obtain ⟨k, hk⟩ := outer_some (rmL cs [] (l.map toCC)) (by omega)
  clear h hr hz hlen hch hcl hcn hcz
  go_enter Tryd.func15, Tryd.ntmps15
  go_wp2_with (first | (go_at_call 24; refine HT.out.mono ?_; rintro e w1 ⟨v1, rfl, hR1, hB1⟩; obtain ⟨A1, c1, rfl⟩ := Kd.R_slice hR1; have hq := Kd.R_reads' hR1; have HQ := Aside0.mk hq; have HR1 := Aside0.mk hR1; have HB1 := Aside0.mk hB1; clear hq hR1 hB1) | (go_at_call 25; refine (impl_outer.calls k A1 c1 _ _ _ HQ.out.2.2 HQ.out.2.1 hk).mono ?_; rintro e w2 ⟨v2, rfl, hR2, hB2⟩; have HR2 := Aside0.mk hR2; have HB2 := Aside0.mk hB2; clear hR2 hB2))
  go_ret2
  exact ⟨_, rfl, Kd.R_lower HR2.out HB1.out.size, below_step HB1.out HB2.out⟩
set_option maxHeartbeats 4000000 in
theorem remap_c (Ac : Option Addr) (cc : Nat) (cs : List Ch) (A0 : Option Addr) (c0 : Nat) (l : List ZTk_T) (w : World) (hV : Go.Proofs.YtgpamoanclhbhaaDoorFmt.VarsOK w) (hrc : Kd.C k34 w Ac cs.length cs) (hcc : cs.length ≤ cc) (hr0 : Kd.C ZTk_kT w A0 l.length l) (hc0 : l.length ≤ c0) (hl : l.length ≤ 1000) (hz : ∀ x ∈ l, x.f0 ≠ 0) (hcl : cs.length ≤ 1000) (hcn : ∀ x ∈ cs, x.f1.length ≤ 100) (hcz : ∀ x ∈ cs, ∀ y ∈ x.f1, y.f0 ≠ 0) :
    Calls Tryd.prog 13 #[.slice Ac cs.length cc, .slice A0 l.length c0] w fun e w' => ∃ v : Value, e = .returned v ∧ ZTk_RT w' w.heap.size v ((rmL cs [] (l.map toCC)).map toTT) ∧ Below w.heap.size w w' := by
  have hmf : ∀ (fn : Fn) (first cap : Array Value) (w : World), (Instr.makeFunc fn first cap).run Tryd.prog w = .ok (.func fn first cap) w := fun _ _ _ _ => rfl
  have HB0 := Aside0.mk ((Below.refl w.heap.size w).alloc (Nat.le_refl _) (.cells #[.slice Ac cs.length cc] 31))
  have HCh := Aside0.mk (ChgB.mk (blk_new w (.cells #[.slice Ac cs.length cc] 31)) (Kd.C_below hrc HB0.out) hcc)
  have HC := Aside0.mk (And.intro (Kd.C_below hr0 HB0.out) hc0)
  have HZ := Aside0.mk (And.intro hz (And.intro hcl (And.intro hcn hcz)))
  have hE := vars_lt hV
  have HV := Aside0.mk hV
  clear hr0 hc0 hz hrc hcc hcl hcn hcz hV
  go_enter Tryd.func13, Tryd.ntmps13
  go_wp2_with (first | (go_at_call 17; refine (lit_c _ _ _ _).mono ?_; rintro e w1 ⟨cfg, rfl, hP⟩; have HP := Aside0.mk hP; clear hP) | (go_at_call 21; refine (rl_c _ _ _ _ _ _).mono ?_; rintro e w2 ⟨rfl, rfl⟩) | (go_at_call 15; have HB1 := Aside0.mk (below_step HB0.out HP.out.1); have hP2 := HP.out.2; rw [World.size_alloc] at hP2; refine (lexedr_c w1.heap.size (w.heap.size + 1) w.heap.size A0 c0 l Ac cc cs _ _ cfg (vars_kept HV.out ((Below.heap_alloc _ _ _ (Nat.lt_of_lt_of_le hE HB1.out.size)).trans (HB1.out.block _ hE))) (TokB.below ⟨hP2, Kd.C_below HC.out.1 HP.out.1, HC.out.2⟩ ((Below.refl _ _).alloc (Nat.le_refl _) _)) hl HZ.out.1 ((HCh.out.below HP.out.1).below ((Below.refl _ _).alloc (Nat.le_refl _) _)) HZ.out.2.1 HZ.out.2.2.1 HZ.out.2.2.2 (blk_new _ _)).mono ?_; rintro e w3 ⟨v3, rfl, hQ⟩; have HQ := Aside0.mk hQ; clear hQ))
  go_ret
  have s1 := HB1.out.size
  exact ⟨_, rfl, Kd.R_lower HQ.out.1 (by simp; omega), below_step (HB1.out.alloc s1 _) HQ.out.2⟩
end ZCoal
def impl_Remap.f (l0 : List (S34)) (l1 : List (S29)) : Option (List (S29)) := if l0.length ≤ 1000 ∧ (l0.all fun x => decide (x.f1.length ≤ 100) && x.f1.all fun y => y.f0 != 0) = true ∧ l1.length ≤ 1000 ∧ (l1.all fun x => x.f0 != 0) = true then some ((ZCoal.rmL l0 [] (l1.map ZCoal.toCC)).map ZCoal.toTT) else none
theorem impl_Remap.calls (A0 : Option Addr) (c0 : Nat) (l0 : List (S34)) (A1 : Option Addr) (c1 : Nat) (l1 : List (S29)) (r : List (S29)) (w : World) (hr0 : Kd.C k34 w A0 l0.length l0) (hc0 : l0.length ≤ c0) (hr1 : Kd.C k29 w A1 l1.length l1) (hc1 : l1.length ≤ c1) (hV : Go.Proofs.YtgpamoanclhbhaaDoorFmt.VarsOK w) (h : impl_Remap.f l0 l1 = some r) :
    Calls Tryd.prog 13 #[.slice A0 l0.length c0, .slice A1 l1.length c1] w fun e w' => ∃ v0_ : Value, e = .returned (v0_) ∧ Kd.R k29 29 w' w.heap.size (fun _ => True) v0_ r ∧ Below w.heap.size w w' := by
  unfold impl_Remap.f at h
  by_cases h0 : l0.length ≤ 1000 ∧ (l0.all fun x => decide (x.f1.length ≤ 100) && x.f1.all fun y => y.f0 != 0) = true ∧ l1.length ≤ 1000 ∧ (l1.all fun x => x.f0 != 0) = true
  · rw [if_pos h0] at h
    obtain rfl := Option.some.inj h
    have hx : ∀ x ∈ l0, x.f1.length ≤ 100 ∧ ∀ y ∈ x.f1, y.f0 ≠ 0 := fun x hx => by
      have := List.all_eq_true.1 h0.2.1 x hx
      rw [Bool.and_eq_true, decide_eq_true_eq, List.all_eq_true] at this
      exact ⟨this.1, fun y hy => by have := this.2 y hy; simpa using this⟩
    exact ZCoal.remap_c A0 c0 l0 A1 c1 l1 w hV hr0 hc0 hr1 hc1 h0.2.2.1 (fun x hx => by have := List.all_eq_true.1 h0.2.2.2 x hx; simpa using this) h0.1 (fun x h => (hx x h).1) (fun x h => (hx x h).2)
  · rw [if_neg h0] at h; cases h

end Go.Proofs.YtgpamoanclhbhaaDoor.R
