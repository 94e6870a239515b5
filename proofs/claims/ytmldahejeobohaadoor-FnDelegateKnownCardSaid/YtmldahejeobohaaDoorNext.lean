/- chroma.Literator's closure: it gives the tokens one by one, then the mark of the end. -/
import Derived.Test.YtmldahejeobohaaDoorAx1
import Derived.Test.YtmldahejeobohaaDoorFmt
import Derived.Maps.RangeWalk
set_option linter.unusedVariables false
set_option linter.unusedSimpArgs false
namespace Go.Proofs.YtmldahejeobohaaDoorTake
open Go.RowKit Go.Proofs.YtmldahejeobohaaDoorW.PrintWords Go.Proofs.YtmldahejeobohaaDoor.A Go.Proofs.YtmldahejeobohaaDoorFmt
abbrev C := S65
def tokV (x : C) : Value := .agg #[.int .i64 x.f0, .string x.f1]
def eof : C := ⟨0, ⟨#[]⟩⟩
/-- The next token, or the mark of the end. -/
def hd : List C → C
  | [] => eof
  | x :: _ => x
/-- Block g has from cell o on the tokens l. -/
def Toks (W : World) (g o : Nat) (l : List C) : Prop :=
  ∀ i (h : i < l.length), W.cell? ⟨g, o + 2 * i, none⟩ = some (.int .i64 l[i].f0) ∧ W.cell? ⟨g, o + 2 * i + 1, none⟩ = some (.string l[i].f1)
theorem Toks.tail {W : World} {g o : Nat} {x : C} {l : List C} (h : Toks W g o (x :: l)) : Toks W g (o + 2) l := fun i hi => by
  have := h (i + 1) (by simp; omega)
  simp only [List.getElem_cons_succ] at this
  rw [show o + 2 * (i + 1) = o + 2 + 2 * i by omega] at this
  exact this
theorem Toks.same {W W' : World} {g o : Nat} {l : List C} (h : Toks W g o l) (hb : W'.heap[g]? = W.heap[g]?) : Toks W' g o l := fun i hi =>
  ⟨(World.cell?_of_block (a := ⟨g, _, none⟩) hb).trans (h i hi).1, (World.cell?_of_block (a := ⟨g, _, none⟩) hb).trans (h i hi).2⟩
/-- Block Bt holds what is left of a slice of tokens, l, in block g. -/
def LitAt (W : World) (Bt g : Nat) (l : List C) : Prop :=
  ∃ A c, W.heap[Bt]? = some (.cells #[.slice A l.length c] 50 (0, 0)) ∧ l.length ≤ c ∧ (∃ cs t, W.heap[g]? = some (.cells cs t (0, 0)) ∧ 23 ≠ t ∧ 27 ≠ t) ∧ g ≠ Bt ∧ (l ≠ [] → ∃ o, A = some ⟨g, o, none⟩ ∧ Toks W g o l)
theorem LitAt.lt {W : World} {Bt g : Nat} {l : List C} (h : LitAt W Bt g l) : Bt < W.heap.size := by
  obtain ⟨A, c, h, _⟩ := h; exact blk_lt h
theorem LitAt.same {W W' : World} {Bt g : Nat} {l : List C} (h : LitAt W Bt g l) (h1 : W'.heap[Bt]? = W.heap[Bt]?) (h2 : W'.heap[g]? = W.heap[g]?) : LitAt W' Bt g l := by
  obtain ⟨A, c, a1, a2, a3, a4, a5⟩ := h
  refine ⟨A, c, h1.trans a1, a2, ?_, a4, fun hl => ?_⟩
  · obtain ⟨cs, t, a3, a6, a7⟩ := a3
    exact ⟨cs, t, h2.trans a3, a6, a7⟩
  · obtain ⟨o, b1, b2⟩ := a5 hl
    exact ⟨o, b1, b2.same h2⟩
set_option maxHeartbeats 4000000 in
theorem next_nil (Bt g : Nat) (w : World) (hV : VarsOK w) (h : LitAt w Bt g []) :
    Calls Tryd.prog 64 #[.pointer (some ⟨Bt, 0, none⟩)] w fun e w' => e = .returned (tokV eof) ∧ w.grownBy w' none := by
  have hu := Tryd.underlying65
  obtain ⟨A, c, a1, a2, a3, a4, a5⟩ := h
  have c0 : w.cell? ⟨Bt, 0, none⟩ = some (.slice A 0 c) := (blk_cell a1 0).trans rfl
  have e0 := hV.e0
  have e1 := hV.e1
  have hlt : Bt < w.heap.size := blk_lt a1
  have hl0 : 0 < w.heap.size := World.block_lt_of_cell? w _ e0
  clear a1 a2 a3 a4 a5 hV
  go_enter Tryd.func64, Tryd.ntmps64
  go_wp2
  exact bodyPost_ret (results_cell_row rfl _ _ w.heap.size 65 #[.int .i64 0, .string ⟨#[]⟩] (0, 0) _ rfl (by simpa using heap_alloc_new w _) Tryd.underlying65 rfl (by kernel_rfl)) rfl ⟨rfl, World.grownBy_alloc w _ none⟩
theorem res_at (w : World) (p : Addr) (v : Value) (o1 o2 : Obj) : (((w.setCell p v).alloc o1).alloc o2).heap[w.heap.size]? = some o1 := by
  refine blk_alloc ?_ _
  have := blk_new (w.setCell p v) o1
  rw [World.size_setCell] at this
  exact this
theorem next_post {w : World} {Bt g o c : Nat} {x : C} {l : List C} {A : Option Addr} (A' : Option Addr) (c' : Nat) (a1 : w.heap[Bt]? = some (.cells #[.slice A (x :: l).length c] 50 (0, 0))) (a3 : ∃ cs t, w.heap[g]? = some (.cells cs t (0, 0)) ∧ 23 ≠ t ∧ 27 ≠ t) (a4 : g ≠ Bt)
    (hT : Toks w g o (x :: l)) (hc : l.length ≤ c') (hA : l ≠ [] → A' = some ⟨g, o + 2, none⟩) (o1 o2 : Obj) :
    LitAt (((w.setCell ⟨Bt, 0, none⟩ (.slice A' l.length c')).alloc o1).alloc o2) Bt g l ∧ w.grownBy (((w.setCell ⟨Bt, 0, none⟩ (.slice A' l.length c')).alloc o1).alloc o2) (some Bt) := by
  have hg : w.grownBy (((w.setCell ⟨Bt, 0, none⟩ (.slice A' l.length c')).alloc o1).alloc o2) (some Bt) := by
    refine ⟨rfl, rfl, rfl, by simp; omega, fun k hk hne => ?_⟩
    have hk' : k < (w.setCell ⟨Bt, 0, none⟩ (.slice A' l.length c')).heap.size := by rw [World.size_setCell]; exact hk
    refine ((Below.heap_alloc _ o2 k (by simp; omega)).trans (Below.heap_alloc _ o1 k hk')).trans ?_
    exact Below.heap_setCell w ⟨Bt, 0, none⟩ _ k (fun e => hne (by rw [e]))
  obtain ⟨cs, t, a3, a6, a7⟩ := a3
  have hgs := hg.block g (blk_lt a3) (fun e => a4 (by injection e))
  exact ⟨⟨A', c', blk_alloc (blk_alloc (blk_put a1 0 _ rfl) _) _, hc, ⟨cs, t, hgs.trans a3, a6, a7⟩, a4, fun hl => ⟨o + 2, hA hl, hT.tail.same hgs⟩⟩, hg⟩
set_option maxRecDepth 100000 in
set_option maxHeartbeats 4000000 in
theorem next_cons (Bt g : Nat) (x : C) (l : List C) (w : World) (h : LitAt w Bt g (x :: l)) :
    Calls Tryd.prog 64 #[.pointer (some ⟨Bt, 0, none⟩)] w fun e w' => e = .returned (tokV x) ∧ LitAt w' Bt g l ∧ w.grownBy w' (some Bt) := by
  have hu := Tryd.underlying65
  obtain ⟨A, c, a1, a2, a3, a4, a5⟩ := h
  obtain ⟨o, rfl, hT⟩ := a5 (by simp)
  have c0 : w.cell? ⟨Bt, 0, none⟩ = some (.slice (some ⟨g, o, none⟩) (l.length + 1) c) := (blk_cell a1 0).trans rfl
  have f0 := blk_frozen a1 0
  have t0 := (hT 0 (by simp)).1
  have t1 := (hT 0 (by simp)).2
  simp only [Nat.mul_zero, Nat.add_zero, List.getElem_cons_zero] at t0 t1
  simp only [List.length_cons] at a2
  have hne : ((l.length : Int) + 1 == 0) = false := beq_eq_false_iff_ne.2 (by omega)
  have hle : (l.length : Int) + 1 ≤ c := by omega
  have hlt : Bt < w.heap.size := blk_lt a1
  have hlg : g < w.heap.size := by
    obtain ⟨cs, t, a3, _⟩ := a3
    exact blk_lt a3
  go_enter Tryd.func64, Tryd.ntmps64
  go_wp2
  · have hl : l = [] := List.eq_nil_of_length_eq_zero (by omega)
    obtain ⟨p1, p2⟩ := next_post (some ⟨g, o, none⟩) 0 a1 a3 a4 hT (by omega) (fun h => absurd hl h) (.cells #[.int .i64 x.f0, .string x.f1] 65) (.cells #[.int .i64 x.f0, .string x.f1] 65)
    exact bodyPost_ret (results_cell_row rfl _ _ w.heap.size 65 #[.int .i64 x.f0, .string x.f1] (0, 0) _ rfl (res_at _ _ _ _ _) Tryd.underlying65 rfl (by kernel_rfl)) rfl ⟨rfl, p1, p2⟩
  · obtain ⟨p1, p2⟩ := next_post (some ⟨g, o + 2, none⟩) (c - 1) a1 a3 a4 hT (by omega) (fun h => rfl) (.cells #[.int .i64 x.f0, .string x.f1] 65) (.cells #[.int .i64 x.f0, .string x.f1] 65)
    exact bodyPost_ret (results_cell_row rfl _ _ w.heap.size 65 #[.int .i64 x.f0, .string x.f1] (0, 0) _ rfl (res_at _ _ _ _ _) Tryd.underlying65 rfl (by kernel_rfl)) rfl ⟨rfl, p1, p2⟩
theorem eof_ne {w : World} {Bt : Nat} {v : Value} {t : TypeId} (hV : VarsOK w) (h : w.heap[Bt]? = some (.cells #[v] t (0, 0))) : 0 ≠ Bt := fun e => by
  have h1 := blk_cell h 1
  rw [← e, hV.e1] at h1
  cases h1
theorem vars_kept {w w' : World} (hV : VarsOK w) (h : w'.heap[0]? = w.heap[0]?) : VarsOK w' :=
  ⟨(World.cell?_of_block (a := ⟨0, 0, none⟩) h).trans hV.e0, (World.cell?_of_block (a := ⟨0, 1, none⟩) h).trans hV.e1⟩
theorem vars_lt {w : World} (hV : VarsOK w) : 0 < w.heap.size := World.block_lt_of_cell? w _ hV.e0
/-- The closure at any rest. -/
theorem next_c (Bt g : Nat) (l : List C) (w : World) (hV : VarsOK w) (h : LitAt w Bt g l) :
    Calls Tryd.prog 64 #[.pointer (some ⟨Bt, 0, none⟩)] w fun e w' => e = .returned (tokV (hd l)) ∧ LitAt w' Bt g l.tail ∧ w.grownBy w' (some Bt) ∧ VarsOK w' := by
  cases l with
  | nil =>
    refine (next_nil Bt g w hV h).mono ?_
    rintro e w' ⟨rfl, hg⟩
    have h1 := hg.block Bt h.lt (by simp)
    obtain ⟨A, c, a1, a2, ⟨cs, t, a3, a6, a7⟩, a4, a5⟩ := h
    exact ⟨rfl, LitAt.same ⟨A, c, a1, a2, ⟨cs, t, a3, a6, a7⟩, a4, a5⟩ h1 (hg.block g (blk_lt a3) (by simp)), World.grownBy.but hg _, vars_kept hV (hg.block _ (vars_lt hV) (by simp))⟩
  | cons x l =>
    refine (next_cons Bt g x l w h).mono ?_
    rintro e w' ⟨rfl, h1, hg⟩
    obtain ⟨A, c, a1, _⟩ := h
    exact ⟨rfl, h1, hg, vars_kept hV (hg.block _ (vars_lt hV) (fun e => eof_ne hV a1 (by injection e)))⟩
end Go.Proofs.YtmldahejeobohaaDoorTake
