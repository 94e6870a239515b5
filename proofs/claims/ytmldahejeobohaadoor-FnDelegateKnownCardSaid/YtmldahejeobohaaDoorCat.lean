/- chroma.Concaterator's closure over Literators. -/
import Derived.Test.YtmldahejeobohaaDoorNext
set_option linter.unusedVariables false
set_option linter.unusedSimpArgs false
namespace Go.Proofs.YtmldahejeobohaaDoorTake
open Go.RowKit Go.Proofs.YtmldahejeobohaaDoorW.PrintWords Go.Proofs.YtmldahejeobohaaDoor.A Go.Proofs.YtmldahejeobohaaDoorFmt
--BEGIN
set_option maxHeartbeats 4000000 in
theorem nextE (Bt c : Nat) (A : Option Addr) (w : World) (hV : VarsOK w) (a1 : w.heap[Bt]? = some (.cells #[.slice A 0 c] 50 (0, 0))) :
    Calls Tryd.prog 64 #[.pointer (some ⟨Bt, 0, none⟩)] w fun e w' => e = .returned (tokV eof) ∧ w.grownBy w' none := by
  have hu := Tryd.underlying65
  have c0 : w.cell? ⟨Bt, 0, none⟩ = some (.slice A 0 c) := (blk_cell a1 0).trans rfl
  have e0 := hV.e0
  have e1 := hV.e1
  have hlt : Bt < w.heap.size := blk_lt a1
  have hl0 : 0 < w.heap.size := World.block_lt_of_cell? w _ e0
  clear a1 hV
  go_enter Tryd.func64, Tryd.ntmps64
  go_wp2
  exact bodyPost_ret (results_cell_row rfl _ _ w.heap.size 65 #[.int .i64 0, .string ⟨#[]⟩] (0, 0) _ rfl (by simpa using heap_alloc_new w _) Tryd.underlying65 rfl (by kernel_rfl)) rfl ⟨rfl, World.grownBy_alloc w _ none⟩
/-- A Literator's rest; its blocks lie from b0 on, below b1. -/
def LitC (W : World) (b0 b1 Bt : Nat) (l : List C) : Prop :=
  ∃ A c, W.heap[Bt]? = some (.cells #[.slice A l.length c] 50 (0, 0)) ∧ l.length ≤ c ∧ b0 ≤ Bt ∧ Bt < b1 ∧ (l ≠ [] → ∃ g o, A = some ⟨g, o, none⟩ ∧ g < b1 ∧ (∃ cs, W.heap[g]? = some (.cells cs 65 (0, 0))) ∧ Toks W g o l)
theorem LitC.same {W W' : World} {b0 b1 Bt : Nat} {l : List C} (h : LitC W b0 b1 Bt l) (hk : ∀ k t cs, k < b1 → W.heap[k]? = some (.cells cs t (0, 0)) → k = Bt ∨ t = 65 → W'.heap[k]? = W.heap[k]?) : LitC W' b0 b1 Bt l := by
  obtain ⟨A, c, a1, a2, a3, a4, a5⟩ := h
  refine ⟨A, c, (hk Bt _ _ a4 a1 (.inl rfl)).trans a1, a2, a3, a4, fun hl => ?_⟩
  obtain ⟨g, o, e, hg, ⟨cs, hc⟩, hT⟩ := a5 hl
  have hs := hk g _ _ hg hc (.inr rfl)
  exact ⟨g, o, e, hg, ⟨cs, hs.trans hc⟩, hT.same hs⟩
/-- What a step keeps: all but the blocks from b0 to b1. -/
structure Fr (b0 b1 : Nat) (w w' : World) : Prop where
  os : w'.os = w.os
  tape : w'.tape = w.tape
  output : w'.output = w.output
  size : w.heap.size ≤ w'.heap.size
  block : ∀ k, k < w.heap.size → k < b0 ∨ b1 ≤ k → w'.heap[k]? = w.heap[k]?
theorem Fr.refl (b0 b1 : Nat) (w : World) : Fr b0 b1 w w := ⟨rfl, rfl, rfl, Nat.le_refl _, fun _ _ _ => rfl⟩
theorem Fr.trans {b0 b1 : Nat} {a b c : World} (h : Fr b0 b1 a b) (k : Fr b0 b1 b c) : Fr b0 b1 a c :=
  ⟨k.os.trans h.os, k.tape.trans h.tape, k.output.trans h.output, Nat.le_trans h.size k.size, fun i hi hb => (k.block i (Nat.lt_of_lt_of_le hi h.size) hb).trans (h.block i hi hb)⟩
theorem Fr.of_grown {b0 b1 B : Nat} {w w' : World} (h : w.grownBy w' (some B)) (h0 : b0 ≤ B) (h1 : B < b1) : Fr b0 b1 w w' :=
  ⟨h.os, h.tape, h.output, h.size, fun k hk hb => h.block k hk (fun e => by injection e; omega)⟩
theorem Fr.set {b0 b1 B : Nat} (w : World) (j : Nat) (v : Value) (h0 : b0 ≤ B) (h1 : B < b1) : Fr b0 b1 w (w.setCell ⟨B, j, none⟩ v) :=
  ⟨rfl, rfl, rfl, by rw [World.size_setCell]; exact Nat.le_refl _, fun k hk hb => Below.heap_setCell w ⟨B, j, none⟩ v k (by show k ≠ B; omega)⟩
theorem Fr.alloc {b0 b1 : Nat} (w : World) (o : Obj) : Fr b0 b1 w (w.alloc o) :=
  ⟨rfl, rfl, rfl, by simp, fun k hk _ => Below.heap_alloc w o k hk⟩
theorem Fr.below {b0 b1 : Nat} {w0 w w' : World} (h : Fr b0 b1 w w') (hB : Below b0 w0 w) (hb : b0 ≤ w.heap.size) : Below b0 w0 w' :=
  ⟨h.os.trans hB.os, h.tape.trans hB.tape, h.output.trans hB.output, Nat.le_trans hB.size h.size, fun k hk => (h.block k (by omega) (.inl hk)).trans (hB.block k hk)⟩
theorem lit_next (b0 b1 Bt : Nat) (l : List C) (w : World) (hV : VarsOK w) (h : LitC w b0 b1 Bt l) :
    Calls Tryd.prog 64 #[.pointer (some ⟨Bt, 0, none⟩)] w fun e w' => e = .returned (.agg #[.int .i64 (hd l).f0, .string (hd l).f1]) ∧ LitC w' b0 b1 Bt l.tail ∧ w.grownBy w' (some Bt) := by
  cases l with
  | nil =>
    have h' := h
    obtain ⟨A, c, a1, _⟩ := h'
    refine (nextE Bt c A w hV a1).mono ?_
    rintro e w' ⟨rfl, hg⟩
    exact ⟨rfl, h.same (fun k t cs _ hc _ => hg.block k (blk_lt hc) (by simp)), World.grownBy.but hg _⟩
  | cons x l =>
    obtain ⟨A, c, a1, a2, a3, a4, a5⟩ := h
    obtain ⟨g, o, e, hgb, ⟨cs, hc⟩, hT⟩ := a5 (by simp)
    have hne : g ≠ Bt := blk_ne hc a1 (by decide)
    refine (next_cons Bt g x l w ⟨A, c, a1, a2, ⟨cs, _, hc, by decide, by decide⟩, hne, fun _ => ⟨o, e, hT⟩⟩).mono ?_
    rintro e w' ⟨rfl, ⟨A', c', q1, q2, q3, q4, q5⟩, hg⟩
    refine ⟨rfl, ⟨A', c', q1, q2, a3, a4, fun hl => ?_⟩, hg⟩
    obtain ⟨o', e1, e2⟩ := q5 hl
    exact ⟨g, o', e1, hgb, ⟨cs, (hg.block g (blk_lt hc) (fun e => hne (by injection e))).trans hc⟩, e2⟩
def itV (Bt : Nat) : Value := .func (.func 64) #[] #[.pointer (some ⟨Bt, 0, none⟩)]
def flt (ps : List (Nat × List C)) : List C := ps.flatMap (·.2)
end Go.Proofs.YtmldahejeobohaaDoorTake
