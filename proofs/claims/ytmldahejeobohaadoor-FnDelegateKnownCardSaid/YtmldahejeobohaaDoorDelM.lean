/- What a delegating lexer's Tokenise keeps in memory. -/
import Derived.Test.YtmldahejeobohaaDoorDelS
import Derived.Test.YtmldahejeobohaaDoorShelf
import Derived.Lib.BufferOld
set_option linter.unusedVariables false
set_option linter.unusedSimpArgs false
namespace Go.Proofs.YtmldahejeobohaaDoorTake
open Go.RowKit Go.Proofs.YtmldahejeobohaaDoorW.PrintWords Go.Proofs.YtmldahejeobohaaDoor.A Go.Proofs.YtmldahejeobohaaDoorFmt
abbrev IsB (B : Nat) (cs : List UInt8) (W : World) : Prop := Lib.IsBuffer 127 5 B B (Lib.byteCells cs) W
theorem isb_step {B : Nat} {cs : List UInt8} {W W' : World} (h : IsB B cs W) (hb : W'.heap[B]? = W.heap[B]?) (hk : ∀ (k : Nat) (c : Array Value), W.heap[k]? = some (Obj.cells c 5 (0, 0)) → W'.heap[k]? = W.heap[k]?) : IsB B cs W' := by
  obtain ⟨hB, v, lr, h1, h2, h3⟩ := h
  refine ⟨hB, v, lr, hb.trans h1, ⟨h2.1, ?_⟩, h3⟩
  rcases h2.2 with hn | ⟨g, cap, cur, hv, hbg, hg, rest⟩
  · exact .inl hn
  · exact .inr ⟨g, cap, cur, hv, hbg, (hk g cur hg).trans hg, rest⟩
/-- The buffer, the last token, the row of insertions. -/
structure DM (W : World) (B : Nat) (cs : List UInt8) (la : C) (ps : List Nat) (vr : Value) : Prop where
  hbuf : IsB B cs W
  hla : W.heap[B + 3]? = some (.cells #[.int .i64 la.f0, .string la.f1] 65 (0, 0))
  hbi : W.heap[B + 2]? = some (.cells #[vr] 128 (0, 0))
  hrow : Kd.R kP 129 W B (fun _ => True) vr ps
/-- An insertion: its block, its tokens' row. -/
structure IM (W : World) (B : Nat) (b : Nat) (i : Ins) (v : Value) (ok : Nat → Prop) : Prop where
  hb : B + 4 ≤ b
  hc : W.heap[b]? = some (.cells #[.int .i64 (i.st : Int), .int .i64 (i.en : Int), v] 131 (0, 0))
  hr : Kd.R kC 65 W (B + 4) ok v i.tk
theorem DM.grown {W W' : World} {B : Nat} {cs : List UInt8} {la : C} {ps : List Nat} {vr : Value} {row : Option Nat} (h : DM W B cs la ps vr) (hg : W.grownBy W' row) (hr : ∀ g, row = some g → B + 4 ≤ g ∧ ∃ c t, W.heap[g]? = some (.cells c t (0, 0)) ∧ t ≠ 5 ∧ t ≠ 129) : DM W' B cs la ps vr := by
  have far : ∀ k, k < B + 4 → k < W.heap.size → W'.heap[k]? = W.heap[k]? := fun k hk hlt => hg.block k hlt (fun e => by have := (hr k e.symm).1; omega)
  have lB := h.hbuf.lt
  refine ⟨isb_step h.hbuf (far _ (by omega) lB) (fun k c hk => hg.block k (blk_lt hk) (fun e => ?_)), (far _ (by omega) (blk_lt h.hla)).trans h.hla, (far _ (by omega) (blk_lt h.hbi)).trans h.hbi, ?_⟩
  · obtain ⟨_, c', t, h1, h2, _⟩ := hr k e.symm
    rw [hk] at h1
    injection h1 with h1
    injection h1 with _ h1
    exact h2 h1.symm
  · cases row with
    | none => exact Kd.R_grown h.hrow hg (fun _ _ => by simp)
    | some g =>
      obtain ⟨_, c', t, h1, _, h2⟩ := hr g rfl
      exact Kd.R_mono (Kd.R_grown (Kd.R_types h.hrow h1 (fun q hq => by
        have : q = 129 := by simpa [kP, Kd.scalar] using hq
        rw [this]; exact fun e => h2 e.symm)) hg (fun k hk e => hk.2 (Option.some.inj e))) (fun _ _ => trivial)
theorem IM.grown {W W' : World} {B b : Nat} {i : Ins} {v : Value} {ok : Nat → Prop} {row : Option Nat} (h : IM W B b i v ok) (hg : W.grownBy W' row) (hb : row ≠ some b) (hk : ∀ k, ok k → B + 4 ≤ k → k < W.heap.size → (∃ c, W.heap[k]? = some (.cells c 65 (0, 0))) → some k ≠ row) : IM W' B b i v ok := by
  refine ⟨h.hb, (hg.block b (blk_lt h.hc) (fun e => hb e.symm)).trans h.hc, Kd.R_mono (Kd.R_grown (Kd.R_bound h.hr) hg (fun k h1 => hk k h1.1 h1.2.1 h1.2.2.1 ?_)) (fun _ h => h.1)⟩
  obtain ⟨_, _, _, q, hq, c, hc⟩ := h1
  have : q = 65 := by simpa [kC, k65, Kd.iso, Kd.pair, Kd.int, Kd.string, Kd.scalar] using hq
  exact ⟨c, by rw [← this]; exact hc⟩
theorem IM.alloc {W : World} {B b : Nat} {i : Ins} {v : Value} {ok : Nat → Prop} (h : IM W B b i v ok) (o : Obj) : IM (W.alloc o) B b i v ok := h.grown (World.grownBy_alloc W o none) (by simp) (fun _ _ _ _ _ => by simp)
theorem DM.alloc {W : World} {B : Nat} {cs : List UInt8} {la : C} {ps : List Nat} {vr : Value} (h : DM W B cs la ps vr) (o : Obj) : DM (W.alloc o) B cs la ps vr := h.grown (World.grownBy_alloc W o none) (fun _ e => by cases e)
theorem set_grown (W : World) (g j : Nat) (v : Value) : W.grownBy (W.setCell ⟨g, j, none⟩ v) (some g) := ⟨rfl, rfl, rfl, by rw [World.size_setCell]; exact Nat.le_refl _, fun i _ hne => Below.heap_setCell W ⟨g, j, none⟩ v i (fun e => hne (by rw [e]))⟩
/-- Behind a write into the buffer. -/
theorem DM.write {W W' : World} {B : Nat} {cs cs' : List UInt8} {la : C} {ps : List Nat} {vr : Value} (h : DM W B cs la ps vr) (hb : IsB B cs' W') (hk : Lib.OthersKept 5 (some B) W W') : DM W' B cs' la ps vr := by
  refine ⟨hb, hk _ _ h.hla (by simp) (fun c fz e => by cases e), hk _ _ h.hbi (by simp) (fun c fz e => by cases e), ?_⟩
  have hbb : ∃ c, W.heap[B]? = some (.cells c 127 (0, 0)) := by obtain ⟨_, v, lr, h1, _⟩ := h.hbuf; exact ⟨_, h1⟩
  obtain ⟨c0, h0⟩ := hbb
  refine Kd.R_mono (Kd.R_step (Kd.R_bound h.hrow) (fun k h1 _ => ?_)) (fun _ _ => trivial)
  obtain ⟨_, _, _, q, hq, c, hc⟩ := h1
  have hq : q = 129 := by simpa [kP, Kd.scalar] using hq
  rw [hc]
  refine hk k _ hc (fun e => ?_) (fun c' fz e => ?_)
  · rw [Option.some.inj e, h0, hq] at hc
    cases hc
  · rw [hq] at e; cases e
theorem IM.write {W W' : World} {B b : Nat} {i : Ins} {v : Value} {ok : Nat → Prop} (h : IM W B b i v ok) (hk : Lib.OthersKept 5 (some B) W W') : IM W' B b i v ok := by
  refine ⟨h.hb, hk _ _ h.hc (fun e => by have := h.hb; have := Option.some.inj e; omega) (fun c fz e => by cases e), Kd.R_mono (Kd.R_step (Kd.R_bound h.hr) (fun k h1 _ => ?_)) (fun _ h => h.1)⟩
  obtain ⟨_, h2, _, q, hq, c, hc⟩ := h1
  have hq : q = 65 := by simpa [kC, k65, Kd.iso, Kd.pair, Kd.int, Kd.string, Kd.scalar] using hq
  rw [hc]
  refine hk k _ hc (fun e => ?_) (fun c' fz e => ?_)
  · have := Option.some.inj e; omega
  · rw [hq] at e; cases e
theorem DM.last {W : World} {B : Nat} {cs : List UInt8} {la : C} {ps : List Nat} {vr : Value} (h : DM W B cs la ps vr) (t : C) : DM ((W.setCell ⟨B + 3, 0, none⟩ (.int .i64 t.f0)).setCell ⟨B + 3, 1, none⟩ (.string t.f1)) B cs t ps vr := by
  have far : ∀ k, k ≠ B + 3 → ((W.setCell ⟨B + 3, 0, none⟩ (.int .i64 t.f0)).setCell ⟨B + 3, 1, none⟩ (.string t.f1)).heap[k]? = W.heap[k]? := fun k hk =>
    (Below.heap_setCell _ ⟨B + 3, 1, none⟩ _ k hk).trans (Below.heap_setCell _ ⟨B + 3, 0, none⟩ _ k hk)
  refine ⟨isb_step h.hbuf (far _ (by omega)) (fun k c hk => far k ?_), blk_put (blk_put h.hla 0 _ rfl) 1 _ rfl, (far _ (by omega)).trans h.hbi, ?_⟩
  · rintro rfl; rw [h.hla] at hk; cases hk
  · refine Kd.R_mono (Kd.R_step (Kd.R_types h.hrow h.hla (fun q hq => ?_)) (fun k hk _ => far k hk.2)) (fun _ _ => trivial)
    have : q = 129 := by simpa [kP, Kd.scalar] using hq
    rw [this]; decide
theorem IM.last {W : World} {B b : Nat} {i : Ins} {v : Value} {ok : Nat → Prop} (h : IM W B b i v ok) (t : C) : IM ((W.setCell ⟨B + 3, 0, none⟩ (.int .i64 t.f0)).setCell ⟨B + 3, 1, none⟩ (.string t.f1)) B b i v ok :=
  (h.grown (set_grown W (B + 3) 0 _) (fun e => by have := h.hb; have := Option.some.inj e; omega) (fun k _ h2 _ _ e => by have := Option.some.inj e; omega)).grown (set_grown _ (B + 3) 1 _) (fun e => by have := h.hb; have := Option.some.inj e; omega) (fun k _ h2 _ _ e => by have := Option.some.inj e; omega)
theorem kC_E (q : Nat) (hq : q ∈ 65 :: kC.E) : q = 65 := by simpa [kC, k65, Kd.iso, Kd.pair, Kd.int, Kd.string, Kd.scalar] using hq
/-- An insertion's end is set. -/
theorem IM.setEnd {W : World} {B b : Nat} {i : Ins} {v : Value} {ok : Nat → Prop} (h : IM W B b i v ok) (n : Nat) : IM (W.setCell ⟨b, 1, none⟩ (.int .i64 (n : Int))) B b ⟨i.st, n, i.tk⟩ v ok :=
  ⟨h.hb, blk_put h.hc 1 _ rfl, Kd.R_set h.hr h.hc (fun q hq => by rw [kC_E q hq]; decide) 1 _⟩
theorem IM.far {W : World} {B b b' : Nat} {i i' : Ins} {v v' : Value} {ok ok' : Nat → Prop} (h : IM W B b i v ok) (h' : IM W B b' i' v' ok') (hne : b ≠ b') (j : Nat) (u : Value) : IM (W.setCell ⟨b', j, none⟩ u) B b i v ok :=
  ⟨h.hb, (Below.heap_setCell _ ⟨b', j, none⟩ _ _ hne).trans h.hc, Kd.R_set h.hr h'.hc (fun q hq => by rw [kC_E q hq]; decide) j u⟩
theorem DM.ins {W : World} {B : Nat} {cs : List UInt8} {la : C} {ps : List Nat} {vr : Value} {b : Nat} {i : Ins} {v : Value} {ok : Nat → Prop} (h : DM W B cs la ps vr) (h' : IM W B b i v ok) (j : Nat) (u : Value) : DM (W.setCell ⟨b, j, none⟩ u) B cs la ps vr :=
  h.grown (set_grown W b j u) (fun g e => by obtain rfl := Option.some.inj e; exact ⟨h'.hb, _, _, h'.hc, by decide, by decide⟩)
/-- A token is appended to an insertion's. -/
theorem IM.push {W W8 : World} {B b : Nat} {i : Ins} {v v1 : Value} {ok : Nat → Prop} {t : C} (h : IM W B b i v ok) (hg : W.grownBy W8 v.ownBlock) (ho : Kd.R kC 65 W8 (B + 4) (fun _ => True) v1 (i.tk ++ [t])) : IM (W8.setCell ⟨b, 2, none⟩ v1) B b ⟨i.st, i.en, i.tk ++ [t]⟩ v1 (fun _ => True) := by
  have hne := Kd.R_ne h.hr h.hc (by decide)
  have hc8 : W8.heap[b]? = _ := (hg.block b (blk_lt h.hc) hne).trans h.hc
  exact ⟨h.hb, blk_put hc8 2 _ rfl, Kd.R_set ho hc8 (fun q hq => by rw [kC_E q hq]; decide) 2 _⟩
/-- The others' bytes. -/
def othL : List C → List UInt8
  | [] => []
  | t :: r => if t.f0 = oth then bys t.f1 ++ othL r else othL r
theorem othL_len : ∀ R : List C, (othL R).length = osz R
  | [] => rfl
  | t :: r => by
    unfold othL osz
    split
    · rw [List.length_append, bys_len, othL_len r]
    · rw [othL_len r]; omega
theorem osz_le : ∀ R : List C, osz R ≤ szL R
  | [] => Nat.le_refl _
  | t :: r => by rw [osz, szL_cons]; have := osz_le r; split <;> omega
abbrev Cur := Option (Nat × Ins × Value)
def kpOk (cur : Cur) (k : Nat) : Prop := ∀ c, cur = some c → some k ≠ c.2.2.ownBlock
/-- The first loop, ahead of token k. -/
structure L1 (R : List C) (B : Nat) (w1 : World) (k : Nat) (md : Bool) (cs : List UInt8) (la : C) (off : Nat) (q0 : List (Nat × Ins)) (cur : Cur) (wr : World) : Prop where
  hB : Below B w1 wr
  dm : ∃ vr, DM wr B cs la (q0.map (·.1) ++ (cur.map (·.1)).toList) vr
  h0 : ∀ q ∈ q0, ∃ v, IM wr B q.1 q.2 v (kpOk cur)
  hn : ∀ q ∈ q0, ∀ c, cur = some c → q.1 ≠ c.1
  hc : ∀ c, cur = some c → IM wr B c.1 c.2.1 c.2.2 (fun _ => True)
  hcs : cs ++ othL (R.drop k) = othL R
  hoff : off + szL (R.drop k) = szL R
  hst : md = true → (q0.map (·.2) ++ (cur.map (·.2.1)).toList) ++ insL off (R.drop k) = insL 0 R
  hsn : md = false → ∃ c, cur = some c ∧ c.2.1.en = 0 ∧ q0.map (·.2) ++ insO c.2.1.st c.2.1.tk off (R.drop k) = insL 0 R
  hla : isE la = true ∨ la.f0 ≠ 0
  hl : q0.length ≤ k
  htk : ∀ c, cur = some c → c.2.1.tk.length ≤ k
/-- Ahead of the append of token k to the open insertion. -/
structure Rdy (R : List C) (B : Nat) (w1 : World) (k : Nat) (t : C) (cs : List UInt8) (la : C) (off : Nat) (q0 : List (Nat × Ins)) (b : Nat) (i : Ins) (v : Value) (wr : World) : Prop where
  hB : Below B w1 wr
  dm : ∃ vr, DM wr B cs la (q0.map (·.1) ++ [b]) vr
  h0 : ∀ q ∈ q0, ∃ u, IM wr B q.1 q.2 u (fun k => some k ≠ v.ownBlock)
  hn : ∀ q ∈ q0, q.1 ≠ b
  hc : IM wr B b i v (fun _ => True)
  hen : i.en = 0
  hcs : cs ++ othL (R.drop (k + 1)) = othL R
  hoff : off + t.f1.size + szL (R.drop (k + 1)) = szL R
  hsn : q0.map (·.2) ++ insO i.st (i.tk ++ [t]) (off + t.f1.size) (R.drop (k + 1)) = insL 0 R
  hl : q0.length ≤ k + 1
  hk : i.tk.length ≤ k
theorem L1.alloc {R : List C} {B : Nat} {w1 : World} {k : Nat} {md : Bool} {cs : List UInt8} {la : C} {off : Nat} {q0 : List (Nat × Ins)} {cur : Cur} {wr : World} (h : L1 R B w1 k md cs la off q0 cur wr) (o : Obj) : L1 R B w1 k md cs la off q0 cur (wr.alloc o) := by
  obtain ⟨vr, hd⟩ := h.dm
  exact ⟨h.hB.alloc (by have := hd.hbuf.lt; omega) o, ⟨vr, hd.alloc o⟩, fun q hq => by obtain ⟨v, hv⟩ := h.h0 q hq; exact ⟨v, hv.alloc o⟩, h.hn, fun c e => (h.hc c e).alloc o, h.hcs, h.hoff, h.hst, h.hsn, h.hla, h.hl, h.htk⟩
theorem DM.drew {W : World} {B : Nat} {cs : List UInt8} {la : C} {ps : List Nat} {vr : Value} (h : DM W B cs la ps vr) : DM W.drew B cs la ps vr := ⟨h.hbuf, h.hla, h.hbi, Kd.R_step h.hrow (fun _ _ _ => rfl)⟩
theorem IM.drew {W : World} {B b : Nat} {i : Ins} {v : Value} {ok : Nat → Prop} (h : IM W B b i v ok) : IM W.drew B b i v ok := ⟨h.hb, h.hc, Kd.R_step h.hr (fun _ _ _ => rfl)⟩
theorem L1.drew {R : List C} {B : Nat} {w1 : World} {k : Nat} {md : Bool} {cs : List UInt8} {la : C} {off : Nat} {q0 : List (Nat × Ins)} {cur : Cur} {wr : World} (h : L1 R B w1 k md cs la off q0 cur wr) : L1 R B w1 k md cs la off q0 cur wr.drew := by
  obtain ⟨vr, hd⟩ := h.dm
  exact ⟨h.hB.drew, ⟨vr, hd.drew⟩, fun q hq => by obtain ⟨v, hv⟩ := h.h0 q hq; exact ⟨v, hv.drew⟩, h.hn, fun c e => (h.hc c e).drew, h.hcs, h.hoff, h.hst, h.hsn, h.hla, h.hl, h.htk⟩
/-- A token of the others, no insertion being open. -/
theorem L1.other {R : List C} {B : Nat} {w1 : World} {k : Nat} {cs : List UInt8} {la t : C} {off : Nat} {q0 : List (Nat × Ins)} {cur : Cur} {wr w2 : World} (h : L1 R B w1 k true cs la off q0 cur wr) (hd : R.drop k = t :: R.drop (k + 1)) (ht : t.f0 = oth)
    (hb : IsB B (cs ++ bys t.f1) w2) (hB2 : Below B wr w2) (hk : Lib.OthersKept 5 (some B) wr w2) :
    L1 R B w1 (k + 1) true (cs ++ bys t.f1) t (off + t.f1.size) q0 cur ((w2.setCell ⟨B + 3, 0, none⟩ (.int .i64 t.f0)).setCell ⟨B + 3, 1, none⟩ (.string t.f1)) := by
  obtain ⟨vr, hdm⟩ := h.dm
  have e1 := h.hcs
  have e2 := h.hoff
  have e3 := h.hst rfl
  rw [hd] at e1 e2 e3
  rw [othL, if_pos ht, ← List.append_assoc] at e1
  rw [szL_cons] at e2
  rw [insL, if_pos ht] at e3
  refine ⟨((h.hB.trans hB2).setCell (p := ⟨B + 3, 0, none⟩) (by show B ≤ B + 3; omega) _).setCell (p := ⟨B + 3, 1, none⟩) (by show B ≤ B + 3; omega) _, ⟨vr, (hdm.write hb hk).last t⟩, fun q hq => ?_, h.hn, fun c e => ((h.hc c e).write hk).last t, e1, by omega, fun _ => e3, fun hn => (by cases hn), .inr (by rw [ht]; decide), by have := h.hl; omega, fun c e => Nat.le_succ_of_le (h.htk c e)⟩
  obtain ⟨v, hv⟩ := h.h0 q hq
  exact ⟨v, (hv.write hk).last t⟩
/-- The open insertion ends. -/
theorem L1.close {R : List C} {B : Nat} {w1 : World} {k : Nat} {cs : List UInt8} {la t : C} {off b : Nat} {i : Ins} {v : Value} {q0 : List (Nat × Ins)} {wr : World} (h : L1 R B w1 k false cs la off q0 (some (b, i, v)) wr) (hd : R.drop k = t :: R.drop (k + 1)) (ht : t.f0 = oth) :
    L1 R B w1 k true cs la off q0 (some (b, ⟨i.st, off, i.tk⟩, v)) (wr.setCell ⟨b, 1, none⟩ (.int .i64 (off : Int))) := by
  obtain ⟨vr, hdm⟩ := h.dm
  have hc := h.hc _ rfl
  obtain ⟨c, hcc, hen, he⟩ := h.hsn rfl
  obtain rfl := Option.some.inj hcc
  rw [hd, insO, if_pos ht] at he
  refine ⟨h.hB.setCell (p := ⟨b, 1, none⟩) (by have := hc.hb; show B ≤ b; omega) _, ⟨vr, hdm.ins hc 1 _⟩, fun q hq => ?_, fun q hq c e => ?_, fun c e => ?_, h.hcs, h.hoff, fun _ => ?_, fun hn => (by cases hn), h.hla, h.hl, fun c e => (by obtain rfl := Option.some.inj e; exact h.htk (b, i, v) rfl)⟩
  · obtain ⟨u, hu⟩ := h.h0 q hq
    have hu' := hu.far hc (h.hn q hq _ rfl) 1 (.int .i64 (off : Int))
    refine ⟨u, hu'.hb, hu'.hc, Kd.R_mono hu'.hr (fun k hk c e => ?_)⟩
    obtain rfl := Option.some.inj e
    exact hk (b, i, v) rfl
  · obtain rfl := Option.some.inj e
    exact h.hn q hq (b, i, v) rfl
  · obtain rfl := Option.some.inj e
    exact hc.setEnd off
  · rw [hd, insL, if_pos ht, List.append_assoc]; exact he
/-- A token of the language's own behind another. -/
theorem L1.rdy {R : List C} {B : Nat} {w1 : World} {k : Nat} {cs : List UInt8} {la t : C} {off b : Nat} {i : Ins} {v : Value} {q0 : List (Nat × Ins)} {wr : World} (h : L1 R B w1 k false cs la off q0 (some (b, i, v)) wr) (hd : R.drop k = t :: R.drop (k + 1)) (ht : t.f0 ≠ oth) :
    Rdy R B w1 k t cs la off q0 b i v wr := by
  obtain ⟨vr, hdm⟩ := h.dm
  have hc := h.hc _ rfl
  obtain ⟨c, hcc, hen, he⟩ := h.hsn rfl
  obtain rfl := Option.some.inj hcc
  have e1 := h.hcs
  have e2 := h.hoff
  rw [hd] at e1 e2 he
  rw [othL, if_neg ht] at e1
  rw [szL_cons] at e2
  rw [insO, if_neg ht] at he
  refine ⟨h.hB, ⟨vr, hdm⟩, fun q hq => ?_, fun q hq => h.hn q hq _ rfl, hc, hen, e1, by omega, he, by have := h.hl; omega, h.htk _ rfl⟩
  obtain ⟨u, hu⟩ := h.h0 q hq
  exact ⟨u, hu.hb, hu.hc, Kd.R_mono hu.hr (fun k hk => hk _ rfl)⟩
/-- The row of insertions gets one more. -/
theorem DM.row {W w8 : World} {B : Nat} {cs : List UInt8} {la : C} {ps ps1 : List Nat} {vr vr1 : Value} (h : DM W B cs la ps vr) (hg : W.grownBy w8 vr.ownBlock) (ho : Kd.R kP 129 w8 B (fun _ => True) vr1 ps1) : DM (w8.setCell ⟨B + 2, 0, none⟩ vr1) B cs la ps1 vr1 := by
  have lB := h.hbuf.lt
  have hbb : ∃ c, W.heap[B]? = some (.cells c 127 (0, 0)) := by obtain ⟨_, v, lr, h1, _⟩ := h.hbuf; exact ⟨_, h1⟩
  obtain ⟨c0, h0⟩ := hbb
  have hbi8 : w8.heap[B + 2]? = _ := (hg.block _ (blk_lt h.hbi) (Kd.R_ne h.hrow h.hbi (by decide))).trans h.hbi
  have far : ∀ k, k ≠ B + 2 → (w8.setCell ⟨B + 2, 0, none⟩ vr1).heap[k]? = w8.heap[k]? := fun k hk => Below.heap_setCell _ ⟨B + 2, 0, none⟩ _ k hk
  refine ⟨isb_step h.hbuf ((far _ (by omega)).trans (hg.block _ lB (Kd.R_ne h.hrow h0 (by decide)))) (fun k c hk => (far _ ?_).trans (hg.block _ (blk_lt hk) (Kd.R_ne h.hrow hk (by decide)))), (far _ (by omega)).trans ((hg.block _ (blk_lt h.hla) (Kd.R_ne h.hrow h.hla (by decide))).trans h.hla), blk_put hbi8 0 _ rfl, Kd.R_set ho hbi8 (fun q hq => ?_) 0 _⟩
  · rintro rfl; rw [h.hbi] at hk; cases hk
  · have : q = 129 := by simpa [kP, Kd.scalar] using hq
    rw [this]; decide
theorem IM.row {W w8 : World} {B : Nat} {cs : List UInt8} {la : C} {ps : List Nat} {vr vr1 : Value} {b : Nat} {i : Ins} {v : Value} {ok : Nat → Prop} (h : IM W B b i v ok) (hd : DM W B cs la ps vr) (hg : W.grownBy w8 vr.ownBlock) : IM (w8.setCell ⟨B + 2, 0, none⟩ vr1) B b i v ok :=
  (h.grown hg (fun e => Kd.R_ne hd.hrow h.hc (by decide) e.symm) (fun k _ _ _ hk => by obtain ⟨c, hk⟩ := hk; exact Kd.R_ne hd.hrow hk (by decide))).grown (set_grown w8 (B + 2) 0 _) (fun e => by have := h.hb; have := Option.some.inj e; omega) (fun k _ h2 _ _ e => by have := Option.some.inj e; omega)
/-- A new insertion. -/
theorem L1.fresh {R : List C} {B : Nat} {w1 : World} {k : Nat} {cs : List UInt8} {la t : C} {off : Nat} {q0 : List (Nat × Ins)} {cur : Cur} {wr w8 : World} {vr vr1 : Value} (h : L1 R B w1 k true cs la off q0 cur wr) (hdm : DM wr B cs la (q0.map (·.1) ++ (cur.map (·.1)).toList) vr) (hd : R.drop k = t :: R.drop (k + 1)) (ht : t.f0 ≠ oth) (hB4 : B + 4 ≤ wr.heap.size)
    (hg : (wr.alloc (.cells #[.int .i64 (off : Int), .int .i64 0, .slice none 0 0] 131)).grownBy w8 vr.ownBlock) (hBw : Below B w1 w8) (ho : Kd.R kP 129 w8 B (fun _ => True) vr1 ((q0.map (·.1) ++ (cur.map (·.1)).toList) ++ [wr.heap.size])) :
    Rdy R B w1 k t cs la off (q0 ++ (cur.map fun c => (c.1, c.2.1)).toList) wr.heap.size ⟨off, 0, []⟩ (.slice none 0 0) (w8.setCell ⟨B + 2, 0, none⟩ vr1) := by
  have hdm' := hdm.alloc (.cells #[.int .i64 (off : Int), .int .i64 0, .slice none 0 0] 131)
  have e1 := h.hcs
  have e2 := h.hoff
  have e3 := h.hst rfl
  rw [hd] at e1 e2 e3
  rw [othL, if_neg ht] at e1
  rw [szL_cons] at e2
  rw [insL, if_neg ht] at e3
  have hnew : IM (wr.alloc (.cells #[.int .i64 (off : Int), .int .i64 0, .slice none 0 0] 131)) B wr.heap.size ⟨off, 0, []⟩ (.slice none 0 0) (fun _ => True) := ⟨hB4, blk_new wr _, Kd.R_nil _ _ _ _ _⟩
  refine ⟨hBw.setCell (p := ⟨B + 2, 0, none⟩) (by show B ≤ B + 2; omega) _, ⟨vr1, ?_⟩, fun q hq => ?_, fun q hq => ?_, hnew.row hdm' hg, rfl, e1, by omega, ?_, ?_, Nat.zero_le _⟩
  · have := hdm'.row hg ho
    have e : (q0 ++ (cur.map fun c => (c.1, c.2.1)).toList).map (·.1) = q0.map (·.1) ++ (cur.map (·.1)).toList := by cases cur <;> simp
    rw [e]; exact this
  · rcases List.mem_append.1 hq with hq | hq
    · obtain ⟨u, hu⟩ := h.h0 q hq
      have hu' := (hu.alloc (.cells #[.int .i64 (off : Int), .int .i64 0, .slice none 0 0] 131)).row (vr1 := vr1) hdm' hg
      exact ⟨u, hu'.hb, hu'.hc, Kd.R_mono hu'.hr (fun k _ => by simp [Value.ownBlock])⟩
    · cases cur with
      | none => cases hq
      | some c =>
        obtain rfl := List.mem_singleton.1 hq
        have hu' := ((h.hc c rfl).alloc (.cells #[.int .i64 (off : Int), .int .i64 0, .slice none 0 0] 131)).row (vr1 := vr1) hdm' hg
        exact ⟨c.2.2, hu'.hb, hu'.hc, Kd.R_mono hu'.hr (fun k _ => by simp [Value.ownBlock])⟩
  · rcases List.mem_append.1 hq with hq | hq
    · obtain ⟨u, hu⟩ := h.h0 q hq
      exact Nat.ne_of_lt (blk_lt hu.hc)
    · cases cur with
      | none => cases hq
      | some c =>
        obtain rfl := List.mem_singleton.1 hq
        exact Nat.ne_of_lt (blk_lt (h.hc c rfl).hc)
  · have e : (q0 ++ (cur.map fun c => (c.1, c.2.1)).toList).map (·.2) = q0.map (·.2) ++ (cur.map (·.2.1)).toList := by cases cur <;> simp
    rw [e]; exact e3
  · have := h.hl
    rw [List.length_append]
    cases cur <;> simp <;> omega
theorem Rdy.drew {R : List C} {B : Nat} {w1 : World} {k : Nat} {cs : List UInt8} {la t : C} {off b : Nat} {i : Ins} {v : Value} {q0 : List (Nat × Ins)} {wr : World} (h : Rdy R B w1 k t cs la off q0 b i v wr) : Rdy R B w1 k t cs la off q0 b i v wr.drew := by
  obtain ⟨vr, hd⟩ := h.dm
  exact ⟨h.hB.drew, ⟨vr, hd.drew⟩, fun q hq => by obtain ⟨v, hv⟩ := h.h0 q hq; exact ⟨v, hv.drew⟩, h.hn, h.hc.drew, h.hen, h.hcs, h.hoff, h.hsn, h.hl, h.hk⟩
/-- The token is in. -/
theorem Rdy.done {R : List C} {B : Nat} {w1 : World} {k : Nat} {cs : List UInt8} {la t : C} {off b : Nat} {i : Ins} {v v1 : Value} {q0 : List (Nat × Ins)} {wr w8 : World} (h : Rdy R B w1 k t cs la off q0 b i v wr) (hg : wr.grownBy w8 v.ownBlock) (hBw : Below B w1 w8) (ho : Kd.R kC 65 w8 (B + 4) (fun _ => True) v1 (i.tk ++ [t])) (hat : v1.ownBlock = v.ownBlock ∨ ∃ c, v1.ownBlock = some c ∧ wr.heap.size ≤ c) (htz : t.f0 ≠ 0) :
    L1 R B w1 (k + 1) false cs t (off + t.f1.size) q0 (some (b, ⟨i.st, i.en, i.tk ++ [t]⟩, v1)) (((w8.setCell ⟨b, 2, none⟩ v1).setCell ⟨B + 3, 0, none⟩ (.int .i64 t.f0)).setCell ⟨B + 3, 1, none⟩ (.string t.f1)) := by
  obtain ⟨vr, hdm⟩ := h.dm
  have hrow : ∀ g, v.ownBlock = some g → B + 4 ≤ g ∧ ∃ c t, wr.heap[g]? = some (.cells c t (0, 0)) ∧ t ≠ 5 ∧ t ≠ 129 := fun g e => by
    obtain ⟨h1, h2⟩ := (Kd.R_bound h.hc.hr).1 g e
    obtain ⟨h3, _, q, hq, c, hc⟩ := h2
    exact ⟨h3, c, q, hc, by rw [kC_E q hq]; decide, by rw [kC_E q hq]; decide⟩
  have hI := h.hc.push hg ho
  refine ⟨((hBw.setCell (p := ⟨b, 2, none⟩) (by have := h.hc.hb; show B ≤ b; omega) _).setCell (p := ⟨B + 3, 0, none⟩) (by show B ≤ B + 3; omega) _).setCell (p := ⟨B + 3, 1, none⟩) (by show B ≤ B + 3; omega) _, ⟨vr, ((hdm.grown hg hrow).grown (set_grown w8 b 2 _) (fun g e => ?_)).last t⟩, fun q hq => ?_, fun q hq c e => ?_, fun c e => ?_, h.hcs, h.hoff, fun hn => (by cases hn), fun _ => ⟨_, rfl, h.hen, h.hsn⟩, .inr htz, h.hl, fun c e => (by obtain rfl := Option.some.inj e; have := h.hk; show (i.tk ++ [t]).length ≤ _; rw [List.length_append]; simp; omega)⟩
  · obtain rfl := Option.some.inj e
    exact ⟨h.hc.hb, _, _, (hg.block b (blk_lt h.hc.hc) (Kd.R_ne h.hc.hr h.hc.hc (by decide))).trans h.hc.hc, by decide, by decide⟩
  · obtain ⟨u, hu⟩ := h.h0 q hq
    have hu1 : IM wr B q.1 q.2 u (fun k => some k ≠ v.ownBlock ∧ some k ≠ v1.ownBlock) := ⟨hu.hb, hu.hc, Kd.R_mono (Kd.R_bound hu.hr) (fun k hk => ⟨hk.1, by
      rcases hat with e | ⟨c, e, hc⟩
      · rw [e]; exact hk.1
      · rw [e]; intro e2; have := Option.some.inj e2; have := hk.2.2.1; omega⟩)⟩
    have hu2 := hu1.grown hg (fun e => Kd.R_ne h.hc.hr hu.hc (by decide) e.symm) (fun k hk _ _ _ => hk.1)
    have hc8 : IM w8 B b i v (fun _ => False) ∨ True := .inr trivial
    have hb8 : w8.heap[b]? = _ := (hg.block b (blk_lt h.hc.hc) (Kd.R_ne h.hc.hr h.hc.hc (by decide))).trans h.hc.hc
    have hu3 : IM (w8.setCell ⟨b, 2, none⟩ v1) B q.1 q.2 u (fun k => some k ≠ v.ownBlock ∧ some k ≠ v1.ownBlock) := ⟨hu2.hb, (Below.heap_setCell _ ⟨b, 2, none⟩ _ _ (h.hn q hq)).trans hu2.hc, Kd.R_set hu2.hr hb8 (fun q hq => by rw [kC_E q hq]; decide) 2 _⟩
    have hu4 := hu3.last t
    refine ⟨u, hu4.hb, hu4.hc, Kd.R_mono hu4.hr (fun k hk c e => ?_)⟩
    obtain rfl := Option.some.inj e
    exact hk.2
  · obtain rfl := Option.some.inj e
    exact h.hn q hq
  · obtain rfl := Option.some.inj e
    exact hI.last t
end Go.Proofs.YtmldahejeobohaaDoorTake
