/- A delegating lexer's second loop: what it keeps. -/
import Derived.Test.YtmldahejeobohaaDoorDelM
set_option linter.unusedVariables false
set_option linter.unusedSimpArgs false
namespace Go.Proofs.YtmldahejeobohaaDoorTake
open Go.RowKit Go.Proofs.YtmldahejeobohaaDoorW.PrintWords Go.Proofs.YtmldahejeobohaaDoor.A Go.Proofs.YtmldahejeobohaaDoorFmt
/-- Behind the first loop. -/
theorem L1.fin {R : List C} {B : Nat} {w1 : World} {k : Nat} {md : Bool} {cs : List UInt8} {la : C} {off : Nat} {q0 : List (Nat × Ins)} {cur : Cur} {wr : World} (h : L1 R B w1 k md cs la off q0 cur wr) (hk : k = R.length) :
    ∃ (qs : List (Nat × Ins)) (vr : Value), qs.map (·.2) = insL 0 R ∧ DM wr B (othL R) la (qs.map (·.1)) vr ∧ ∀ q ∈ qs, ∃ v, IM wr B q.1 q.2 v (fun _ => True) := by
  obtain ⟨vr, hd⟩ := h.dm
  have e0 : R.drop k = [] := List.drop_eq_nil_of_le (by omega)
  have ecs : cs = othL R := by have := h.hcs; rw [e0, othL, List.append_nil] at this; exact this
  refine ⟨q0 ++ (cur.map fun c => (c.1, c.2.1)).toList, vr, ?_, ?_, fun q hq => ?_⟩
  · have e : (q0 ++ (cur.map fun c => (c.1, c.2.1)).toList).map (·.2) = q0.map (·.2) ++ (cur.map (·.2.1)).toList := by cases cur <;> simp
    rw [e]
    cases md with
    | true =>
      have := h.hst rfl
      rw [e0, insL, List.append_nil] at this
      exact this
    | false =>
      obtain ⟨c, rfl, h1, h2⟩ := h.hsn rfl
      rw [e0, insO] at h2
      rw [← h2, ← h1]
      rfl
  · have e : (q0 ++ (cur.map fun c => (c.1, c.2.1)).toList).map (·.1) = q0.map (·.1) ++ (cur.map (·.1)).toList := by cases cur <;> simp
    rw [e, ← ecs]
    exact hd
  · rcases List.mem_append.1 hq with hq | hq
    · obtain ⟨v, hv⟩ := h.h0 q hq
      exact ⟨v, hv.hb, hv.hc, Kd.R_mono hv.hr (fun _ _ => trivial)⟩
    · cases cur with
      | none => cases hq
      | some c =>
        obtain rfl := List.mem_singleton.1 hq
        exact ⟨c.2.2, h.hc c rfl⟩
def tks (is : List Ins) : Nat := (is.map fun i => i.tk.length).sum
theorem tks_cons (i : Ins) (r : List Ins) : tks (i :: r) = i.tk.length + tks r := rfl
mutual
theorem tks_L (R : List C) (off : Nat) : tks (insL off R) ≤ R.length ∧ (insL off R).length ≤ R.length := by
  match R with
  | [] => exact ⟨Nat.le_refl _, Nat.le_refl _⟩
  | t :: r =>
    rw [insL]
    have h1 := tks_L r (off + t.f1.size)
    have h2 := tks_O r off [t] (off + t.f1.size)
    simp only [List.length_cons, List.length_nil] at *
    split
    · omega
    · omega
theorem tks_O (R : List C) (st : Nat) (tk : List C) (off : Nat) : tks (insO st tk off R) ≤ tk.length + R.length ∧ (insO st tk off R).length ≤ R.length + 1 := by
  match R with
  | [] => exact ⟨by rw [insO]; show tk.length + 0 ≤ _; simp, by rw [insO]; simp⟩
  | t :: r =>
    rw [insO]
    have h1 := tks_L r (off + t.f1.size)
    have h2 := tks_O r st (tk ++ [t]) (off + t.f1.size)
    simp only [List.length_append, List.length_cons, List.length_nil] at *
    split
    · rw [tks_cons]; simp only [List.length_cons]; omega
    · omega
end
theorem merge_len (q : List C) (is : List Ins) (m : Nat) : (merge q is m).length ≤ q.length + is.length + tks is := by
  match q, is with
  | q, [] => rw [merge]; omega
  | [], i :: r =>
    have := merge_len [] r (m + (i.en - i.st))
    rw [merge, List.length_append, tks_cons]
    simp only [List.length_cons, List.length_nil] at *
    omega
  | t :: q, i :: r =>
    have h1 := merge_len (t :: q) r (m + (i.en - i.st))
    have h2 := merge_len (⟨t.f0, rig t.f1 (i.st - m)⟩ :: q) r (i.st + (i.en - i.st))
    have h3 := merge_len q (i :: r) (m + t.f1.size)
    rw [merge, tks_cons]
    rw [tks_cons] at h3
    simp only [List.length_cons] at *
    split
    · split
      · rw [List.length_append]; omega
      · simp only [List.length_cons, List.length_append]; omega
    · simp only [List.length_cons]; omega
termination_by (is.length, q.length)
/-- An insertion, read. -/
def InsR (W : World) (b : Nat) (i : Ins) : Prop := ∃ A c, W.heap[b]? = some (.cells #[.int .i64 (i.st : Int), .int .i64 (i.en : Int), .slice A i.tk.length c] 131 (0, 0)) ∧ Kd.C kC W A i.tk.length i.tk ∧ i.tk.length ≤ c
theorem InsR.of {W : World} {B b : Nat} {i : Ins} {v : Value} {ok : Nat → Prop} (h : IM W B b i v ok) : InsR W b i := by
  obtain ⟨A, c, rfl, hc, hC⟩ := Kd.R_reads h.hr
  exact ⟨A, c, h.hc, hC, hc⟩
theorem InsR.below {W W' : World} {b : Nat} {i : Ins} (h : InsR W b i) (hB : Below W.heap.size W W') : InsR W' b i := by
  obtain ⟨A, c, h1, h2, h3⟩ := h
  exact ⟨A, c, (hB.block _ (blk_lt h1)).trans h1, Kd.C_below h2 hB, h3⟩
/-- The second loop, in memory: root's tokens are handed out up to kT, insertions up to kI; tc is the token in hand; dn what is done. -/
structure M2 (w3 : World) (Bi Bt b0 : Nat) (RT : List C) (ps : List Nat) (kT kI : Nat) (tc : C) (dn : List C) (v : Value) (wr : World) : Prop where
  hB : Below w3.heap.size w3 wr
  nt : NxT wr (w3.heap.size + 1) w3.heap.size RT kT
  ni : NxI wr (w3.heap.size + 2) Bi ps kI
  ht : wr.heap[Bt]? = some (.cells #[.int .i64 tc.f0, .string tc.f1] 65 (0, 0))
  hR : Kd.R kC 65 wr b0 (fun _ => True) v dn
  hb : b0 ≤ wr.heap.size
  hs : w3.heap.size + 2 < Bt ∧ Bt < b0 ∧ Bi < w3.heap.size
/-- The second loop, plain. -/
structure P2 (RT : List C) (is : List Ins) (tot : List C) (kT j : Nat) (q : List C) (m : Nat) (dn : List C) : Prop where
  hk : kT ≤ RT.length
  hq : q.tail = RT.drop kT
  eq : dn ++ merge q (is.drop j) m = tot
  wf : WFi m (is.drop j)
  gp : gaps m (is.drop j) ≤ szL q
  nz : ∀ x ∈ q, x.f0 ≠ 0
  sz : szL q ≤ 8191
theorem NxT.move {w w' : World} {Bk Br k : Nat} {RT : List C} (h : NxT w Bk Br RT k) (hB : Below w.heap.size w w') : NxT w' Bk Br RT k := by
  obtain ⟨h1, A, c, h2, h3, h4⟩ := h
  exact ⟨(hB.block _ (blk_lt h1)).trans h1, A, c, (hB.block _ (blk_lt h2)).trans h2, Kd.C_below h3 hB, h4⟩
theorem M2.grown {w3 : World} {Bi Bt b0 : Nat} {RT : List C} {ps : List Nat} {kT kI : Nat} {tc : C} {dn dn' : List C} {v v' : Value} {wr w' : World} {row : Option Nat} (h : M2 w3 Bi Bt b0 RT ps kT kI tc dn v wr) (hC3 : ∃ A c, w3.heap.size < b0 ∧ wr.heap[w3.heap.size]? = some (.cells #[.slice A RT.length c] 50 (0, 0)) ∧ Kd.C kC w3 A RT.length RT ∧ RT.length ≤ c) (hCp : ∃ A c, wr.heap[Bi]? = some (.cells #[.slice A ps.length c] 128 (0, 0)) ∧ Kd.C kP w3 A ps.length ps ∧ ps.length ≤ c)
    (hg : wr.grownBy w' row) (hr : ∀ r, row = some r → b0 ≤ r) (hR : Kd.R kC 65 w' b0 (fun _ => True) v' dn') : M2 w3 Bi Bt b0 RT ps kT kI tc dn' v' w' := by
  have hB := h.hB.grown hg h.hB.size (fun r e => by have := hr r e; have := h.hs; omega)
  have far : ∀ k, k < b0 → k < wr.heap.size → w'.heap[k]? = wr.heap[k]? := fun k hk hlt => hg.block k hlt (fun e => by have := hr k e.symm; omega)
  obtain ⟨A, c, p1, p2, p3, p4⟩ := hC3
  obtain ⟨A', c', q1, q2, q3⟩ := hCp
  have hs := h.hs
  exact ⟨hB, ⟨(far _ (by omega) (blk_lt h.nt.hk)).trans h.nt.hk, A, c, (far _ p1 (blk_lt p2)).trans p2, Kd.C_below p3 hB, p4⟩, ⟨(far _ (by omega) (blk_lt h.ni.hk)).trans h.ni.hk, A', c', (far _ (by omega) (blk_lt q1)).trans q1, Kd.C_below q2 hB, q3⟩, (far _ hs.2.1 (blk_lt h.ht)).trans h.ht, hR, Nat.le_trans h.hb hg.size, hs⟩
/-- What stands still all along. -/
structure S2 (w3 : World) (Bi b0 : Nat) (RT : List C) (ps : List Nat) (A : Option Addr) (c : Nat) (A' : Option Addr) (c' : Nat) : Prop where
  h3 : Kd.C kC w3 A RT.length RT
  c3 : RT.length ≤ c
  hp : Kd.C kP w3 A' ps.length ps
  cp : ps.length ≤ c'
  hb : w3.heap[Bi]? = some (.cells #[.slice A' ps.length c'] 128 (0, 0))
/-- A block of the loop's own is set. -/
theorem M2.put {w3 : World} {Bi Bt b0 : Nat} {RT : List C} {ps : List Nat} {kT kI kT' kI' : Nat} {tc tc' : C} {dn : List C} {v : Value} {wr w' : World} {r : Nat} {A A' : Option Addr} {c c' : Nat} (h : M2 w3 Bi Bt b0 RT ps kT kI tc dn v wr) (s : S2 w3 Bi b0 RT ps A c A' c') (hD : wr.heap[w3.heap.size]? = some (.cells #[.slice A RT.length c] 50 (0, 0))) (hg : wr.grownBy w' (some r)) (hr : w3.heap.size < r) (hrb : r < b0)
    (h1 : w'.heap[w3.heap.size + 1]? = some (.cells #[.int .i64 (kT' : Int)] 3 (0, 0))) (h2 : w'.heap[w3.heap.size + 2]? = some (.cells #[.int .i64 (kI' : Int)] 3 (0, 0))) (h3 : w'.heap[Bt]? = some (.cells #[.int .i64 tc'.f0, .string tc'.f1] 65 (0, 0))) :
    M2 w3 Bi Bt b0 RT ps kT' kI' tc' dn v w' ∧ w'.heap[w3.heap.size]? = some (.cells #[.slice A RT.length c] 50 (0, 0)) := by
  have hB := h.hB.grown hg h.hB.size (fun r' e => by have := Option.some.inj e; omega)
  have hd : w'.heap[w3.heap.size]? = some (.cells #[.slice A RT.length c] 50 (0, 0)) := (hg.block _ (blk_lt hD) (fun e => by have := Option.some.inj e; omega)).trans hD
  exact ⟨⟨hB, ⟨h1, A, c, hd, Kd.C_below s.h3 hB, s.c3⟩, ⟨h2, A', c', (hB.block _ (blk_lt s.hb)).trans s.hb, Kd.C_below s.hp hB, s.cp⟩, h3, Kd.R_mono (Kd.R_grown (Kd.R_bound h.hR) hg (fun k hk e => by have := Option.some.inj e; have := hk.2.1; omega)) (fun _ _ => trivial), Nat.le_trans h.hb hg.size, h.hs⟩, hd⟩
/-- Both together. -/
structure L2 (w3 : World) (Bi Bt b0 : Nat) (RT : List C) (ps : List Nat) (A : Option Addr) (c : Nat) (kT kI : Nat) (tc : C) (dn : List C) (v : Value) (wr : World) : Prop where
  m : M2 w3 Bi Bt b0 RT ps kT kI tc dn v wr
  d : wr.heap[w3.heap.size]? = some (.cells #[.slice A RT.length c] 50 (0, 0))
section
variable {w3 : World} {Bi Bt b0 : Nat} {RT : List C} {ps : List Nat} {kT kI : Nat} {tc : C} {dn dn' : List C} {v v' : Value} {wr w' : World} {A A' : Option Addr} {c c' : Nat}
theorem L2.grown {row : Option Nat} (h : L2 w3 Bi Bt b0 RT ps A c kT kI tc dn v wr) (s : S2 w3 Bi b0 RT ps A c A' c') (hg : wr.grownBy w' row) (hr : ∀ r, row = some r → b0 ≤ r) (hR : Kd.R kC 65 w' b0 (fun _ => True) v' dn') : L2 w3 Bi Bt b0 RT ps A c kT kI tc dn' v' w' := by
  have hs := h.m.hs
  exact ⟨h.m.grown ⟨A, c, by omega, h.d, s.h3, s.c3⟩ ⟨A', c', (h.m.hB.block _ (blk_lt s.hb)).trans s.hb, s.hp, s.cp⟩ hg hr hR, (hg.block _ (blk_lt h.d) (fun e => by have := hr _ e.symm; omega)).trans h.d⟩
theorem L2.below (h : L2 w3 Bi Bt b0 RT ps A c kT kI tc dn v wr) (s : S2 w3 Bi b0 RT ps A c A' c') (hB : Below wr.heap.size wr w') : L2 w3 Bi Bt b0 RT ps A c kT kI tc dn v w' :=
  h.grown s (grown_of_below hB none) (fun _ e => by cases e) (Kd.R_below h.m.hR hB)
theorem L2.alloc (h : L2 w3 Bi Bt b0 RT ps A c kT kI tc dn v wr) (s : S2 w3 Bi b0 RT ps A c A' c') (o : Obj) : L2 w3 Bi Bt b0 RT ps A c kT kI tc dn v (wr.alloc o) := h.below s ((Below.refl _ _).alloc (Nat.le_refl _) _)
theorem L2.drewN (h : L2 w3 Bi Bt b0 RT ps A c kT kI tc dn v wr) (s : S2 w3 Bi b0 RT ps A c A' c') (n : Nat) : L2 w3 Bi Bt b0 RT ps A c kT kI tc dn v (wr.drewN n) := h.below s (pw_below_drewN (Below.refl _ _) n)
theorem L2.drew (h : L2 w3 Bi Bt b0 RT ps A c kT kI tc dn v wr) (s : S2 w3 Bi b0 RT ps A c A' c') : L2 w3 Bi Bt b0 RT ps A c kT kI tc dn v wr.drew := h.below s ((Below.refl _ _).drew)
theorem L2.app (h : L2 w3 Bi Bt b0 RT ps A c kT kI tc dn v wr) (s : S2 w3 Bi b0 RT ps A c A' c') (hg : wr.grownBy w' v.ownBlock) (hR : Kd.R kC 65 w' b0 (fun _ => True) v' dn') : L2 w3 Bi Bt b0 RT ps A c kT kI tc dn' v' w' := h.grown s hg (fun r e => Kd.R_base h.m.hR r e) hR
theorem L2.next {kT' : Nat} (h : L2 w3 Bi Bt b0 RT ps A c kT kI tc dn v wr) (s : S2 w3 Bi b0 RT ps A c A' c') (hg : wr.grownBy w' (some (w3.heap.size + 1))) (hk : w'.heap[w3.heap.size + 1]? = some (.cells #[.int .i64 (kT' : Int)] 3 (0, 0))) : L2 w3 Bi Bt b0 RT ps A c kT' kI tc dn v w' := by
  have hs := h.m.hs
  have := h.m.put s h.d hg (by omega) (by omega) hk ((hg.block _ (blk_lt h.m.ni.hk) (fun e => by have := Option.some.inj e; omega)).trans h.m.ni.hk) ((hg.block _ (blk_lt h.m.ht) (fun e => by have := Option.some.inj e; omega)).trans h.m.ht)
  exact ⟨this.1, this.2⟩
theorem L2.nextI {kI' : Nat} (h : L2 w3 Bi Bt b0 RT ps A c kT kI tc dn v wr) (s : S2 w3 Bi b0 RT ps A c A' c') (hg : wr.grownBy w' (some (w3.heap.size + 2))) (hk : w'.heap[w3.heap.size + 2]? = some (.cells #[.int .i64 (kI' : Int)] 3 (0, 0))) : L2 w3 Bi Bt b0 RT ps A c kT kI' tc dn v w' := by
  have hs := h.m.hs
  have := h.m.put s h.d hg (by omega) (by omega) ((hg.block _ (blk_lt h.m.nt.hk) (fun e => by have := Option.some.inj e; omega)).trans h.m.nt.hk) hk ((hg.block _ (blk_lt h.m.ht) (fun e => by have := Option.some.inj e; omega)).trans h.m.ht)
  exact ⟨this.1, this.2⟩
theorem L2.setT (h : L2 w3 Bi Bt b0 RT ps A c kT kI tc dn v wr) (s : S2 w3 Bi b0 RT ps A c A' c') (x : C) : L2 w3 Bi Bt b0 RT ps A c kT kI x dn v ((wr.setCell ⟨Bt, 0, none⟩ (.int .i64 x.f0)).setCell ⟨Bt, 1, none⟩ (.string x.f1)) := by
  have hs := h.m.hs
  have hg : wr.grownBy ((wr.setCell ⟨Bt, 0, none⟩ (.int .i64 x.f0)).setCell ⟨Bt, 1, none⟩ (.string x.f1)) (some Bt) := (set_grown wr Bt 0 _).trans (set_grown _ Bt 1 _)
  have := h.m.put s h.d hg (by omega) hs.2.1 ((hg.block _ (blk_lt h.m.nt.hk) (fun e => by have := Option.some.inj e; omega)).trans h.m.nt.hk) ((hg.block _ (blk_lt h.m.ni.hk) (fun e => by have := Option.some.inj e; omega)).trans h.m.ni.hk) (blk_put (blk_put h.m.ht 0 _ rfl) 1 _ rfl)
  exact ⟨this.1, this.2⟩
end
/-- The world in which the second loop's closures are made. -/
abbrev W4o (w3 : World) (A3 : Option Addr) (n c3 : Nat) : World := ((w3.alloc (.cells #[.slice A3 n c3] 50)).alloc (.cells #[.int .i64 0] 3)).alloc (.cells #[.int .i64 0] 3)
theorem W4o.facts (w3 : World) (A3 : Option Addr) (n c3 : Nat) : Below w3.heap.size w3 (W4o w3 A3 n c3) ∧ (W4o w3 A3 n c3).heap[w3.heap.size]? = some (.cells #[.slice A3 n c3] 50 (0, 0)) ∧ (W4o w3 A3 n c3).heap[w3.heap.size + 1]? = some (.cells #[.int .i64 0] 3 (0, 0)) ∧ (W4o w3 A3 n c3).heap[w3.heap.size + 2]? = some (.cells #[.int .i64 0] 3 (0, 0)) ∧ (W4o w3 A3 n c3).heap.size = w3.heap.size + 3 := by
  have h1 := (Below.refl w3.heap.size w3).alloc (Nat.le_refl _) (.cells #[.slice A3 n c3] 50)
  have h2 := h1.alloc h1.size (.cells #[.int .i64 0] 3)
  refine ⟨h2.alloc h2.size _, blk_alloc (blk_alloc (blk_new w3 _) _) _, blk_alloc ?_ _, ?_, by rw [World.size_alloc, World.size_alloc, World.size_alloc]⟩
  · have := blk_new (w3.alloc (.cells #[.slice A3 n c3] 50)) (.cells #[.int .i64 0] 3)
    rw [World.size_alloc] at this; exact this
  · have := blk_new ((w3.alloc (.cells #[.slice A3 n c3] 50)).alloc (.cells #[.int .i64 0] 3)) (.cells #[.int .i64 0] 3)
    rw [World.size_alloc, World.size_alloc] at this; exact this
theorem nxT_start {w3 : World} {A3 : Option Addr} {c3 : Nat} {RT : List C} (hC3 : Kd.C kC w3 A3 RT.length RT) (hc3 : RT.length ≤ c3) : NxT (W4o w3 A3 RT.length c3) (w3.heap.size + 1) w3.heap.size RT 0 := by
  obtain ⟨h1, h2, h3, h4, h5⟩ := W4o.facts w3 A3 RT.length c3
  exact ⟨h3, A3, c3, h2, Kd.C_below hC3 h1, hc3⟩
theorem below_grown {w w4 w5 : World} {r : Nat} (h : Below w.heap.size w w4) (hg : w4.grownBy w5 (some r)) (hr : w.heap.size ≤ r) : Below w.heap.size w w5 := h.grown hg h.size (fun j e => by have := Option.some.inj e; omega)
theorem nxI_start {w3 w5 : World} {A3 Ar : Option Addr} {c3 cr Bi n : Nat} {ps : List Nat} {o : Obj} (hbi : w3.heap[Bi]? = some (.cells #[.slice Ar ps.length cr] 128 (0, 0))) (hCr : Kd.C kP w3 Ar ps.length ps) (hcr : ps.length ≤ cr)
    (g5 : (W4o w3 A3 n c3).grownBy w5 (some (w3.heap.size + 1))) : NxI (w5.alloc o) (w3.heap.size + 2) Bi ps 0 := by
  obtain ⟨h1, h2, h3, h4, h5⟩ := W4o.facts w3 A3 n c3
  have hB := below_grown h1 g5 (by omega)
  have hB2 := hB.alloc hB.size o
  exact ⟨blk_alloc ((g5.block _ (blk_lt h4) (fun e => by have := Option.some.inj e; omega)).trans h4) _, Ar, cr, (hB2.block _ (blk_lt hbi)).trans hbi, Kd.C_below hCr hB2, hcr⟩
theorem L2.start {w3 w5 w7 : World} {A3 Ar : Option Addr} {c3 cr Bi : Nat} {RT : List C} {ps : List Nat} (s : S2 w3 Bi w7.heap.size RT ps A3 c3 Ar cr)
    (g5 : (W4o w3 A3 RT.length c3).grownBy w5 (some (w3.heap.size + 1))) (k5 : w5.heap[w3.heap.size + 1]? = some (.cells #[.int .i64 ((if 0 < RT.length then 0 + 1 else 0 : Nat) : Int)] 3 (0, 0)))
    (g7 : (w5.alloc (.cells #[.int .i64 (hd (RT.drop 0)).f0, .string (hd (RT.drop 0)).f1] 65)).grownBy w7 (some (w3.heap.size + 2))) (k7 : w7.heap[w3.heap.size + 2]? = some (.cells #[.int .i64 ((if 0 < ps.length then 0 + 1 else 0 : Nat) : Int)] 3 (0, 0))) :
    L2 w3 Bi w5.heap.size w7.heap.size RT ps A3 c3 (if 0 < RT.length then 0 + 1 else 0) (if 0 < ps.length then 0 + 1 else 0) (hd RT) [] (.slice none 0 0) w7 := by
  obtain ⟨h1, h2, h3, h4, h5⟩ := W4o.facts w3 A3 RT.length c3
  have hB := below_grown h1 g5 (by omega)
  have hB2 := hB.alloc hB.size (.cells #[.int .i64 (hd (RT.drop 0)).f0, .string (hd (RT.drop 0)).f1] 65)
  have hB7 := below_grown hB2 g7 (by omega)
  have s5 := g5.size
  have s7 := g7.size
  rw [World.size_alloc] at s7
  have b7 : ∀ k, k < w5.heap.size → k ≠ w3.heap.size + 2 → w7.heap[k]? = w5.heap[k]? := fun k hk hne => (g7.block k (by rw [World.size_alloc]; omega) (fun e => hne (Option.some.inj e))).trans (Below.heap_alloc _ _ _ hk)
  have hd7 : w7.heap[w3.heap.size]? = some (.cells #[.slice A3 RT.length c3] 50 (0, 0)) := (b7 _ (by omega) (by omega)).trans ((g5.block _ (by omega) (fun e => by have := Option.some.inj e; omega)).trans h2)
  refine ⟨⟨hB7, ⟨(b7 _ (by omega) (by omega)).trans k5, A3, c3, hd7, Kd.C_below s.h3 hB7, s.c3⟩, ⟨k7, Ar, cr, (hB7.block _ (blk_lt s.hb)).trans s.hb, Kd.C_below s.hp hB7, s.cp⟩, ?_, Kd.R_nil _ _ _ _ _, Nat.le_refl _, ⟨by omega, by omega, blk_lt s.hb⟩⟩, hd7⟩
  exact (g7.block _ (by rw [World.size_alloc]; omega) (fun e => by have := Option.some.inj e; omega)).trans (blk_new w5 _)
theorem drop_next {RT : List C} {k : Nat} (hk : k ≤ RT.length) : (RT.drop k).tail = RT.drop (if k < RT.length then k + 1 else k) ∧ (if k < RT.length then k + 1 else k) ≤ RT.length := by
  split
  · rename_i h
    exact ⟨by rw [List.drop_eq_getElem_cons h]; rfl, h⟩
  · rename_i h
    have : RT.drop k = [] := List.drop_eq_nil_of_le (by omega)
    exact ⟨by rw [this]; rfl, hk⟩
section
variable {RT : List C} {is : List Ins} {tot : List C} {kT j m : Nat} {q dn : List C}
/-- A token of root's that no insertion parts. -/
theorem P2.pop {t : C} (h : P2 RT is tot kT j (t :: q) m dn) (hno : is.drop j = [] ∨ ∃ i r, is.drop j = i :: r ∧ ¬ i.st < m + t.f1.size) : P2 RT is tot (if kT < RT.length then kT + 1 else kT) j q (m + t.f1.size) (dn ++ [t]) := by
  have hq : q = RT.drop kT := h.hq
  obtain ⟨d1, d2⟩ := drop_next h.hk
  have he := h.eq
  have hw := h.wf
  have hg := h.gp
  have hz := h.sz
  rw [szL_cons] at hg hz
  refine ⟨d2, by rw [hq]; exact d1, ?_, ?_, ?_, fun x hx => h.nz x (List.mem_cons_of_mem _ hx), by omega⟩
  · rw [← he]
    rcases hno with e | ⟨i, r, e, hn⟩
    · rw [e, merge, merge]; simp
    · rw [e, merge, if_neg hn]; simp
  · rcases hno with e | ⟨i, r, e, hn⟩
    · rw [e]; trivial
    · rw [e] at hw ⊢
      exact ⟨by omega, hw.2.1, hw.2.2⟩
  · rcases hno with e | ⟨i, r, e, hn⟩
    · rw [e]; exact Nat.zero_le _
    · rw [e, gaps] at hg ⊢
      omega
theorem drop_succ {i : Ins} {r : List Ins} (e : is.drop j = i :: r) : is.drop (j + 1) = r := by
  rw [← List.tail_drop, e]; rfl
theorem wf_next {i : Ins} {r : List Ins} (h : WFi m (i :: r)) : WFi (i.st + (i.en - i.st)) r ∧ gaps (i.st + (i.en - i.st)) r = gaps i.en r := by
  cases r with
  | nil => exact ⟨trivial, rfl⟩
  | cons a r =>
    have := h.2.1 (by simp)
    have e : i.st + (i.en - i.st) = i.en := by omega
    rw [e]; exact ⟨h.2.2, rfl⟩
/-- An insertion ahead of the token in hand. -/
theorem P2.ins0 {i : Ins} {r : List Ins} (h : P2 RT is tot kT j q m dn) (e : is.drop j = i :: r) (h0 : q = [] ∨ ∃ t q', q = t :: q' ∧ i.st < m + t.f1.size ∧ i.st - m = 0) : P2 RT is tot kT (j + 1) q (m + (i.en - i.st)) (dn ++ i.tk) ∧ m = i.st := by
  have he := h.eq
  have hw := h.wf
  have hg := h.gp
  rw [e] at he hw hg
  rw [gaps] at hg
  have hm : m = i.st := by
    have := hw.1
    rcases h0 with rfl | ⟨t, q', rfl, _, hz⟩
    · have : szL ([] : List C) = 0 := rfl
      omega
    · omega
  obtain ⟨w1, w2⟩ := wf_next hw
  refine ⟨⟨h.hk, h.hq, ?_, ?_, ?_, h.nz, h.sz⟩, hm⟩
  · rw [drop_succ e, ← he, List.append_assoc]
    rcases h0 with rfl | ⟨t, q', rfl, hlt, hz⟩
    · rw [merge]
    · conv => rhs; rw [merge, if_pos hlt, if_pos hz]
  · rw [drop_succ e, hm]; exact w1
  · rw [drop_succ e, hm, w2]; omega
/-- An insertion that parts the token in hand. -/
theorem P2.ins1 {t : C} {i : Ins} {r : List Ins} (h : P2 RT is tot kT j (t :: q) m dn) (e : is.drop j = i :: r) (hlt : i.st < m + t.f1.size) (h0 : i.st - m ≠ 0) : P2 RT is tot kT (j + 1) (⟨t.f0, rig t.f1 (i.st - m)⟩ :: q) (i.st + (i.en - i.st)) ((dn ++ [⟨t.f0, lef t.f1 (i.st - m)⟩]) ++ i.tk) := by
  have he := h.eq
  have hw := h.wf
  have hg := h.gp
  have hz := h.sz
  rw [e] at he hw hg
  rw [gaps, szL_cons] at hg
  rw [szL_cons] at hz
  obtain ⟨w1, w2⟩ := wf_next hw
  have hr : (rig t.f1 (i.st - m)).size = t.f1.size - (i.st - m) := by rw [← bys_len, bys_rig, List.length_drop, bys_len]
  refine ⟨h.hk, h.hq, ?_, by rw [drop_succ e]; exact w1, ?_, fun x hx => ?_, ?_⟩
  · rw [drop_succ e, ← he]
    conv => rhs; rw [merge, if_pos hlt, if_neg h0]
    simp
  · rw [drop_succ e, w2, szL_cons, hr]
    have := hw.1
    omega
  · rcases List.mem_cons.1 hx with rfl | hx
    · exact h.nz t List.mem_cons_self
    · exact h.nz x (List.mem_cons_of_mem _ hx)
  · rw [szL_cons, hr]; omega
end
mutual
theorem ins_sz (R : List C) (off : Nat) : ∀ i ∈ insL off R, i.st ≤ off + szL R ∧ i.en ≤ off + szL R := by
  match R with
  | [] => intro i hi; cases hi
  | t :: r =>
    intro i hi
    rw [insL] at hi
    rw [szL_cons]
    split at hi
    · have := ins_sz r (off + t.f1.size) i hi; omega
    · have := ins_szO r off [t] (off + t.f1.size) (by omega) i hi; omega
theorem ins_szO (R : List C) (st : Nat) (tk : List C) (off : Nat) (h : st ≤ off) : ∀ i ∈ insO st tk off R, i.st ≤ off + szL R ∧ i.en ≤ off + szL R := by
  match R with
  | [] =>
    intro i hi
    rw [insO] at hi
    rw [List.mem_singleton.1 hi]
    exact ⟨Nat.le_add_right_of_le h, Nat.zero_le _⟩
  | t :: r =>
    intro i hi
    rw [insO] at hi
    rw [szL_cons]
    split at hi
    · rcases List.mem_cons.1 hi with rfl | hi
      · exact ⟨by show st ≤ _; omega, by show off ≤ _; omega⟩
      · have := ins_sz r (off + t.f1.size) i hi; omega
    · have := ins_szO r st (tk ++ [t]) (off + t.f1.size) (by omega) i hi; omega
end
/-- The token in hand is another one; new blocks may have come. -/
theorem L2.turn {w3 : World} {Bi Bt b0 : Nat} {RT : List C} {ps : List Nat} {kT kI : Nat} {tc tc' : C} {dn : List C} {v : Value} {wr w' : World} {A A' : Option Addr} {c c' : Nat} (h : L2 w3 Bi Bt b0 RT ps A c kT kI tc dn v wr) (s : S2 w3 Bi b0 RT ps A c A' c') (hg : wr.grownBy w' (some Bt)) (ht : w'.heap[Bt]? = some (.cells #[.int .i64 tc'.f0, .string tc'.f1] 65 (0, 0))) : L2 w3 Bi Bt b0 RT ps A c kT kI tc' dn v w' := by
  have hs := h.m.hs
  have := h.m.put s h.d hg (by omega) hs.2.1 ((hg.block _ (blk_lt h.m.nt.hk) (fun e => by have := Option.some.inj e; omega)).trans h.m.nt.hk) ((hg.block _ (blk_lt h.m.ni.hk) (fun e => by have := Option.some.inj e; omega)).trans h.m.ni.hk) ht
  exact ⟨this.1, this.2⟩
/-- Behind splitToken: its two tokens are stored. -/
theorem split_store {W w4 : World} {Bt bl : Nat} {o : Obj} {tc : C} (hbl : bl = W.heap.size) (hB4 : Below (W.alloc o).drew.heap.size (W.alloc o).drew w4) (hlt : Bt < W.heap.size) (ht : W.heap[Bt]? = some (.cells #[.int .i64 tc.f0, .string tc.f1] 65 (0, 0))) (hz : o = .cells #[.int .i64 0, .string ⟨#[]⟩] 65) (l r : C) :
    W.grownBy ((((w4.setCell ⟨bl, 0, none⟩ (.int .i64 l.f0)).setCell ⟨bl, 1, none⟩ (.string l.f1)).setCell ⟨Bt, 0, none⟩ (.int .i64 r.f0)).setCell ⟨Bt, 1, none⟩ (.string r.f1)) (some Bt) ∧
    ((((w4.setCell ⟨bl, 0, none⟩ (.int .i64 l.f0)).setCell ⟨bl, 1, none⟩ (.string l.f1)).setCell ⟨Bt, 0, none⟩ (.int .i64 r.f0)).setCell ⟨Bt, 1, none⟩ (.string r.f1)).heap[Bt]? = some (.cells #[.int .i64 r.f0, .string r.f1] 65 (0, 0)) ∧
    ((((w4.setCell ⟨bl, 0, none⟩ (.int .i64 l.f0)).setCell ⟨bl, 1, none⟩ (.string l.f1)).setCell ⟨Bt, 0, none⟩ (.int .i64 r.f0)).setCell ⟨Bt, 1, none⟩ (.string r.f1)).heap[bl]? = some (.cells #[.int .i64 l.f0, .string l.f1] 65 (0, 0)) ∧
    w4.heap[bl]? = some (.cells #[.int .i64 0, .string ⟨#[]⟩] 65 (0, 0)) ∧ w4.heap[Bt]? = some (.cells #[.int .i64 tc.f0, .string tc.f1] 65 (0, 0)) ∧ Below W.heap.size W w4 := by
  subst hbl hz
  have h1 : Below W.heap.size W w4 := below_step ((Below.refl W.heap.size W).alloc (Nat.le_refl _) _).drew hB4
  have hl : w4.heap[W.heap.size]? = some (.cells #[.int .i64 0, .string ⟨#[]⟩] 65 (0, 0)) := (hB4.block _ (by show W.heap.size < (W.alloc _).heap.size; rw [World.size_alloc]; omega)).trans (blk_new W _)
  have ht4 := (h1.block _ hlt).trans ht
  have ne : W.heap.size ≠ Bt := by omega
  have g4 := grown_of_below h1 (some Bt)
  have far : ∀ (X : World) (a b j : Nat) (u : Value), a ≠ b → (X.setCell ⟨b, j, none⟩ u).heap[a]? = X.heap[a]? := fun X a b j u h => Below.heap_setCell X ⟨b, j, none⟩ u a h
  refine ⟨grown_set (grown_set (grown_set (grown_set g4 (.inr (Nat.le_refl _)) _) (.inr (Nat.le_refl _)) _) (.inl rfl) _) (.inl rfl) _, ?_, ?_, hl, ht4, h1⟩
  · exact blk_put (blk_put ((far _ _ _ 1 _ ne.symm).trans ((far _ _ _ 0 _ ne.symm).trans ht4)) 0 _ rfl) 1 _ rfl
  · exact (far _ _ _ 1 _ ne).trans ((far _ _ _ 0 _ ne).trans (blk_put (blk_put hl 0 _ rfl) 1 _ rfl))
end Go.Proofs.YtmldahejeobohaaDoorTake
