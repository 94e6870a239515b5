/- chroma.Coalesce's closure over a Literator, walked. -/
import Derived.Test.YtmldahejeobohaaDoorCoaP
import Derived.Test.YtmldahejeobohaaDoorCat
set_option linter.unusedVariables false
set_option linter.unusedSimpArgs false
namespace Go.Proofs.YtmldahejeobohaaDoorTake
open Go.RowKit Go.Proofs.YtmldahejeobohaaDoorW.PrintWords Go.Proofs.YtmldahejeobohaaDoor.A Go.Proofs.YtmldahejeobohaaDoorFmt
/-- A coalescer's state: the token that is kept (block Bp), the iterator (block Bi) over what is left of a slice (blocks Bt, g). -/
structure CoAt (W : World) (b0 b1 Bp Bi Bt g : Nat) (p : C) (l : List C) : Prop where
  prev : W.heap[Bp]? = some (.cells #[.int .i64 p.f0, .string p.f1] 65 (0, 0))
  it : W.heap[Bi]? = some (.cells #[itV Bt] 80 (0, 0))
  lit : LitAt W Bt g l
  np : b0 ≤ Bp ∧ Bp < b1
  ni : Bi < b1
  nt : b0 ≤ Bt ∧ Bt < b1
  ng : g < b1
  pg : Bp ≠ g
theorem lit_cell {W : World} {Bt g : Nat} {l : List C} (h : LitAt W Bt g l) : ∃ A c, W.heap[Bt]? = some (.cells #[.slice A l.length c] 50 (0, 0)) := by
  obtain ⟨A, c, h, _⟩ := h; exact ⟨A, c, h⟩
theorem lit_g {W : World} {Bt g : Nat} {l : List C} (h : LitAt W Bt g l) : g < W.heap.size := by
  obtain ⟨A, c, _, _, ⟨cs, t, h, _⟩, _⟩ := h; exact blk_lt h
theorem blk_ne' {W : World} {a b t u : Nat} {cs ds : Array Value} (h1 : W.heap[a]? = some (.cells cs t (0, 0))) (h2 : W.heap[b]? = some (.cells ds u (0, 0))) (hne : t ≠ u) : a ≠ b := fun e => by
  rw [e, h2] at h1
  injection h1 with h1
  injection h1 with _ h1
  exact hne h1.symm
theorem CoAt.pt {W : World} {b0 b1 Bp Bi Bt g : Nat} {p : C} {l : List C} (h : CoAt W b0 b1 Bp Bi Bt g p l) : Bp ≠ Bt ∧ Bi ≠ Bt ∧ Bi ≠ Bp := by
  obtain ⟨A, c, hB⟩ := lit_cell h.lit
  exact ⟨blk_ne' h.prev hB (by decide), blk_ne' h.it hB (by decide), blk_ne' h.it h.prev (by decide)⟩
/-- Behind whatever leaves the blocks below b1 as they were. -/
theorem CoAt.same {W W' : World} {b0 b1 Bp Bi Bt g : Nat} {p : C} {l : List C} (h : CoAt W b0 b1 Bp Bi Bt g p l) (hk : ∀ k, k < b1 → k < W.heap.size → W'.heap[k]? = W.heap[k]?) : CoAt W' b0 b1 Bp Bi Bt g p l :=
  ⟨(hk _ h.np.2 (blk_lt h.prev)).trans h.prev, (hk _ h.ni (blk_lt h.it)).trans h.it, h.lit.same (hk _ h.nt.2 h.lit.lt) (hk _ h.ng (lit_g h.lit)), h.np, h.ni, h.nt, h.ng, h.pg⟩
/-- Behind a call of the iterator. -/
theorem CoAt.next {W W' : World} {b0 b1 Bp Bi Bt g : Nat} {p : C} {l : List C} (h : CoAt W b0 b1 Bp Bi Bt g p l) (hg : W.grownBy W' (some Bt)) (hl : LitAt W' Bt g l.tail) : CoAt W' b0 b1 Bp Bi Bt g p l.tail := by
  obtain ⟨h1, h2, h3⟩ := h.pt
  exact ⟨(hg.block _ (blk_lt h.prev) (fun e => h1 (by injection e))).trans h.prev, (hg.block _ (blk_lt h.it) (fun e => h2 (by injection e))).trans h.it, hl, h.np, h.ni, h.nt, h.ng, h.pg⟩
/-- Behind the stores of another token into the block of the one that is kept. -/
theorem CoAt.keep {W : World} {b0 b1 Bp Bi Bt g : Nat} {p : C} {l : List C} (h : CoAt W b0 b1 Bp Bi Bt g p l) (q : C) : CoAt ((W.setCell ⟨Bp, 0, none⟩ (.int .i64 q.f0)).setCell ⟨Bp, 1, none⟩ (.string q.f1)) b0 b1 Bp Bi Bt g q l := by
  obtain ⟨h1, h2, h3⟩ := h.pt
  have far : ∀ k, k ≠ Bp → ((W.setCell ⟨Bp, 0, none⟩ (.int .i64 q.f0)).setCell ⟨Bp, 1, none⟩ (.string q.f1)).heap[k]? = W.heap[k]? := fun k hk =>
    (Below.heap_setCell _ ⟨Bp, 1, none⟩ _ k hk).trans (Below.heap_setCell _ ⟨Bp, 0, none⟩ _ k hk)
  exact ⟨blk_put (blk_put h.prev 0 _ rfl) 1 _ rfl, (far _ h3).trans h.it, h.lit.same (far _ (fun e => h1 e.symm)) (far _ (fun e => h.pg e.symm)), h.np, h.ni, h.nt, h.ng, h.pg⟩
theorem CoAt.keep1 {W : World} {b0 b1 Bp Bi Bt g : Nat} {p : C} {l : List C} (h : CoAt W b0 b1 Bp Bi Bt g p l) (s : ByteArray) : CoAt (W.setCell ⟨Bp, 1, none⟩ (.string s)) b0 b1 Bp Bi Bt g ⟨p.f0, s⟩ l := by
  obtain ⟨h1, h2, h3⟩ := h.pt
  have far : ∀ k, k ≠ Bp → (W.setCell ⟨Bp, 1, none⟩ (.string s)).heap[k]? = W.heap[k]? := fun k hk => Below.heap_setCell _ ⟨Bp, 1, none⟩ _ k hk
  exact ⟨blk_put h.prev 1 _ rfl, (far _ h3).trans h.it, h.lit.same (far _ (fun e => h1 e.symm)) (far _ (fun e => h.pg e.symm)), h.np, h.ni, h.nt, h.ng, h.pg⟩
theorem Fr.keep {b0 b1 Bp : Nat} (W : World) (q : C) (h : b0 ≤ Bp ∧ Bp < b1) : Fr b0 b1 W ((W.setCell ⟨Bp, 0, none⟩ (.int .i64 q.f0)).setCell ⟨Bp, 1, none⟩ (.string q.f1)) := (Fr.set W 0 _ h.1 h.2).trans (Fr.set _ 1 _ h.1 h.2)
/-- While the closure runs: q is kept, the token in block Bx and what the iterator has left are to come. -/
structure CI (b0 b1 Bp Bi Bt g : Nat) (p : C) (l : List C) (w : World) (Bx : Nat) (q : C) (rest : List C) (wr : World) : Prop where
  eq : coalN q rest = coalN p l
  co : CoAt wr b0 b1 Bp Bi Bt g q rest.tail
  hx : wr.heap[Bx]? = some (.cells #[.int .i64 (hd rest).f0, .string (hd rest).f1] 65 (0, 0))
  bx : w.heap.size < Bx
  hr : wr.heap[w.heap.size]? = some (.cells #[.int .i64 0, .string ⟨#[]⟩] 65 (0, 0))
  hF : Fr b0 b1 w wr
  nz : ∀ x ∈ rest, x.f0 ≠ 0
  ok : isE q = true ∨ q.f0 ≠ 0
  sz : q.f1.size + szL rest ≤ 8191
theorem co_vars {b0 b1 : Nat} {w w' : World} (hV : VarsOK w) (hE : 0 < b0) (h : Fr b0 b1 w w') : VarsOK w' := vars_kept hV (h.block _ (vars_lt hV) (.inl hE))
theorem Fr.far {b0 b1 k : Nat} {w w' : World} {o : Obj} (h : Fr b0 b1 w w') (hk : b1 ≤ k) (hb : w.heap[k]? = some o) : w'.heap[k]? = some o := by
  have hlt : k < w.heap.size := by
    rcases Nat.lt_or_ge k w.heap.size with h | h
    · exact h
    · rw [Array.getElem?_eq_none h] at hb; cases hb
  exact (h.block k hlt (.inr hk)).trans hb
theorem co_fin {b0 b1 Bp Bi Bt g : Nat} {q : C} {l : List C} {w W : World} (hb : b1 ≤ w.heap.size) (hF : Fr b0 b1 w W) {cs : Array Value} (hr : W.heap[w.heap.size]? = some (.cells cs 65 (0, 0))) (hcs : cs.size = 2) (co : CoAt W b0 b1 Bp Bi Bt g q l) (t : C) (ob : Obj) :
    (((W.setCell ⟨w.heap.size, 0, none⟩ (.int .i64 t.f0)).setCell ⟨w.heap.size, 1, none⟩ (.string t.f1)).alloc ob).heap[w.heap.size]? = some (.cells #[.int .i64 t.f0, .string t.f1] 65 (0, 0)) ∧
    CoAt (((W.setCell ⟨w.heap.size, 0, none⟩ (.int .i64 t.f0)).setCell ⟨w.heap.size, 1, none⟩ (.string t.f1)).alloc ob) b0 b1 Bp Bi Bt g q l ∧ Fr b0 b1 w (((W.setCell ⟨w.heap.size, 0, none⟩ (.int .i64 t.f0)).setCell ⟨w.heap.size, 1, none⟩ (.string t.f1)).alloc ob) := by
  have far : ∀ k, k ≠ w.heap.size → k < W.heap.size → (((W.setCell ⟨w.heap.size, 0, none⟩ (.int .i64 t.f0)).setCell ⟨w.heap.size, 1, none⟩ (.string t.f1)).alloc ob).heap[k]? = W.heap[k]? := fun k hk hlt =>
    (Below.heap_alloc _ ob k (by rw [World.size_setCell, World.size_setCell]; exact hlt)).trans ((Below.heap_setCell _ ⟨w.heap.size, 1, none⟩ _ k hk).trans (Below.heap_setCell _ ⟨w.heap.size, 0, none⟩ _ k hk))
  have hsz := hF.size
  refine ⟨blk_alloc (blk_put (blk_put hr 0 _ rfl) 1 _ ?_) _, co.same (fun k hk hlt => far k (by omega) hlt), ⟨hF.os, hF.tape, hF.output, ?_, fun k hk hkb => (far k (by omega) (by omega)).trans (hF.block k hk hkb)⟩⟩
  · obtain ⟨x, y, rfl⟩ : ∃ x y, cs = #[x, y] := by
      obtain ⟨l⟩ := cs
      match l, hcs with
      | [a, b], _ => exact ⟨a, b, rfl⟩
    rfl
  · simp; omega
theorem ci_box {b0 b1 Bt B9 : Nat} {x : C} {w W w2 : World} (hb : b1 ≤ w.heap.size) (ht : Bt < b1) (hF : Fr b0 b1 w W) (h9 : B9 = W.heap.size) (hg : (W.alloc (.cells #[.int .i64 x.f0, .string x.f1] 65)).grownBy w2 (some Bt)) :
    w2.heap[B9]? = some (.cells #[.int .i64 x.f0, .string x.f1] 65 (0, 0)) := by
  subst h9
  have := hF.size
  exact (hg.block _ (by simp) (fun e => by injection e with e; omega)).trans (blk_new W _)
theorem ci_next {b0 b1 Bp Bi Bt g B9 : Nat} {p x q : C} {l r : List C} {w W w2 : World} (hb : b1 ≤ w.heap.size) (hF : Fr b0 b1 w W) (h9 : B9 = W.heap.size) (co : CoAt W b0 b1 Bp Bi Bt g q r) (hr : W.heap[w.heap.size]? = some (.cells #[.int .i64 0, .string ⟨#[]⟩] 65 (0, 0)))
    (hg : (W.alloc (.cells #[.int .i64 x.f0, .string x.f1] 65)).grownBy w2 (some Bt)) (hl : LitAt w2 Bt g r.tail) (heq : coalN q r = coalN p l) (nz : ∀ y ∈ r, y.f0 ≠ 0) (ok : isE q = true ∨ q.f0 ≠ 0) (sz : q.f1.size + szL r ≤ 8191) :
    CI b0 b1 Bp Bi Bt g p l w B9 q r ((w2.setCell ⟨B9, 0, none⟩ (.int .i64 (hd r).f0)).setCell ⟨B9, 1, none⟩ (.string (hd r).f1)) := by
  have hx2 := ci_box hb co.nt.2 hF h9 hg
  subst h9
  have hsz := hF.size
  have hlr := blk_lt hr
  have hF2 : Fr b0 b1 w w2 := (hF.trans (Fr.alloc W _)).trans (Fr.of_grown hg co.nt.1 co.nt.2)
  have co2 : CoAt w2 b0 b1 Bp Bi Bt g q r.tail := (co.same (fun k hk hlt => Below.heap_alloc W _ k hlt)).next hg hl
  have hr2 : w2.heap[w.heap.size]? = some (.cells #[.int .i64 0, .string ⟨#[]⟩] 65 (0, 0)) := (hg.block _ (by simp; omega) (fun e => by injection e with e; have := co.nt.2; omega)).trans (blk_alloc hr _)
  have far : ∀ k, k ≠ W.heap.size → ((w2.setCell ⟨W.heap.size, 0, none⟩ (.int .i64 (hd r).f0)).setCell ⟨W.heap.size, 1, none⟩ (.string (hd r).f1)).heap[k]? = w2.heap[k]? := fun k hk =>
    (Below.heap_setCell _ ⟨W.heap.size, 1, none⟩ _ k hk).trans (Below.heap_setCell _ ⟨W.heap.size, 0, none⟩ _ k hk)
  refine ⟨heq, co2.same (fun k hk _ => far k (by omega)), blk_put (blk_put hx2 0 _ rfl) 1 _ rfl, by omega, (far _ (by omega)).trans hr2, ⟨hF2.os, hF2.tape, hF2.output, ?_, fun k hk hkb => (far k (by omega)).trans (hF2.block k hk hkb)⟩, nz, ok, sz⟩
  rw [World.size_setCell, World.size_setCell]; exact hF2.size
def CoRes (b0 b1 Bp Bi Bt g : Nat) (r : C × C × List C) (w : World) (e : Ending) (w' : World) : Prop :=
  e = .returned (.agg #[.int .i64 r.1.f0, .string r.1.f1]) ∧ CoAt w' b0 b1 Bp Bi Bt g r.2.1 r.2.2 ∧ Fr b0 b1 w w'
set_option maxRecDepth 100000 in
set_option maxHeartbeats 8000000 in
theorem coal_c (b0 b1 Bp Bi Bt g : Nat) (p : C) (l : List C) (w : World) (hV : VarsOK w) (hE : 0 < b0) (h : CoAt w b0 b1 Bp Bi Bt g p l) (hb0 : b0 ≤ b1) (hb : b1 ≤ w.heap.size)
    (hz : ∀ x ∈ l, x.f0 ≠ 0) (hp : isE p = true ∨ p.f0 ≠ 0) (hs : p.f1.size + szL l ≤ 8191) :
    Calls Tryd.prog 90 #[.pointer (some ⟨Bi, 0, none⟩), .pointer (some ⟨Bp, 0, none⟩)] w fun e w' => CoRes b0 b1 Bp Bi Bt g (coalN p l) w e w' := by
  have hu := Tryd.underlying65
  have c0 : w.cell? ⟨Bi, 0, none⟩ = some (itV Bt) := (blk_cell h.it 0).trans rfl
  have li := blk_lt h.it
  have HC := Aside0.mk h
  have HZ := Aside0.mk hz
  have HP := Aside0.mk hp
  have HS := Aside0.mk hs
  have kn : Aside0 (Calls Tryd.prog 64 #[.pointer (some ⟨Bt, 0, none⟩)] (w.alloc (.cells #[.int .i64 0, .string ⟨#[]⟩] 65)) fun e w' => e = .returned (.agg #[.int .i64 (hd l).f0, .string (hd l).f1]) ∧ LitAt w' Bt g l.tail ∧ (w.alloc (.cells #[.int .i64 0, .string ⟨#[]⟩] 65)).grownBy w' (some Bt)) :=
    ⟨(next_c Bt g l _ (co_vars hV hE (Fr.alloc (b0 := b0) (b1 := b1) w _)) (h.same (fun k hk hlt => Below.heap_alloc w _ k hlt)).lit).mono fun e w' h => ⟨h.1, h.2.1, h.2.2.1⟩⟩
  unfold itV at c0
  clear h hz hp hs
  go_enter Tryd.func90, Tryd.ntmps90
  go_wp2_with (go_at_call 64; refine kn.out.mono ?_; rintro e w1 ⟨rfl, hl1, hg1⟩)
  have hC1 : CoAt w1 b0 b1 Bp Bi Bt g p l.tail := (HC.out.same (fun k hk hlt => Below.heap_alloc w _ k hlt)).next hg1 hl1
  have hF1 : Fr b0 b1 w w1 := (Fr.alloc w _).trans (Fr.of_grown hg1 HC.out.nt.1 HC.out.nt.2)
  have hr1 : w1.heap[w.heap.size]? = some (.cells #[.int .i64 0, .string ⟨#[]⟩] 65 (0, 0)) := (hg1.block _ (by simp) (fun e => by injection e with e; have := HC.out.nt.2; omega)).trans (blk_new w _)
  have hs1 : w.heap.size < w1.heap.size := blk_lt hr1
  have HI : Aside0 (CI b0 b1 Bp Bi Bt g p l w w1.heap.size p l (w1.alloc (.cells #[.int .i64 (hd l).f0, .string (hd l).f1] 65))) :=
    ⟨⟨rfl, hC1.same (fun k hk hlt => Below.heap_alloc _ _ k hlt), blk_new _ _, hs1, blk_alloc hr1 _, hF1.trans (Fr.alloc _ _), HZ.out, HP.out, HS.out⟩⟩
  clear kn hl1 hg1 hC1 hF1 hr1 hs1 c0 li
  go_loopg [3] (l.length + 1) (fun kq v3 wr => ∃ (Bx : Nat) (q : C) (rest : List C), v3 = .pointer (some ⟨Bx, 0, none⟩) ∧ Aside0 (rest.length < kq) ∧ Aside0 (CI b0 b1 Bp Bi Bt g p l w Bx q rest wr))
  case atStart => exact ⟨_, p, l, rfl, ⟨Nat.lt_succ_self _⟩, HI⟩
  case round =>
    obtain ⟨Bx, q, rest, rfl, HK, HH⟩ := hrel
    clear HI
    cases gk with
    | zero => have := HK.out; omega
    | succ k1 =>
      have H := HH.out
      have V := co_vars hV hE H.hF
      have v0 := V.e0
      have v1 := V.e1
      have lv := vars_lt V
      have lx := blk_lt H.hx
      have lp := blk_lt H.co.prev
      have lr := blk_lt H.hr
      have p0 : wr.cell? ⟨Bp, 0, none⟩ = some (.int .i64 q.f0) := (blk_cell H.co.prev 0).trans rfl
      have p1 : wr.cell? ⟨Bp, 1, none⟩ = some (.string q.f1) := (blk_cell H.co.prev 1).trans rfl
      have fp0 := blk_frozen H.co.prev 0
      have fp1 := blk_frozen H.co.prev 1
      have q1 : Bp < w.heap.size := Nat.lt_of_lt_of_le H.co.np.2 hb
      have q2 : w.heap.size < Bx := H.bx
      have r0 : wr.cell? ⟨w.heap.size, 0, none⟩ = some (.int .i64 0) := (blk_cell H.hr 0).trans rfl
      have r1 : wr.cell? ⟨w.heap.size, 1, none⟩ = some (.string ⟨#[]⟩) := (blk_cell H.hr 1).trans rfl
      have fr0 := blk_frozen H.hr 0
      have fr1 := blk_frozen H.hr 1
      cases rest with
      | nil =>
        have x0 : wr.cell? ⟨Bx, 0, none⟩ = some (.int .i64 0) := (blk_cell H.hx 0).trans rfl
        have x1 : wr.cell? ⟨Bx, 1, none⟩ = some (.string ⟨#[]⟩) := (blk_cell H.hx 1).trans rfl
        clear H V
        go_wp2
        have H := HH.out
        have hrk : ((wr.setCell ⟨Bp, 0, none⟩ (.int .i64 eof.f0)).setCell ⟨Bp, 1, none⟩ (.string eof.f1)).heap[w.heap.size]? = some (.cells #[.int .i64 0, .string ⟨#[]⟩] 65 (0, 0)) := (Fr.keep (b0 := b0) (b1 := b1) wr eof H.co.np).far hb H.hr
        obtain ⟨f1, f2, f3⟩ := co_fin hb (H.hF.trans (Fr.keep wr eof H.co.np)) hrk rfl (H.co.keep eof) q (.cells #[.int .i64 q.f0, .string q.f1] 65)
        exact bodyPost_ret (results_cell_row rfl _ _ w.heap.size 65 #[.int .i64 q.f0, .string q.f1] (0, 0) _ rfl f1 Tryd.underlying65 rfl (by kernel_rfl)) rfl (by
          rw [← H.eq]
          exact ⟨rfl, f2, f3⟩)
      | cons x r =>
        have x0 : wr.cell? ⟨Bx, 0, none⟩ = some (.int .i64 x.f0) := (blk_cell H.hx 0).trans rfl
        have x1 : wr.cell? ⟨Bx, 1, none⟩ = some (.string x.f1) := (blk_cell H.hx 1).trans rfl
        have hxz : x.f0 ≠ 0 := H.nz x List.mem_cons_self
        have hxb : (x.f0 == 0) = false := beq_eq_false_iff_ne.2 hxz
        have HC2 := Aside0.mk H.co
        have kn : Aside0 (∀ (q2 : C) (W : World), VarsOK W → CoAt W b0 b1 Bp Bi Bt g q2 r → Calls Tryd.prog 64 #[.pointer (some ⟨Bt, 0, none⟩)] W fun e w' => e = .returned (.agg #[.int .i64 (hd r).f0, .string (hd r).f1]) ∧ LitAt w' Bt g r.tail ∧ W.grownBy w' (some Bt)) :=
          ⟨fun q2 W hV hC => (next_c Bt g r W hV hC.lit).mono fun e w' h => ⟨h.1, h.2.1, h.2.2.1⟩⟩
        have i0 : wr.cell? ⟨Bi, 0, none⟩ = some (.func (.func 64) #[] #[.pointer (some ⟨Bt, 0, none⟩)]) := (blk_cell H.co.it 0).trans rfl
        have li := blk_lt H.co.it
        have hz1 := H.nz
        clear H V
        by_cases h1 : x.f1.size = 0
        · have hlen : ((x.f1.size : Int) == 0) = true := by rw [h1]; rfl
          have HL1 := Aside0.mk h1
          clear h1
          have hVa : VarsOK (wr.alloc (.cells #[.int .i64 x.f0, .string x.f1] 65)) := co_vars hV hE (HH.out.hF.trans (Fr.alloc _ _))
          have HVa := Aside0.mk hVa
          clear hVa
          have hFk : Fr b0 b1 w wr := HH.out.hF
          go_wp2_with (go_at_call 64; refine (kn.out q _ HVa.out (HC2.out.same (fun k hk hlt => Below.heap_alloc _ _ k hlt))).mono ?_; rintro e w2 ⟨rfl, hl2, hg2⟩; have hx2 := ci_box hb HC2.out.nt.2 HH.out.hF rfl hg2; have y0 := (blk_cell hx2 0).trans rfl; have y1 := (blk_cell hx2 1).trans rfl; have z0 := blk_frozen hx2 0; have z1 := blk_frozen hx2 1; have HX2 := Aside0.mk hx2; clear hx2)
          have HN : Aside0 (CI b0 b1 Bp Bi Bt g p l w wr.heap.size q r ((w2.setCell ⟨wr.heap.size, 0, none⟩ (.int .i64 (hd r).f0)).setCell ⟨wr.heap.size, 1, none⟩ (.string (hd r).f1))) :=
            ⟨ci_next hb HH.out.hF (by simp) HC2.out HH.out.hr hg2 hl2 ((by conv => rhs; rw [← HH.out.eq]; unfold coalN; rw [if_pos HL1.out])) (fun y hy => HH.out.nz y (List.mem_cons_of_mem _ hy)) HH.out.ok (by have := HH.out.sz; rw [szL_cons] at this; omega)⟩
          clear hl2 hg2 y0 y1 z0 z1 HX2
          go_wp2
          go_roundg k1
          case measure => omega
          case rel => exact ⟨_, q, r, rfl, ⟨by have := HK.out; simp at this; omega⟩, HN⟩
        · have hlen : ((x.f1.size : Int) == 0) = false := beq_eq_false_iff_ne.2 (by omega)
          have HL1 := Aside0.mk h1
          clear h1
          have ip : Bi ≠ Bp := HC2.out.pt.2.2
          have pi : Bp ≠ Bi := fun e => ip e.symm
          have bxp : Bx ≠ Bp := by omega
          have bpx : Bp ≠ Bx := by omega
          by_cases h2 : isE q = true
          · obtain rfl := isE_eof h2
            clear h2
            replace p0 : wr.cell? ⟨Bp, 0, none⟩ = some (.int .i64 0) := p0
            replace p1 : wr.cell? ⟨Bp, 1, none⟩ = some (.string ⟨#[]⟩) := p1
            have HVa : Aside0 (VarsOK (((wr.setCell ⟨Bp, 0, none⟩ (.int .i64 x.f0)).setCell ⟨Bp, 1, none⟩ (.string x.f1)).alloc (.cells #[.int .i64 x.f0, .string x.f1] 65))) := ⟨co_vars hV hE ((HH.out.hF.trans (Fr.keep wr x HC2.out.np)).trans (Fr.alloc _ _))⟩
            go_wp2_with (go_at_call 64; refine (kn.out x _ HVa.out ((HC2.out.keep x).same (fun k hk hlt => Below.heap_alloc _ _ k hlt))).mono ?_; rintro e w2 ⟨rfl, hl2, hg2⟩; have hx2 : w2.heap[wr.heap.size]? = _ := ci_box hb HC2.out.nt.2 (HH.out.hF.trans (Fr.keep wr x HC2.out.np)) (by simp) hg2; have y0 := (blk_cell hx2 0).trans rfl; have y1 := (blk_cell hx2 1).trans rfl; have z0 := blk_frozen hx2 0; have z1 := blk_frozen hx2 1; have HX2 := Aside0.mk hx2; clear hx2)
            have HN : Aside0 (CI b0 b1 Bp Bi Bt g p l w wr.heap.size x r ((w2.setCell ⟨wr.heap.size, 0, none⟩ (.int .i64 (hd r).f0)).setCell ⟨wr.heap.size, 1, none⟩ (.string (hd r).f1))) :=
              ⟨ci_next hb (HH.out.hF.trans (Fr.keep wr x HC2.out.np)) (by simp) (HC2.out.keep x) ((Fr.keep (b0 := b0) (b1 := b1) wr x HC2.out.np).far hb HH.out.hr) hg2 hl2 (by conv => rhs; rw [← HH.out.eq]; unfold coalN; rw [if_neg HL1.out, if_pos (by rfl)]) (fun y hy => HH.out.nz y (List.mem_cons_of_mem _ hy)) (.inr hxz) (by have := HH.out.sz; rw [szL_cons] at this; omega)⟩
            clear hl2 hg2 y0 y1 z0 z1 HX2
            go_wp2
            go_roundg k1
            case measure => omega
            case rel => exact ⟨_, x, r, rfl, ⟨by have := HK.out; simp at this; omega⟩, HN⟩
          · have hq0 : q.f0 ≠ 0 := by
              rcases HH.out.ok with h | h
              · exact absurd h h2
              · exact h
            have hqb : (q.f0 == 0) = false := beq_eq_false_iff_ne.2 hq0
            have HL2 := Aside0.mk h2
            clear h2
            by_cases h3 : q.f0 = x.f0
            · have hqx : (q.f0 == x.f0) = true := beq_iff_eq.2 h3
              have h8 : decide ((q.f1.size : Int) < 8192) = true := decide_eq_true (by have := HH.out.sz; rw [szL_cons] at this; omega)
              have hcap : ¬ (9223372036854775807 < q.f1.size + x.f1.size) := by have := HH.out.sz; rw [szL_cons] at this; omega
              have HL3 := Aside0.mk h3
              clear h3
              have HC3 : Aside0 (CoAt (wr.setCell ⟨Bp, 1, none⟩ (.string (q.f1 ++ x.f1))) b0 b1 Bp Bi Bt g ⟨q.f0, q.f1 ++ x.f1⟩ r) := ⟨HC2.out.keep1 _⟩
              have HF3 : Aside0 (Fr b0 b1 wr (wr.setCell ⟨Bp, 1, none⟩ (.string (q.f1 ++ x.f1)))) := ⟨Fr.set wr 1 _ HC2.out.np.1 HC2.out.np.2⟩
              have HVa : Aside0 (VarsOK ((wr.setCell ⟨Bp, 1, none⟩ (.string (q.f1 ++ x.f1))).alloc (.cells #[.int .i64 x.f0, .string x.f1] 65))) := ⟨co_vars hV hE ((HH.out.hF.trans HF3.out).trans (Fr.alloc _ _))⟩
              go_wp2_with (go_at_call 64; refine (kn.out _ _ HVa.out (HC3.out.same (fun k hk hlt => Below.heap_alloc _ _ k hlt))).mono ?_; rintro e w2 ⟨rfl, hl2, hg2⟩; have hx2 : w2.heap[wr.heap.size]? = _ := ci_box hb HC2.out.nt.2 (HH.out.hF.trans HF3.out) (by simp) hg2; have y0 := (blk_cell hx2 0).trans rfl; have y1 := (blk_cell hx2 1).trans rfl; have z0 := blk_frozen hx2 0; have z1 := blk_frozen hx2 1; have HX2 := Aside0.mk hx2; clear hx2)
              have HN : Aside0 (CI b0 b1 Bp Bi Bt g p l w wr.heap.size ⟨q.f0, q.f1 ++ x.f1⟩ r ((w2.setCell ⟨wr.heap.size, 0, none⟩ (.int .i64 (hd r).f0)).setCell ⟨wr.heap.size, 1, none⟩ (.string (hd r).f1))) :=
                ⟨ci_next hb (HH.out.hF.trans HF3.out) (by simp) HC3.out (HF3.out.far hb HH.out.hr) hg2 hl2 (by conv => rhs; rw [← HH.out.eq]; unfold coalN; rw [if_neg HL1.out, if_neg HL2.out, if_pos HL3.out]) (fun y hy => HH.out.nz y (List.mem_cons_of_mem _ hy)) (.inr hq0) (by have := HH.out.sz; rw [szL_cons] at this; have e : (⟨q.f0, q.f1 ++ x.f1⟩ : C).f1.size = q.f1.size + x.f1.size := size_cat _ _; omega)⟩
              clear hl2 hg2 y0 y1 z0 z1 HX2
              go_wp2
              go_roundg k1
              case measure => omega
              case rel => exact ⟨_, _, r, rfl, ⟨by have := HK.out; simp at this; omega⟩, HN⟩
            · have hqx : (q.f0 == x.f0) = false := beq_eq_false_iff_ne.2 h3
              have HL3 := Aside0.mk h3
              clear h3
              go_wp2
              have H := HH.out
              have hrk : ((wr.setCell ⟨Bp, 0, none⟩ (.int .i64 x.f0)).setCell ⟨Bp, 1, none⟩ (.string x.f1)).heap[w.heap.size]? = some (.cells #[.int .i64 0, .string ⟨#[]⟩] 65 (0, 0)) := (Fr.keep (b0 := b0) (b1 := b1) wr x H.co.np).far hb H.hr
              obtain ⟨f1, f2, f3⟩ := co_fin hb (H.hF.trans (Fr.keep wr x H.co.np)) hrk rfl (H.co.keep x) q (.cells #[.int .i64 q.f0, .string q.f1] 65)
              exact bodyPost_ret (results_cell_row rfl _ _ w.heap.size 65 #[.int .i64 q.f0, .string q.f1] (0, 0) _ rfl f1 Tryd.underlying65 rfl (by kernel_rfl)) rfl (by
                rw [← H.eq]
                unfold coalN
                rw [if_neg HL1.out, if_neg HL2.out, if_neg HL3.out]
                exact ⟨rfl, f2, f3⟩)
end Go.Proofs.YtmldahejeobohaaDoorTake
