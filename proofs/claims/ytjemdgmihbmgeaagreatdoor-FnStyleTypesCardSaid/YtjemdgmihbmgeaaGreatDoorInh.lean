/- chroma.StyleEntry.Inherit: what the call computes. -/
import Derived.Test.YtjemdgmihbmgeaaGreatDoorBack
import Derived.Test.YtjemdgmihbmgeaaGreatDoorWWords
import Derived.Sort.CutIn
set_option linter.unusedVariables false
set_option linter.unusedSimpArgs false
namespace Go.Proofs.YtjemdgmihbmgeaaGreatDoorEnt
open Go.RowKit Go.Shelf Go.Proofs.YtjemdgmihbmgeaaGreatDoorW.PrintWords
attribute [local go_sem] Oper.semAt_some
/-- What an entry takes from one ancestor. -/
def inh1 (e a : Ent) : Ent := if e.ni then e else ⟨if e.c = 0 then a.c else e.c, if e.b = 0 then a.b else e.b, if e.o = 0 then a.o else e.o, if e.bo = 0 then a.bo else e.bo, if e.it = 0 then a.it else e.it, if e.un = 0 then a.un else e.un, false⟩
def cells (e : Ent) : Array Value := #[.int .i32 e.c, .int .i32 e.b, .int .i32 e.o, .int .u8 e.bo, .int .u8 e.it, .int .u8 e.un, .bool e.ni]
def inhL (e : Ent) (l : List Ent) : Ent := l.reverse.foldl inh1 e
theorem inh1_ni (e a : Ent) : (inh1 e a).ni = e.ni := by
  unfold inh1
  cases h : e.ni <;> simp [h]
theorem fold_ni (e : Ent) (l : List Ent) : (l.foldl inh1 e).ni = e.ni := by
  induction l generalizing e with
  | nil => rfl
  | cons a l ih => rw [List.foldl_cons, ih, inh1_ni]
theorem fold_stop (e : Ent) (l : List Ent) (h : e.ni = true) : l.foldl inh1 e = e := by
  induction l generalizing e with
  | nil => rfl
  | cons a l ih =>
    have : inh1 e a = e := by unfold inh1; rw [if_pos h]
    rw [List.foldl_cons, this, ih e h]
theorem back_ents (es : List Ent) : (back es es.length).map (·.2) = es.reverse := by
  apply List.ext_getElem?
  intro i
  simp only [back, List.getElem?_map, List.getElem?_reverse', List.map_map]
  by_cases h : i < es.length
  · rw [List.getElem?_range h, List.getElem?_reverse h]
    simp [List.getD_eq_getElem?_getD, List.getElem?_eq_getElem (show es.length - 1 - i < es.length by omega)]
  · rw [List.getElem?_eq_none (by simp; omega), List.getElem?_eq_none (by simp; omega)]; rfl
def zeroE : Ent := ⟨0, 0, 0, 0, 0, 0, false⟩
def setAll (b : Nat) : World → Nat → List Value → World
  | W, _, [] => W
  | W, j, v :: vs => setAll b (W.setCell ⟨b, j, none⟩ v) (j + 1) vs
def putAll : Array Value → Nat → List Value → Array Value
  | cs, _, [] => cs
  | cs, j, v :: vs => putAll (cs.setIfInBounds j v) (j + 1) vs
theorem setAll_blk {b t : Nat} : ∀ (vs : List Value) (W : World) (j : Nat) (cs : Array Value), W.heap[b]? = some (.cells cs t (0, 0)) → (setAll b W j vs).heap[b]? = some (.cells (putAll cs j vs) t (0, 0))
  | [], W, j, cs, h => h
  | v :: vs, W, j, cs, h => setAll_blk vs _ (j + 1) _ (blk_set h j v)
theorem setAll_keeps {b B0 : Nat} : ∀ (vs : List Value) (W : World) (j : Nat), KeepsFrom B0 W (setAll b W j vs)
  | [], W, j => KeepsFrom.refl _ _
  | v :: vs, W, j => ((KeepsOthers.setCell _ _ _).from _).trans (setAll_keeps vs _ (j + 1))
theorem setAll_below {b n : Nat} (hb : n ≤ b) : ∀ (vs : List Value) (W : World) (j : Nat), Below n W (setAll b W j vs)
  | [], W, j => Below.refl _ _
  | v :: vs, W, j => ((Below.refl n W).setCell (p := ⟨b, j, none⟩) hb v).trans (setAll_below hb vs _ (j + 1))
theorem setAll_size {b : Nat} : ∀ (vs : List Value) (W : World) (j : Nat), (setAll b W j vs).heap.size = W.heap.size
  | [], W, j => rfl
  | v :: vs, W, j => by rw [setAll, setAll_size vs _ (j + 1), World.size_setCell]
theorem set7 {v0 v1 v2 v3 v4 v5 v6 : Value} (b : Nat) (W : World) : setAll b W 0 [v0, v1, v2, v3, v4, v5, v6] = (((((((W.setCell ⟨b, 0, none⟩ v0).setCell ⟨b, 1, none⟩ v1).setCell ⟨b, 2, none⟩ v2).setCell ⟨b, 3, none⟩ v3).setCell ⟨b, 4, none⟩ v4).setCell ⟨b, 5, none⟩ v5).setCell ⟨b, 6, none⟩ v6) := rfl
theorem put7 {v0 v1 v2 v3 v4 v5 v6 u0 u1 u2 u3 u4 u5 u6 : Value} : putAll #[u0, u1, u2, u3, u4, u5, u6] 0 [v0, v1, v2, v3, v4, v5, v6] = #[v0, v1, v2, v3, v4, v5, v6] := by simp [putAll]
theorem res_seven {v0 v1 v2 v3 v4 v5 v6 u0 u1 u2 u3 u4 u5 u6 : Value} (s B0 : Nat) (W : World) (h : W.heap[s + 1]? = some (.cells #[u0, u1, u2, u3, u4, u5, u6] 94 (0, 0))) :
    (setAll (s + 1) W 0 [v0, v1, v2, v3, v4, v5, v6]).heap[s + 1]? = some (.cells #[v0, v1, v2, v3, v4, v5, v6] 94 (0, 0)) ∧
    KeepsFrom B0 W (setAll (s + 1) W 0 [v0, v1, v2, v3, v4, v5, v6]) ∧ Below s W (setAll (s + 1) W 0 [v0, v1, v2, v3, v4, v5, v6]) :=
  ⟨by rw [setAll_blk _ _ 0 _ h, put7], setAll_keeps _ _ _, setAll_below (by omega) _ _ _⟩
theorem isSet_c (c : Int) (w : World) : Calls Tryz.prog 76 #[.int .i32 c] w fun e w' => e = .returned (.bool (decide (c ≠ 0))) ∧ w = w' := by
  go_enter Tryz.func76, Tryz.ntmps76
  go_wp2
  go_ret
  exact ⟨by first | rfl | (simp; done) | (congr 1; by_cases h : c = 0 <;> simp [h]), rfl⟩
/-- Between two of the round's ifs: what has been made of the entry so far is e, the ancestor is a. -/
structure InhRel (s B0 Bx : Nat) (W : World) (a e : Ent) (wc : World) : Prop where
  out : wc.heap[s + 1 + 1]? = some (.cells (cells e) 94 (0, 0))
  anc : wc.heap[Bx]? = some (.cells (cells a) 94 (0, 0))
  keep : KeepsFrom B0 W wc
  kp : KpB s (s + 1 + 1 + 1) W wc
  res : wc.heap[s + 1]? = some (.cells #[.int .i32 0, .int .i32 0, .int .i32 0, .int .u8 0, .int .u8 0, .int .u8 0, .bool false] 94 (0, 0))
theorem InhRel.set {s B0 Bx : Nat} {W : World} {a e e' : Ent} {wc : World} (h : InhRel s B0 Bx W a e wc) (hx : Bx ≠ s + 1 + 1) (j : Nat) (v : Value) (hv : (cells e).setIfInBounds j v = cells e') :
    InhRel s B0 Bx W a e' (wc.setCell ⟨s + 1 + 1, j, none⟩ v) :=
  ⟨by rw [blk_set h.out j v, hv], (Below.heap_setCell wc ⟨s + 1 + 1, j, none⟩ v Bx hx).trans h.anc, h.keep.trans ((KeepsOthers.setCell _ _ _).from _),
    ⟨h.kp.1.setCell (p := ⟨s + 1 + 1, j, none⟩) (by simp; omega) _, (Below.heap_setCell wc ⟨s + 1 + 1, j, none⟩ v _ (by simp)).trans h.kp.2⟩, (Below.heap_setCell wc ⟨s + 1 + 1, j, none⟩ v _ (by simp)).trans h.res⟩
theorem InhRel.rd {s B0 Bx : Nat} {W : World} {a e : Ent} {wc : World} (h : InhRel s B0 Bx W a e wc) :
    wc.cell? ⟨s + 1 + 1, 0, none⟩ = some (.int .i32 e.c) ∧ wc.cell? ⟨s + 1 + 1, 1, none⟩ = some (.int .i32 e.b) ∧ wc.cell? ⟨s + 1 + 1, 2, none⟩ = some (.int .i32 e.o) ∧ wc.cell? ⟨s + 1 + 1, 3, none⟩ = some (.int .u8 e.bo) ∧ wc.cell? ⟨s + 1 + 1, 4, none⟩ = some (.int .u8 e.it) ∧ wc.cell? ⟨s + 1 + 1, 5, none⟩ = some (.int .u8 e.un) ∧
    wc.cell? ⟨Bx, 0, none⟩ = some (.int .i32 a.c) ∧ wc.cell? ⟨Bx, 1, none⟩ = some (.int .i32 a.b) ∧ wc.cell? ⟨Bx, 2, none⟩ = some (.int .i32 a.o) ∧ wc.cell? ⟨Bx, 3, none⟩ = some (.int .u8 a.bo) ∧ wc.cell? ⟨Bx, 4, none⟩ = some (.int .u8 a.it) ∧ wc.cell? ⟨Bx, 5, none⟩ = some (.int .u8 a.un) ∧
    wc.frozen? ⟨s + 1 + 1, 0, none⟩ = false ∧ wc.frozen? ⟨s + 1 + 1, 1, none⟩ = false ∧ wc.frozen? ⟨s + 1 + 1, 2, none⟩ = false ∧ wc.frozen? ⟨s + 1 + 1, 3, none⟩ = false ∧ wc.frozen? ⟨s + 1 + 1, 4, none⟩ = false ∧ wc.frozen? ⟨s + 1 + 1, 5, none⟩ = false :=
  ⟨(blk_cell h.out 0).trans rfl, (blk_cell h.out 1).trans rfl, (blk_cell h.out 2).trans rfl, (blk_cell h.out 3).trans rfl, (blk_cell h.out 4).trans rfl, (blk_cell h.out 5).trans rfl,
    (blk_cell h.anc 0).trans rfl, (blk_cell h.anc 1).trans rfl, (blk_cell h.anc 2).trans rfl, (blk_cell h.anc 3).trans rfl, (blk_cell h.anc 4).trans rfl, (blk_cell h.anc 5).trans rfl,
    blk_frozen h.out 0, blk_frozen h.out 1, blk_frozen h.out 2, blk_frozen h.out 3, blk_frozen h.out 4, blk_frozen h.out 5⟩
/-- The body's own temporaries. -/
def inhAct (e : Ent) (A : Option Addr) (len cap s : Nat) (x : Int × Ent) (Bx : Nat) : Act :=
  { tmps := #[.agg #[.int .i32 e.c, .int .i32 e.b, .int .i32 e.o, .int .u8 e.bo, .int .u8 e.it, .int .u8 e.un, .bool e.ni], .slice A len cap, .pointer (some ⟨s, 0, none⟩), undef, .pointer (some ⟨s + 1, 0, none⟩), .pointer (some ⟨s + 1 + 1, 0, none⟩), undef, .pointer (some ⟨Bx, 0, none⟩),
      .agg #[.int .i32 e.c, .int .i32 e.b, .int .i32 e.o, .int .u8 e.bo, .int .u8 e.it, .int .u8 e.un, .bool e.ni], .slice A len cap, .func (.func 93) #[] #[.pointer (some ⟨s + 1 + 1 + 1, 0, none⟩)], .int .i64 x.1,
      .agg #[.int .i32 x.2.c, .int .i32 x.2.b, .int .i32 x.2.o, .int .u8 x.2.bo, .int .u8 x.2.it, .int .u8 x.2.un, .bool x.2.ni], undef, undef, undef, undef, undef, undef, undef, undef, undef, undef, undef, undef, undef, undef, undef, undef, undef, undef, undef, undef, undef, undef, undef, undef, undef, undef, undef, undef, undef, undef, undef, undef, undef, undef, undef, undef, undef, undef, undef, undef, undef, undef, undef], defers := [] }
set_option maxRecDepth 100000 in
set_option maxHeartbeats 16000000 in
theorem inherit_in (n : Nat) (hn : 4 ≤ n) (e : Ent) (A : Option Addr) (cap : Nat) (es : List Ent) (hlen : es.length ≤ 1000000) (w : World) (hE : EntsAt w.heap.size w A es) :
    CallsIn Fence.wide n Tryz.prog 49 #[.agg #[.int .i32 e.c, .int .i32 e.b, .int .i32 e.o, .int .u8 e.bo, .int .u8 e.it, .int .u8 e.un, .bool e.ni], .slice A es.length cap] w fun x w' => x = .returned (inhL e es).val ∧ Below w.heap.size w w' := by
  have h1 : 1 ≤ n := by omega
  have hro : Fence.wide.round = none := rfl
  have hf : ∀ k, Fence.wide.fn k := fun _ => trivial
  refine callsIn_of_wp_marks Tryz.func49 rfl (hf _) ?_ hro
  simp only [Tryz.ntmps49, List.size_toArray, List.length_cons, List.length_nil, Nat.reduceAdd, Nat.reduceSub, Array.replicate_succ, Array.replicate_zero, List.push_toArray, List.append_toArray, List.nil_append, List.cons_append]
  gi_wp2_with (gi_at_call 75; refine (back_in Fence.wide (n - 1) (hf _) hro _ _ _ _).mono ?_; rintro e1 w1 ⟨rfl, rfl⟩)
  have hsk : ∃ W0, ((((w.alloc (.cells (cells e) 94)).alloc (.cells #[.int .i32 0, .int .i32 0, .int .i32 0, .int .u8 0, .int .u8 0, .int .u8 0, .bool false] 94)).alloc (.cells (cells e) 94)).alloc (.cells #[.slice A es.length cap] 142)) = W0 ∧ W0.heap.size = w.heap.size + 4 ∧
      W0.heap[w.heap.size + 1]? = some (.cells #[.int .i32 0, .int .i32 0, .int .i32 0, .int .u8 0, .int .u8 0, .int .u8 0, .bool false] 94 (0, 0)) ∧ W0.heap[w.heap.size + 1 + 1]? = some (.cells (cells e) 94 (0, 0)) ∧ W0.heap[w.heap.size + 1 + 1 + 1]? = some (.cells #[.slice A es.length cap] 142 (0, 0)) ∧ Below w.heap.size w W0 := by
    refine ⟨_, rfl, by simp, ?_, ?_, ?_, ?_⟩
    · have := blk_new (w.alloc (.cells (cells e) 94)) (.cells #[.int .i32 0, .int .i32 0, .int .i32 0, .int .u8 0, .int .u8 0, .int .u8 0, .bool false] 94)
      rw [World.size_alloc] at this
      exact blk_alloc (blk_alloc this _) _
    · have := blk_new ((w.alloc (.cells (cells e) 94)).alloc (.cells #[.int .i32 0, .int .i32 0, .int .i32 0, .int .u8 0, .int .u8 0, .int .u8 0, .bool false] 94)) (.cells (cells e) 94)
      rw [World.size_alloc, World.size_alloc] at this
      exact blk_alloc this _
    · have := blk_new (((w.alloc (.cells (cells e) 94)).alloc (.cells #[.int .i32 0, .int .i32 0, .int .i32 0, .int .u8 0, .int .u8 0, .int .u8 0, .bool false] 94)).alloc (.cells (cells e) 94)) (.cells #[.slice A es.length cap] 142)
      rw [World.size_alloc, World.size_alloc, World.size_alloc] at this
      exact this
    · exact below_alloc (below_alloc (below_alloc (below_alloc (Below.refl _ _) _) _) _) _
  obtain ⟨W0, hW0, hs0, bR, bO, bS, hB0⟩ := hsk
  simp only [cells] at hW0
  rw [hW0]
  refine wpIn_rangeFunc_ownH hro h1 (gf := 93) (lb := #[.pointer (some ⟨w.heap.size + 1 + 1 + 1, 0, none⟩)]) rfl (hf _) (enters_of Tryz.func93 (by kernel_rfl) rfl)
    (back_stops Fence.wide (n - 1) (hf _) hro (by omega) (w.heap.size + 1 + 1 + 1) w.heap.size cap A es hlen W0 (by omega) bS (hE.below hB0)) ?hKt ?hKb (Below.refl _ _) (fun _ => rfl)
    (fun pre W => (W.heap[w.heap.size + 1 + 1]? = some (.cells (cells ((pre.map (·.2)).foldl inh1 e)) 94 (0, 0)) ∧ W.heap[w.heap.size + 1]? = some (.cells #[.int .i32 0, .int .i32 0, .int .i32 0, .int .u8 0, .int .u8 0, .int .u8 0, .bool false] 94 (0, 0))) ∧ Below w.heap.size w W ∧ W0.heap.size ≤ W.heap.size)
    (fun c pre W => c = .ret ∧ e.ni = true ∧ W.heap[w.heap.size + 1]? = some (.cells (cells e) 94 (0, 0)) ∧ Below w.heap.size w W)
    ?hI ?hIx ⟨⟨bO, bR⟩, hB0, Nat.le_refl _⟩
    (fun x a' W => ∃ Bx, W0.heap.size ≤ Bx ∧ W.heap[Bx]? = some (.cells (cells x.2) 94 (0, 0)) ∧ a' = inhAct e A es.length cap w.heap.size x Bx) ?hAx ?assign ?body ?done ?stop
  case hKt => exact fun h k => ⟨h.1.trans k.1, k.2.trans h.2⟩
  case hKb =>
    intro W l o o' hl ho _ _
    exact ⟨belowK_b (w := W0) (by omega) W l o o' hl ho (by assumption) (by assumption), (grownBy_putObj' W l o').block _ (by have := (Array.getElem?_eq_some_iff.1 ho).1; omega) (fun e => by injection e; omega)⟩
  case hI =>
    rintro s A' B' row ⟨⟨h1, h2⟩, h3, h4⟩ hg hr
    have q : ∀ {k t : Nat} {cs : Array Value}, A'.heap[k]? = some (.cells cs t (0, 0)) → B'.heap[k]? = some (.cells cs t (0, 0)) := fun hk => (hg.block _ (blk_lt hk) (fun e => by
      obtain ⟨_, o, ho, hc⟩ := hr _ e.symm
      rw [hk] at ho
      cases ho
      cases hc)).trans hk
    exact ⟨⟨q h1, q h2⟩, h3.grown hg h3.size (fun k e => by have := (hr k e).1; omega), Nat.le_trans h4 hg.size⟩
  case hIx =>
    rintro c s A' B' row ⟨h0, h1, h2, h3⟩ hg hr
    have q : ∀ {k t : Nat} {cs : Array Value}, A'.heap[k]? = some (.cells cs t (0, 0)) → B'.heap[k]? = some (.cells cs t (0, 0)) := fun hk => (hg.block _ (blk_lt hk) (fun e => by
      obtain ⟨_, o, ho, hc⟩ := hr _ e.symm
      rw [hk] at ho
      cases ho
      cases hc)).trans hk
    exact ⟨h0, h1, q h2, h3.grown hg h3.size (fun k e => by have := (hr k e).1; omega)⟩
  case hAx =>
    rintro x a' s A' B' row ⟨Bx, h1, h2, h3⟩ hg hr
    refine ⟨Bx, h1, (hg.block _ (blk_lt h2) (fun e => ?_)).trans h2, h3⟩
    obtain ⟨_, o, ho, hc⟩ := hr _ e.symm
    rw [h2] at ho
    cases ho
    cases hc
  case assign =>
    intro l pre x W K hI hK
    simp only [Ent.val] at *
    gi_wp2
    obtain ⟨⟨h1, h2⟩, h3, h4⟩ := hI
    exact hK (inhAct e A es.length cap w.heap.size x W.heap.size) (W.alloc (.cells (cells x.2) 94)) ((KeepsOthers.alloc _ _).from _) ⟨(Below.refl _ W).alloc h3.size _, Below.heap_alloc _ _ _ (by omega)⟩ ⟨⟨blk_alloc h1 _, blk_alloc h2 _⟩, h3.alloc h3.size _, by simp; omega⟩ ⟨W.heap.size, h4, blk_new _ _, rfl⟩
  case done =>
    rintro D ys W hD rfl ⟨⟨h1, h2⟩, h3, h4⟩ hK
    have hyy : Aside0 (((back es es.length).map (·.2)).foldl inh1 e = inhL e es) := ⟨by rw [back_ents]; rfl⟩
    generalize ((back es es.length).map (·.2)).foldl inh1 e = y at *
    simp only [cells] at h1
    have a0 : W.cell? ⟨w.heap.size + 1 + 1, 0, none⟩ = some (.int .i32 y.c) := (blk_cell h1 0).trans rfl
    have a1 : W.cell? ⟨w.heap.size + 1 + 1, 1, none⟩ = some (.int .i32 y.b) := (blk_cell h1 1).trans rfl
    have a2 : W.cell? ⟨w.heap.size + 1 + 1, 2, none⟩ = some (.int .i32 y.o) := (blk_cell h1 2).trans rfl
    have a3 : W.cell? ⟨w.heap.size + 1 + 1, 3, none⟩ = some (.int .u8 y.bo) := (blk_cell h1 3).trans rfl
    have a4 : W.cell? ⟨w.heap.size + 1 + 1, 4, none⟩ = some (.int .u8 y.it) := (blk_cell h1 4).trans rfl
    have a5 : W.cell? ⟨w.heap.size + 1 + 1, 5, none⟩ = some (.int .u8 y.un) := (blk_cell h1 5).trans rfl
    have a6 : W.cell? ⟨w.heap.size + 1 + 1, 6, none⟩ = some (.bool y.ni) := (blk_cell h1 6).trans rfl
    have b0 : W.cell? ⟨w.heap.size + 1, 0, none⟩ = some (.int .i32 0) := (blk_cell h2 0).trans rfl
    have b1 : W.cell? ⟨w.heap.size + 1, 1, none⟩ = some (.int .i32 0) := (blk_cell h2 1).trans rfl
    have b2 : W.cell? ⟨w.heap.size + 1, 2, none⟩ = some (.int .i32 0) := (blk_cell h2 2).trans rfl
    have b3 : W.cell? ⟨w.heap.size + 1, 3, none⟩ = some (.int .u8 0) := (blk_cell h2 3).trans rfl
    have b4 : W.cell? ⟨w.heap.size + 1, 4, none⟩ = some (.int .u8 0) := (blk_cell h2 4).trans rfl
    have b5 : W.cell? ⟨w.heap.size + 1, 5, none⟩ = some (.int .u8 0) := (blk_cell h2 5).trans rfl
    have b6 : W.cell? ⟨w.heap.size + 1, 6, none⟩ = some (.bool false) := (blk_cell h2 6).trans rfl
    have f0 := blk_frozen h2 0
    have f1 := blk_frozen h2 1
    have f2 := blk_frozen h2 2
    have f3 := blk_frozen h2 3
    have f4 := blk_frozen h2 4
    have f5 := blk_frozen h2 5
    have f6 := blk_frozen h2 6
    have hu := Tryz.underlying94
    gi_wp2
    obtain ⟨hs1, hs2, hs3⟩ := res_seven (v0 := .int .i32 y.c) (v1 := .int .i32 y.b) (v2 := .int .i32 y.o) (v3 := .int .u8 y.bo) (v4 := .int .u8 y.it) (v5 := .int .u8 y.un) (v6 := .bool y.ni) w.heap.size 0 W h2
    rw [set7] at hs1 hs2 hs3
    have hKf := hs2.same D _ (by omega) hK rfl
    have hB7 := h3.trans hs3
    generalize (((((((W.setCell ⟨w.heap.size + 1, 0, none⟩ (.int .i32 y.c)).setCell ⟨w.heap.size + 1, 1, none⟩ (.int .i32 y.b)).setCell ⟨w.heap.size + 1, 2, none⟩ (.int .i32 y.o)).setCell ⟨w.heap.size + 1, 3, none⟩ (.int .u8 y.bo)).setCell ⟨w.heap.size + 1, 4, none⟩ (.int .u8 y.it)).setCell ⟨w.heap.size + 1, 5, none⟩ (.int .u8 y.un)).setCell ⟨w.heap.size + 1, 6, none⟩ (.bool y.ni)) = W7 at *
    refine ⟨by simp, .inl ⟨_, _, rfl, run_takeDeferred hKf, ?_⟩⟩
    have hR8 := ((grownBy_putObj' W7 D (.deferred none)).block _ (blk_lt hs1) (fun q => by injection q with q; omega)).trans hs1
    exact ⟨_, results_cell_row rfl _ _ (w.heap.size + 1) 94 #[.int .i32 y.c, .int .i32 y.b, .int .i32 y.o, .int .u8 y.bo, .int .u8 y.it, .int .u8 y.un, .bool y.ni] (0, 0) _ rfl hR8 Tryz.underlying94 rfl (by kernel_rfl), by rw [← hyy.out]; rfl, hB7.trans (belowK_b (w := w) (Nat.le_refl _) W7 D _ _ (by omega) hKf rfl rfl)⟩
  case body =>
    rintro l pre x a' W hl ⟨r, hr⟩ ⟨⟨h1, h2⟩, h3, h4⟩ ⟨Bx, hBx, hxx, rfl⟩ hlt
    have hni : ((pre.map (·.2)).foldl inh1 e).ni = e.ni := fold_ni _ _
    have hpx : ((pre ++ [x]).map (·.2)).foldl inh1 e = inh1 ((pre.map (·.2)).foldl inh1 e) x.2 := by simp
    have hst := fun h => fold_stop e (pre.map (·.2)) h
    generalize (pre.map (·.2)).foldl inh1 e = y at *
    generalize x.2 = a at *
    have hn1 : 1 ≤ n - 1 - 1 := by omega
    have hne : Bx ≠ w.heap.size + 1 + 1 := by omega
    have hset : ∀ (c : Int) (W : World), CallsIn (Fence.wide.inRound l) (n - 1 - 1 - 1) Tryz.prog 76 #[.int .i32 c] W fun e w' => e = .returned (.bool (decide (c ≠ 0))) ∧ W = w' := fun c W => CallsIn.inRound l (callsIn_wide.2 (isSet_c c W))
    have hset' := Aside0.mk hset
    have hs0' := Aside0.mk hs0
    clear hset hs0
    have R0 : InhRel w.heap.size W0.heap.size Bx W a y W := ⟨h1, hxx, KeepsFrom.refl _ _, ⟨Below.refl _ _, rfl⟩, h2⟩
    have a6 : W.cell? ⟨w.heap.size + 1 + 1, 6, none⟩ = some (.bool y.ni) := (blk_cell h1 6).trans rfl
    simp only [inhAct]
    cases hy : y.ni with
    | true =>
      rw [hy] at a6
      have a0 : W.cell? ⟨w.heap.size + 1 + 1, 0, none⟩ = some (.int .i32 y.c) := (blk_cell h1 0).trans rfl
      have a1 : W.cell? ⟨w.heap.size + 1 + 1, 1, none⟩ = some (.int .i32 y.b) := (blk_cell h1 1).trans rfl
      have a2 : W.cell? ⟨w.heap.size + 1 + 1, 2, none⟩ = some (.int .i32 y.o) := (blk_cell h1 2).trans rfl
      have a3 : W.cell? ⟨w.heap.size + 1 + 1, 3, none⟩ = some (.int .u8 y.bo) := (blk_cell h1 3).trans rfl
      have a4 : W.cell? ⟨w.heap.size + 1 + 1, 4, none⟩ = some (.int .u8 y.it) := (blk_cell h1 4).trans rfl
      have a5 : W.cell? ⟨w.heap.size + 1 + 1, 5, none⟩ = some (.int .u8 y.un) := (blk_cell h1 5).trans rfl
      have b0 : W.cell? ⟨w.heap.size + 1, 0, none⟩ = some (.int .i32 0) := (blk_cell h2 0).trans rfl
      have b1 : W.cell? ⟨w.heap.size + 1, 1, none⟩ = some (.int .i32 0) := (blk_cell h2 1).trans rfl
      have b2 : W.cell? ⟨w.heap.size + 1, 2, none⟩ = some (.int .i32 0) := (blk_cell h2 2).trans rfl
      have b3 : W.cell? ⟨w.heap.size + 1, 3, none⟩ = some (.int .u8 0) := (blk_cell h2 3).trans rfl
      have b4 : W.cell? ⟨w.heap.size + 1, 4, none⟩ = some (.int .u8 0) := (blk_cell h2 4).trans rfl
      have b5 : W.cell? ⟨w.heap.size + 1, 5, none⟩ = some (.int .u8 0) := (blk_cell h2 5).trans rfl
      have b6 : W.cell? ⟨w.heap.size + 1, 6, none⟩ = some (.bool false) := (blk_cell h2 6).trans rfl
      have f0 := blk_frozen h2 0
      have f1 := blk_frozen h2 1
      have f2 := blk_frozen h2 2
      have f3 := blk_frozen h2 3
      have f4 := blk_frozen h2 4
      have f5 := blk_frozen h2 5
      have f6 := blk_frozen h2 6
      have hu := Tryz.underlying94
      obtain ⟨hs1, hs2, hs3⟩ := res_seven (v0 := .int .i32 y.c) (v1 := .int .i32 y.b) (v2 := .int .i32 y.o) (v3 := .int .u8 y.bo) (v4 := .int .u8 y.it) (v5 := .int .u8 y.un) (v6 := .bool true) w.heap.size W0.heap.size W h2
      rw [set7] at hs1 hs2 hs3
      have hfold := hst (by rw [← hni]; exact hy)
      have hey : e.ni = true := by rw [← hni]; exact hy
      have hfold' := Aside0.mk hfold
      clear hst hpx R0 hxx hfold
      gi_wp2
      refine ⟨hs2, rfl, hey, ?_, h3.trans hs3⟩
      rw [hs1, ← hfold'.out]
      simp only [cells]
      rw [hy]
    | false =>
      rw [hy] at a6
      have hfin : inh1 y a = ⟨if y.c = 0 then a.c else y.c, if y.b = 0 then a.b else y.b, if y.o = 0 then a.o else y.o, if y.bo = 0 then a.bo else y.bo, if y.it = 0 then a.it else y.it, if y.un = 0 then a.un else y.un, false⟩ := by unfold inh1; rw [if_neg (by rw [hy]; simp)]
      have hfin' := Aside0.mk (hpx.trans hfin)
      clear hfin hpx hxx hni hst h1 h2
      have hy' := Aside0.mk hy
      clear hy
      obtain ⟨a0, a1, a2, a3, a4, a5, d0, d1, d2, d3, d4, d5, f0, f1, f2, f3, f4, f5⟩ := R0.rd
      gi_upto_if 19 with (gi_at_call 76; refine (hset'.out _ _).mono ?_; rintro e1 w1 ⟨rfl, rfl⟩)
      gi_cut [] from 13 (fun wc => InhRel w.heap.size W0.heap.size Bx W a ⟨(if y.c = 0 then a.c else y.c), y.b, y.o, y.bo, y.it, y.un, y.ni⟩ wc)
      case first =>
        by_cases h0 : y.c = 0
        · gi_wp2
          gi_meet
          exact R0.set hne 0 _ (by simp [cells, h0])
        · gi_wp2
          gi_meet
          simpa [h0] using R0
      case rest =>
      have R1 := hcut
      clear hcut R0 a0 a1 a2 a3 a4 a5 d0 d1 d2 d3 d4 d5 f0 f1 f2 f3 f4 f5
      obtain ⟨a0, a1, a2, a3, a4, a5, d0, d1, d2, d3, d4, d5, f0, f1, f2, f3, f4, f5⟩ := R1.rd
      gi_upto_if 26 with (gi_at_call 76; refine (hset'.out _ _).mono ?_; rintro e1 w1 ⟨rfl, rfl⟩)
      gi_cut [] from 13 (fun wc => InhRel w.heap.size W0.heap.size Bx W a ⟨(if y.c = 0 then a.c else y.c), (if y.b = 0 then a.b else y.b), y.o, y.bo, y.it, y.un, y.ni⟩ wc)
      case first =>
        by_cases h0 : y.b = 0
        · gi_wp2
          gi_meet
          exact R1.set hne 1 _ (by simp [cells, h0])
        · gi_wp2
          gi_meet
          simpa [h0] using R1
      case rest =>
      have R2 := hcut
      clear hcut R1 a0 a1 a2 a3 a4 a5 d0 d1 d2 d3 d4 d5 f0 f1 f2 f3 f4 f5
      obtain ⟨a0, a1, a2, a3, a4, a5, d0, d1, d2, d3, d4, d5, f0, f1, f2, f3, f4, f5⟩ := R2.rd
      gi_upto_if 33 with (gi_at_call 76; refine (hset'.out _ _).mono ?_; rintro e1 w1 ⟨rfl, rfl⟩)
      gi_cut [] from 13 (fun wc => InhRel w.heap.size W0.heap.size Bx W a ⟨(if y.c = 0 then a.c else y.c), (if y.b = 0 then a.b else y.b), (if y.o = 0 then a.o else y.o), y.bo, y.it, y.un, y.ni⟩ wc)
      case first =>
        by_cases h0 : y.o = 0
        · gi_wp2
          gi_meet
          exact R2.set hne 2 _ (by simp [cells, h0])
        · gi_wp2
          gi_meet
          simpa [h0] using R2
      case rest =>
      have R3 := hcut
      clear hcut R2 a0 a1 a2 a3 a4 a5 d0 d1 d2 d3 d4 d5 f0 f1 f2 f3 f4 f5
      obtain ⟨a0, a1, a2, a3, a4, a5, d0, d1, d2, d3, d4, d5, f0, f1, f2, f3, f4, f5⟩ := R3.rd
      gi_upto_if 39 with fail
      gi_cut [] from 13 (fun wc => InhRel w.heap.size W0.heap.size Bx W a ⟨(if y.c = 0 then a.c else y.c), (if y.b = 0 then a.b else y.b), (if y.o = 0 then a.o else y.o), (if y.bo = 0 then a.bo else y.bo), y.it, y.un, y.ni⟩ wc)
      case first =>
        by_cases h0 : y.bo = 0
        · gi_wp2
          gi_meet
          exact R3.set hne 3 _ (by simp [cells, h0])
        · gi_wp2
          gi_meet
          simpa [h0] using R3
      case rest =>
      have R4 := hcut
      clear hcut R3 a0 a1 a2 a3 a4 a5 d0 d1 d2 d3 d4 d5 f0 f1 f2 f3 f4 f5
      obtain ⟨a0, a1, a2, a3, a4, a5, d0, d1, d2, d3, d4, d5, f0, f1, f2, f3, f4, f5⟩ := R4.rd
      gi_upto_if 45 with fail
      gi_cut [] from 13 (fun wc => InhRel w.heap.size W0.heap.size Bx W a ⟨(if y.c = 0 then a.c else y.c), (if y.b = 0 then a.b else y.b), (if y.o = 0 then a.o else y.o), (if y.bo = 0 then a.bo else y.bo), (if y.it = 0 then a.it else y.it), y.un, y.ni⟩ wc)
      case first =>
        by_cases h0 : y.it = 0
        · gi_wp2
          gi_meet
          exact R4.set hne 4 _ (by simp [cells, h0])
        · gi_wp2
          gi_meet
          simpa [h0] using R4
      case rest =>
      have R5 := hcut
      clear hcut R4 a0 a1 a2 a3 a4 a5 d0 d1 d2 d3 d4 d5 f0 f1 f2 f3 f4 f5
      obtain ⟨a0, a1, a2, a3, a4, a5, d0, d1, d2, d3, d4, d5, f0, f1, f2, f3, f4, f5⟩ := R5.rd
      by_cases h0 : y.un = 0
      · gi_wp2
        have R6 := R5.set hne 5 (.int .u8 a.un) (e' := ⟨if y.c = 0 then a.c else y.c, if y.b = 0 then a.b else y.b, if y.o = 0 then a.o else y.o, if y.bo = 0 then a.bo else y.bo, if y.it = 0 then a.it else y.it, if y.un = 0 then a.un else y.un, false⟩) (by simp [cells, h0, hy'.out])
        exact ⟨R6.keep, R6.kp, ⟨by rw [hfin'.out]; exact R6.out, R6.res⟩, h3.trans R6.kp.1, Nat.le_trans h4 R6.kp.1.size⟩
      · gi_wp2
        have R6 : InhRel w.heap.size W0.heap.size Bx W a ⟨if y.c = 0 then a.c else y.c, if y.b = 0 then a.b else y.b, if y.o = 0 then a.o else y.o, if y.bo = 0 then a.bo else y.bo, if y.it = 0 then a.it else y.it, if y.un = 0 then a.un else y.un, false⟩ wc := by
          have := R5
          rw [hy'.out] at this
          simpa [h0] using this
        exact ⟨R6.keep, R6.kp, ⟨by rw [hfin'.out]; exact R6.out, R6.res⟩, h3.trans R6.kp.1, Nat.le_trans h4 R6.kp.1.size⟩
  case stop =>
    rintro D c pre W hD ⟨k, hk, rfl⟩ ⟨rfl, hni, hr, hB⟩ hK
    gi_wp2
    refine ⟨by simp, .inl ⟨_, _, rfl, run_takeDeferred hK, ?_⟩⟩
    have hR8 := ((grownBy_putObj' W D (.deferred none)).block _ (blk_lt hr) (fun q => by injection q with q; omega)).trans hr
    exact ⟨_, results_cell_row rfl _ _ (w.heap.size + 1) 94 (cells e) (0, 0) _ rfl hR8 Tryz.underlying94 rfl (by kernel_rfl), by rw [inhL, fold_stop e _ hni]; rfl, hB.trans (belowK_b (w := w) (Nat.le_refl _) W D _ _ (by omega) hK rfl rfl)⟩
theorem inherit_c (e : Ent) (A : Option Addr) (cap : Nat) (es : List Ent) (hlen : es.length ≤ 1000000) (w : World) (hE : EntsAt w.heap.size w A es) :
    Calls Tryz.prog 49 #[.agg #[.int .i32 e.c, .int .i32 e.b, .int .i32 e.o, .int .u8 e.bo, .int .u8 e.it, .int .u8 e.un, .bool e.ni], .slice A es.length cap] w fun x w' => x = .returned (inhL e es).val ∧ Below w.heap.size w w' :=
  callsIn_wide.1 (inherit_in 4 (by omega) e A cap es hlen w hE)
end Go.Proofs.YtjemdgmihbmgeaaGreatDoorEnt
