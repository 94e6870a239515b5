/- slices.Backward over a slice of styles' entries. -/
import Derived.RangeFuncNested
import Derived.RangeFuncBound
import Derived.RangeFuncCalls
import Derived.RangeFuncLeaves
import Derived.Shelf.Abstract
import Derived.Shelf.RegionOpen
import Derived.WalkKit
import Derived.OwnWalkIn
import Derived.TacticsInMore
import Derived.LoopNIn
import Derived.LoopIn
import Derived.Test.YtjemdgmihbmgeaaGreatDoorProg
set_option linter.unusedVariables false
set_option linter.unusedSimpArgs false
namespace Go.Proofs.YtjemdgmihbmgeaaGreatDoorEnt
open Go.RowKit Go.Shelf
attribute [local go_sem] Oper.semAt_some
/-- A style's entry. -/
structure Ent where
  c : Int
  b : Int
  o : Int
  bo : Int
  it : Int
  un : Int
  ni : Bool
def Ent.val (e : Ent) : Value := .agg #[.int .i32 e.c, .int .i32 e.b, .int .i32 e.o, .int .u8 e.bo, .int .u8 e.it, .int .u8 e.un, .bool e.ni]
/-- Block g has from cell o on the entries es. -/
def Ents (W : World) (g o : Nat) (es : List Ent) : Prop := ∀ i (h : i < es.length), W.cell? ⟨g, o + i * 7, none⟩ = some (.int .i32 es[i].c) ∧ W.cell? ⟨g, o + i * 7 + 1, none⟩ = some (.int .i32 es[i].b) ∧ W.cell? ⟨g, o + i * 7 + 2, none⟩ = some (.int .i32 es[i].o) ∧
  W.cell? ⟨g, o + i * 7 + 3, none⟩ = some (.int .u8 es[i].bo) ∧ W.cell? ⟨g, o + i * 7 + 4, none⟩ = some (.int .u8 es[i].it) ∧ W.cell? ⟨g, o + i * 7 + 5, none⟩ = some (.int .u8 es[i].un) ∧ W.cell? ⟨g, o + i * 7 + 6, none⟩ = some (.bool es[i].ni)
theorem Ents.same {W W' : World} {g o : Nat} {es : List Ent} (h : Ents W g o es) (hb : W'.heap[g]? = W.heap[g]?) : Ents W' g o es := fun i hi => by
  have q : ∀ k : Nat, W'.cell? ⟨g, k, none⟩ = W.cell? ⟨g, k, none⟩ := fun k => World.cell?_of_block (a := ⟨g, k, none⟩) hb
  simp only [q]
  exact h i hi
/-- A slice's address that has the entries es, in a block below n0. -/
def EntsAt (n0 : Nat) (W : World) (A : Option Addr) (es : List Ent) : Prop := es ≠ [] → ∃ g o, A = some ⟨g, o, none⟩ ∧ g < n0 ∧ Ents W g o es
/-- What a round keeps: what lay below n0, and the box of the slice. -/
def KpB (n0 Bs : Nat) (A B : World) : Prop := Below n0 A B ∧ B.heap[Bs]? = A.heap[Bs]?
/-- What has come when k rounds are over: the last k, the last one first. -/
def back (es : List Ent) (k : Nat) : List (Int × Ent) := ((List.range k).map fun j => (((es.length - 1 - j : Nat) : Int), es.getD (es.length - 1 - j) ⟨0, 0, 0, 0, 0, 0, false⟩))
theorem back_succ (es : List Ent) (k : Nat) : back es (k + 1) = back es k ++ [(((es.length - 1 - k : Nat) : Int), es.getD (es.length - 1 - k) ⟨0, 0, 0, 0, 0, 0, false⟩)] := by simp [back, List.range_succ]
set_option maxRecDepth 100000 in
set_option maxHeartbeats 4000000 in
theorem back1_in (F : Fence) (n : Nat) (h7 : F.fn 93) (hro : F.round = none) (hn : 1 ≤ n) (l Bs n0 cap : Nat) (A : Option Addr) (es : List Ent) (hlen : es.length ≤ 1000000) (J Jx : List (Int × Ent) → World → Prop)
    (hY : ∀ pre x W, J pre W → pre.length < es.length → YieldAt F (n - 1) Tryz.prog l #[.int .i64 x.1, x.2.val] W fun e W' =>
      (e = .returned (.bool true) ∧ J (pre ++ [x]) W' ∧ KpB n0 Bs W W') ∨ (e = .returned (.bool false) ∧ Jx (pre ++ [x]) W'))
    (W : World) (hBs : W.heap[Bs]? = some (.cells #[.slice A es.length cap] 142 (0, 0))) (hE : EntsAt n0 W A es) (h0 : J [] W) :
    CallsIn F n Tryz.prog 93 #[.func (.yield l) #[] #[], .pointer (some ⟨Bs, 0, none⟩)] W fun e W' => (∃ v, e = .returned v) ∧
      (J (back es es.length) W' ∨ (∃ k, k ≤ es.length ∧ Jx (back es k) W')) := by
  refine callsIn_of_wp Tryz.func93 rfl h7 ?_ hro
  simp only [Tryz.ntmps93, List.size_toArray, List.length_cons, List.length_nil, Nat.reduceAdd, Nat.reduceSub, Array.replicate_succ, Array.replicate_zero, List.push_toArray, List.append_toArray, List.nil_append, List.cons_append]
  have cB : W.cell? ⟨Bs, 0, none⟩ = some (.slice A es.length cap) := by simp [World.cell?, hBs]
  gi_wp2
  gi_loopw [3] (fun i wr => ∃ k : Nat, k ≤ es.length ∧ i = .int .i64 ((es.length : Int) - 1 - k) ∧ J (back es k) wr ∧ KpB n0 Bs W wr)
    (fun i _ => (intOf i + 1).toNat)
  case atStart => exact ⟨0, Nat.zero_le _, by simp, h0, Below.refl _ _, rfl⟩
  case round =>
    obtain ⟨k, hk, rfl, hJs, hB1, hB2⟩ := hrel
    have hb := hB2.trans hBs
    have cB' : wr.cell? ⟨Bs, 0, none⟩ = some (.slice A es.length cap) := by simp [World.cell?, hb]
    by_cases hlt : k < es.length
    · obtain ⟨g, o, rfl, hg, hE⟩ := hE (fun e => by rw [e] at hlt; simp at hlt)
      have hE' := hE.same (hB1.block g hg) (es.length - 1 - k) (by omega)
      obtain ⟨d0, d1, d2, d3, d4, d5, d6⟩ := hE'
      have hget : es.getD (es.length - 1 - k) ⟨0, 0, 0, 0, 0, 0, false⟩ = es[es.length - 1 - k]'(by omega) := by
        rw [List.getD_eq_getElem?_getD, List.getElem?_eq_getElem (by omega)]; rfl
      obtain ⟨fn, tmps, assign, body, hy, hR⟩ := hY _ (((es.length - 1 - k : Nat) : Int), es.getD (es.length - 1 - k) ⟨0, 0, 0, 0, 0, 0, false⟩) wr hJs (by simp [back]; omega)
      rw [← back_succ] at hR
      rw [hget] at hy
      dsimp only [Ent.val] at hy
      have hi1 : (es.length : Int) - 1 - k = ((es.length - 1 - k : Nat) : Int) := by omega
      have hix : ((es.length - 1 - k : Nat) : Int) < (es.length : Int) := by omega
      rw [hi1]
      generalize (es[es.length - 1 - k]'(by omega)) = x at *
      generalize hI : es.length - 1 - k = i at *
      have hw1 : wrap64 ((i : Int) - 1) = (i : Int) - 1 := by unfold wrap64; omega
      gi_wp2
      refine hR.mono ?_
      rintro e W3 (⟨rfl, hJ3, hk3, hk4⟩ | ⟨rfl, hJx3⟩)
      · gi_wp2
        go_roundw
        case rel => exact ⟨k + 1, by omega, by first | (congr 1; omega) | (rw [hw1]; congr 1; omega) | (congr 1) | (rw [hw1]; congr 1), hJ3, hB1.trans hk3, hk4.trans hB2⟩
        case measure => first | (simp [intOf]; omega) | (rw [hw1]; simp [intOf]; omega) | (simp [intOf]; done) | (rw [hw1]; simp [intOf]; done)
      · gi_wp2
        refine bodyPost_ret (results_none rfl _ _ _) rfl ?_
        exact ⟨⟨_, rfl⟩, .inr ⟨k + 1, by omega, hJx3⟩⟩
    · have hk' : k = es.length := by omega
      subst hk'
      gi_wp2
      go_end0
      exact ⟨⟨_, rfl⟩, .inl hJs⟩
set_option maxHeartbeats 1000000 in
theorem back_in (F : Fence) (n : Nat) (h5 : F.fn 75) (hro : F.round = none) (a : Option Addr) (len cap : Nat) (w : World) :
    CallsIn F n Tryz.prog 75 #[.slice a len cap] w fun e w' => e = .returned (.func (.func 93) #[] #[.pointer (some ⟨w.heap.size, 0, none⟩)]) ∧ w' = w.alloc (.cells #[.slice a len cap] 142) := by
  refine callsIn_of_wp Tryz.func75 rfl h5 ?_ hro
  simp only [Tryz.ntmps75, List.size_toArray, List.length_cons, List.length_nil, Nat.reduceAdd, Nat.reduceSub, Array.replicate_succ, Array.replicate_zero, List.push_toArray, List.append_toArray, List.nil_append, List.cons_append]
  gi_wp2
  go_ret
  exact ⟨rfl, rfl⟩
theorem EntsAt.below {n0 : Nat} {W W' : World} {A : Option Addr} {es : List Ent} (h : EntsAt n0 W A es) (hb : Below n0 W W') : EntsAt n0 W' A es := fun hne => by
  obtain ⟨g, o, e, hg, hE⟩ := h hne
  exact ⟨g, o, e, hg, hE.same (hb.block g hg)⟩
/-- slices.Backward hands back what stops: the entries from the last one on, each with its place. -/
theorem back_stops (F : Fence) (n : Nat) (h7 : F.fn 93) (hro : F.round = none) (hn : 1 ≤ n) (Bs n0 cap : Nat) (A : Option Addr) (es : List Ent) (hlen : es.length ≤ 1000000) (w : World) (hn0 : n0 ≤ w.heap.size)
    (hBs : w.heap[Bs]? = some (.cells #[.slice A es.length cap] 142 (0, 0))) (hE : EntsAt n0 w A es) :
    SeqStopsK F n Tryz.prog 93 #[.pointer (some ⟨Bs, 0, none⟩)] (fun x : Int × Ent => #[Value.int .i64 x.1, x.2.val]) (KpB n0 Bs) (fun ys => ys = back es es.length) (fun pre => ∃ k, k ≤ es.length ∧ pre = back es k) es.length w := fun l J Jx W hW _ _ hY h0 => by
  have hb := (hW.block Bs (Array.getElem?_eq_some_iff.1 hBs).1).trans hBs
  refine (back1_in F n h7 hro hn l Bs n0 cap A es hlen J Jx hY W hb (hE.below (hW.mono hn0)) h0).mono ?_
  rintro e W' ⟨he, hj | ⟨k, hk, hj⟩⟩
  · exact ⟨he, .inl ⟨_, rfl, hj⟩⟩
  · exact ⟨he, .inr ⟨_, ⟨k, hk, rfl⟩, hj⟩⟩
end Go.Proofs.YtjemdgmihbmgeaaGreatDoorEnt
