/- laws.FnEntryParse: what the call computes. -/
import Derived.Test.YtifhhejohdmiaaaDoorCp
set_option linter.unusedVariables false
set_option linter.unusedSimpArgs false
namespace Go.Proofs.YtifhhejohdmiaaaDoorEnt
open Go.RowKit Go.Shelf Go.Proofs.YtifhhejohdmiaaaDoorW.PrintWords Go.Proofs.YtifhhejohdmiaaaDoorFmt Go.Proofs.YtifhhejohdmiaaaDoorMapI Go.Proofs.YtifhhejohdmiaaaDoorFlt Go.Proofs.YtifhhejohdmiaaaDoor
theorem blk7g {W : World} {g : Nat} {o : Ent} {T : TypeId} (h : W.heap[g]? = some (.cells (cells o) T (0, 0))) :
    W.cell? ⟨g, 0, none⟩ = some (.int .i32 o.c) ∧ W.cell? ⟨g, 1, none⟩ = some (.int .i32 o.b) ∧ W.cell? ⟨g, 2, none⟩ = some (.int .i32 o.o) ∧ W.cell? ⟨g, 3, none⟩ = some (.int .u8 o.bo) ∧ W.cell? ⟨g, 4, none⟩ = some (.int .u8 o.it) ∧ W.cell? ⟨g, 5, none⟩ = some (.int .u8 o.un) ∧ W.cell? ⟨g, 6, none⟩ = some (.bool o.ni) :=
  ⟨(blk_cell h 0).trans rfl, (blk_cell h 1).trans rfl, (blk_cell h 2).trans rfl, (blk_cell h 3).trans rfl, (blk_cell h 4).trans rfl, (blk_cell h 5).trans rfl, (blk_cell h 6).trans rfl⟩
/-- Two blocks laid one after the other, a call between. -/
theorem two_blks {w w1 w2 : World} {e x : Ent} (hb1 : Below w.heap.size w w1) (hb2 : Below (w1.alloc (.cells (cells e) 26)).heap.size (w1.alloc (.cells (cells e) 26)) w2) :
    ∃ W, w2.alloc (.cells (cells x) 23) = W ∧ Below w.heap.size w W ∧ W.heap[w1.heap.size]? = some (.cells (cells e) 26 (0, 0)) ∧ W.heap[w2.heap.size]? = some (.cells (cells x) 23 (0, 0)) := by
  have hE1 := blk_new w1 (.cells (cells e) 26)
  have hbA := below_alloc hb1 (.cells (cells e) 26)
  exact ⟨_, rfl, below_alloc (below_on hbA hb2 hbA.size) _, blk_alloc ((hb2.block _ (blk_lt hE1)).trans hE1) _, blk_new _ _⟩
def parWalk (s : ByteArray) (e : Ent) (f : Bool) (told : Int) (x : Ent) (ok : Bool) : Prop :=
  s.size ≤ 200 → ∀ (w : World)
    (kS : Aside0 (Calls Tryd.prog 14 #[.string s] w fun x w' => x = .returned (.tuple #[.agg #[.int .i32 e.c, .int .i32 e.b, .int .i32 e.o, .int .u8 e.bo, .int .u8 e.it, .int .u8 e.un, .bool e.ni], .bool f, .int .i64 told]) ∧ Below w.heap.size w w'))
    (kI : Aside0 (∀ W, Below w.heap.size w W → Calls Tryd.prog 15 #[.string s] W fun y w' => y = .returned (.tuple #[.agg #[.int .i32 x.c, .int .i32 x.b, .int .i32 x.o, .int .u8 x.bo, .int .u8 x.it, .int .u8 x.un, .bool x.ni], .bool ok]) ∧ Below W.heap.size W w'))
    (kY : Aside0 (∀ W, Below w.heap.size w W → Calls Tryd.prog 13 #[] W fun x w' => x = .returned (.bool true) ∧ Below W.heap.size W w')),
    Calls Tryd.prog 4 #[.string s] w fun x w' => x = .returned (.bool true) ∧ Below w.heap.size w w'
set_option maxRecDepth 100000 in
set_option maxHeartbeats 4000000 in
theorem fnParse_2 (s : ByteArray) (e : Ent) (f : Bool) (x : Ent) (ok : Bool) : parWalk s e f 2 x ok := by
  intro hs w kS kI kY
  have hlen : 0 ≤ (s.size : Int) ∧ (s.size : Int) ≤ 200 := by omega
  have hu := Tryd.underlying23
  have hu2 := Tryd.underlying26
  go_enter Tryd.func4, Tryd.ntmps4
  go_upto_region 6 with (go_at_call 14; refine kS.out.mono ?_; rintro e1 w1 ⟨rfl, hb1⟩)
  go_upto_region 7 with (go_at_call 15; refine (kI.out _ (below_alloc hb1 _)).mono ?_; rintro e2 w2 ⟨rfl, hb2⟩)
  obtain ⟨W, hW, hB, hE, hX⟩ := two_blks (x := x) hb1 hb2
  rw [cells] at hW
  rw [hW]
  clear hW
  go_wp2
  go_ret
  exact ⟨rfl, hB⟩
set_option maxRecDepth 100000 in
set_option maxHeartbeats 4000000 in
theorem fnParse_1 (s : ByteArray) (x : Ent) : parWalk s x true 1 x true := by
  intro hs w kS kI kY
  have hlen : 0 ≤ (s.size : Int) ∧ (s.size : Int) ≤ 200 := by omega
  have hu := Tryd.underlying23
  have hu2 := Tryd.underlying26
  go_enter Tryd.func4, Tryd.ntmps4
  go_upto_region 6 with (go_at_call 14; refine kS.out.mono ?_; rintro e1 w1 ⟨rfl, hb1⟩)
  go_upto_region 7 with (go_at_call 15; refine (kI.out _ (below_alloc hb1 _)).mono ?_; rintro e2 w2 ⟨rfl, hb2⟩)
  obtain ⟨W, hW, hB, hE, hX⟩ := two_blks (x := x) hb1 hb2
  rw [cells] at hW
  rw [hW]
  have HB := Aside0.mk hB
  obtain ⟨r0, r1, r2, r3, r4, r5, r6⟩ := blk7g hE
  obtain ⟨s0, s1, s2, s3, s4, s5, s6⟩ := blk7g hX
  clear hW hE hX hb1 hb2 hB
  go_wp2_with (go_at_call 13; refine (kY.out _ HB.out).mono ?_; rintro e3 w3 ⟨rfl, hb3⟩)
  go_ret
  exact ⟨rfl, below_on HB.out hb3 HB.out.size⟩
set_option maxRecDepth 100000 in
set_option maxHeartbeats 4000000 in
theorem fnParse_0 (s : ByteArray) (e x : Ent) : parWalk s e false 1 x false := by
  intro hs w kS kI kY
  have hlen : 0 ≤ (s.size : Int) ∧ (s.size : Int) ≤ 200 := by omega
  have hu := Tryd.underlying23
  have hu2 := Tryd.underlying26
  go_enter Tryd.func4, Tryd.ntmps4
  go_upto_region 6 with (go_at_call 14; refine kS.out.mono ?_; rintro e1 w1 ⟨rfl, hb1⟩)
  go_upto_region 7 with (go_at_call 15; refine (kI.out _ (below_alloc hb1 _)).mono ?_; rintro e2 w2 ⟨rfl, hb2⟩)
  obtain ⟨W, hW, hB, hE, hX⟩ := two_blks (x := x) hb1 hb2
  rw [cells] at hW
  rw [hW]
  have HB := Aside0.mk hB
  clear hW hE hX hb1 hb2 hB
  go_wp2_with (go_at_call 13; refine (kY.out _ HB.out).mono ?_; rintro e3 w3 ⟨rfl, hb3⟩)
  go_ret
  exact ⟨rfl, below_on HB.out hb3 HB.out.size⟩
theorem fnParse_c (s : ByteArray) (hs : s.size ≤ 140737488351232) (w : World) (hV : VarsOK w) :
    Calls Tryd.prog 4 #[.string s] w fun x w' => x = .returned (.bool true) ∧ Below w.heap.size w w' := by
  have hlen : 0 ≤ (s.size : Int) ∧ (s.size : Int) ≤ 140737488351232 := by omega
  have HB0 := Aside0.mk (Below.refl w.heap.size w)
  by_cases h1 : (s.size : Int) > 2147483647
  · clear hV
    go_enter Tryd.func4, Tryd.ntmps4
    go_wp2
    go_ret
    exact ⟨rfl, HB0.out⟩
  by_cases h2 : (s.size : Int) > 200
  · clear hV
    go_enter Tryd.func4, Tryd.ntmps4
    go_wp2
    go_ret
    exact ⟨rfl, HB0.out⟩
  have h3 : s.size ≤ 200 := by omega
  obtain ⟨k, ⟨c, b, o, bo, it, un, ni, f, told⟩, h, hr⟩ := Pure.eparse_f s h3
  have kS := Aside0.mk (S.spec_EntryParse.calls k s c b o bo it un ni f told w h)
  have kY : Aside0 (∀ W, Below w.heap.size w W → Calls Tryd.prog 13 #[] W fun x w' => x = .returned (.bool true) ∧ Below W.heap.size W w') := ⟨fun W hW => sane W (hV.below hW)⟩
  have kI := Aside0.mk (fun W (hW : Below w.heap.size w W) => eParse_c s hs W (hV.below hW))
  rcases hr with h4 | hr
  · have h4' : told = 2 := h4
    subst h4'
    exact fnParse_2 s ⟨c, b, o, bo, it, un, ni⟩ f (eParse s).1 (eParse s).2 h3 w kS kI kY
  · have he : eParse s = match pse s with
      | some e => (e, true)
      | none => (zeroE, false) := rfl
    cases hp : pse s with
    | some x =>
      rw [hp] at he
      rw [hp] at hr
      simp only [Pure.Reads, Prod.mk.injEq] at hr
      obtain ⟨rfl, rfl, rfl, rfl, rfl, rfl, rfl, rfl, rfl⟩ := hr
      rw [he] at kI
      exact fnParse_1 s x h3 w kS kI kY
    | none =>
      rw [hp] at he
      rw [hp] at hr
      simp only [Pure.Reads] at hr
      obtain ⟨rfl, rfl⟩ := hr
      rw [he] at kI
      exact fnParse_0 s ⟨c, b, o, bo, it, un, ni⟩ zeroE h3 w kS kI kY
end Go.Proofs.YtifhhejohdmiaaaDoorEnt
