/- chroma.ParseStyleEntry: what the call computes. (Written by gen_par.py.) -/
import Derived.Test.YtjemdgmihbmgeaaGreatDoorFld
import Derived.Test.YtjemdgmihbmgeaaGreatDoorInh
import Derived.Test.YtjemdgmihbmgeaaGreatDoorCol
set_option linter.unusedVariables false
set_option linter.unusedSimpArgs false
namespace Go.Proofs.YtjemdgmihbmgeaaGreatDoorEnt
open Go.RowKit Go.Shelf Go.Proofs.YtjemdgmihbmgeaaGreatDoorW.PrintWords Go.Proofs.YtjemdgmihbmgeaaGreatDoorFmt Go.Proofs.YtjemdgmihbmgeaaGreatDoorFld
attribute [local go_sem] Oper.semAt_some
def setC (o : Ent) (c : Int) (f : Ent) : Option Ent := if c = 0 then none else some f
/-- What one word makes of an entry. -/
def stepE (o : Ent) (p : ByteArray) : Option Ent :=
  if p = ⟨#[105, 116, 97, 108, 105, 99]⟩ then some { o with it := 1 }
  else if p = ⟨#[110, 111, 105, 116, 97, 108, 105, 99]⟩ then some { o with it := 2 }
  else if p = ⟨#[98, 111, 108, 100]⟩ then some { o with bo := 1 }
  else if p = ⟨#[110, 111, 98, 111, 108, 100]⟩ then some { o with bo := 2 }
  else if p = ⟨#[117, 110, 100, 101, 114, 108, 105, 110, 101]⟩ then some { o with un := 1 }
  else if p = ⟨#[110, 111, 117, 110, 100, 101, 114, 108, 105, 110, 101]⟩ then some { o with un := 2 }
  else if p = ⟨#[105, 110, 104, 101, 114, 105, 116]⟩ then some { o with ni := false }
  else if p = ⟨#[110, 111, 105, 110, 104, 101, 114, 105, 116]⟩ then some { o with ni := true }
  else if p = ⟨#[98, 103, 58]⟩ then some { o with b := 0 }
  else if Lib.hasPrefix p.data.toList [98, 103, 58, 35] = true then (if pcol (p.extract 3 p.size) = 0 then none else some { o with b := pcol (p.extract 3 p.size) })
  else if Lib.hasPrefix p.data.toList [98, 111, 114, 100, 101, 114, 58, 35] = true then (if pcol (p.extract 7 p.size) = 0 then none else some { o with o := pcol (p.extract 7 p.size) })
  else if Lib.hasPrefix p.data.toList [35] = true then (if pcol (p) = 0 then none else some { o with c := pcol (p) })
  else none
def psL : List ByteArray → Ent → Option Ent
  | [], e => some e
  | p :: l, e => (stepE e p).bind (psL l)
/-- The entry that a text is read as. -/
def pse (s : ByteArray) : Option Ent := psL (fields s) zeroE
theorem psL_append (l m : List ByteArray) (e : Ent) : psL (l ++ m) e = (psL l e).bind (psL m) := by
  induction l generalizing e with
  | nil => rfl
  | cons p l ih =>
    simp only [List.cons_append, psL]
    cases stepE e p with
    | none => rfl
    | some f => simp only [Option.bind_some]; exact ih f
theorem psL_snoc (l : List ByteArray) (p : ByteArray) (e : Ent) : psL (l ++ [p]) e = (psL l e).bind (fun f => stepE f p) := by
  rw [psL_append]
  congr 1
  funext f
  simp only [psL]
  cases stepE f p <;> rfl
theorem fsq_size (s : ByteArray) : ∀ (g i : Nat) (st : Option Nat), ∀ x ∈ fsq s g i st, x.size ≤ s.size
  | 0, _, _, x, h => by cases h
  | g + 1, i, st, x, h => by
    unfold fsq at h
    have hx : ∀ a b, (s.extract a b).size ≤ s.size := fun a b => by rw [ByteArray.size_extract]; omega
    split at h
    · split at h
      · rcases List.mem_append.1 h with h | h
        · cases st with
          | none => cases h
          | some b => simp at h; subst h; exact hx _ _
        · exact fsq_size s g _ _ x h
      · exact fsq_size s g _ _ x h
    · cases st with
      | none => cases h
      | some b => simp at h; subst h; exact hx _ _
theorem fields_val {s : ByteArray} (hs : s.size ≤ 140737488351232) : ((fields s).map mkS).map (·.1) = fields s := by
  rw [List.map_map]
  conv => rhs; rw [← List.map_id (fields s)]
  apply List.map_congr_left
  intro x hx
  exact mkS_val (Nat.le_trans (fsq_size s _ _ _ x hx) hs)
theorem new_c (m : ByteArray) (w : World) : Calls Tryz.prog 79 #[.string m] w fun e w' => (∃ p, e = .returned (.iface 177 p)) ∧ Below w.heap.size w w' := by
  go_enter Tryz.func79, Tryz.ntmps79
  go_wp2
  go_ret
  exact ⟨⟨_, rfl⟩, by repeat (first | exact Below.refl _ _ | apply below_alloc)⟩
/-- What holds between two rounds: block s + 2 has the entry that has been read so far. -/
structure ParI (s B0 : Nat) (w W : World) (e : Ent) : Prop where
  out : W.heap[s + 1 + 1]? = some (.cells (cells e) 94 (0, 0))
  res : W.heap[s]? = some (.cells (cells zeroE) 94 (0, 0))
  err : W.heap[s + 1]? = some (.cells #[.nilIface] 104 (0, 0))
  below : Below s w W
  sz : B0 ≤ W.heap.size
theorem ParI.set {s B0 : Nat} {w W : World} {e e' : Ent} (h : ParI s B0 w W e) (j : Nat) (v : Value) (hv : (cells e).setIfInBounds j v = cells e') : ParI s B0 w (W.setCell ⟨s + 1 + 1, j, none⟩ v) e' :=
  ⟨by rw [blk_set h.out j v, hv], (Below.heap_setCell W ⟨s + 1 + 1, j, none⟩ v _ (by simp; omega)).trans h.res, (Below.heap_setCell W ⟨s + 1 + 1, j, none⟩ v _ (by simp)).trans h.err, h.below.setCell (p := ⟨s + 1 + 1, j, none⟩) (by simp; omega) _, by rw [World.size_setCell]; exact h.sz⟩
theorem ParI.later {s B0 : Nat} {w W W' : World} {e : Ent} (h : ParI s B0 w W e) (hb : Below W.heap.size W W') (hB0 : s + 4 ≤ B0) : ParI s B0 w W' e := by
  have := h.sz
  exact ⟨(hb.block _ (by omega)).trans h.out, (hb.block _ (by omega)).trans h.res, (hb.block _ (by omega)).trans h.err, h.below.trans (hb.mono (by omega)), Nat.le_trans h.sz hb.size⟩
theorem ParI.rd {s B0 : Nat} {w W : World} {e : Ent} (h : ParI s B0 w W e) :
    W.cell? ⟨s + 1 + 1, 0, none⟩ = some (.int .i32 e.c) ∧ W.cell? ⟨s + 1 + 1, 1, none⟩ = some (.int .i32 e.b) ∧ W.cell? ⟨s + 1 + 1, 2, none⟩ = some (.int .i32 e.o) ∧ W.cell? ⟨s + 1 + 1, 3, none⟩ = some (.int .u8 e.bo) ∧ W.cell? ⟨s + 1 + 1, 4, none⟩ = some (.int .u8 e.it) ∧ W.cell? ⟨s + 1 + 1, 5, none⟩ = some (.int .u8 e.un) ∧ W.cell? ⟨s + 1 + 1, 6, none⟩ = some (.bool e.ni) ∧
    W.frozen? ⟨s + 1 + 1, 0, none⟩ = false ∧ W.frozen? ⟨s + 1 + 1, 1, none⟩ = false ∧ W.frozen? ⟨s + 1 + 1, 2, none⟩ = false ∧ W.frozen? ⟨s + 1 + 1, 3, none⟩ = false ∧ W.frozen? ⟨s + 1 + 1, 4, none⟩ = false ∧ W.frozen? ⟨s + 1 + 1, 5, none⟩ = false ∧ W.frozen? ⟨s + 1 + 1, 6, none⟩ = false :=
  ⟨(blk_cell h.out 0).trans rfl, (blk_cell h.out 1).trans rfl, (blk_cell h.out 2).trans rfl, (blk_cell h.out 3).trans rfl, (blk_cell h.out 4).trans rfl, (blk_cell h.out 5).trans rfl, (blk_cell h.out 6).trans rfl,
    blk_frozen h.out 0, blk_frozen h.out 1, blk_frozen h.out 2, blk_frozen h.out 3, blk_frozen h.out 4, blk_frozen h.out 5, blk_frozen h.out 6⟩
theorem ParI.rdres {s B0 : Nat} {w W : World} {e : Ent} (h : ParI s B0 w W e) :
    W.cell? ⟨s, 0, none⟩ = some (.int .i32 0) ∧ W.cell? ⟨s, 1, none⟩ = some (.int .i32 0) ∧ W.cell? ⟨s, 2, none⟩ = some (.int .i32 0) ∧ W.cell? ⟨s, 3, none⟩ = some (.int .u8 0) ∧ W.cell? ⟨s, 4, none⟩ = some (.int .u8 0) ∧ W.cell? ⟨s, 5, none⟩ = some (.int .u8 0) ∧ W.cell? ⟨s, 6, none⟩ = some (.bool false) ∧
    W.frozen? ⟨s, 0, none⟩ = false ∧ W.frozen? ⟨s, 1, none⟩ = false ∧ W.frozen? ⟨s, 2, none⟩ = false ∧ W.frozen? ⟨s, 3, none⟩ = false ∧ W.frozen? ⟨s, 4, none⟩ = false ∧ W.frozen? ⟨s, 5, none⟩ = false ∧ W.frozen? ⟨s, 6, none⟩ = false ∧ W.cell? ⟨s + 1, 0, none⟩ = some .nilIface ∧ W.frozen? ⟨s + 1, 0, none⟩ = false :=
  ⟨(blk_cell h.res 0).trans rfl, (blk_cell h.res 1).trans rfl, (blk_cell h.res 2).trans rfl, (blk_cell h.res 3).trans rfl, (blk_cell h.res 4).trans rfl, (blk_cell h.res 5).trans rfl, (blk_cell h.res 6).trans rfl,
    blk_frozen h.res 0, blk_frozen h.res 1, blk_frozen h.res 2, blk_frozen h.res 3, blk_frozen h.res 4, blk_frozen h.res 5, blk_frozen h.res 6, (blk_cell h.err 0).trans rfl, blk_frozen h.err 0⟩
/-- What holds where the text has been refused. -/
structure ParX (s : Nat) (w W : World) : Prop where
  res : W.heap[s]? = some (.cells (cells zeroE) 94 (0, 0))
  err : ∃ p, W.heap[s + 1]? = some (.cells #[.iface 177 p] 104 (0, 0))
  below : Below s w W
theorem setAll_other {b k : Nat} (hk : k ≠ b) : ∀ (vs : List Value) (W : World) (j : Nat), (setAll b W j vs).heap[k]? = W.heap[k]?
  | [], W, j => rfl
  | v :: vs, W, j => (setAll_other hk vs _ (j + 1)).trans (Below.heap_setCell W ⟨b, j, none⟩ v k hk)
theorem par_fail {s B0 : Nat} {w W : World} {e : Ent} (h : ParI s B0 w W e) (p : Value) :
    ParX s w ((setAll s W 0 [.int .i32 0, .int .i32 0, .int .i32 0, .int .u8 0, .int .u8 0, .int .u8 0, .bool false]).setCell ⟨s + 1, 0, none⟩ (.iface 177 p)) ∧
    KeepsFrom B0 W ((setAll s W 0 [.int .i32 0, .int .i32 0, .int .i32 0, .int .u8 0, .int .u8 0, .int .u8 0, .bool false]).setCell ⟨s + 1, 0, none⟩ (.iface 177 p)) := by
  refine ⟨⟨?_, ⟨p, ?_⟩, ?_⟩, ?_⟩
  · refine (Below.heap_setCell _ ⟨s + 1, 0, none⟩ _ s (by simp)).trans ?_
    rw [setAll_blk _ _ 0 _ h.res]
    simp [cells, zeroE, putAll]
  · have h1 := setAll_other (b := s) (k := s + 1) (by omega) [.int .i32 0, .int .i32 0, .int .i32 0, .int .u8 0, .int .u8 0, .int .u8 0, .bool false] W 0
    rw [blk_set (h1.trans h.err) 0]
    rfl
  · exact (h.below.trans (setAll_below (Nat.le_refl _) _ _ _)).setCell (p := ⟨s + 1, 0, none⟩) (by simp) _
  · exact (setAll_keeps _ _ _).trans ((KeepsOthers.setCell _ _ _).from _)
theorem ParI.grown {s B0 : Nat} {w W W' : World} {e : Ent} {row : Option Nat} (h : ParI s B0 w W e) (hB0 : s + 4 ≤ B0) (hg : W.grownBy W' row) (hr : ∀ k, row = some k → B0 ≤ k) : ParI s B0 w W' e := by
  have := h.sz
  exact ⟨(hg.block _ (blk_lt h.out) (fun q => by have := hr _ q.symm; omega)).trans h.out, (hg.block _ (blk_lt h.res) (fun q => by have := hr _ q.symm; omega)).trans h.res, (hg.block _ (blk_lt h.err) (fun q => by have := hr _ q.symm; omega)).trans h.err,
    h.below.grown hg (by omega) (fun k q => by have := hr k q; omega), Nat.le_trans h.sz hg.size⟩
theorem ParX.grown {s B0 : Nat} {w W W' : World} {row : Option Nat} (h : ParX s w W) (hB0 : s + 4 ≤ B0) (hg : W.grownBy W' row) (hr : ∀ k, row = some k → B0 ≤ k) : ParX s w W' := by
  obtain ⟨h1, ⟨p, h2⟩, h3⟩ := h
  have := blk_lt h1
  exact ⟨(hg.block _ (blk_lt h1) (fun q => by have := hr _ q.symm; omega)).trans h1, ⟨p, (hg.block _ (blk_lt h2) (fun q => by have := hr _ q.symm; omega)).trans h2⟩, h3.grown hg (by omega) (fun k q => by have := hr k q; omega)⟩
theorem ne_lit {p : ByteArray} {l : Array UInt8} (h : ¬ p = ⟨l⟩) : (p.toList == l.toList) = false := by
  rw [ByteArray.toList_eq]
  exact beq_eq_false_iff_ne.2 (fun q => h (bytes_eq q))
theorem hp_len {l m : List UInt8} (h : Lib.hasPrefix l m = true) : m.length ≤ l.length := by
  induction m generalizing l with
  | nil => simp
  | cons c m ih =>
    cases l with
    | nil => simp [Lib.hasPrefix] at h
    | cons d l =>
      have h2 : (c == d && m.isPrefixOf l) = true := h
      simp only [Bool.and_eq_true] at h2
      simp only [List.length_cons]
      have := ih h2.2
      omega
theorem kp_out (s j : Nat) (W : World) (v : Value) : KpB s (s + 1 + 1 + 1) W (W.setCell ⟨s + 1 + 1, j, none⟩ v) :=
  ⟨(Below.refl _ W).setCell (p := ⟨s + 1 + 1, j, none⟩) (by simp; omega) _, Below.heap_setCell W ⟨s + 1 + 1, j, none⟩ v _ (by simp)⟩
theorem kp_later {s : Nat} {w W W1 W2 : World} {e : Ent} (h : ParI s (s + 4) w W e) (hb : Below W.heap.size W W1) (hk : KpB s (s + 1 + 1 + 1) W1 W2) : KpB s (s + 1 + 1 + 1) W W2 := by
  have := h.sz
  exact ⟨(hb.mono (by omega)).trans hk.1, hk.2.trans (hb.block _ (by omega))⟩
theorem weak {B B' : Nat} {W W' : World} (h : KeepsFrom B W W') (hb : B ≤ B') : KeepsFrom B' W W' := ⟨h.size, fun k o hB hk ho => h.same k o (by omega) hk ho⟩
theorem par_ok {s B0 : Nat} {w W : World} {e : Ent} (h : ParI s B0 w W e) :
    ((setAll s W 0 [.int .i32 e.c, .int .i32 e.b, .int .i32 e.o, .int .u8 e.bo, .int .u8 e.it, .int .u8 e.un, .bool e.ni]).setCell ⟨s + 1, 0, none⟩ .nilIface).heap[s]? = some (.cells (cells e) 94 (0, 0)) ∧
    ((setAll s W 0 [.int .i32 e.c, .int .i32 e.b, .int .i32 e.o, .int .u8 e.bo, .int .u8 e.it, .int .u8 e.un, .bool e.ni]).setCell ⟨s + 1, 0, none⟩ .nilIface).heap[s + 1]? = some (.cells #[.nilIface] 104 (0, 0)) ∧
    KeepsFrom 0 W ((setAll s W 0 [.int .i32 e.c, .int .i32 e.b, .int .i32 e.o, .int .u8 e.bo, .int .u8 e.it, .int .u8 e.un, .bool e.ni]).setCell ⟨s + 1, 0, none⟩ .nilIface) ∧
    Below s w ((setAll s W 0 [.int .i32 e.c, .int .i32 e.b, .int .i32 e.o, .int .u8 e.bo, .int .u8 e.it, .int .u8 e.un, .bool e.ni]).setCell ⟨s + 1, 0, none⟩ .nilIface) := by
  refine ⟨?_, ?_, ?_, ?_⟩
  · refine (Below.heap_setCell _ ⟨s + 1, 0, none⟩ _ s (by simp)).trans ?_
    rw [setAll_blk _ _ 0 _ h.res]
    simp [cells, zeroE, putAll]
  · have h1 := setAll_other (b := s) (k := s + 1) (by omega) [.int .i32 e.c, .int .i32 e.b, .int .i32 e.o, .int .u8 e.bo, .int .u8 e.it, .int .u8 e.un, .bool e.ni] W 0
    rw [blk_set (h1.trans h.err) 0]
    rfl
  · exact (setAll_keeps _ _ _).trans ((KeepsOthers.setCell _ _ _).from _)
  · exact (h.below.trans (setAll_below (Nat.le_refl _) _ _ _)).setCell (p := ⟨s + 1, 0, none⟩) (by simp) _
theorem results_ce {P : Program} {fn : Func} {p p' : Tmp} {ty ty' : TypeId} (h : fn.results = #[.cell p ty, .cell p' ty']) (tmps : Array Value) (w : World) (g : Nat) (t : TypeId) (cs : Array Value) (fr : Nat × Nat) (d : TypeDesc)
    (hp : tmps.getD p undef = .pointer (some ⟨g, 0, none⟩)) (hg : w.heap[g]? = some (.cells cs t fr))
    (hu : P.underlying ty = some d) (hd : (match d with | .struct _ | .array _ _ => true | _ => false) = true) (hi : (P.info? ty).map (·.size) = some cs.size)
    (g' : Nat) (v' : Value) (ms : Array (String × TypeId)) (hp' : tmps.getD p' undef = .pointer (some ⟨g', 0, none⟩)) (hc : w.cell? ⟨g', 0, none⟩ = some v') (hu' : P.underlying ty' = some (.interface ms)) :
    (results fn tmps).run P w = .ok (.tuple #[.agg cs, v']) w := by
  have h1 : tmps[p]?.getD undef = .pointer (some ⟨g, 0, none⟩) := by simpa using hp
  have h2 : tmps[p']?.getD undef = .pointer (some ⟨g', 0, none⟩) := by simpa using hp'
  have hl : (loadVar ty' ⟨g', 0, none⟩).run P w = .ok v' w := by
    have hd' := run_underlying (w := w) hu'
    unfold loadVar isAgg
    simp [go_sem, hd', hc]
  simp [results, h, h1, h2, asAddr, run_loadVar_row w g t ty cs fr d hg hu hd hi, hl]

/-- What the call hands back. -/
def ParsePost (s : ByteArray) (x : Ending) : Prop := match pse s with
  | some e => x = .returned (.tuple #[e.val, .nilIface])
  | none => ∃ p, x = .returned (.tuple #[zeroE.val, .iface 177 p])
/-- The body's own temporaries. -/
def parAct (s : ByteArray) (b : Nat) (x : Str) : Act :=
  { tmps := #[.string s, undef, .pointer (some ⟨b, 0, none⟩), .pointer (some ⟨b + 1, 0, none⟩), .pointer (some ⟨b + 1 + 1, 0, none⟩), .string x.1, .agg #[.int .i32 0, .int .i32 0, .int .i32 0, .int .u8 0, .int .u8 0, .int .u8 0, .bool false], .string s, .func (.func 119) #[] #[.pointer (some ⟨b + 1 + 1 + 1, 0, none⟩)], .string x.1, undef, undef, undef, undef, undef, undef, undef, undef, undef, undef, undef, undef, undef, undef, undef, undef, undef, undef, undef, undef, undef, undef, undef, undef, undef, undef, undef, undef, undef, undef, undef, undef, undef, undef, undef, undef, undef, undef, undef, undef, undef, undef, undef, undef, undef, undef, undef, undef, undef, undef, undef, undef, undef, undef, undef, undef, undef, undef, undef, undef, undef, undef, undef, undef, undef, undef, undef, undef, undef, undef, undef, undef, undef, undef, undef, undef, undef], defers := [] }
set_option maxRecDepth 100000 in
set_option maxHeartbeats 16000000 in
theorem parse_in (n : Nat) (hn : 4 ≤ n) (s : ByteArray) (hs : s.size ≤ 140737488351232) (w : World) (hV : VarsOK w) :
    CallsIn Fence.wide n Tryz.prog 77 #[.string s] w fun x w' => ParsePost s x ∧ Below w.heap.size w w' := by
  have h1 : 1 ≤ n := by omega
  have hro : Fence.wide.round = none := rfl
  have hf : ∀ k, Fence.wide.fn k := fun _ => trivial
  refine callsIn_of_wp_marks Tryz.func77 rfl (hf _) ?_ hro
  simp only [Tryz.ntmps77, List.size_toArray, List.length_cons, List.length_nil, Nat.reduceAdd, Nat.reduceSub, Array.replicate_succ, Array.replicate_zero, List.push_toArray, List.append_toArray, List.nil_append, List.cons_append]
  gi_wp2_with (gi_at_call 94; refine (fields_in (n - 1) _ _).mono ?_; rintro e1 w1 ⟨rfl, rfl⟩)
  have hsk : ∃ W0, ((((w.alloc (.cells #[.int .i32 0, .int .i32 0, .int .i32 0, .int .u8 0, .int .u8 0, .int .u8 0, .bool false] 94)).alloc (.cells #[.nilIface] 104)).alloc (.cells #[.int .i32 0, .int .i32 0, .int .i32 0, .int .u8 0, .int .u8 0, .int .u8 0, .bool false] 94)).alloc (.cells #[.string s] 9)) = W0 ∧ W0.heap.size = w.heap.size + 4 ∧ ParI w.heap.size (w.heap.size + 4) w W0 zeroE ∧ W0.heap[w.heap.size + 1 + 1 + 1]? = some (.cells #[.string s] 9 (0, 0)) := by
    refine ⟨_, rfl, by simp, ⟨?_, ?_, ?_, below_alloc (below_alloc (below_alloc (below_alloc (Below.refl _ _) _) _) _) _, by simp⟩, ?_⟩
    · have := blk_new ((w.alloc (.cells #[.int .i32 0, .int .i32 0, .int .i32 0, .int .u8 0, .int .u8 0, .int .u8 0, .bool false] 94)).alloc (.cells #[.nilIface] 104)) (.cells #[.int .i32 0, .int .i32 0, .int .i32 0, .int .u8 0, .int .u8 0, .int .u8 0, .bool false] 94)
      rw [World.size_alloc, World.size_alloc] at this
      exact blk_alloc this _
    · exact blk_alloc (blk_alloc (blk_alloc (blk_new w _) _) _) _
    · have := blk_new (w.alloc (.cells #[.int .i32 0, .int .i32 0, .int .i32 0, .int .u8 0, .int .u8 0, .int .u8 0, .bool false] 94)) (.cells #[.nilIface] 104)
      rw [World.size_alloc] at this
      exact blk_alloc (blk_alloc this _) _
    · have := blk_new (((w.alloc (.cells #[.int .i32 0, .int .i32 0, .int .i32 0, .int .u8 0, .int .u8 0, .int .u8 0, .bool false] 94)).alloc (.cells #[.nilIface] 104)).alloc (.cells #[.int .i32 0, .int .i32 0, .int .i32 0, .int .u8 0, .int .u8 0, .int .u8 0, .bool false] 94)) (.cells #[.string s] 9)
      rw [World.size_alloc, World.size_alloc, World.size_alloc] at this
      exact this
  obtain ⟨W0, hW0, hs0, hP0, bS⟩ := hsk
  rw [hW0]
  have hfv := fields_val hs
  refine wpIn_rangeFunc_ownH hro h1 (gf := 119) (lb := #[.pointer (some ⟨w.heap.size + 1 + 1 + 1, 0, none⟩)]) rfl (hf _) (enters_of Tryz.func119 (by kernel_rfl) rfl)
    (fields_stops (n - 1) (by omega) (w.heap.size + 1 + 1 + 1) w hV s hs W0 bS hP0.below) ?hKt ?hKb (Below.refl _ _) (fun _ => rfl)
    (fun pre W => ∃ e, psL (pre.map (·.1)) zeroE = some e ∧ ParI w.heap.size (w.heap.size + 4) w W e)
    (fun c pre W => c = .ret ∧ psL (pre.map (·.1)) zeroE = none ∧ ParX w.heap.size w W)
    ?hI ?hIx ⟨zeroE, rfl, hP0⟩
    (fun x a' W => a' = parAct s w.heap.size x) (fun _ _ _ _ _ _ h _ _ => h) ?assign ?body ?done ?stop
  case hKt => exact fun h k => ⟨h.1.trans k.1, k.2.trans h.2⟩
  case hKb =>
    intro W l o o' hl ho _ _
    exact ⟨belowK_b (w := W0) (by omega) W l o o' hl ho (by assumption) (by assumption), (grownBy_putObj' W l o').block _ (by have := (Array.getElem?_eq_some_iff.1 ho).1; omega) (fun e => by injection e; omega)⟩
  case hI =>
    rintro pre A' B' row ⟨e, h2, h3⟩ hg hr
    exact ⟨e, h2, h3.grown (by omega) hg (fun k q => by have := (hr k q).1; omega)⟩
  case hIx =>
    rintro c pre A' B' row ⟨h1, h2, h3⟩ hg hr
    exact ⟨h1, h2, h3.grown (B0 := w.heap.size + 4) (by omega) hg (fun k q => by have := (hr k q).1; omega)⟩
  case assign =>
    intro l pre x W K hI hK
    gi_wp2
    exact hK _ W (KeepsFrom.refl _ _) ⟨Below.refl _ _, rfl⟩ hI rfl
  case body =>
    rintro l pre ⟨p, hpz⟩ a' W hl ⟨r, hr⟩ ⟨e, hps, hP⟩ rfl hlt
    have hps' : psL ((pre ++ [(⟨p, hpz⟩ : Str)]).map (·.1)) zeroE = stepE e p := by
      rw [List.map_append, List.map_cons, List.map_nil, psL_snoc, hps]; rfl
    have hn1 : 1 ≤ n - 1 - 1 := by omega
    have kH : Aside0 (∀ (t : ByteArray) (W : World), CallsIn (Fence.wide.inRound l) (n - 1 - 1 - 1) Tryz.prog 95 #[.string p, .string t] W fun e w' => e = .returned (.bool (Lib.hasPrefix p.data.toList t.data.toList)) ∧ W = w') := ⟨fun t W => CallsIn.inRound l (callsIn_wide.2 ((Tryz.strings_HasPrefix p t W).mono fun _ _ h => ⟨h.1, h.2.symm⟩))⟩
    have kP : Aside0 (∀ (q : ByteArray) (W : World), q.size ≤ 140737488351232 → Below w.heap.size w W → CallsIn (Fence.wide.inRound l) (n - 1 - 1 - 1) Tryz.prog 96 #[.string q] W fun e w' => e = .returned (.int .i32 (pcol q)) ∧ Below W.heap.size W w') := ⟨fun q W hq hB => CallsIn.inRound l (callsIn_wide.2 (parseColour q hq W (hV.below hB)))⟩
    have kS : Aside0 (∀ (c : Int) (W : World), CallsIn (Fence.wide.inRound l) (n - 1 - 1 - 1) Tryz.prog 76 #[.int .i32 c] W fun e w' => e = .returned (.bool (decide (c ≠ 0))) ∧ W = w') := ⟨fun c W => CallsIn.inRound l (callsIn_wide.2 (isSet_c c W))⟩
    have kN : Aside0 (∀ (m : ByteArray) (W : World), CallsIn (Fence.wide.inRound l) (n - 1 - 1 - 1) Tryz.prog 79 #[.string m] W fun e w' => (∃ p, e = .returned (.iface 177 p)) ∧ Below W.heap.size W w') := ⟨fun m W => CallsIn.inRound l (callsIn_wide.2 (new_c m W))⟩
    have hps0 := Aside0.mk hps'
    have hs0' := Aside0.mk hs0
    have hsB : w.heap.size + 4 ≤ W0.heap.size := by omega
    clear hps hps' hs0 hfv hV
    obtain ⟨a0, a1, a2, a3, a4, a5, a6, f0, f1, f2, f3, f4, f5, f6⟩ := hP.rd
    simp only [parAct]
    gi_upto_region 5 with fail
    by_cases q0 : p = ⟨#[105, 116, 97, 108, 105, 99]⟩
    · have b0 : (p.toList == [105, 116, 97, 108, 105, 99]) = true := by rw [q0, ByteArray.toList_eq]; rfl
      have hst : stepE e p = some { e with it := 1 } := by rw [stepE, if_pos q0]
      have hst' := Aside0.mk hst
      have R1 := hP.set 4 (.int .u8 1) (e' := { e with it := 1 }) (by simp [cells])
      clear hst q0
      gi_wp2
      exact ⟨(KeepsOthers.setCell _ _ _).from _, kp_out _ _ _ _, _, hps0.out.trans hst'.out, R1⟩
    have b0 : (p.toList == [105, 116, 97, 108, 105, 99]) = false := ne_lit q0
    have n0 : ¬ p.toList = [105, 116, 97, 108, 105, 99] := beq_eq_false_iff_ne.1 b0
    have Q0 := Aside0.mk q0
    clear q0
    gi_upto_region 7 with fail
    by_cases q1 : p = ⟨#[110, 111, 105, 116, 97, 108, 105, 99]⟩
    · have b1 : (p.toList == [110, 111, 105, 116, 97, 108, 105, 99]) = true := by rw [q1, ByteArray.toList_eq]; rfl
      have hst : stepE e p = some { e with it := 2 } := by rw [stepE, if_neg Q0.out, if_pos q1]
      have hst' := Aside0.mk hst
      have R1 := hP.set 4 (.int .u8 2) (e' := { e with it := 2 }) (by simp [cells])
      clear hst q1
      gi_wp2
      exact ⟨(KeepsOthers.setCell _ _ _).from _, kp_out _ _ _ _, _, hps0.out.trans hst'.out, R1⟩
    have b1 : (p.toList == [110, 111, 105, 116, 97, 108, 105, 99]) = false := ne_lit q1
    have n1 : ¬ p.toList = [110, 111, 105, 116, 97, 108, 105, 99] := beq_eq_false_iff_ne.1 b1
    have Q1 := Aside0.mk q1
    clear q1
    gi_upto_region 9 with fail
    by_cases q2 : p = ⟨#[98, 111, 108, 100]⟩
    · have b2 : (p.toList == [98, 111, 108, 100]) = true := by rw [q2, ByteArray.toList_eq]; rfl
      have hst : stepE e p = some { e with bo := 1 } := by rw [stepE, if_neg Q0.out, if_neg Q1.out, if_pos q2]
      have hst' := Aside0.mk hst
      have R1 := hP.set 3 (.int .u8 1) (e' := { e with bo := 1 }) (by simp [cells])
      clear hst q2
      gi_wp2
      exact ⟨(KeepsOthers.setCell _ _ _).from _, kp_out _ _ _ _, _, hps0.out.trans hst'.out, R1⟩
    have b2 : (p.toList == [98, 111, 108, 100]) = false := ne_lit q2
    have n2 : ¬ p.toList = [98, 111, 108, 100] := beq_eq_false_iff_ne.1 b2
    have Q2 := Aside0.mk q2
    clear q2
    gi_upto_region 11 with fail
    by_cases q3 : p = ⟨#[110, 111, 98, 111, 108, 100]⟩
    · have b3 : (p.toList == [110, 111, 98, 111, 108, 100]) = true := by rw [q3, ByteArray.toList_eq]; rfl
      have hst : stepE e p = some { e with bo := 2 } := by rw [stepE, if_neg Q0.out, if_neg Q1.out, if_neg Q2.out, if_pos q3]
      have hst' := Aside0.mk hst
      have R1 := hP.set 3 (.int .u8 2) (e' := { e with bo := 2 }) (by simp [cells])
      clear hst q3
      gi_wp2
      exact ⟨(KeepsOthers.setCell _ _ _).from _, kp_out _ _ _ _, _, hps0.out.trans hst'.out, R1⟩
    have b3 : (p.toList == [110, 111, 98, 111, 108, 100]) = false := ne_lit q3
    have n3 : ¬ p.toList = [110, 111, 98, 111, 108, 100] := beq_eq_false_iff_ne.1 b3
    have Q3 := Aside0.mk q3
    clear q3
    gi_upto_region 13 with fail
    by_cases q4 : p = ⟨#[117, 110, 100, 101, 114, 108, 105, 110, 101]⟩
    · have b4 : (p.toList == [117, 110, 100, 101, 114, 108, 105, 110, 101]) = true := by rw [q4, ByteArray.toList_eq]; rfl
      have hst : stepE e p = some { e with un := 1 } := by rw [stepE, if_neg Q0.out, if_neg Q1.out, if_neg Q2.out, if_neg Q3.out, if_pos q4]
      have hst' := Aside0.mk hst
      have R1 := hP.set 5 (.int .u8 1) (e' := { e with un := 1 }) (by simp [cells])
      clear hst q4
      gi_wp2
      exact ⟨(KeepsOthers.setCell _ _ _).from _, kp_out _ _ _ _, _, hps0.out.trans hst'.out, R1⟩
    have b4 : (p.toList == [117, 110, 100, 101, 114, 108, 105, 110, 101]) = false := ne_lit q4
    have n4 : ¬ p.toList = [117, 110, 100, 101, 114, 108, 105, 110, 101] := beq_eq_false_iff_ne.1 b4
    have Q4 := Aside0.mk q4
    clear q4
    gi_upto_region 15 with fail
    by_cases q5 : p = ⟨#[110, 111, 117, 110, 100, 101, 114, 108, 105, 110, 101]⟩
    · have b5 : (p.toList == [110, 111, 117, 110, 100, 101, 114, 108, 105, 110, 101]) = true := by rw [q5, ByteArray.toList_eq]; rfl
      have hst : stepE e p = some { e with un := 2 } := by rw [stepE, if_neg Q0.out, if_neg Q1.out, if_neg Q2.out, if_neg Q3.out, if_neg Q4.out, if_pos q5]
      have hst' := Aside0.mk hst
      have R1 := hP.set 5 (.int .u8 2) (e' := { e with un := 2 }) (by simp [cells])
      clear hst q5
      gi_wp2
      exact ⟨(KeepsOthers.setCell _ _ _).from _, kp_out _ _ _ _, _, hps0.out.trans hst'.out, R1⟩
    have b5 : (p.toList == [110, 111, 117, 110, 100, 101, 114, 108, 105, 110, 101]) = false := ne_lit q5
    have n5 : ¬ p.toList = [110, 111, 117, 110, 100, 101, 114, 108, 105, 110, 101] := beq_eq_false_iff_ne.1 b5
    have Q5 := Aside0.mk q5
    clear q5
    gi_upto_region 17 with fail
    by_cases q6 : p = ⟨#[105, 110, 104, 101, 114, 105, 116]⟩
    · have b6 : (p.toList == [105, 110, 104, 101, 114, 105, 116]) = true := by rw [q6, ByteArray.toList_eq]; rfl
      have hst : stepE e p = some { e with ni := false } := by rw [stepE, if_neg Q0.out, if_neg Q1.out, if_neg Q2.out, if_neg Q3.out, if_neg Q4.out, if_neg Q5.out, if_pos q6]
      have hst' := Aside0.mk hst
      have R1 := hP.set 6 (.bool false) (e' := { e with ni := false }) (by simp [cells])
      clear hst q6
      gi_wp2
      exact ⟨(KeepsOthers.setCell _ _ _).from _, kp_out _ _ _ _, _, hps0.out.trans hst'.out, R1⟩
    have b6 : (p.toList == [105, 110, 104, 101, 114, 105, 116]) = false := ne_lit q6
    have n6 : ¬ p.toList = [105, 110, 104, 101, 114, 105, 116] := beq_eq_false_iff_ne.1 b6
    have Q6 := Aside0.mk q6
    clear q6
    gi_upto_region 19 with fail
    by_cases q7 : p = ⟨#[110, 111, 105, 110, 104, 101, 114, 105, 116]⟩
    · have b7 : (p.toList == [110, 111, 105, 110, 104, 101, 114, 105, 116]) = true := by rw [q7, ByteArray.toList_eq]; rfl
      have hst : stepE e p = some { e with ni := true } := by rw [stepE, if_neg Q0.out, if_neg Q1.out, if_neg Q2.out, if_neg Q3.out, if_neg Q4.out, if_neg Q5.out, if_neg Q6.out, if_pos q7]
      have hst' := Aside0.mk hst
      have R1 := hP.set 6 (.bool true) (e' := { e with ni := true }) (by simp [cells])
      clear hst q7
      gi_wp2
      exact ⟨(KeepsOthers.setCell _ _ _).from _, kp_out _ _ _ _, _, hps0.out.trans hst'.out, R1⟩
    have b7 : (p.toList == [110, 111, 105, 110, 104, 101, 114, 105, 116]) = false := ne_lit q7
    have n7 : ¬ p.toList = [110, 111, 105, 110, 104, 101, 114, 105, 116] := beq_eq_false_iff_ne.1 b7
    have Q7 := Aside0.mk q7
    clear q7
    gi_upto_region 21 with fail
    by_cases q8 : p = ⟨#[98, 103, 58]⟩
    · have b8 : (p.toList == [98, 103, 58]) = true := by rw [q8, ByteArray.toList_eq]; rfl
      have hst : stepE e p = some { e with b := 0 } := by rw [stepE, if_neg Q0.out, if_neg Q1.out, if_neg Q2.out, if_neg Q3.out, if_neg Q4.out, if_neg Q5.out, if_neg Q6.out, if_neg Q7.out, if_pos q8]
      have hst' := Aside0.mk hst
      have R1 := hP.set 1 (.int .i32 0) (e' := { e with b := 0 }) (by simp [cells])
      clear hst q8
      gi_wp2
      exact ⟨(KeepsOthers.setCell _ _ _).from _, kp_out _ _ _ _, _, hps0.out.trans hst'.out, R1⟩
    have b8 : (p.toList == [98, 103, 58]) = false := ne_lit q8
    have n8 : ¬ p.toList = [98, 103, 58] := beq_eq_false_iff_ne.1 b8
    have Q8 := Aside0.mk q8
    clear q8
    gi_upto_region 23 with (gi_at_call 95; refine (kH.out _ _).mono ?_; rintro e1 w1 ⟨rfl, rfl⟩)
    by_cases h0 : Lib.hasPrefix p.data.toList [98, 103, 58, 35] = true
    · have hlen := hp_len h0
      have hsz : 4 ≤ p.size := by rw [← data_length]; simpa using hlen
      have hz : (p.extract 3 p.size).size ≤ 140737488351232 := by rw [ByteArray.size_extract]; omega
      have hst : stepE e p = (if pcol (p.extract 3 p.size) = 0 then none else some { e with b := pcol (p.extract 3 p.size) }) := by rw [stepE, if_neg Q0.out, if_neg Q1.out, if_neg Q2.out, if_neg Q3.out, if_neg Q4.out, if_neg Q5.out, if_neg Q6.out, if_neg Q7.out, if_neg Q8.out, if_pos h0]
      have hst' := Aside0.mk hst
      have hz' := Aside0.mk hz
      have kP' := Aside0.mk (kP.out (p.extract 3 p.size) W hz hP.below)
      clear hst hz hlen
      generalize pcol (p.extract 3 p.size) = cv at *
      gi_upto_region 25 with (first | (gi_at_call 95; refine (kH.out _ _).mono ?_; rintro e1 w1 ⟨rfl, rfl⟩) | (gi_at_call 96; refine kP'.out.mono ?_; rintro e1 w1 ⟨rfl, hb1⟩; obtain ⟨a0, a1, a2, a3, a4, a5, a6, f0, f1, f2, f3, f4, f5, f6⟩ := (hP.later hb1 (Nat.le_refl _)).rd) | (gi_at_call 76; refine (kS.out _ _).mono ?_; rintro e2 w2 ⟨rfl, rfl⟩))
      have R1 := (hP.later hb1 (Nat.le_refl _)).set 1 (.int .i32 cv) (e' := { e with b := cv }) (by simp [cells])
      have K1 : KeepsFrom W0.heap.size W (w1.setCell ⟨w.heap.size + 1 + 1, 1, none⟩ (.int .i32 cv)) := (KeepsFrom.of_grownBy (grown_of_below hb1 none) (fun k q => by cases q)).trans ((KeepsOthers.setCell _ _ _).from _)
      by_cases hc : cv = 0
      · have hst2 : stepE e p = none := by rw [hst'.out, if_pos hc]
        have hst2' := Aside0.mk hst2
        clear hst2 hst'
        have hw' : ∃ W2, w1.setCell ⟨w.heap.size + 1 + 1, 1, none⟩ (.int .i32 cv) = W2 := ⟨_, rfl⟩
        obtain ⟨W2, hW2⟩ := hw'
        rw [hW2] at R1 K1 ⊢
        obtain ⟨a0, a1, a2, a3, a4, a5, a6, f0, f1, f2, f3, f4, f5, f6⟩ := R1.rd
        gi_wp2_with (first | (gi_at_call 76; refine (kS.out _ _).mono ?_; rintro e2 w2 ⟨rfl, rfl⟩) | (gi_at_call 79; refine (kN.out _ _).mono ?_; rintro e3 w3 ⟨⟨pe, rfl⟩, hb3⟩; obtain ⟨c0, c1, c2, c3, c4, c5, c6, g0, g1, g2, g3, g4, g5, g6, c7, g7⟩ := (R1.later hb3 (Nat.le_refl _)).rdres))
        obtain ⟨hX, hX2⟩ := par_fail (R1.later hb3 (Nat.le_refl _)) pe
        exact ⟨(K1.trans (KeepsFrom.of_grownBy (grown_of_below hb3 none) (fun k q => by cases q))).trans (weak hX2 hsB), rfl, hps0.out.trans hst2'.out, hX⟩
      · have hst2 : stepE e p = some { e with b := cv } := by rw [hst'.out, if_neg hc]
        have hst2' := Aside0.mk hst2
        clear hst2 hst'
        gi_wp2_with (gi_at_call 76; refine (kS.out _ _).mono ?_; rintro e2 w2 ⟨rfl, rfl⟩)
        exact ⟨K1, kp_later hP hb1 (kp_out _ _ _ _), _, hps0.out.trans hst2'.out, R1⟩
    have B0 : Lib.hasPrefix p.data.toList [98, 103, 58, 35] = false := by simpa using h0
    have H0 := Aside0.mk h0
    clear h0
    gi_upto_region 27 with (gi_at_call 95; refine (kH.out _ _).mono ?_; rintro e1 w1 ⟨rfl, rfl⟩)
    by_cases h1 : Lib.hasPrefix p.data.toList [98, 111, 114, 100, 101, 114, 58, 35] = true
    · have hlen := hp_len h1
      have hsz : 8 ≤ p.size := by rw [← data_length]; simpa using hlen
      have hz : (p.extract 7 p.size).size ≤ 140737488351232 := by rw [ByteArray.size_extract]; omega
      have hst : stepE e p = (if pcol (p.extract 7 p.size) = 0 then none else some { e with o := pcol (p.extract 7 p.size) }) := by rw [stepE, if_neg Q0.out, if_neg Q1.out, if_neg Q2.out, if_neg Q3.out, if_neg Q4.out, if_neg Q5.out, if_neg Q6.out, if_neg Q7.out, if_neg Q8.out, if_neg H0.out, if_pos h1]
      have hst' := Aside0.mk hst
      have hz' := Aside0.mk hz
      have kP' := Aside0.mk (kP.out (p.extract 7 p.size) W hz hP.below)
      clear hst hz hlen
      generalize pcol (p.extract 7 p.size) = cv at *
      gi_upto_region 29 with (first | (gi_at_call 95; refine (kH.out _ _).mono ?_; rintro e1 w1 ⟨rfl, rfl⟩) | (gi_at_call 96; refine kP'.out.mono ?_; rintro e1 w1 ⟨rfl, hb1⟩; obtain ⟨a0, a1, a2, a3, a4, a5, a6, f0, f1, f2, f3, f4, f5, f6⟩ := (hP.later hb1 (Nat.le_refl _)).rd) | (gi_at_call 76; refine (kS.out _ _).mono ?_; rintro e2 w2 ⟨rfl, rfl⟩))
      have R1 := (hP.later hb1 (Nat.le_refl _)).set 2 (.int .i32 cv) (e' := { e with o := cv }) (by simp [cells])
      have K1 : KeepsFrom W0.heap.size W (w1.setCell ⟨w.heap.size + 1 + 1, 2, none⟩ (.int .i32 cv)) := (KeepsFrom.of_grownBy (grown_of_below hb1 none) (fun k q => by cases q)).trans ((KeepsOthers.setCell _ _ _).from _)
      by_cases hc : cv = 0
      · have hst2 : stepE e p = none := by rw [hst'.out, if_pos hc]
        have hst2' := Aside0.mk hst2
        clear hst2 hst'
        have hw' : ∃ W2, w1.setCell ⟨w.heap.size + 1 + 1, 2, none⟩ (.int .i32 cv) = W2 := ⟨_, rfl⟩
        obtain ⟨W2, hW2⟩ := hw'
        rw [hW2] at R1 K1 ⊢
        obtain ⟨a0, a1, a2, a3, a4, a5, a6, f0, f1, f2, f3, f4, f5, f6⟩ := R1.rd
        gi_wp2_with (first | (gi_at_call 76; refine (kS.out _ _).mono ?_; rintro e2 w2 ⟨rfl, rfl⟩) | (gi_at_call 79; refine (kN.out _ _).mono ?_; rintro e3 w3 ⟨⟨pe, rfl⟩, hb3⟩; obtain ⟨c0, c1, c2, c3, c4, c5, c6, g0, g1, g2, g3, g4, g5, g6, c7, g7⟩ := (R1.later hb3 (Nat.le_refl _)).rdres))
        obtain ⟨hX, hX2⟩ := par_fail (R1.later hb3 (Nat.le_refl _)) pe
        exact ⟨(K1.trans (KeepsFrom.of_grownBy (grown_of_below hb3 none) (fun k q => by cases q))).trans (weak hX2 hsB), rfl, hps0.out.trans hst2'.out, hX⟩
      · have hst2 : stepE e p = some { e with o := cv } := by rw [hst'.out, if_neg hc]
        have hst2' := Aside0.mk hst2
        clear hst2 hst'
        gi_wp2_with (gi_at_call 76; refine (kS.out _ _).mono ?_; rintro e2 w2 ⟨rfl, rfl⟩)
        exact ⟨K1, kp_later hP hb1 (kp_out _ _ _ _), _, hps0.out.trans hst2'.out, R1⟩
    have B1 : Lib.hasPrefix p.data.toList [98, 111, 114, 100, 101, 114, 58, 35] = false := by simpa using h1
    have H1 := Aside0.mk h1
    clear h1
    gi_upto_region 31 with (gi_at_call 95; refine (kH.out _ _).mono ?_; rintro e1 w1 ⟨rfl, rfl⟩)
    by_cases h2 : Lib.hasPrefix p.data.toList [35] = true
    · have hlen := hp_len h2
      have hsz : 1 ≤ p.size := by rw [← data_length]; simpa using hlen
      have hz : p.size ≤ 140737488351232 := by omega
      have hst : stepE e p = (if pcol p = 0 then none else some { e with c := pcol p }) := by rw [stepE, if_neg Q0.out, if_neg Q1.out, if_neg Q2.out, if_neg Q3.out, if_neg Q4.out, if_neg Q5.out, if_neg Q6.out, if_neg Q7.out, if_neg Q8.out, if_neg H0.out, if_neg H1.out, if_pos h2]
      have hst' := Aside0.mk hst
      have hz' := Aside0.mk hz
      have kP' := Aside0.mk (kP.out p W hz hP.below)
      clear hst hz hlen
      generalize pcol p = cv at *
      gi_upto_region 33 with (first | (gi_at_call 95; refine (kH.out _ _).mono ?_; rintro e1 w1 ⟨rfl, rfl⟩) | (gi_at_call 96; refine kP'.out.mono ?_; rintro e1 w1 ⟨rfl, hb1⟩; obtain ⟨a0, a1, a2, a3, a4, a5, a6, f0, f1, f2, f3, f4, f5, f6⟩ := (hP.later hb1 (Nat.le_refl _)).rd) | (gi_at_call 76; refine (kS.out _ _).mono ?_; rintro e2 w2 ⟨rfl, rfl⟩))
      have R1 := (hP.later hb1 (Nat.le_refl _)).set 0 (.int .i32 cv) (e' := { e with c := cv }) (by simp [cells])
      have K1 : KeepsFrom W0.heap.size W (w1.setCell ⟨w.heap.size + 1 + 1, 0, none⟩ (.int .i32 cv)) := (KeepsFrom.of_grownBy (grown_of_below hb1 none) (fun k q => by cases q)).trans ((KeepsOthers.setCell _ _ _).from _)
      by_cases hc : cv = 0
      · have hst2 : stepE e p = none := by rw [hst'.out, if_pos hc]
        have hst2' := Aside0.mk hst2
        clear hst2 hst'
        have hw' : ∃ W2, w1.setCell ⟨w.heap.size + 1 + 1, 0, none⟩ (.int .i32 cv) = W2 := ⟨_, rfl⟩
        obtain ⟨W2, hW2⟩ := hw'
        rw [hW2] at R1 K1 ⊢
        obtain ⟨a0, a1, a2, a3, a4, a5, a6, f0, f1, f2, f3, f4, f5, f6⟩ := R1.rd
        gi_wp2_with (first | (gi_at_call 76; refine (kS.out _ _).mono ?_; rintro e2 w2 ⟨rfl, rfl⟩) | (gi_at_call 79; refine (kN.out _ _).mono ?_; rintro e3 w3 ⟨⟨pe, rfl⟩, hb3⟩; obtain ⟨c0, c1, c2, c3, c4, c5, c6, g0, g1, g2, g3, g4, g5, g6, c7, g7⟩ := (R1.later hb3 (Nat.le_refl _)).rdres))
        obtain ⟨hX, hX2⟩ := par_fail (R1.later hb3 (Nat.le_refl _)) pe
        exact ⟨(K1.trans (KeepsFrom.of_grownBy (grown_of_below hb3 none) (fun k q => by cases q))).trans (weak hX2 hsB), rfl, hps0.out.trans hst2'.out, hX⟩
      · have hst2 : stepE e p = some { e with c := cv } := by rw [hst'.out, if_neg hc]
        have hst2' := Aside0.mk hst2
        clear hst2 hst'
        gi_wp2_with (gi_at_call 76; refine (kS.out _ _).mono ?_; rintro e2 w2 ⟨rfl, rfl⟩)
        exact ⟨K1, kp_later hP hb1 (kp_out _ _ _ _), _, hps0.out.trans hst2'.out, R1⟩
    have B2 : Lib.hasPrefix p.data.toList [35] = false := by simpa using h2
    have H2 := Aside0.mk h2
    clear h2
    have hst : stepE e p = none := by rw [stepE, if_neg Q0.out, if_neg Q1.out, if_neg Q2.out, if_neg Q3.out, if_neg Q4.out, if_neg Q5.out, if_neg Q6.out, if_neg Q7.out, if_neg Q8.out, if_neg H0.out, if_neg H1.out, if_neg H2.out]
    have hst' := Aside0.mk hst
    clear hst
    gi_wp2_with (first | (gi_at_call 95; refine (kH.out _ _).mono ?_; rintro e1 w1 ⟨rfl, rfl⟩) | (gi_at_call 79; refine (kN.out _ _).mono ?_; rintro e3 w3 ⟨⟨pe, rfl⟩, hb3⟩; obtain ⟨c0, c1, c2, c3, c4, c5, c6, g0, g1, g2, g3, g4, g5, g6, c7, g7⟩ := (hP.later hb3 (Nat.le_refl _)).rdres))
    obtain ⟨hX, hX2⟩ := par_fail (hP.later hb3 (Nat.le_refl _)) pe
    exact ⟨(KeepsFrom.of_grownBy (grown_of_below hb3 none) (fun k q => by cases q)).trans (weak hX2 hsB), rfl, hps0.out.trans hst'.out, hX⟩
  case done =>
    rintro D ys W hD rfl ⟨e, hps, hP⟩ hK
    rw [hfv] at hps
    have hpse : pse s = some e := hps
    have hpse' := Aside0.mk hpse
    obtain ⟨a0, a1, a2, a3, a4, a5, a6, f0, f1, f2, f3, f4, f5, f6⟩ := hP.rd
    obtain ⟨c0, c1, c2, c3, c4, c5, c6, g0, g1, g2, g3, g4, g5, g6, c7, g7⟩ := hP.rdres
    have hu := Tryz.underlying94
    have hs0' := Aside0.mk hs0
    have hDb : w.heap.size + 4 ≤ D := by omega
    clear hs0 hps hpse hfv
    gi_wp2
    obtain ⟨hs1, hs2, hs3, hs4⟩ := par_ok hP
    rw [set7] at hs1 hs2 hs3 hs4
    have hKf := hs3.same D _ (by omega) hK rfl
    generalize ((((((((W.setCell ⟨w.heap.size, 0, none⟩ (.int .i32 e.c)).setCell ⟨w.heap.size, 1, none⟩ (.int .i32 e.b)).setCell ⟨w.heap.size, 2, none⟩ (.int .i32 e.o)).setCell ⟨w.heap.size, 3, none⟩ (.int .u8 e.bo)).setCell ⟨w.heap.size, 4, none⟩ (.int .u8 e.it)).setCell ⟨w.heap.size, 5, none⟩ (.int .u8 e.un)).setCell ⟨w.heap.size, 6, none⟩ (.bool e.ni)).setCell ⟨w.heap.size + 1, 0, none⟩ .nilIface) = W7 at *
    refine ⟨by simp, .inl ⟨_, _, rfl, run_takeDeferred hKf, ?_⟩⟩
    have hR8 := ((grownBy_putObj' W7 D (.deferred none)).block _ (blk_lt hs1) (fun q => by injection q with q; omega)).trans hs1
    have hR9 := ((grownBy_putObj' W7 D (.deferred none)).block _ (blk_lt hs2) (fun q => by injection q with q; omega)).trans hs2
    exact ⟨_, results_ce rfl _ _ w.heap.size 94 (cells e) (0, 0) _ rfl hR8 Tryz.underlying94 rfl (by kernel_rfl) (w.heap.size + 1) .nilIface _ rfl ((blk_cell hR9 0).trans rfl) Tryz.underlying104, by unfold ParsePost; rw [hpse'.out]; rfl, hs4.trans (belowK_b (w := w) (Nat.le_refl _) W7 D _ _ (by omega) hKf rfl rfl)⟩
  case stop =>
    rintro D c pre W hD ⟨r, hr⟩ ⟨rfl, hps, ⟨hs1, ⟨pe, hs2⟩, hs4⟩⟩ hK
    have hpse : pse s = none := by
      unfold pse
      rw [← hfv, hr, List.map_append, psL_append, hps]; rfl
    have hpse' := Aside0.mk hpse
    clear hpse hps hr
    gi_wp2
    refine ⟨by simp, .inl ⟨_, _, rfl, run_takeDeferred hK, ?_⟩⟩
    have hR8 := ((grownBy_putObj' W D (.deferred none)).block _ (blk_lt hs1) (fun q => by injection q with q; omega)).trans hs1
    have hR9 := ((grownBy_putObj' W D (.deferred none)).block _ (blk_lt hs2) (fun q => by injection q with q; omega)).trans hs2
    exact ⟨_, results_ce rfl _ _ w.heap.size 94 (cells zeroE) (0, 0) _ rfl hR8 Tryz.underlying94 rfl (by kernel_rfl) (w.heap.size + 1) _ _ rfl ((blk_cell hR9 0).trans rfl) Tryz.underlying104, by unfold ParsePost; rw [hpse'.out]; exact ⟨pe, rfl⟩, hs4.trans (belowK_b (w := w) (Nat.le_refl _) W D _ _ (by omega) hK rfl rfl)⟩

theorem parse_c (s : ByteArray) (hs : s.size ≤ 140737488351232) (w : World) (hV : VarsOK w) :
    Calls Tryz.prog 77 #[.string s] w fun x w' => ParsePost s x ∧ Below w.heap.size w w' :=
  callsIn_wide.1 (parse_in 4 (by omega) s hs w hV)
end Go.Proofs.YtjemdgmihbmgeaaGreatDoorEnt