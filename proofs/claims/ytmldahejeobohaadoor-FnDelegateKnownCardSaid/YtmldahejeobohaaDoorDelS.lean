/- Token.Clone, splitToken, the closures of a delegating lexer's Tokenise. -/
import Derived.Test.YtmldahejeobohaaDoorDelG
import Derived.RegionTactic
import Derived.ChangeAlike
set_option linter.unusedVariables false
set_option linter.unusedSimpArgs false
namespace Go.Proofs.YtmldahejeobohaaDoorTake
open Go.RowKit Go.Proofs.YtmldahejeobohaaDoorW.PrintWords Go.Proofs.YtmldahejeobohaaDoor.A Go.Proofs.YtmldahejeobohaaDoorFmt
set_option maxHeartbeats 4000000 in
theorem clone_c (b : Nat) (t : C) (w : World) (h : w.heap[b]? = some (.cells #[.int .i64 t.f0, .string t.f1] 65 (0, 0))) :
    Calls Tryd.prog 37 #[.pointer (some ⟨b, 0, none⟩)] w fun e w' => e = .returned (.agg #[.int .i64 t.f0, .string t.f1]) ∧ Below w.heap.size w w' := by
  have hu := Tryd.underlying65
  have b0 : w.cell? ⟨b, 0, none⟩ = some (.int .i64 t.f0) := (blk_cell h 0).trans rfl
  have b1 : w.cell? ⟨b, 1, none⟩ = some (.string t.f1) := (blk_cell h 1).trans rfl
  have lb := blk_lt h
  have hB := Aside0.mk ((Below.refl w.heap.size w).alloc (Nat.le_refl _) (.cells #[.int .i64 t.f0, .string t.f1] 65))
  clear h
  go_enter Tryd.func37, Tryd.ntmps37
  go_wp2
  exact bodyPost_ret (results_cell_row rfl _ _ w.heap.size 65 #[.int .i64 t.f0, .string t.f1] (0, 0) _ rfl (blk_new _ _) Tryd.underlying65 rfl (by kernel_rfl)) rfl ⟨rfl, hB.out⟩
/-- Where splitToken parts a token. -/
def splL (t : C) (n : Nat) : C := if isE t = true then eof else if n = 0 then eof else ⟨t.f0, lef t.f1 n⟩
def splR (t : C) (n : Nat) : C := if isE t = true then eof else if n = 0 then t else ⟨t.f0, rig t.f1 n⟩
/-- The three blocks of splitToken. -/
structure Spl (w W : World) (t l r : C) : Prop where
  b0 : W.heap[w.heap.size]? = some (.cells #[.int .i64 t.f0, .string t.f1] 65 (0, 0))
  b1 : W.heap[w.heap.size + 1]? = some (.cells #[.int .i64 l.f0, .string l.f1] 65 (0, 0))
  b2 : W.heap[w.heap.size + 2]? = some (.cells #[.int .i64 r.f0, .string r.f1] 65 (0, 0))
  hB : Below w.heap.size w W
theorem Spl.start (w : World) (t : C) : Spl w (((w.alloc (.cells #[.int .i64 t.f0, .string t.f1] 65)).alloc (.cells #[.int .i64 0, .string ⟨#[]⟩] 65)).alloc (.cells #[.int .i64 0, .string ⟨#[]⟩] 65)) t eof eof := by
  have h1 := (Below.refl w.heap.size w).alloc (Nat.le_refl _) (.cells #[.int .i64 t.f0, .string t.f1] 65)
  have h2 := h1.alloc h1.size (.cells #[.int .i64 0, .string ⟨#[]⟩] 65)
  refine ⟨blk_alloc (blk_alloc (blk_new w _) _) _, blk_alloc ?_ _, ?_, h2.alloc h2.size _⟩
  · have := blk_new (w.alloc (.cells #[.int .i64 t.f0, .string t.f1] 65)) (.cells #[.int .i64 0, .string ⟨#[]⟩] 65)
    rw [World.size_alloc] at this
    exact this
  · have := blk_new ((w.alloc (.cells #[.int .i64 t.f0, .string t.f1] 65)).alloc (.cells #[.int .i64 0, .string ⟨#[]⟩] 65)) (.cells #[.int .i64 0, .string ⟨#[]⟩] 65)
    rw [World.size_alloc, World.size_alloc] at this
    exact this
theorem Spl.drew {w W : World} {t l r : C} (h : Spl w W t l r) : Spl w W.drew t l r := ⟨h.b0, h.b1, h.b2, h.hB.drew⟩
theorem Spl.setL {w W : World} {t l r : C} (h : Spl w W t l r) (x : C) : Spl w ((W.setCell ⟨w.heap.size + 1, 0, none⟩ (.int .i64 x.f0)).setCell ⟨w.heap.size + 1, 1, none⟩ (.string x.f1)) t x r := by
  have far : ∀ k, k ≠ w.heap.size + 1 → ((W.setCell ⟨w.heap.size + 1, 0, none⟩ (.int .i64 x.f0)).setCell ⟨w.heap.size + 1, 1, none⟩ (.string x.f1)).heap[k]? = W.heap[k]? := fun k hk =>
    (Below.heap_setCell _ ⟨w.heap.size + 1, 1, none⟩ _ k hk).trans (Below.heap_setCell _ ⟨w.heap.size + 1, 0, none⟩ _ k hk)
  exact ⟨(far _ (by omega)).trans h.b0, blk_put (blk_put h.b1 0 _ rfl) 1 _ rfl, (far _ (by omega)).trans h.b2, (h.hB.setCell (p := ⟨w.heap.size + 1, 0, none⟩) (by show w.heap.size ≤ w.heap.size + 1; omega) _).setCell (p := ⟨w.heap.size + 1, 1, none⟩) (by show w.heap.size ≤ w.heap.size + 1; omega) _⟩
theorem Spl.setR {w W : World} {t l r : C} (h : Spl w W t l r) (x : C) : Spl w ((W.setCell ⟨w.heap.size + 2, 0, none⟩ (.int .i64 x.f0)).setCell ⟨w.heap.size + 2, 1, none⟩ (.string x.f1)) t l x := by
  have far : ∀ k, k ≠ w.heap.size + 2 → ((W.setCell ⟨w.heap.size + 2, 0, none⟩ (.int .i64 x.f0)).setCell ⟨w.heap.size + 2, 1, none⟩ (.string x.f1)).heap[k]? = W.heap[k]? := fun k hk =>
    (Below.heap_setCell _ ⟨w.heap.size + 2, 1, none⟩ _ k hk).trans (Below.heap_setCell _ ⟨w.heap.size + 2, 0, none⟩ _ k hk)
  exact ⟨(far _ (by omega)).trans h.b0, (far _ (by omega)).trans h.b1, blk_put (blk_put h.b2 0 _ rfl) 1 _ rfl, (h.hB.setCell (p := ⟨w.heap.size + 2, 0, none⟩) (by show w.heap.size ≤ w.heap.size + 2; omega) _).setCell (p := ⟨w.heap.size + 2, 1, none⟩) (by show w.heap.size ≤ w.heap.size + 2; omega) _⟩
theorem Spl.vars {w W : World} {t l r : C} (h : Spl w W t l r) (hV : VarsOK w) : VarsOK W := vars_kept hV (h.hB.block _ (vars_lt hV))
theorem Spl.fin {w W : World} {t l r : C} (h : Spl w W t l r) {fn : Func} {a : Act} {p q : Tmp} (hr : fn.results = #[.cell p 65, .cell q 65]) (hp : a.tmps.getD p undef = .pointer (some ⟨w.heap.size + 1, 0, none⟩)) (hq : a.tmps.getD q undef = .pointer (some ⟨w.heap.size + 2, 0, none⟩)) :
    (results fn a.tmps).run Tryd.prog W = .ok (.tuple #[tokV l, tokV r]) W :=
  results_cc hr _ _ _ _ _ _ _ _ _ _ _ _ hp h.b1 Tryd.underlying65 rfl (by kernel_rfl) hq h.b2 Tryd.underlying65 rfl (by kernel_rfl)
set_option maxRecDepth 100000 in
set_option maxHeartbeats 8000000 in
theorem split0_c (n : Int) (w : World) (hV : VarsOK w) :
    Calls Tryd.prog 78 #[.agg #[.int .i64 0, .string ⟨#[]⟩], .int .i64 n] w fun e w' => e = .returned (.tuple #[tokV eof, tokV eof]) ∧ Below w.heap.size w w' := by
  have hu := Tryd.underlying65
  have hS : Spl w (((w.alloc (.cells #[.int .i64 0, .string ⟨#[]⟩] 65)).alloc (.cells #[.int .i64 0, .string ⟨#[]⟩] 65)).alloc (.cells #[.int .i64 0, .string ⟨#[]⟩] 65)) eof eof eof := Spl.start w eof
  have hV3 := hS.vars hV
  have v0 := hV3.e0
  have v1 := hV3.e1
  have lv := vars_lt hV
  have HS := Aside0.mk hS
  clear hS hV3 hV
  go_enter Tryd.func78, Tryd.ntmps78
  go_wp2
  generalize (((w.alloc (.cells #[.int .i64 0, .string ⟨#[]⟩] 65)).alloc (.cells #[.int .i64 0, .string ⟨#[]⟩] 65)).alloc (.cells #[.int .i64 0, .string ⟨#[]⟩] 65)) = W at *
  have f0 := blk_frozen HS.out.b1 0
  have f1 := blk_frozen HS.out.b1 1
  have f2 := blk_frozen HS.out.b2 0
  have f3 := blk_frozen HS.out.b2 1
  have l1 := blk_lt HS.out.b1
  have l2 := blk_lt HS.out.b2
  have lw : 0 < W.heap.size := by omega
  have n1 : 0 ≠ w.heap.size + 1 := by omega
  have n2 : 0 ≠ w.heap.size + 2 := by omega
  have n3 : w.heap.size + 1 ≠ w.heap.size + 2 := by omega
  have n4 : w.heap.size + 1 ≠ w.heap.size + 1 + 1 := by omega
  have l3 : w.heap.size + 1 + 1 < W.heap.size := l2
  have f4 : W.frozen? ⟨w.heap.size + 1 + 1, 0, none⟩ = false := f2
  have f5 : W.frozen? ⟨w.heap.size + 1 + 1, 1, none⟩ = false := f3
  have c1 : W.cell? ⟨w.heap.size + 1, 0, none⟩ = some (.int .i64 0) := (blk_cell HS.out.b1 0).trans rfl
  have c2 : W.cell? ⟨w.heap.size + 1, 1, none⟩ = some (.string ⟨#[]⟩) := (blk_cell HS.out.b1 1).trans rfl
  have c3 : W.cell? ⟨w.heap.size + 1 + 1, 0, none⟩ = some (.int .i64 0) := (blk_cell HS.out.b2 0).trans rfl
  have c4 : W.cell? ⟨w.heap.size + 1 + 1, 1, none⟩ = some (.string ⟨#[]⟩) := (blk_cell HS.out.b2 1).trans rfl
  go_region
  go_wp2
  have hF := ((HS.out.setL eof).setR eof).drew
  exact bodyPost_ret (hF.fin rfl rfl rfl) rfl ⟨rfl, hF.hB⟩
theorem Spl.below {w W W' : World} {t l r : C} (h : Spl w W t l r) (hB : Below W.heap.size W W') : Spl w W' t l r :=
  ⟨blk_below h.b0 hB, blk_below h.b1 hB, blk_below h.b2 hB, below_step h.hB hB⟩
theorem Spl.setL1 {w W : World} {t l r : C} (h : Spl w W t l r) (x : ByteArray) : Spl w (W.setCell ⟨w.heap.size + 1, 1, none⟩ (.string x)) t ⟨l.f0, x⟩ r := by
  have far : ∀ k, k ≠ w.heap.size + 1 → (W.setCell ⟨w.heap.size + 1, 1, none⟩ (.string x)).heap[k]? = W.heap[k]? := fun k hk => Below.heap_setCell _ ⟨w.heap.size + 1, 1, none⟩ _ k hk
  exact ⟨(far _ (by omega)).trans h.b0, blk_put h.b1 1 _ rfl, (far _ (by omega)).trans h.b2, h.hB.setCell (p := ⟨w.heap.size + 1, 1, none⟩) (by show w.heap.size ≤ w.heap.size + 1; omega) _⟩
theorem Spl.setR1 {w W : World} {t l r : C} (h : Spl w W t l r) (x : ByteArray) : Spl w (W.setCell ⟨w.heap.size + 2, 1, none⟩ (.string x)) t l ⟨r.f0, x⟩ := by
  have far : ∀ k, k ≠ w.heap.size + 2 → (W.setCell ⟨w.heap.size + 2, 1, none⟩ (.string x)).heap[k]? = W.heap[k]? := fun k hk => Below.heap_setCell _ ⟨w.heap.size + 2, 1, none⟩ _ k hk
  exact ⟨(far _ (by omega)).trans h.b0, (far _ (by omega)).trans h.b1, blk_put h.b2 1 _ rfl, h.hB.setCell (p := ⟨w.heap.size + 2, 1, none⟩) (by show w.heap.size ≤ w.heap.size + 2; omega) _⟩
set_option maxRecDepth 100000 in
set_option maxHeartbeats 8000000 in
theorem split1_c (t : C) (w : World) (hV : VarsOK w) (ht : t.f0 ≠ 0) :
    Calls Tryd.prog 78 #[.agg #[.int .i64 t.f0, .string t.f1], .int .i64 0] w fun e w' => e = .returned (.tuple #[tokV eof, tokV t]) ∧ Below w.heap.size w w' := by
  have hu := Tryd.underlying65
  have hS := Spl.start w t
  have hV3 := hS.vars hV
  have v0 := hV3.e0
  have v1 := hV3.e1
  have lv := vars_lt hV
  have hxb : (t.f0 == 0) = false := beq_eq_false_iff_ne.2 ht
  have HS := Aside0.mk hS
  clear hS hV3 hV
  go_enter Tryd.func78, Tryd.ntmps78
  go_wp2
  generalize (((w.alloc (.cells #[.int .i64 t.f0, .string t.f1] 65)).alloc (.cells #[.int .i64 0, .string ⟨#[]⟩] 65)).alloc (.cells #[.int .i64 0, .string ⟨#[]⟩] 65)) = W at *
  have l1 := blk_lt HS.out.b1
  have l2 := blk_lt HS.out.b2
  have lw : 0 < W.heap.size := by omega
  have n1 : 0 ≠ w.heap.size + 1 := by omega
  have n2 : 0 ≠ w.heap.size + 1 + 1 := by omega
  have n4 : w.heap.size + 1 ≠ w.heap.size + 1 + 1 := by omega
  have n5 : w.heap.size ≠ w.heap.size + 1 := by omega
  have n6 : w.heap.size ≠ w.heap.size + 1 + 1 := by omega
  have l3 : w.heap.size + 1 + 1 < W.heap.size := l2
  have l4 : w.heap.size < W.heap.size := by omega
  have f0 := blk_frozen HS.out.b1 0
  have f1 := blk_frozen HS.out.b1 1
  have f4 : W.frozen? ⟨w.heap.size + 1 + 1, 0, none⟩ = false := blk_frozen HS.out.b2 0
  have f5 : W.frozen? ⟨w.heap.size + 1 + 1, 1, none⟩ = false := blk_frozen HS.out.b2 1
  have c1 : W.cell? ⟨w.heap.size + 1, 0, none⟩ = some (.int .i64 0) := (blk_cell HS.out.b1 0).trans rfl
  have c2 : W.cell? ⟨w.heap.size + 1, 1, none⟩ = some (.string ⟨#[]⟩) := (blk_cell HS.out.b1 1).trans rfl
  have c3 : W.cell? ⟨w.heap.size + 1 + 1, 0, none⟩ = some (.int .i64 0) := (blk_cell HS.out.b2 0).trans rfl
  have c4 : W.cell? ⟨w.heap.size + 1 + 1, 1, none⟩ = some (.string ⟨#[]⟩) := (blk_cell HS.out.b2 1).trans rfl
  have c5 : W.cell? ⟨w.heap.size, 0, none⟩ = some (.int .i64 t.f0) := (blk_cell HS.out.b0 0).trans rfl
  have c6 : W.cell? ⟨w.heap.size, 1, none⟩ = some (.string t.f1) := (blk_cell HS.out.b0 1).trans rfl
  go_region
  go_wp2
  have hF := ((HS.out.setL eof).setR t).drew
  exact bodyPost_ret (hF.fin rfl rfl rfl) rfl ⟨rfl, hF.hB⟩
set_option maxRecDepth 100000 in
set_option maxHeartbeats 8000000 in
theorem split2_c (t : C) (n : Nat) (w : World) (hV : VarsOK w) (ht : t.f0 ≠ 0) (h0 : n ≠ 0) (hn : n < t.f1.size) :
    Calls Tryd.prog 78 #[.agg #[.int .i64 t.f0, .string t.f1], .int .i64 (n : Int)] w fun e w' => e = .returned (.tuple #[tokV ⟨t.f0, lef t.f1 n⟩, tokV ⟨t.f0, rig t.f1 n⟩]) ∧ Below w.heap.size w w' := by
  have hu := Tryd.underlying65
  have hS := Spl.start w t
  have hV3 := hS.vars hV
  have v0 := hV3.e0
  have v1 := hV3.e1
  have lv := vars_lt hV
  have hxb : (t.f0 == 0) = false := beq_eq_false_iff_ne.2 ht
  have hnb : ((n : Int) == 0) = false := beq_eq_false_iff_ne.2 (by omega)
  have hnc : ((n : Int) == (t.f1.size : Int)) = false := beq_eq_false_iff_ne.2 (by omega)
  have HS := Aside0.mk hS
  clear hS hV3 hV
  go_enter Tryd.func78, Tryd.ntmps78
  have n4 : w.heap.size + 1 ≠ w.heap.size + 1 + 1 := by omega
  have n7 : w.heap.size + 1 + 1 ≠ w.heap.size + 1 := by omega
  have hle : (n : Int) ≤ (t.f1.size : Int) := by omega
  have hn0 : (0 : Int) ≤ (n : Int) := by omega
  go_wp2_with (first | (go_at_call 37; refine (clone_c w.heap.size t _ HS.out.b0).mono ?_; rintro e w4 ⟨rfl, hB4⟩; have K4 := Aside0.mk (HS.out.below hB4); clear hB4; have w4b0 : w4.cell? ⟨w.heap.size + 1, 0, none⟩ = some (.int .i64 0) := (blk_cell K4.out.b1 0).trans rfl; have w4b1 : w4.cell? ⟨w.heap.size + 1, 1, none⟩ = some (.string ⟨#[]⟩) := (blk_cell K4.out.b1 1).trans rfl; have w4fb0 : w4.frozen? ⟨w.heap.size + 1, 0, none⟩ = false := blk_frozen K4.out.b1 0; have w4fb1 : w4.frozen? ⟨w.heap.size + 1, 1, none⟩ = false := blk_frozen K4.out.b1 1; have w4lb : w.heap.size + 1 < w4.heap.size := blk_lt K4.out.b1; have w4c0 : w4.cell? ⟨w.heap.size + 1 + 1, 0, none⟩ = some (.int .i64 0) := (blk_cell K4.out.b2 0).trans rfl; have w4c1 : w4.cell? ⟨w.heap.size + 1 + 1, 1, none⟩ = some (.string ⟨#[]⟩) := (blk_cell K4.out.b2 1).trans rfl; have w4fc0 : w4.frozen? ⟨w.heap.size + 1 + 1, 0, none⟩ = false := blk_frozen K4.out.b2 0; have w4fc1 : w4.frozen? ⟨w.heap.size + 1 + 1, 1, none⟩ = false := blk_frozen K4.out.b2 1; have w4lc : w.heap.size + 1 + 1 < w4.heap.size := blk_lt K4.out.b2) | (go_at_call 37; refine (clone_c w.heap.size t _ (K4.out.setL t).b0).mono ?_; rintro e w5 ⟨rfl, hB5⟩; have K5 := Aside0.mk ((K4.out.setL t).below hB5); clear hB5; have w5b0 : w5.cell? ⟨w.heap.size + 1, 0, none⟩ = some (.int .i64 t.f0) := (blk_cell K5.out.b1 0).trans rfl; have w5b1 : w5.cell? ⟨w.heap.size + 1, 1, none⟩ = some (.string t.f1) := (blk_cell K5.out.b1 1).trans rfl; have w5fb0 : w5.frozen? ⟨w.heap.size + 1, 0, none⟩ = false := blk_frozen K5.out.b1 0; have w5fb1 : w5.frozen? ⟨w.heap.size + 1, 1, none⟩ = false := blk_frozen K5.out.b1 1; have w5lb : w.heap.size + 1 < w5.heap.size := blk_lt K5.out.b1; have w5c0 : w5.cell? ⟨w.heap.size + 1 + 1, 0, none⟩ = some (.int .i64 0) := (blk_cell K5.out.b2 0).trans rfl; have w5c1 : w5.cell? ⟨w.heap.size + 1 + 1, 1, none⟩ = some (.string ⟨#[]⟩) := (blk_cell K5.out.b2 1).trans rfl; have w5fc0 : w5.frozen? ⟨w.heap.size + 1 + 1, 0, none⟩ = false := blk_frozen K5.out.b2 0; have w5fc1 : w5.frozen? ⟨w.heap.size + 1 + 1, 1, none⟩ = false := blk_frozen K5.out.b2 1; have w5lc : w.heap.size + 1 + 1 < w5.heap.size := blk_lt K5.out.b2))
  have hF := ((K5.out.setR t).setL1 (lef t.f1 n)).setR1 (rig t.f1 n)
  have hF' := hF
  unfold lef rig at hF
  exact bodyPost_ret (hF'.fin rfl rfl rfl) rfl ⟨rfl, hF'.hB⟩
abbrev aggC (t : C) : Value := .agg #[.int .i64 t.f0, .string t.f1]
theorem split_c (t : C) (n : Nat) (w : World) (hV : VarsOK w) (ht : isE t = true ∨ t.f0 ≠ 0) (hn : isE t = true ∨ n < t.f1.size) :
    Calls Tryd.prog 78 #[.agg #[.int .i64 t.f0, .string t.f1], .int .i64 (n : Int)] w fun e w' => e = .returned (.tuple #[.agg #[.int .i64 (splL t n).f0, .string (splL t n).f1], .agg #[.int .i64 (splR t n).f0, .string (splR t n).f1]]) ∧ Below w.heap.size w w' := by
  by_cases hE : isE t = true
  · obtain rfl := isE_eof hE
    exact (split0_c (n : Int) w hV).mono fun e w' h => h
  · have h0 : t.f0 ≠ 0 := ht.resolve_left hE
    have h1 : n < t.f1.size := hn.resolve_left hE
    unfold splL splR
    rw [if_neg hE, if_neg hE]
    by_cases hz : n = 0
    · subst hz
      rw [if_pos rfl, if_pos rfl]
      exact (split1_c t w hV h0).mono fun e w' h => h
    · rw [if_neg hz, if_neg hz]
      exact (split2_c t n w hV h0 hz h1).mono fun e w' h => h
theorem grown_set {W W' : World} {r : Nat} (h : W.grownBy W' (some r)) {b j : Nat} (hb : b = r ∨ W.heap.size ≤ b) (v : Value) : W.grownBy (W'.setCell ⟨b, j, none⟩ v) (some r) :=
  ⟨h.os, h.tape, h.output, by rw [World.size_setCell]; exact h.size, fun i hi hne => (Below.heap_setCell W' ⟨b, j, none⟩ v i (by rintro rfl; rcases hb with e | e; exact hne (by rw [e]); exact absurd hi (Nat.not_lt.2 e))).trans (h.block i hi hne)⟩
theorem grown_alloc {W W' : World} {r : Option Nat} (h : W.grownBy W' r) (o : Obj) : W.grownBy (W'.alloc o) r :=
  ⟨h.os, h.tape, h.output, by rw [World.size_alloc]; exact Nat.le_trans h.size (Nat.le_succ _), fun i hi hne => (Below.heap_alloc W' o i (Nat.lt_of_lt_of_le hi h.size)).trans (h.block i hi hne)⟩
/-- The closure that hands out root's tokens. -/
structure NxT (W : World) (Bk Br : Nat) (RT : List C) (k : Nat) : Prop where
  hk : W.heap[Bk]? = some (.cells #[.int .i64 (k : Int)] 3 (0, 0))
  hr : ∃ A c, W.heap[Br]? = some (.cells #[.slice A RT.length c] 50 (0, 0)) ∧ Kd.C kC W A RT.length RT ∧ RT.length ≤ c
set_option maxRecDepth 100000 in
set_option maxHeartbeats 8000000 in
theorem nt_c (Bk Br : Nat) (RT : List C) (k : Nat) (w : World) (hV : VarsOK w) (h : NxT w Bk Br RT k) (hl : RT.length ≤ 1000000) (hkl : k ≤ RT.length) :
    Calls Tryd.prog 76 #[.pointer (some ⟨Bk, 0, none⟩), .pointer (some ⟨Br, 0, none⟩)] w fun e w' => e = .returned (.agg #[.int .i64 (hd (RT.drop k)).f0, .string (hd (RT.drop k)).f1]) ∧ w.grownBy w' (some Bk) ∧ w'.heap[Bk]? = some (.cells #[.int .i64 ((if k < RT.length then k + 1 else k : Nat) : Int)] 3 (0, 0)) := by
  obtain ⟨hk, A, c, hr, hC, hc⟩ := h
  have hu := Tryd.underlying65
  obtain ⟨x, hx⟩ : ∃ x : Int, x = (k : Int) := ⟨_, rfl⟩
  have hkn : x.toNat = k := by omega
  rw [← hx] at hk
  have k0 : w.cell? ⟨Bk, 0, none⟩ = some (.int .i64 x) := (blk_cell hk 0).trans rfl
  have kf := blk_frozen hk 0
  have r0 : w.cell? ⟨Br, 0, none⟩ = some (.slice A RT.length c) := (blk_cell hr 0).trans rfl
  have lk := blk_lt hk
  have lr := blk_lt hr
  have v0 := hV.e0
  have v1 := hV.e1
  have lv := vars_lt hV
  have HK := Aside0.mk hk
  have HX := Aside0.mk (And.intro hx hkn)
  have HW := Aside0.mk (World.grownBy.refl w (some Bk))
  have nkw : Bk ≠ w.heap.size := Nat.ne_of_lt lk
  have nwk : w.heap.size ≠ Bk := fun e => nkw e.symm
  have nkr : Br ≠ Bk := blk_ne' hr hk (by decide)
  by_cases hlt : k < RT.length
  · have h0 : 0 ≤ x := by omega
    have h1 : x < (RT.length : Int) := by omega
    obtain ⟨ad, e, hy0, hy1⟩ := at_T65 hC x h0 h1
    cases e
    have hla := World.block_lt_of_cell? w _ hy0
    have erd : rd_T65 RT x = hd (RT.drop k) := by
      rw [List.drop_eq_getElem_cons hlt]
      simp [rd_T65, List.getD_eq_getElem?_getD, hkn, hlt, hd]
    rw [erd] at hy0 hy1
    rw [if_pos hlt]
    have c2 : decide ((RT.length : Int) ≤ x) = false := decide_eq_false (by omega)
    have p1 := eq_true h1
    have p2 := eq_true h0
    have hwr : Aside0 (wrap64 (x + 1) = ((k + 1 : Nat) : Int)) := ⟨by unfold wrap64; omega⟩
    generalize hd (RT.drop k) = y at *
    clear hk hr hC hV hx hkn erd h0 h1
    go_enter Tryd.func76, Tryd.ntmps76
    go_wp2
    have hb : (((w.setCell ⟨Bk, 0, none⟩ (.int .i64 (wrap64 (x + 1)))).alloc (.cells #[.int .i64 y.f0, .string y.f1] 65)).alloc (.cells #[.int .i64 y.f0, .string y.f1] 65)).heap[w.heap.size]? = some (.cells #[.int .i64 y.f0, .string y.f1] 65 (0, 0)) := by
      refine blk_alloc ?_ _
      have := blk_new (w.setCell ⟨Bk, 0, none⟩ (.int .i64 (wrap64 (x + 1)))) (.cells #[.int .i64 y.f0, .string y.f1] 65)
      rw [World.size_setCell] at this
      exact this
    exact bodyPost_ret (results_cell_row rfl _ _ w.heap.size 65 #[.int .i64 y.f0, .string y.f1] (0, 0) _ rfl hb Tryd.underlying65 rfl (by kernel_rfl)) rfl ⟨rfl, grown_alloc (grown_alloc (grown_set HW.out (.inl rfl) _) _) _, blk_alloc (blk_alloc (by rw [hwr.out]; exact blk_put HK.out 0 _ rfl) _) _⟩
  · rw [if_neg hlt]
    have e0 : RT.drop k = [] := List.drop_eq_nil_of_le (by omega)
    rw [e0]
    have c2 : decide ((RT.length : Int) ≤ x) = true := decide_eq_true (by omega)
    clear hk hr hC hV hx hkn
    go_enter Tryd.func76, Tryd.ntmps76
    go_wp2
    exact bodyPost_ret (results_cell_row rfl _ _ w.heap.size 65 #[.int .i64 0, .string ⟨#[]⟩] (0, 0) _ rfl (blk_new w _) Tryd.underlying65 rfl (by kernel_rfl)) rfl ⟨rfl, grown_alloc HW.out _, blk_alloc (by rw [← HX.out.1]; exact HK.out) _⟩
/-- Rows of pointers. -/
def kP : Kd Nat := Kd.scalar (fun b : Nat => Value.pointer (some ⟨b, 0, none⟩)) (fun _ => rfl)
theorem kP_open {w : World} {x : Nat} {cs : List Value} (h : kP.K w x cs) : cs = [.pointer (some ⟨x, 0, none⟩)] := h
theorem kP_mkM (w : World) (base : Nat) (ok : Nat → Prop) (x : Nat) : kP.M w base ok x [.pointer (some ⟨x, 0, none⟩)] := rfl
theorem at_P {w : World} {A : Option Addr} {n : Nat} {xs : List Nat} (h : Kd.C kP w A n xs) (i : Int) (h0 : 0 ≤ i) (h1 : i < n) : ∃ ad, A = some ad ∧ w.cell? (ad.add i.toNat) = some (.pointer (some ⟨xs.getD i.toNat 0, 0, none⟩)) := by
  obtain ⟨ad, c, e, _, hK, hc0⟩ := Kd.C_get h 0 i h0 h1
  have hc : ∀ j u, c[j]? = some u → w.cell? (ad.add (i.toNat * 1 + j)) = some u := hc0
  obtain rfl := kP_open hK
  exact ⟨ad, e, by have hq := hc 0 _ rfl; rwa [Nat.mul_one, Nat.add_zero] at hq⟩
/-- A pointer, or nil. -/
def ptV : List Nat → Value
  | [] => .pointer none
  | b :: _ => .pointer (some ⟨b, 0, none⟩)
/-- The closure that hands out insertions. -/
structure NxI (W : World) (Bk Br : Nat) (ps : List Nat) (k : Nat) : Prop where
  hk : W.heap[Bk]? = some (.cells #[.int .i64 (k : Int)] 3 (0, 0))
  hr : ∃ A c, W.heap[Br]? = some (.cells #[.slice A ps.length c] 128 (0, 0)) ∧ Kd.C kP W A ps.length ps ∧ ps.length ≤ c
set_option maxRecDepth 100000 in
set_option maxHeartbeats 8000000 in
theorem ni_c (Bk Br : Nat) (ps : List Nat) (k : Nat) (w : World) (h : NxI w Bk Br ps k) (hl : ps.length ≤ 1000000) (hkl : k ≤ ps.length) :
    Calls Tryd.prog 77 #[.pointer (some ⟨Bk, 0, none⟩), .pointer (some ⟨Br, 0, none⟩)] w fun e w' => e = .returned (ptV (ps.drop k)) ∧ w.grownBy w' (some Bk) ∧ w'.heap[Bk]? = some (.cells #[.int .i64 ((if k < ps.length then k + 1 else k : Nat) : Int)] 3 (0, 0)) := by
  obtain ⟨hk, A, c, hr, hC, hc⟩ := h
  obtain ⟨x, hx⟩ : ∃ x : Int, x = (k : Int) := ⟨_, rfl⟩
  have hkn : x.toNat = k := by omega
  rw [← hx] at hk
  have k0 : w.cell? ⟨Bk, 0, none⟩ = some (.int .i64 x) := (blk_cell hk 0).trans rfl
  have kf := blk_frozen hk 0
  have r0 : w.cell? ⟨Br, 0, none⟩ = some (.slice A ps.length c) := (blk_cell hr 0).trans rfl
  have lk := blk_lt hk
  have lr := blk_lt hr
  have HK := Aside0.mk hk
  have HX := Aside0.mk (And.intro hx hkn)
  have HW := Aside0.mk (World.grownBy.refl w (some Bk))
  have nkr : Br ≠ Bk := blk_ne' hr hk (by decide)
  by_cases hlt : k < ps.length
  · have h0 : 0 ≤ x := by omega
    have h1 : x < (ps.length : Int) := by omega
    obtain ⟨ad, e, hy0⟩ := at_P hC x h0 h1
    cases e
    have hla := World.block_lt_of_cell? w _ hy0
    have erd : ptV (ps.drop k) = .pointer (some ⟨ps.getD x.toNat 0, 0, none⟩) := by
      rw [List.drop_eq_getElem_cons hlt, hkn]
      simp [ptV, List.getD_eq_getElem?_getD, hlt]
    rw [erd, if_pos hlt]
    have c2 : decide ((ps.length : Int) ≤ x) = false := decide_eq_false (by omega)
    have p1 := eq_true h1
    have p2 := eq_true h0
    have hwr : Aside0 (wrap64 (x + 1) = ((k + 1 : Nat) : Int)) := ⟨by unfold wrap64; omega⟩
    generalize ps.getD x.toNat 0 = y at *
    clear hk hr hC hx hkn erd h0 h1
    go_enter Tryd.func77, Tryd.ntmps77
    go_wp2
    go_ret
    exact ⟨rfl, grown_set HW.out (.inl rfl) _, by rw [hwr.out]; exact blk_put HK.out 0 _ rfl⟩
  · rw [if_neg hlt]
    have e0 : ps.drop k = [] := List.drop_eq_nil_of_le (by omega)
    rw [e0]
    have c2 : decide ((ps.length : Int) ≤ x) = true := decide_eq_true (by omega)
    clear hk hr hC hx hkn
    go_enter Tryd.func77, Tryd.ntmps77
    go_wp2
    go_ret
    exact ⟨rfl, HW.out, by rw [← HX.out.1]; exact HK.out⟩
end Go.Proofs.YtmldahejeobohaaDoorTake
