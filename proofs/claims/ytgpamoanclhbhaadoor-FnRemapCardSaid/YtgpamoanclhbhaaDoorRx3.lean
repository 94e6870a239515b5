-- WRITTEN BY OUR myprint.py, a program of this session's over the kit's printer
import Derived.Test.YtgpamoanclhbhaaDoorRx0
import Derived.Test.YtgpamoanclhbhaaDoorRx2
namespace Go.Proofs.YtgpamoanclhbhaaDoor.R
open Go.RowKit Go.Proofs.YtgpamoanclhbhaaDoorW.PrintWords Go.Proofs.YtgpamoanclhbhaaDoorW.PrintLast Go.Proofs.YtgpamoanclhbhaaDoorW.PrintMore
attribute [local go_sem] max2_int min2_int max_two min_two max_three min_three max_four min_four   -- for this text's walks alone
set_option linter.unusedVariables false
set_option linter.unusedSimpArgs false

/-! ### chroma_zzSplitAfter: function 29 -/
def chroma_zzSplitAfter.f (k : Nat) (a0 : ByteArray) (a1 : ByteArray) : Option (List ByteArray) := (chroma_zzIndex.f k a0 a1).bind fun t120 => (if 0 ≤ (wrap64 (t120 + (a1.size : Int))) then (if (wrap64 (t120 + (a1.size : Int))) ≤ (a0.size : Int) then (some (([a0.extract 0 ((wrap64 (t120 + (a1.size : Int))) : Int).toNat, a0.extract ((wrap64 (t120 + (a1.size : Int))) : Int).toNat a0.size] : List ByteArray))) else (none)) else (none))
theorem chroma_zzSplitAfter.mono : ∀ a0 a1 k, LeO (chroma_zzSplitAfter.f k a0 a1) (chroma_zzSplitAfter.f (k + 1) a0 a1) := by
  intro a0 a1 k
  unfold chroma_zzSplitAfter.f
  repeat' first
      | (with_reducible exact chroma_zzIndex.mono _ _ _)
      | (with_reducible exact LeO.refl _)
      | (with_reducible exact LeO.none _)
      | (with_reducible refine LeO.ite ?_ ?_)
      | (with_reducible refine LeO.bind ?_ (fun _ => ?_))
      | exact chroma_zzIndex.mono _ _ _
      | exact LeO.none _
      | refine LeO.ite ?_ ?_
      | refine LeO.bind ?_ (fun _ => ?_)
def chroma_zzSplitAfter.T2 : Bool × List (List Nat × List Nat) := (true, [([], []), ([], []), ([0, 1], [0, 1]), ([], []), ([], []), ([3, 4], [3, 4]), ([2, 5], [2, 5]), ([6, 0, 1, 2, 3, 4, 5, 6], [6])])
def chroma_zzSplitAfter.B2 : List Nat := [0, 0, 3, 0, 0, 24, 63, 127]
theorem chroma_zzSplitAfter.tab2 : rtab .any (opsOf Tryd.f29 2) = chroma_zzSplitAfter.T2 := by kernel_rfl
theorem chroma_zzSplitAfter.bits2 : waitsOk chroma_zzSplitAfter.T2.2 chroma_zzSplitAfter.B2 = true := by kernel_rfl
set_option maxHeartbeats 8000000 in
set_option maxRecDepth 100000 in
theorem chroma_zzSplitAfter.calls (k : Nat) (a0 : ByteArray) (a1 : ByteArray) (r : List ByteArray) (w : World) (h : chroma_zzSplitAfter.f k a0 a1 = some r) :
    Calls Tryd.prog 29 #[.string a0, .string a1] w fun e w' => ∃ v0_ : Value, e = .returned (v0_) ∧ Kd.R Kd.string 9 w' w.heap.size (fun _ => True) v0_ r ∧ Below w.heap.size w w' := by
  have HB := Aside0.mk (Below.refl w.heap.size w)
  have H : ((chroma_zzIndex.f k a0 a1).bind fun t120 => (if 0 ≤ (wrap64 (t120 + (a1.size : Int))) then (if (wrap64 (t120 + (a1.size : Int))) ≤ (a0.size : Int) then (some (([a0.extract 0 ((wrap64 (t120 + (a1.size : Int))) : Int).toNat, a0.extract ((wrap64 (t120 + (a1.size : Int))) : Int).toNat a0.size] : List ByteArray))) else (none)) else (none))) = some r := h
  clear h
  replace H := Option.bind_eq_some_iff.mp H
  obtain ⟨t120, A30, H⟩ := H
  replace H : (if 0 ≤ (wrap64 (t120 + (a1.size : Int))) then (if (wrap64 (t120 + (a1.size : Int))) ≤ (a0.size : Int) then (some (([a0.extract 0 ((wrap64 (t120 + (a1.size : Int))) : Int).toNat, a0.extract ((wrap64 (t120 + (a1.size : Int))) : Int).toNat a0.size] : List ByteArray))) else (none)) else (none)) = some r := H
  have A3 := Aside0.mk A30
  clear A30
  obtain ⟨ji4, hji4⟩ : ∃ j_ : Int, (wrap64 (t120 + (a1.size : Int))) = j_ := ⟨_, rfl⟩
  replace H : (if 0 ≤ (ji4) then (if (ji4) ≤ (a0.size : Int) then (some (([a0.extract 0 ((ji4) : Int).toNat, a0.extract ((ji4) : Int).toNat a0.size] : List ByteArray))) else (none)) else (none)) = some r := by first | (rw [hji4] at H; exact H) | (simp only [hji4] at H ⊢; exact H)
  (try rw [hji4] at A3)
  have hji4w : (IntKind.i64.wrap (t120 + (a1.size : Int))) = ji4 := (i64_w _).trans hji4
  by_cases c5 : 0 ≤ (ji4)
  · rw [if_pos c5] at H
    have c5b0 := eq_true c5
    have c5b1 : decide (0 ≤ (ji4)) = true := decide_eq_true c5
    clear c5
    by_cases c6 : (ji4) ≤ (a0.size : Int)
    · rw [if_pos c6] at H
      have c6b0 := eq_true c6
      have c6b1 : decide ((ji4) ≤ (a0.size : Int)) = true := decide_eq_true c6
      clear c6
      have c7b0 := eq_true (of_decide_eq_true (by first | (with_reducible assumption) | assumption) : 0 ≤ (ji4))
      have c8b0 := eq_true (of_decide_eq_true (by first | (with_reducible assumption) | assumption) : (ji4) ≤ (a0.size : Int))
      obtain ⟨y121, hy121⟩ : ∃ y_ : List ByteArray, y_ = (([a0.extract 0 ((ji4) : Int).toNat, a0.extract ((ji4) : Int).toNat a0.size] : List ByteArray)) := ⟨_, rfl⟩
      replace H : (some y121) = some r := by first | (rw [hy121]; with_reducible exact H) | (have H2_ := (Option.bind_some _ _).symm.trans H; rw [hy121]; with_reducible exact H2_) | (have H2_ := (Option.bind_some _ _).symm.trans H; with_reducible exact H2_) | with_reducible exact H | (rw [hy121]; exact H) | exact H
      have Ny121 := Aside0.mk hy121
      clear hy121
      obtain rfl := Option.some.inj H
      go_enter Tryd.func29, Tryd.ntmps29
      try go_wp2_with (first | ((with_reducible refine gate_callee (f := 31) rfl ?_); refine goesL_ (some 8) rfl rfl Tryd.func31 (by kernel_rfl) rfl #[.string a0, .string a1] rfl (by (try simp only [List.map_toArray, List.map_cons, List.map_nil]); first | done | rfl | (simp only [List.length_drop, List.length_take]; rfl)) ?_; (with_reducible refine (chroma_zzIndex.calls k a0 a1 t120 _ A3.out).mono ?_); rintro e w' ⟨rfl, ⟨nd, rfl⟩⟩; refine ⟨_, rfl, ?_⟩))
      (try simp only [World.drewN_drewN])
      rw [drewN_self w]; generalize hq_ : World.drewN w _ = w9
      have n0_ : Aside0 (Below w.heap.size w w9) := ⟨by rw [← hq_]; exact (by repeat (first | (with_reducible first | exact HB.out | apply below_alloc | apply pw_below_drewN | apply below_drew1) | exact HB.out))⟩
      clear HB hq_
      have HB := n0_
      clear n0_
      have n0_ := Aside0.mk (below_drew1 HB.out)
      clear HB
      have HB := n0_
      clear n0_
      refine start_ (n := 8) (S := fun w' => True) (ds := []) #[false, false, false, false, false, false, false, false] (by kernel_rfl) rfl rfl trivial (fun hHeld => ?_); refine with_tabW chroma_zzSplitAfter.tab2 chroma_zzSplitAfter.bits2 (fun HT_ HW_ => ?_)
      generalize w9.drew = w10 at HB hHeld ⊢
      refine pure_ (i := 0) (N := some 12) (v := ?_) (a' := ?_) #[true, false, false, false, false, false, false, false] rfl rfl (any_of HT_.out (by kernel_rfl)) (fun _ _ _ h => h) (Or.inl ⟨by rfl, ?_⟩) ?_ ?_
      rotate_left
      · intro w'
        go_simp
        with_reducible rfl
      rotate_left
      · simp only [Act.put, List.setIfInBounds_toArray, List.set_cons_zero, List.set_cons_succ, i64_w, i32_w]
        rfl
      refine pure_ (i := 1) (N := some 13) (v := ?_) (a' := ?_) #[true, true, false, false, false, false, false, false] rfl rfl (any_of HT_.out (by kernel_rfl)) (fun _ _ _ h => h) (Or.inl ⟨by rfl, ?_⟩) ?_ ?_
      rotate_left
      · intro w'
        go_simp
        with_reducible rfl
      rotate_left
      · simp only [Act.put, List.setIfInBounds_toArray, List.set_cons_zero, List.set_cons_succ, i64_w, i32_w]
        rfl
      refine pure_ (i := 2) (N := some 14) (v := ?_) (a' := ?_) #[true, true, true, false, false, false, false, false] rfl rfl (any_of HT_.out (by kernel_rfl)) (fun _ _ _ h => h) (Or.inl ⟨by rfl, ?_⟩) ?_ ?_
      rotate_left
      · intro w'
        go_simp
        with_reducible rfl
      rotate_left
      · simp only [Act.put, List.setIfInBounds_toArray, List.set_cons_zero, List.set_cons_succ, i64_w, i32_w]
        rfl
      refine pure_ (i := 3) (N := some 15) (v := ?_) (a' := ?_) #[true, true, true, true, false, false, false, false] rfl rfl (any_of HT_.out (by kernel_rfl)) (fun _ _ _ h => h) (Or.inl ⟨by rfl, ?_⟩) ?_ ?_
      rotate_left
      · intro w'
        go_simp
        with_reducible rfl
      rotate_left
      · simp only [Act.put, List.setIfInBounds_toArray, List.set_cons_zero, List.set_cons_succ, i64_w, i32_w]
        rfl
      refine pure_ (i := 4) (N := some 16) (v := ?_) (a' := ?_) #[true, true, true, true, true, false, false, false] rfl rfl (any_of HT_.out (by kernel_rfl)) (fun _ _ _ h => h) (Or.inl ⟨by rfl, ?_⟩) ?_ ?_
      rotate_left
      · intro w'
        go_simp
        with_reducible rfl
      rotate_left
      · simp only [Act.put, List.setIfInBounds_toArray, List.set_cons_zero, List.set_cons_succ, i64_w, i32_w]
        rfl
      refine pure_ (i := 5) (N := some 17) (v := ?_) (a' := ?_) #[true, true, true, true, true, true, false, false] rfl rfl (any_of HT_.out (by kernel_rfl)) (fun _ _ _ h => h) (Or.inl ⟨by rfl, ?_⟩) ?_ ?_
      rotate_left
      · intro w'
        go_simp
        with_reducible rfl
      rotate_left
      · simp only [Act.put, List.setIfInBounds_toArray, List.set_cons_zero, List.set_cons_succ, i64_w, i32_w]
        rfl
      refine one_ (i := 6) (N := some 18) #[true, true, true, true, true, true, true, false] rfl rfl (one_of HT_.out (by kernel_rfl)) (by decide) (fun K hK => ?_)
      refine Kd.R_lit_step Kd.string _ 9 ?hg (N := 18) ?hd (xs := ([a0.extract 0 ((ji4) : Int).toNat, a0.extract ((ji4) : Int).toNat a0.size] : List ByteArray)) (inner := [.string (a0.extract 0 ((ji4) : Int).toNat), .string (a0.extract ((ji4) : Int).toNat a0.size)]) (ok := fun _ => True) (okp := fun _ => True) ?hr ?hp (fun _ hk => hk) trivial (Below.refl _ _) (Nat.le_refl _) (by simp) ?_; (case hd => rfl); (case hg => rfl); (case hr => first | (go_simp; done) | (go_simp; rfl)); (case hp => exact (Reps.one (show Kd.M Kd.string _ _ _ (a0.extract 0 ((ji4) : Int).toNat) [.string (a0.extract 0 ((ji4) : Int).toNat)] from rfl) (Reps.one (show Kd.M Kd.string _ _ _ (a0.extract ((ji4) : Int).toNat a0.size) [.string (a0.extract ((ji4) : Int).toNat a0.size)] from rfl) (Reps.none _ _))))
      intro v122 w11 ho12 hb hg_ hnew_
      clear hg_ hnew_
      (first | rw [← Ny121.out] at ho12 | (simp only [Int.reduceToNat] at ho12; rw [← Ny121.out] at ho12))
      have n0_ := Aside0.mk (Kd.R_lower ho12 (below_size (by repeat (first | (with_reducible first | exact HB.out | apply below_alloc | apply pw_below_drewN | apply below_drew1) | exact HB.out))))
      have n1_ := Aside0.mk (below_step (by repeat (first | (with_reducible first | exact HB.out | apply below_alloc | apply pw_below_drewN | apply below_drew1) | exact HB.out)) hb)
      clear HB
      have HO123 := n0_
      have HB := n1_
      clear n0_ n1_
      clear hb ho12
      refine hK.out _ _ trivial (fun hHeld => ?_)
      clear hK K
      refine norm_ (a' := ?_) ?_ ?_
      rotate_left
      · show Act.put _ (some 18) _ = _
        simp only [Act.put, List.setIfInBounds_toArray, List.set_cons_zero, List.set_cons_succ, i64_w, i32_w]
        rfl
      refine pure_ (i := 7) (N := some 4) (v := ?_) (a' := ?_) #[true, true, true, true, true, true, true, true] rfl rfl (any_of HT_.out (by kernel_rfl)) (fun _ _ _ h => h) (Or.inl ⟨by rfl, ?_⟩) ?_ ?_
      rotate_left
      · intro w'
        go_simp
        with_reducible rfl
      rotate_left
      · simp only [Act.put, List.setIfInBounds_toArray, List.set_cons_zero, List.set_cons_succ, i64_w, i32_w]
        rfl
      refine done_ (done_of HT_.out (by kernel_rfl)) ?_
      try go_wp2
      go_ret
      exact ⟨_, by first | rfl | (simp [errW_none, errW_some] <;> rfl) | (simp only [← hji4]; first | rfl | (simp [errW_none, errW_some] <;> rfl)) | (simp [*, errW_none, errW_some] <;> rfl), by (with_reducible repeat (first | apply Kd.R_alloc | apply Kd.R_drewN | apply Kd.R_drew)); exact HO123.out, by repeat (first | (with_reducible first | exact HB.out | apply below_alloc | apply pw_below_drewN | apply below_drew1) | exact HB.out)⟩
    · rw [if_neg c6] at H
      exact absurd H (by simp)
  · rw [if_neg c5] at H
    exact absurd H (by simp)

/-! ### chroma_Token_Clone: function 30 -/
def chroma_Token_Clone.f (s0_0 : Int) (s0_1 : ByteArray) : Option (Int × ByteArray) := some (s0_0, s0_1)
set_option maxHeartbeats 8000000 in
theorem chroma_Token_Clone.calls (g : Nat) (s0_0 : Int) (s0_1 : ByteArray) (r1 : Int) (r2 : ByteArray) (w : World) (hI : w.heap[g]? = some (.cells #[.int .i64 s0_0, .string s0_1] 51 (0, 0))) (h : chroma_Token_Clone.f s0_0 s0_1 = some (r1, r2)) :
    Calls Tryd.prog 30 #[.pointer (some ⟨g, 0, none⟩)] w fun e w' => e = .returned (.agg #[.int .i64 r1, .string r2]) ∧ Below w.heap.size w w' := by
  have hu47 := Tryd.underlying51
  have c0 : w.cell? ⟨g, 0, none⟩ = some (.int .i64 s0_0) := (blk_cell hI 0).trans rfl
  have c1 : w.cell? ⟨g, 1, none⟩ = some (.string s0_1) := (blk_cell hI 1).trans rfl
  have lt : g < w.heap.size := blk_lt hI
  clear hI
  simp only [chroma_Token_Clone.f, Option.some.injEq, Prod.mk.injEq] at h
  obtain ⟨rfl, rfl⟩ := h
  go_enter Tryd.func30, Tryd.ntmps30
  go_wp2
  exact bodyPost_ret (results_cell_row rfl _ _ w.heap.size 51 #[.int .i64 s0_0, .string s0_1] (0, 0) _ rfl (by simpa using heap_alloc_new w _) Tryd.underlying51 rfl (by kernel_rfl)) rfl ⟨rfl, (Below.refl _ _).alloc (Nat.le_refl _) _⟩

/-! ### chroma_SplitTokensIntoLines: function 27 -/
mutual
def chroma_SplitTokensIntoLines.l0 : Nat → List (List (S51)) → List (S51) → List (S51) → Int → Int → Option ((List (List (S51))))
  | 0, _, _, _, _, _ => none
  | k + 1, x2, x3, x9, x10, x11 => if x11 < x10 then (if 0 ≤ x11 then (if x11 < (x9.length : Int) then (chroma_SplitTokensIntoLines.l1 k x2 x3 x9 x10 x11 ((rd_T51 x9 x11).f0) ((rd_T51 x9 x11).f1)) else (none)) else (none)) else (if (x3.length : Int) > 0 then (if x2.length < 5864062014805 then (chroma_SplitTokensIntoLines.j2 k (x2 ++ [x3])) else (none)) else (chroma_SplitTokensIntoLines.j2 k x2))
def chroma_SplitTokensIntoLines.l1 : Nat → List (List (S51)) → List (S51) → List (S51) → Int → Int → Int → ByteArray → Option ((List (List (S51))))
  | 0, _, _, _, _, _, _, _ => none
  | k + 1, x2, x3, x9, x10, x11, x126000, x126001 => (chroma_zzContains.f k x126001 (⟨#[10]⟩ : ByteArray)).bind fun t126 => (if t126 = true then ((chroma_zzSplitAfter.f k x126001 (⟨#[10]⟩ : ByteArray)).bind fun t130 => (if 1 < (t130.length : Int) then ((chroma_Token_Clone.f x126000 (rdOf ByteArray.empty t130 1)).bind fun bt134 => (if 0 < (t130.length : Int) then (if x3.length < 5864062014805 then (if x2.length < 5864062014805 then ((some (x2 ++ [(x3 ++ [(⟨bt134.1, rdOf ByteArray.empty t130 0⟩ : S51)])] : List (List (S51)))).bind fun y141 => (if ((rdOf ByteArray.empty t130 1).size : Int) = 0 then (chroma_SplitTokensIntoLines.l0 k y141 ([] : List (S51)) x9 x10 (wrap64 (x11 + 1))) else (chroma_SplitTokensIntoLines.l1 k y141 ([] : List (S51)) x9 x10 x11 x126000 (rdOf ByteArray.empty t130 1)))) else (none)) else (none)) else (none))) else (none))) else (if x3.length < 5864062014805 then (chroma_SplitTokensIntoLines.l0 k x2 (x3 ++ [(⟨x126000, x126001⟩ : S51)]) x9 x10 (wrap64 (x11 + 1))) else (none)))
def chroma_SplitTokensIntoLines.j2 : Nat → List (List (S51)) → Option ((List (List (S51))))
  | 0, _ => none
  | k + 1, x2 => if (x2.length : Int) > 0 then (if 0 ≤ (wrap64 ((x2.length : Int) - 1)) then (if (wrap64 ((x2.length : Int) - 1)) < (x2.length : Int) then (if ((rd_L4 x2 (wrap64 ((x2.length : Int) - 1))).length : Int) = 1 then (if 0 < ((rd_L4 x2 (wrap64 ((x2.length : Int) - 1))).length : Int) then (if ((rd_T51 (rd_L4 x2 (wrap64 ((x2.length : Int) - 1))) 0).f1).toList = ([] : List UInt8) then (if (wrap64 ((x2.length : Int) - 1)) ≤ (x2.length : Int) then (some (x2.take ((wrap64 ((x2.length : Int) - 1)) : Int).toNat)) else (none)) else (some x2)) else (none)) else (some x2)) else (none)) else (none)) else (some x2)
end
def chroma_SplitTokensIntoLines.f (k : Nat) (l0 : List (S51)) : Option ((List (List (S51)))) := chroma_SplitTokensIntoLines.l0 k ([] : List (List (S51))) ([] : List (S51)) l0 (l0.length : Int) 0
theorem chroma_SplitTokensIntoLines.mono_l : ∀ k, (∀ y0 y1 y2 y3 y4, LeO (chroma_SplitTokensIntoLines.l0 k y0 y1 y2 y3 y4) (chroma_SplitTokensIntoLines.l0 (k + 1) y0 y1 y2 y3 y4)) ∧ (∀ y0 y1 y2 y3 y4 y5 y6, LeO (chroma_SplitTokensIntoLines.l1 k y0 y1 y2 y3 y4 y5 y6) (chroma_SplitTokensIntoLines.l1 (k + 1) y0 y1 y2 y3 y4 y5 y6)) ∧ (∀ y0, LeO (chroma_SplitTokensIntoLines.j2 k y0) (chroma_SplitTokensIntoLines.j2 (k + 1) y0))
  | 0 => ⟨fun _ _ _ _ _ r h => by simp [chroma_SplitTokensIntoLines.l0] at h, fun _ _ _ _ _ _ _ r h => by simp [chroma_SplitTokensIntoLines.l1] at h, fun _ r h => by simp [chroma_SplitTokensIntoLines.j2] at h⟩
  | k + 1 => by
    obtain ⟨ih0, ih1, ih2⟩ := chroma_SplitTokensIntoLines.mono_l k
    refine ⟨?_, ?_, ?_⟩
    · intro y0 y1 y2 y3 y4
      unfold chroma_SplitTokensIntoLines.l0
      repeat' first
      | (with_reducible exact ih0 _ _ _ _ _)
      | (with_reducible exact ih1 _ _ _ _ _ _ _)
      | (with_reducible exact ih2 _)
      | (with_reducible exact chroma_zzContains.mono _ _ _)
      | (with_reducible exact chroma_zzSplitAfter.mono _ _ _)
      | (with_reducible exact LeO.refl _)
      | (with_reducible exact LeO.none _)
      | (with_reducible refine LeO.ite ?_ ?_)
      | (with_reducible refine LeO.bind ?_ (fun _ => ?_))
      | exact ih0 _ _ _ _ _
      | exact ih1 _ _ _ _ _ _ _
      | exact ih2 _
      | exact chroma_zzContains.mono _ _ _
      | exact chroma_zzSplitAfter.mono _ _ _
      | exact LeO.none _
      | refine LeO.ite ?_ ?_
      | refine LeO.bind ?_ (fun _ => ?_)
    · intro y0 y1 y2 y3 y4 y5 y6
      unfold chroma_SplitTokensIntoLines.l1
      repeat' first
      | (with_reducible exact ih0 _ _ _ _ _)
      | (with_reducible exact ih1 _ _ _ _ _ _ _)
      | (with_reducible exact ih2 _)
      | (with_reducible exact chroma_zzContains.mono _ _ _)
      | (with_reducible exact chroma_zzSplitAfter.mono _ _ _)
      | (with_reducible exact LeO.refl _)
      | (with_reducible exact LeO.none _)
      | (with_reducible refine LeO.ite ?_ ?_)
      | (with_reducible refine LeO.bind ?_ (fun _ => ?_))
      | exact ih0 _ _ _ _ _
      | exact ih1 _ _ _ _ _ _ _
      | exact ih2 _
      | exact chroma_zzContains.mono _ _ _
      | exact chroma_zzSplitAfter.mono _ _ _
      | exact LeO.none _
      | refine LeO.ite ?_ ?_
      | refine LeO.bind ?_ (fun _ => ?_)
    · intro y0
      unfold chroma_SplitTokensIntoLines.j2
      repeat' first
      | (with_reducible exact ih0 _ _ _ _ _)
      | (with_reducible exact ih1 _ _ _ _ _ _ _)
      | (with_reducible exact ih2 _)
      | (with_reducible exact chroma_zzContains.mono _ _ _)
      | (with_reducible exact chroma_zzSplitAfter.mono _ _ _)
      | (with_reducible exact LeO.refl _)
      | (with_reducible exact LeO.none _)
      | (with_reducible refine LeO.ite ?_ ?_)
      | (with_reducible refine LeO.bind ?_ (fun _ => ?_))
      | exact ih0 _ _ _ _ _
      | exact ih1 _ _ _ _ _ _ _
      | exact ih2 _
      | exact chroma_zzContains.mono _ _ _
      | exact chroma_zzSplitAfter.mono _ _ _
      | exact LeO.none _
      | refine LeO.ite ?_ ?_
      | refine LeO.bind ?_ (fun _ => ?_)
theorem chroma_SplitTokensIntoLines.mono : ∀ a0 k, LeO (chroma_SplitTokensIntoLines.f k a0) (chroma_SplitTokensIntoLines.f (k + 1) a0) := by
  intro a0 k
  obtain ⟨ih0, ih1, ih2⟩ := chroma_SplitTokensIntoLines.mono_l k
  unfold chroma_SplitTokensIntoLines.f
  repeat' first
      | (with_reducible exact ih0 _ _ _ _ _)
      | (with_reducible exact ih1 _ _ _ _ _ _ _)
      | (with_reducible exact ih2 _)
      | (with_reducible exact chroma_zzContains.mono _ _ _)
      | (with_reducible exact chroma_zzSplitAfter.mono _ _ _)
      | (with_reducible exact LeO.refl _)
      | (with_reducible exact LeO.none _)
      | (with_reducible refine LeO.ite ?_ ?_)
      | (with_reducible refine LeO.bind ?_ (fun _ => ?_))
      | exact ih0 _ _ _ _ _
      | exact ih1 _ _ _ _ _ _ _
      | exact ih2 _
      | exact chroma_zzContains.mono _ _ _
      | exact chroma_zzSplitAfter.mono _ _ _
      | exact LeO.none _
      | refine LeO.ite ?_ ?_
      | refine LeO.bind ?_ (fun _ => ?_)
set_option maxHeartbeats 8000000 in
set_option maxRecDepth 100000 in
theorem chroma_SplitTokensIntoLines.calls (k : Nat) (A0 : Option Addr) (c0 : Nat) (l0 : List (S51)) (r : List (List (S51))) (w : World) (hr0 : Kd.C k51 w A0 l0.length l0) (hc0 : l0.length ≤ c0) (h : chroma_SplitTokensIntoLines.f k l0 = some r) :
    Calls Tryd.prog 27 #[.slice A0 l0.length c0] w fun e w' => ∃ v0_ : Value, e = .returned (v0_) ∧ Kd.S (Kd.slice 51 k51) 52 w' w.heap.size (fun _ => True) v0_ r ∧ Below w.heap.size w w' := by
  have hu51 := Tryd.underlying51
  have HR0 := Aside0.mk hr0
  have HC0 := Aside0.mk hc0
  clear hr0 hc0
  have HB := Aside0.mk (Below.refl w.heap.size w)
  have H : (chroma_SplitTokensIntoLines.l0 k ([] : List (List (S51))) ([] : List (S51)) l0 (l0.length : Int) 0) = some r := h
  clear h
  have H' := Aside0.mk H
  clear H
  go_enter Tryd.func27, Tryd.ntmps27
  repeat (go_wp2; go_step3)
  go_wp2
  go_loopg [2, 3, 11] k (fun kq v2 v3 v11 w' => ∃ (x2_1 : List (List (S51))) (x3_1 : List (S51)) (x11_1 : Int), v11 = .int .i64 x11_1 ∧ Aside0 (chroma_SplitTokensIntoLines.l0 kq x2_1 x3_1 l0 (l0.length : Int) x11_1 = some r) ∧ Aside0 (kq ≤ k) ∧ Aside0 (Kd.S (Kd.slice 51 k51) 52 w' w.heap.size (fun k_ => some k_ ≠ (v3 : Value).ownBlock) v2 x2_1) ∧ Aside0 (Kd.R k51 51 w' w.heap.size (fun _ => True) v3 x3_1) ∧ Aside0 (Below w.heap.size w w'))
  case atStart => exact ⟨(([] : List (List (S51)))), (([] : List (S51))), (0), (by first | rfl | (simp; done) | (simp [*]; done)), H', ⟨Nat.le_refl _⟩, ⟨by first | exact Kd.S_nil _ _ _ _ _ | exact Kd.N_nil _ _ _ _ _ | exact Kd.V_nil _ _ _ _ _ | exact Kd.Q_nil _ _ _ _ _ | exact Kd.R_nil _ _ _ _ _⟩, ⟨by first | exact Kd.R_nil _ _ _ _ _ | exact Kd.N_nil _ _ _ _ _ | exact Kd.V_nil _ _ _ _ _ | exact Kd.Q_nil _ _ _ _ _ | exact Kd.S_nil _ _ _ _ _⟩, ⟨by repeat (first | (with_reducible first | exact HB.out | apply below_alloc | apply pw_below_drewN | apply below_drew1) | exact HB.out)⟩⟩
  case round =>
    clear H'
    obtain ⟨x2_1, x3_1, x11_1, rfl, HA, HK1, HO_2, HO_3, HB⟩ := hrel
    cases gk with
    | zero => exact absurd HA.out (by simp [chroma_SplitTokensIntoLines.l0])
    | succ k1 =>
      have H := HA.out
      clear HA
      simp only [chroma_SplitTokensIntoLines.l0] at H
      by_cases c2 : x11_1 < (l0.length : Int)
      · rw [if_pos c2] at H
        have c2b0 : decide (x11_1 < (l0.length : Int)) = true := decide_eq_true c2
        clear c2
        by_cases c3 : 0 ≤ x11_1
        · rw [if_pos c3] at H
          have c3b0 : decide (0 ≤ x11_1) = true := decide_eq_true c3
          clear c3
          by_cases c4 : x11_1 < (l0.length : Int)
          · rw [if_pos c4] at H
            have c4b0 : decide (x11_1 < (l0.length : Int)) = true := decide_eq_true c4
            clear c4
            have H' := Aside0.mk H
            clear H
            have p124 : 0 ≤ (x11_1 : Int) := of_decide_eq_true (by first | (with_reducible assumption) | assumption)
            have q124 : x11_1 < (l0.length : Int) := of_decide_eq_true (by first | (with_reducible assumption) | assumption)
            obtain ⟨ad124, e124, hx124_0, hx124_1⟩ := at_T51 HR0.out x11_1 p124 q124
            cases e124
            replace hx124_0 := (HB.out.cell (World.block_lt_of_cell? w _ hx124_0)).trans hx124_0
            replace hx124_1 := (HB.out.cell (World.block_lt_of_cell? w _ hx124_1)).trans hx124_1
            replace p124 := eq_true p124
            replace q124 := eq_true q124
            go_wp2_with (first | ((with_reducible refine gate_dst (N := 5) rfl ?_); refine box_event ?hg (N := 5) ?hd (cs := #[.int .i64 0, .string (⟨#[]⟩ : ByteArray)]) (t := 51) ?hr ?_; (case hd => rfl); (case hg => rfl); (case hr => first | (go_simp; done) | (go_simp; rfl)); intro gb125 hg w5 hbox hb; have n0_ := Aside0.mk (Kd.S_below (Kd.S_elderB (by (with_reducible repeat (first | apply Kd.S_alloc | apply Kd.S_drewN | apply Kd.S_drew)); exact HO_2.out) gb125 (Nat.le_of_eq hg.symm)) hb); have n1_ := Aside0.mk (Kd.R_below (Kd.R_elderB (by (with_reducible repeat (first | apply Kd.R_alloc | apply Kd.R_drewN | apply Kd.R_drew)); exact HO_3.out) gb125 (Nat.le_of_eq hg.symm)) hb); have n2_ := Aside0.mk (below_step (by repeat (first | (with_reducible first | exact HB.out | apply below_alloc | apply pw_below_drewN | apply below_drew1) | exact HB.out)) hb); have n3_ := Aside0.mk (hbox); have n4_ := Aside0.mk ((by rw [hg]; exact (below_size (by repeat (first | (with_reducible first | exact HB.out | apply below_alloc | apply pw_below_drewN | apply below_drew1) | exact HB.out))) : w.heap.size ≤ gb125)); have n5_ := Aside0.mk ((by rw [hg]; exact (below_size (by repeat (first | (with_reducible first | exact HB.out | apply below_alloc | apply pw_below_drewN | apply below_drew1) | exact HB.out))) : w.heap.size ≤ gb125)); clear HO_2; clear HO_3; clear HB; have HO_2 := n0_; have HO_3 := n1_; have HB := n2_; have BK125 := n3_; have GW125 := n4_; have GE125 := n5_; clear n0_ n1_ n2_ n3_ n4_ n5_; clear hb hbox hg; have hcz6_0 : w5.cell? ⟨gb125, 0, none⟩ = some (.int .i64 0) := (blk_cell BK125.out 0).trans rfl; have hcz6_1 : w5.cell? ⟨gb125, 1, none⟩ = some (.string (⟨#[]⟩ : ByteArray)) := (blk_cell BK125.out 1).trans rfl; have hfz6_0 := blk_frozen BK125.out 0; have hfz6_1 := blk_frozen BK125.out 1))
            go_loopg [2, 3] k1 (fun kq v2 v3 w' => ∃ (x2_2 : List (List (S51))) (x3_2 : List (S51)) (x126001_2 : ByteArray), Aside0 (chroma_SplitTokensIntoLines.l1 kq x2_2 x3_2 l0 (l0.length : Int) x11_1 ((rd_T51 l0 x11_1).f0) x126001_2 = some r) ∧ Aside0 (kq ≤ k1) ∧ Aside0 (Kd.S (Kd.slice 51 k51) 52 w' w.heap.size (fun k_ => some k_ ≠ (v3 : Value).ownBlock ∧ k_ ≠ gb125) v2 x2_2) ∧ Aside0 (Kd.R k51 51 w' w.heap.size (fun k_ => k_ ≠ gb125) v3 x3_2) ∧ Aside0 (w'.heap[gb125]? = some (.cells #[.int .i64 ((rd_T51 l0 x11_1).f0), .string x126001_2] 51 (0, 0))) ∧ Aside0 (Below w.heap.size w w'))
            case atStart => exact ⟨(x2_1), (x3_1), ((rd_T51 l0 x11_1).f1), H', ⟨Nat.le_refl _⟩, ⟨by (with_reducible repeat (first | apply Kd.S_alloc | apply Kd.S_drewN | apply Kd.S_drew)); exact Kd.S_mono (Kd.S_far (p := ⟨gb125, 1, none⟩) (Kd.S_far (p := ⟨gb125, 0, none⟩) (Kd.S_mono HO_2.out (fun k_ hk => (⟨hk, hk.2⟩ : _ ∧ k_ ≠ gb125))) (fun _ hk => hk.2) (.int .i64 ((rd_T51 l0 x11_1).f0))) (fun _ hk => hk.2) (.string ((rd_T51 l0 x11_1).f1))) (fun _ hk => ⟨hk.1.1, hk.1.2⟩)⟩, ⟨by (with_reducible repeat (first | apply Kd.R_alloc | apply Kd.R_drewN | apply Kd.R_drew)); exact Kd.R_mono (Kd.R_far (p := ⟨gb125, 1, none⟩) (Kd.R_far (p := ⟨gb125, 0, none⟩) (Kd.R_mono HO_3.out (fun k_ hk => (⟨hk, hk.2⟩ : _ ∧ k_ ≠ gb125))) (fun _ hk => hk.2) (.int .i64 ((rd_T51 l0 x11_1).f0))) (fun _ hk => hk.2) (.string ((rd_T51 l0 x11_1).f1))) (fun _ hk => hk.1.2)⟩, ⟨by (with_reducible repeat (first | refine blk_drewN ?_ _ | refine blk_drew ?_ | refine blk_alloc ?_ _)); refine blk_put (cs := #[.int .i64 ((rd_T51 l0 x11_1).f0), .string (⟨#[]⟩ : ByteArray)]) ?_ 1 _ rfl; (with_reducible repeat (first | refine blk_drewN ?_ _ | refine blk_drew ?_ | refine blk_alloc ?_ _)); refine blk_put (cs := #[.int .i64 0, .string (⟨#[]⟩ : ByteArray)]) ?_ 0 _ rfl; (with_reducible repeat (first | refine blk_drewN ?_ _ | refine blk_drew ?_ | refine blk_alloc ?_ _)); exact BK125.out⟩, ⟨by repeat (first | (with_reducible first | exact HB.out | apply below_alloc | apply pw_below_drewN | apply below_drew1 | refine below_set ?_ GE125.out) | exact HB.out)⟩⟩
            case round =>
              clear H'
              try clear p1
              try clear q1
              try clear hx1
              try clear c2
              try clear c2b0
              try clear p2
              try clear c3
              try clear c3b0
              try clear p3
              try clear c4
              try clear c4b0
              try clear hcz6_0
              try clear hcz6_1
              try clear hfz6_0
              try clear hfz6_1
              try clear hx124_0
              try clear hx124_1
              try clear p124
              try clear q124
              obtain ⟨x2_2, x3_2, x126001_2, HA, HK2, HO_2, HO_3, BK125, HB⟩ := hrel
              cases gk with
              | zero => exact absurd HA.out (by simp [chroma_SplitTokensIntoLines.l1])
              | succ k2 =>
                have H := HA.out
                clear HA
                simp only [chroma_SplitTokensIntoLines.l1] at H
                replace H := Option.bind_eq_some_iff.mp H
                obtain ⟨t126, A70, H⟩ := H
                replace H : (if t126 = true then ((chroma_zzSplitAfter.f k2 x126001_2 (⟨#[10]⟩ : ByteArray)).bind fun t130 => (if 1 < (t130.length : Int) then ((chroma_Token_Clone.f ((rd_T51 l0 x11_1).f0) (rdOf ByteArray.empty t130 1)).bind fun bt134 => (if 0 < (t130.length : Int) then (if x3_2.length < 5864062014805 then (if x2_2.length < 5864062014805 then ((some (x2_2 ++ [(x3_2 ++ [(⟨bt134.1, rdOf ByteArray.empty t130 0⟩ : S51)])] : List (List (S51)))).bind fun y141 => (if ((rdOf ByteArray.empty t130 1).size : Int) = 0 then (chroma_SplitTokensIntoLines.l0 k2 y141 ([] : List (S51)) l0 (l0.length : Int) (wrap64 (x11_1 + 1))) else (chroma_SplitTokensIntoLines.l1 k2 y141 ([] : List (S51)) l0 (l0.length : Int) x11_1 ((rd_T51 l0 x11_1).f0) (rdOf ByteArray.empty t130 1)))) else (none)) else (none)) else (none))) else (none))) else (if x3_2.length < 5864062014805 then (chroma_SplitTokensIntoLines.l0 k2 x2_2 (x3_2 ++ [(⟨((rd_T51 l0 x11_1).f0), x126001_2⟩ : S51)]) l0 (l0.length : Int) (wrap64 (x11_1 + 1))) else (none))) = some r := H
                have A7 := Aside0.mk A70
                clear A70
                by_cases c8 : t126 = true
                · subst c8
                  have H1 : ((chroma_zzSplitAfter.f k2 x126001_2 (⟨#[10]⟩ : ByteArray)).bind fun t130 => (if 1 < (t130.length : Int) then ((chroma_Token_Clone.f ((rd_T51 l0 x11_1).f0) (rdOf ByteArray.empty t130 1)).bind fun bt134 => (if 0 < (t130.length : Int) then (if x3_2.length < 5864062014805 then (if x2_2.length < 5864062014805 then ((some (x2_2 ++ [(x3_2 ++ [(⟨bt134.1, rdOf ByteArray.empty t130 0⟩ : S51)])] : List (List (S51)))).bind fun y141 => (if ((rdOf ByteArray.empty t130 1).size : Int) = 0 then (chroma_SplitTokensIntoLines.l0 k2 y141 ([] : List (S51)) l0 (l0.length : Int) (wrap64 (x11_1 + 1))) else (chroma_SplitTokensIntoLines.l1 k2 y141 ([] : List (S51)) l0 (l0.length : Int) x11_1 ((rd_T51 l0 x11_1).f0) (rdOf ByteArray.empty t130 1)))) else (none)) else (none)) else (none))) else (none))) = some r := by rw [if_pos rfl] at H; exact H
                  clear H
                  have H := H1
                  clear H1
                  replace H := Option.bind_eq_some_iff.mp H
                  obtain ⟨t130, A90, H⟩ := H
                  replace H : (if 1 < (t130.length : Int) then ((chroma_Token_Clone.f ((rd_T51 l0 x11_1).f0) (rdOf ByteArray.empty t130 1)).bind fun bt134 => (if 0 < (t130.length : Int) then (if x3_2.length < 5864062014805 then (if x2_2.length < 5864062014805 then ((some (x2_2 ++ [(x3_2 ++ [(⟨bt134.1, rdOf ByteArray.empty t130 0⟩ : S51)])] : List (List (S51)))).bind fun y141 => (if ((rdOf ByteArray.empty t130 1).size : Int) = 0 then (chroma_SplitTokensIntoLines.l0 k2 y141 ([] : List (S51)) l0 (l0.length : Int) (wrap64 (x11_1 + 1))) else (chroma_SplitTokensIntoLines.l1 k2 y141 ([] : List (S51)) l0 (l0.length : Int) x11_1 ((rd_T51 l0 x11_1).f0) (rdOf ByteArray.empty t130 1)))) else (none)) else (none)) else (none))) else (none)) = some r := H
                  have A9 := Aside0.mk A90
                  clear A90
                  by_cases c10 : 1 < (t130.length : Int)
                  · rw [if_pos c10] at H
                    have c10b0 : decide (1 < (t130.length : Int)) = true := decide_eq_true c10
                    have c10b1 : decide (1 < t130.length) = true := decide_eq_true (by omega)
                    clear c10
                    replace H := Option.bind_eq_some_iff.mp H
                    obtain ⟨⟨t134, t135⟩, A110, H⟩ := H
                    replace H : (if 0 < (t130.length : Int) then (if x3_2.length < 5864062014805 then (if x2_2.length < 5864062014805 then ((some (x2_2 ++ [(x3_2 ++ [(⟨t134, rdOf ByteArray.empty t130 0⟩ : S51)])] : List (List (S51)))).bind fun y141 => (if ((rdOf ByteArray.empty t130 1).size : Int) = 0 then (chroma_SplitTokensIntoLines.l0 k2 y141 ([] : List (S51)) l0 (l0.length : Int) (wrap64 (x11_1 + 1))) else (chroma_SplitTokensIntoLines.l1 k2 y141 ([] : List (S51)) l0 (l0.length : Int) x11_1 ((rd_T51 l0 x11_1).f0) (rdOf ByteArray.empty t130 1)))) else (none)) else (none)) else (none)) = some r := H
                    have A11 := Aside0.mk A110
                    clear A110
                    by_cases c12 : 0 < (t130.length : Int)
                    · rw [if_pos c12] at H
                      have c12b0 : decide (0 < (t130.length : Int)) = true := decide_eq_true c12
                      have c12b1 : decide (0 < t130.length) = true := decide_eq_true (by omega)
                      clear c12
                      by_cases c13 : x3_2.length < 5864062014805
                      · rw [if_pos c13] at H
                        have LMc13 := Aside0.mk c13
                        clear c13
                        obtain ⟨y138, hy138⟩ : ∃ y_ : List (S51), y_ = (x3_2 ++ [(⟨t134, rdOf ByteArray.empty t130 0⟩ : S51)]) := ⟨_, rfl⟩
                        replace H : (if x2_2.length < 5864062014805 then ((some (x2_2 ++ [y138] : List (List (S51)))).bind fun y141 => (if ((rdOf ByteArray.empty t130 1).size : Int) = 0 then (chroma_SplitTokensIntoLines.l0 k2 y141 ([] : List (S51)) l0 (l0.length : Int) (wrap64 (x11_1 + 1))) else (chroma_SplitTokensIntoLines.l1 k2 y141 ([] : List (S51)) l0 (l0.length : Int) x11_1 ((rd_T51 l0 x11_1).f0) (rdOf ByteArray.empty t130 1)))) else (none)) = some r := by first | (rw [hy138]; with_reducible exact H) | (have H2_ := (Option.bind_some _ _).symm.trans H; rw [hy138]; with_reducible exact H2_) | (have H2_ := (Option.bind_some _ _).symm.trans H; with_reducible exact H2_) | with_reducible exact H | (rw [hy138]; exact H) | exact H
                        have Ny138 := Aside0.mk hy138
                        clear hy138
                        by_cases c14 : x2_2.length < 5864062014805
                        · rw [if_pos c14] at H
                          have LMc14 := Aside0.mk c14
                          clear c14
                          obtain ⟨y141, hy141⟩ : ∃ y_ : List (List (S51)), y_ = (x2_2 ++ [y138]) := ⟨_, rfl⟩
                          replace H : (if ((rdOf ByteArray.empty t130 1).size : Int) = 0 then (chroma_SplitTokensIntoLines.l0 k2 y141 ([] : List (S51)) l0 (l0.length : Int) (wrap64 (x11_1 + 1))) else (chroma_SplitTokensIntoLines.l1 k2 y141 ([] : List (S51)) l0 (l0.length : Int) x11_1 ((rd_T51 l0 x11_1).f0) (rdOf ByteArray.empty t130 1))) = some r := by first | (rw [hy141]; with_reducible exact H) | (have H2_ := (Option.bind_some _ _).symm.trans H; rw [hy141]; with_reducible exact H2_) | (have H2_ := (Option.bind_some _ _).symm.trans H; with_reducible exact H2_) | with_reducible exact H | (rw [hy141]; exact H) | exact H
                          have Ny141 := Aside0.mk hy141
                          clear hy141
                          by_cases c15 : ((rdOf ByteArray.empty t130 1).size : Int) = 0
                          · rw [if_pos c15] at H
                            have c15b0 : (((rdOf ByteArray.empty t130 1).size : Int) == 0) = true := beq_iff_eq.mpr c15
                            have c15b1 : (((rdOf ByteArray.empty t130 1).size : Int) != 0) = false := bne_eq_false_iff_eq.mpr c15
                            clear c15
                            have H' := Aside0.mk H
                            clear H
                            have hcz16_0 : wr.cell? ⟨gb125, 0, none⟩ = some (.int .i64 ((rd_T51 l0 x11_1).f0)) := (blk_cell BK125.out 0).trans rfl
                            have hcz16_1 : wr.cell? ⟨gb125, 1, none⟩ = some (.string x126001_2) := (blk_cell BK125.out 1).trans rfl
                            have hfz16_0 := blk_frozen BK125.out 0
                            have hfz16_1 := blk_frozen BK125.out 1
                            go_wp2_with (first | ((with_reducible refine gate_callee (f := 28) rfl ?_); refine goesL_ (some 17) rfl rfl Tryd.func28 (by kernel_rfl) rfl #[.string x126001_2, .string (⟨#[10]⟩ : ByteArray)] rfl (by (try simp only [List.map_toArray, List.map_cons, List.map_nil]); first | done | rfl | (simp only [List.length_drop, List.length_take]; rfl)) ?_; (with_reducible refine (chroma_zzContains.calls k2 x126001_2 (⟨#[10]⟩ : ByteArray) true _ A7.out).mono ?_); rintro e w' ⟨rfl, ⟨nd, rfl⟩⟩; refine ⟨_, rfl, ?_⟩; (try (rw [drewN_self wr]; generalize hq_ : World.drewN wr _ = wr; have n0_ : Aside0 (Kd.S (Kd.slice 51 k51) 52 wr w.heap.size (fun k_ => some k_ ≠ (u3 : Value).ownBlock ∧ k_ ≠ gb125) u2 x2_2) := ⟨by rw [← hq_]; exact (by (with_reducible repeat (first | apply Kd.S_alloc | apply Kd.S_drewN | apply Kd.S_drew)); exact HO_2.out)⟩; have n1_ : Aside0 (Kd.R k51 51 wr w.heap.size (fun k_ => k_ ≠ gb125) u3 x3_2) := ⟨by rw [← hq_]; exact (by (with_reducible repeat (first | apply Kd.R_alloc | apply Kd.R_drewN | apply Kd.R_drew)); exact HO_3.out)⟩; have n2_ : Aside0 (wr.heap[gb125]? = some (.cells #[.int .i64 ((rd_T51 l0 x11_1).f0), .string x126001_2] 51 (0, 0))) := ⟨by rw [← hq_]; exact (by (with_reducible repeat (first | refine blk_drewN ?_ _ | refine blk_drew ?_ | refine blk_alloc ?_ _)); exact BK125.out)⟩; have n3_ : Aside0 (Below w.heap.size w wr) := ⟨by rw [← hq_]; exact (by repeat (first | (with_reducible first | exact HB.out | apply below_alloc | apply pw_below_drewN | apply below_drew1 | refine below_set ?_ GE125.out) | exact HB.out))⟩; clear HO_2 HO_3 BK125 HB hq_; have HO_2 := n0_; have HO_3 := n1_; have BK125 := n2_; have HB := n3_; clear n0_ n1_ n2_ n3_)); have hcz17_0 : wr.cell? ⟨gb125, 0, none⟩ = some (.int .i64 ((rd_T51 l0 x11_1).f0)) := (blk_cell BK125.out 0).trans rfl; have hcz17_1 : wr.cell? ⟨gb125, 1, none⟩ = some (.string x126001_2) := (blk_cell BK125.out 1).trans rfl; have hfz17_0 := blk_frozen BK125.out 0; have hfz17_1 := blk_frozen BK125.out 1) | ((with_reducible refine gate_callee (f := 29) rfl ?_); refine goesL_ (some 20) rfl rfl Tryd.func29 (by kernel_rfl) rfl #[.string x126001_2, .string (⟨#[10]⟩ : ByteArray)] rfl (by (try simp only [List.map_toArray, List.map_cons, List.map_nil]); first | done | rfl | (simp only [List.length_drop, List.length_take]; rfl)) ?_; (with_reducible refine (chroma_zzSplitAfter.calls k2 x126001_2 (⟨#[10]⟩ : ByteArray) t130 _ A9.out).mono ?_); rintro e w18 ⟨v131, rfl, ho0, hb⟩; refine ⟨_, rfl, ?_⟩; have n0_ := Aside0.mk (Kd.S_below (by (with_reducible repeat (first | apply Kd.S_alloc | apply Kd.S_drewN | apply Kd.S_drew)); exact HO_2.out) hb); have n1_ := Aside0.mk (Kd.R_below (by (with_reducible repeat (first | apply Kd.R_alloc | apply Kd.R_drewN | apply Kd.R_drew)); exact HO_3.out) hb); have n2_ := Aside0.mk (Kd.R_lower ho0 (below_size (by repeat (first | (with_reducible first | exact HB.out | apply below_alloc | apply pw_below_drewN | apply below_drew1 | refine below_set ?_ GE125.out) | exact HB.out)))); have n3_ := Aside0.mk (blk_below (g := gb125) (o := .cells #[.int .i64 ((rd_T51 l0 x11_1).f0), .string x126001_2] 51 (0, 0)) (by (with_reducible repeat (first | refine blk_drewN ?_ _ | refine blk_drew ?_ | refine blk_alloc ?_ _)); exact BK125.out) hb); have n4_ := Aside0.mk (below_step (by repeat (first | (with_reducible first | exact HB.out | apply below_alloc | apply pw_below_drewN | apply below_drew1 | refine below_set ?_ GE125.out) | exact HB.out)) hb); clear HO_2; clear HO_3; clear BK125; clear HB; have HO_2 := n0_; have HO_3 := n1_; have HO132 := n2_; have BK125 := n3_; have HB := n4_; clear n0_ n1_ n2_ n3_ n4_; (try clear hb); (try clear hb2); (try clear hk); (try clear hi); (try clear ho0); obtain ⟨Ao19, co19, eo19⟩ := Kd.R_slice HO132.out; subst eo19; have p133 : 0 ≤ (1 : Int) := (by omega); have q133 : 1 < (t130.length : Int) := of_decide_eq_true (by first | (with_reducible assumption) | assumption); obtain ⟨ad133, e133, hx133_0⟩ := Kd.at_string (Kd.R_reads' HO132.out).2.2 1 p133 q133; cases e133; (try simp only [show (1 : Int).toNat = 1 from rfl, Nat.reduceMul, Nat.reduceEqDiff, Go.Addr.add, ↓reduceIte] at hx133_0); have qi133 : (1 < t130.length) = True := eq_true (by omega); (try rw [show ((1 : Int)).toNat = 1 from rfl] at hx133_0); replace p133 := eq_true p133; replace q133 := eq_true q133; have hcz20_0 : w18.cell? ⟨gb125, 0, none⟩ = some (.int .i64 ((rd_T51 l0 x11_1).f0)) := (blk_cell BK125.out 0).trans rfl; have hcz20_1 : w18.cell? ⟨gb125, 1, none⟩ = some (.string x126001_2) := (blk_cell BK125.out 1).trans rfl; have hfz20_0 := blk_frozen BK125.out 0; have hfz20_1 := blk_frozen BK125.out 1) | ((with_reducible refine gate_callee (f := 30) rfl ?_); refine goesL_ (some 25) rfl rfl Tryd.func30 (by kernel_rfl) rfl #[.pointer (some ⟨gb125, 0, none⟩)] rfl (by (try simp only [List.map_toArray, List.map_cons, List.map_nil]); first | done | rfl | (simp only [List.length_drop, List.length_take]; rfl)) ?_; (with_reducible refine (chroma_Token_Clone.calls gb125 ((rd_T51 l0 x11_1).f0) (rdOf ByteArray.empty t130 1) t134 t135 _ ?side1 A11.out).mono ?_); (case side1 => (with_reducible repeat (first | refine blk_drewN ?_ _ | refine blk_drew ?_ | refine blk_alloc ?_ _)); refine blk_put (cs := #[.int .i64 ((rd_T51 l0 x11_1).f0), .string x126001_2]) ?_ 1 _ rfl; (with_reducible repeat (first | refine blk_drewN ?_ _ | refine blk_drew ?_ | refine blk_alloc ?_ _)); exact BK125.out); rintro e w21 ⟨rfl, hb⟩; refine ⟨_, rfl, ?_⟩; have n0_ := Aside0.mk (Kd.S_below (by (with_reducible repeat (first | apply Kd.S_alloc | apply Kd.S_drewN | apply Kd.S_drew)); exact (Kd.S_mono (Kd.S_far (p := ⟨gb125, 1, none⟩) (Kd.S_mono HO_2.out (fun k_ hk => (⟨hk, hk.2⟩ : _ ∧ k_ ≠ gb125))) (fun _ hk => hk.2) (.string (rdOf ByteArray.empty t130 1))) (fun _ h_ => h_.1))) hb); have n1_ := Aside0.mk (Kd.R_below (by (with_reducible repeat (first | apply Kd.R_alloc | apply Kd.R_drewN | apply Kd.R_drew)); exact (Kd.R_mono (Kd.R_far (p := ⟨gb125, 1, none⟩) (Kd.R_mono HO_3.out (fun k_ hk => (⟨hk, hk⟩ : _ ∧ k_ ≠ gb125))) (fun _ hk => hk.2) (.string (rdOf ByteArray.empty t130 1))) (fun _ h_ => h_.1))) hb); have n2_ := Aside0.mk (Kd.R_below (by (with_reducible repeat (first | apply Kd.R_alloc | apply Kd.R_drewN | apply Kd.R_drew)); exact (Kd.R_mono (Kd.R_far (p := ⟨gb125, 1, none⟩) (Kd.R_types HO132.out BK125.out (by decide)) (fun _ hk => hk.2) (.string (rdOf ByteArray.empty t130 1))) (fun _ h_ => h_.1))) hb); have n3_ := Aside0.mk (blk_below (g := gb125) (o := .cells #[.int .i64 ((rd_T51 l0 x11_1).f0), .string (rdOf ByteArray.empty t130 1)] 51 (0, 0)) (by (with_reducible repeat (first | refine blk_drewN ?_ _ | refine blk_drew ?_ | refine blk_alloc ?_ _)); refine blk_put (cs := #[.int .i64 ((rd_T51 l0 x11_1).f0), .string x126001_2]) ?_ 1 _ rfl; (with_reducible repeat (first | refine blk_drewN ?_ _ | refine blk_drew ?_ | refine blk_alloc ?_ _)); exact BK125.out) hb); have n4_ := Aside0.mk (below_step (by repeat (first | (with_reducible first | exact HB.out | apply below_alloc | apply pw_below_drewN | apply below_drew1 | refine below_set ?_ GE125.out) | exact HB.out)) hb); clear HO_2; clear HO_3; clear HO132; clear BK125; clear HB; have HO_2 := n0_; have HO_3 := n1_; have HO132 := n2_; have BK125 := n3_; have HB := n4_; clear n0_ n1_ n2_ n3_ n4_; (try clear hb); (try clear hb2); (try clear hk); (try clear hi)) | ((with_reducible refine gate_dst (N := 7) rfl ?_); refine box_event ?hg (N := 7) ?hd (cs := #[.int .i64 0, .string (⟨#[]⟩ : ByteArray)]) (t := 51) ?hr ?_; (case hd => rfl); (case hg => rfl); (case hr => first | (go_simp; done) | (go_simp; rfl)); intro gb136 hg w22 hbox hb; have n0_ := Aside0.mk (Kd.S_below (Kd.S_elderB (by (with_reducible repeat (first | apply Kd.S_alloc | apply Kd.S_drewN | apply Kd.S_drew)); exact HO_2.out) gb136 (Nat.le_of_eq hg.symm)) hb); have n1_ := Aside0.mk (Kd.R_below (Kd.R_elderB (by (with_reducible repeat (first | apply Kd.R_alloc | apply Kd.R_drewN | apply Kd.R_drew)); exact HO_3.out) gb136 (Nat.le_of_eq hg.symm)) hb); have n2_ := Aside0.mk (Kd.R_below (by (with_reducible repeat (first | apply Kd.R_alloc | apply Kd.R_drewN | apply Kd.R_drew)); exact HO132.out) hb); have n3_ := Aside0.mk (blk_below (g := gb125) (o := .cells #[.int .i64 ((rd_T51 l0 x11_1).f0), .string (rdOf ByteArray.empty t130 1)] 51 (0, 0)) (by (with_reducible repeat (first | refine blk_drewN ?_ _ | refine blk_drew ?_ | refine blk_alloc ?_ _)); exact BK125.out) hb); have n4_ := Aside0.mk (below_step (by repeat (first | (with_reducible first | exact HB.out | apply below_alloc | apply pw_below_drewN | apply below_drew1 | refine below_set ?_ GE125.out) | exact HB.out)) hb); have n5_ := Aside0.mk (hbox); have n6_ := Aside0.mk ((by rw [hg]; exact (below_size (by repeat (first | (with_reducible first | exact HB.out | apply below_alloc | apply pw_below_drewN | apply below_drew1 | refine below_set ?_ GE125.out) | exact HB.out))) : w.heap.size ≤ gb136)); have n7_ := Aside0.mk ((by rw [hg]; exact (below_size (by repeat (first | (with_reducible first | exact HB.out | apply below_alloc | apply pw_below_drewN | apply below_drew1 | refine below_set ?_ GE125.out) | exact HB.out))) : w.heap.size ≤ gb136)); have n8_ := Aside0.mk ((by rw [hg]; exact Nat.ne_of_lt (blk_lt (g := gb125) (o := .cells #[.int .i64 ((rd_T51 l0 x11_1).f0), .string (rdOf ByteArray.empty t130 1)] 51 (0, 0)) (by (with_reducible repeat (first | refine blk_drewN ?_ _ | refine blk_drew ?_ | refine blk_alloc ?_ _)); exact BK125.out)) : gb125 ≠ gb136)); have n9_ := Aside0.mk ((by rw [hg]; exact Nat.ne_of_gt (blk_lt (g := gb125) (o := .cells #[.int .i64 ((rd_T51 l0 x11_1).f0), .string (rdOf ByteArray.empty t130 1)] 51 (0, 0)) (by (with_reducible repeat (first | refine blk_drewN ?_ _ | refine blk_drew ?_ | refine blk_alloc ?_ _)); exact BK125.out)) : gb136 ≠ gb125)); clear HO_2; clear HO_3; clear HO132; clear BK125; clear HB; have HO_2 := n0_; have HO_3 := n1_; have HO132 := n2_; have BK125 := n3_; have HB := n4_; have BK136 := n5_; have GW136 := n6_; have GE136 := n7_; have NB125_136 := n8_; have NB136_125 := n9_; clear n0_ n1_ n2_ n3_ n4_ n5_ n6_ n7_ n8_ n9_; clear hb hbox hg; have hnb23 := NB136_125.out; have hnc23 := NB125_136.out; have hcz24_0 : w22.cell? ⟨gb136, 0, none⟩ = some (.int .i64 0) := (blk_cell BK136.out 0).trans rfl; have hcz24_1 : w22.cell? ⟨gb136, 1, none⟩ = some (.string (⟨#[]⟩ : ByteArray)) := (blk_cell BK136.out 1).trans rfl; have hfz24_0 := blk_frozen BK136.out 0; have hfz24_1 := blk_frozen BK136.out 1) | ((with_reducible refine gate_store (t := 51) (p := 7) rfl ?_); refine store_event (t := 51) (p := 7) (v := ?vo_w25) (w1 := ((w22.setCell ⟨gb136, 0, none⟩ (.int .i64 t134)).setCell ⟨gb136, 1, none⟩ (.string t135))) ?hg ?ho ?hn ?hr ?_; (case ho => rfl); (case hg => rfl); (case hn => rfl); (case hr => first | (go_simp; done) | (go_simp; rfl)); intro w25 hw; have n0_ : Aside0 (Kd.S (Kd.slice 51 k51) 52 w25 w.heap.size (fun k_ => some k_ ≠ (u3 : Value).ownBlock ∧ k_ ≠ gb125 ∧ k_ ≠ gb136) u2 x2_2) := ⟨(by rw [hw]; exact (by (with_reducible repeat (first | apply Kd.S_alloc | apply Kd.S_drewN | apply Kd.S_drew)); exact Kd.S_mono (Kd.S_far (p := ⟨gb136, 1, none⟩) (Kd.S_far (p := ⟨gb136, 0, none⟩) (Kd.S_mono HO_2.out (fun k_ hk => (⟨hk, hk.2⟩ : _ ∧ k_ ≠ gb136))) (fun _ hk => hk.2) (.int .i64 t134)) (fun _ hk => hk.2) (.string t135)) (fun _ hk => ⟨hk.1.1.1, ⟨hk.1.1.2, hk.1.2⟩⟩)))⟩; have n1_ : Aside0 (Kd.R k51 51 w25 w.heap.size (fun k_ => k_ ≠ gb125 ∧ k_ ≠ gb136) u3 x3_2) := ⟨(by rw [hw]; exact (by (with_reducible repeat (first | apply Kd.R_alloc | apply Kd.R_drewN | apply Kd.R_drew)); exact Kd.R_mono (Kd.R_far (p := ⟨gb136, 1, none⟩) (Kd.R_far (p := ⟨gb136, 0, none⟩) (Kd.R_mono HO_3.out (fun k_ hk => (⟨hk, hk.2⟩ : _ ∧ k_ ≠ gb136))) (fun _ hk => hk.2) (.int .i64 t134)) (fun _ hk => hk.2) (.string t135)) (fun _ hk => ⟨hk.1.1, hk.1.2⟩)))⟩; have n2_ : Aside0 (Kd.R Kd.string 9 w25 w.heap.size (fun _ => True) (.slice (some ad133) t130.length co19) t130) := ⟨(by rw [hw]; exact (by (with_reducible repeat (first | apply Kd.R_alloc | apply Kd.R_drewN | apply Kd.R_drew)); exact Kd.R_mono (Kd.R_far (p := ⟨gb136, 1, none⟩) (Kd.R_far (p := ⟨gb136, 0, none⟩) (Kd.R_types HO132.out BK136.out (by decide)) (fun _ hk => hk.2) (.int .i64 t134)) (fun _ hk => hk.2) (.string t135)) (fun _ hk => trivial)))⟩; have n3_ : Aside0 (w25.heap[gb125]? = some (.cells #[.int .i64 ((rd_T51 l0 x11_1).f0), .string (rdOf ByteArray.empty t130 1)] 51 (0, 0))) := ⟨(by rw [hw]; exact (by (with_reducible repeat (first | refine blk_drewN ?_ _ | refine blk_drew ?_ | refine blk_alloc ?_ _)); refine blk_far ?_ NB125_136.out _; (with_reducible repeat (first | refine blk_drewN ?_ _ | refine blk_drew ?_ | refine blk_alloc ?_ _)); refine blk_far ?_ NB125_136.out _; (with_reducible repeat (first | refine blk_drewN ?_ _ | refine blk_drew ?_ | refine blk_alloc ?_ _)); exact BK125.out))⟩; have n4_ : Aside0 (w25.heap[gb136]? = some (.cells #[.int .i64 t134, .string t135] 51 (0, 0))) := ⟨(by rw [hw]; exact (by (with_reducible repeat (first | refine blk_drewN ?_ _ | refine blk_drew ?_ | refine blk_alloc ?_ _)); refine blk_put (cs := #[.int .i64 t134, .string (⟨#[]⟩ : ByteArray)]) ?_ 1 _ rfl; (with_reducible repeat (first | refine blk_drewN ?_ _ | refine blk_drew ?_ | refine blk_alloc ?_ _)); refine blk_put (cs := #[.int .i64 0, .string (⟨#[]⟩ : ByteArray)]) ?_ 0 _ rfl; (with_reducible repeat (first | refine blk_drewN ?_ _ | refine blk_drew ?_ | refine blk_alloc ?_ _)); exact BK136.out))⟩; have n5_ : Aside0 (Below w.heap.size w w25) := ⟨(by rw [hw]; exact (by repeat (first | (with_reducible first | exact HB.out | apply below_alloc | apply pw_below_drewN | apply below_drew1 | refine below_set ?_ GE125.out | refine below_set ?_ GE136.out) | exact HB.out)))⟩; clear hw; clear HO_2; clear HO_3; clear HO132; clear BK125; clear BK136; clear HB; have HO_2 := n0_; have HO_3 := n1_; have HO132 := n2_; have BK125 := n3_; have BK136 := n4_; have HB := n5_; clear n0_ n1_ n2_ n3_ n4_ n5_; have p137 : 0 ≤ (0 : Int) := (by omega); have q137 : 0 < (t130.length : Int) := of_decide_eq_true (by first | (with_reducible assumption) | assumption); obtain ⟨ad137, e137, hx137_0⟩ := Kd.at_string (Kd.R_reads' HO132.out).2.2 0 p137 q137; obtain rfl : ad133 = ad137 := (by injection e137); have qi137 : (0 < t130.length) = True := eq_true (by omega); (try rw [show ((0 : Int)).toNat = 0 from rfl] at hx137_0); (try rw [Addr.add_zero'] at hx137_0); replace p137 := eq_true p137; replace q137 := eq_true q137; have hcz26_0 : w25.cell? ⟨gb136, 0, none⟩ = some (.int .i64 t134) := (blk_cell BK136.out 0).trans rfl; have hcz26_1 : w25.cell? ⟨gb136, 1, none⟩ = some (.string t135) := (blk_cell BK136.out 1).trans rfl; have hfz26_0 := blk_frozen BK136.out 0; have hfz26_1 := blk_frozen BK136.out 1) | ((with_reducible refine gate_builtin (b := .append) (xs := #[.tmp 30, .tmp 32]) rfl ?_); at_builtin; refine Kd.R_append k51 (w0 := w) w.heap.size rfl (.tmp 30) (.tmp 32) 52 51 (.agg #[(.int .i64 0), (.string ⟨#[]⟩)]) 24 rfl Tryd.underlying52 info51 rfl (by decide) (by omega) u3 x3_2 (⟨t134, rdOf ByteArray.empty t130 0⟩ : S51) [.int .i64 t134, .string (rdOf ByteArray.empty t130 0)] (fun k_ => k_ ≠ gb125 ∧ k_ ≠ gb136) (fun _ => False) rfl (by first | (go_simp; done) | (go_simp; rfl)) ?aP (fun _ hk => hk.elim) ?aF ?aO ?aB ?aS ?aL ?_; (case aP => exact k51_mkM _ _ _ (⟨t134, rdOf ByteArray.empty t130 0⟩ : S51)); (case aB => exact (by repeat (first | (with_reducible first | exact HB.out | apply below_alloc | apply pw_below_drewN | apply below_drew1 | refine below_set ?_ GE125.out | refine below_set ?_ GE136.out) | exact HB.out))); (case aF => exact (fun k_ hk => ⟨Kd.freshB (g := gb125) (o := .cells #[.int .i64 ((rd_T51 l0 x11_1).f0), .string (rdOf ByteArray.empty t130 1)] 51 (0, 0)) (by (with_reducible repeat (first | refine blk_drewN ?_ _ | refine blk_drew ?_ | refine blk_alloc ?_ _)); refine blk_far ?_ NB125_136.out _; (with_reducible repeat (first | refine blk_drewN ?_ _ | refine blk_drew ?_ | refine blk_alloc ?_ _)); exact BK125.out) k_ hk, Kd.freshB (g := gb136) (o := .cells #[.int .i64 t134, .string (rdOf ByteArray.empty t130 0)] 51 (0, 0)) (by (with_reducible repeat (first | refine blk_drewN ?_ _ | refine blk_drew ?_ | refine blk_alloc ?_ _)); refine blk_put (cs := #[.int .i64 t134, .string t135]) ?_ 1 _ rfl; (with_reducible repeat (first | refine blk_drewN ?_ _ | refine blk_drew ?_ | refine blk_alloc ?_ _)); exact BK136.out) k_ hk⟩)); (case aO => exact (by (with_reducible repeat (first | apply Kd.R_alloc | apply Kd.R_drewN | apply Kd.R_drew)); exact Kd.R_mono (Kd.R_far (p := ⟨gb136, 1, none⟩) (Kd.R_mono HO_3.out (fun k_ hk => (⟨hk, hk.2⟩ : _ ∧ k_ ≠ gb136))) (fun _ hk => hk.2) (.string (rdOf ByteArray.empty t130 0))) (fun _ hk => ⟨hk.1.1, hk.1.2⟩))); (case aS => exact (below_size (by repeat (first | (with_reducible first | exact HB.out | apply below_alloc | apply pw_below_drewN | apply below_drew1 | refine below_set ?_ GE125.out | refine below_set ?_ GE136.out) | exact HB.out)))); (case aL => have := LMc13.out; omega); intro v139 w27 ho hb hg hat; rw [← Ny138.out] at ho; have n0_ := Aside0.mk (Kd.S_after (ok := (fun k_ => k_ ≠ gb125 ∧ k_ ≠ gb136)) (by (with_reducible repeat (first | apply Kd.S_alloc | apply Kd.S_drewN | apply Kd.S_drew)); exact Kd.S_mono (Kd.S_far (p := ⟨gb136, 1, none⟩) (Kd.S_mono HO_2.out (fun k_ hk => (⟨hk, hk.2.2⟩ : _ ∧ k_ ≠ gb136))) (fun _ hk => hk.2) (.string (rdOf ByteArray.empty t130 0))) (fun _ hk => ⟨⟨hk.1.2.1, hk.1.2.2⟩, hk.1.1⟩)) hg hat); have n1_ := Aside0.mk (blk_grown (g := gb125) (o := .cells #[.int .i64 ((rd_T51 l0 x11_1).f0), .string (rdOf ByteArray.empty t130 1)] 51 (0, 0)) (by (with_reducible repeat (first | refine blk_drewN ?_ _ | refine blk_drew ?_ | refine blk_alloc ?_ _)); refine blk_far ?_ NB125_136.out _; (with_reducible repeat (first | refine blk_drewN ?_ _ | refine blk_drew ?_ | refine blk_alloc ?_ _)); exact BK125.out) hg (Kd.R_away HO_3.out (fun _ hk => hk.1))); have n2_ := Aside0.mk (Kd.R_over' (by (with_reducible repeat (first | apply Kd.R_alloc | apply Kd.R_drewN | apply Kd.R_drew)); exact (Kd.R_mono (Kd.R_far (p := ⟨gb136, 1, none⟩) (Kd.R_types HO132.out BK136.out (by decide)) (fun _ hk => hk.2) (.string (rdOf ByteArray.empty t130 0))) (fun _ h_ => h_.1))) (Kd.R_typed (by (with_reducible repeat (first | apply Kd.R_alloc | apply Kd.R_drewN | apply Kd.R_drew)); exact (Kd.R_mono (Kd.R_far (p := ⟨gb136, 1, none⟩) (Kd.R_mono HO_3.out (fun k_ hk => (⟨hk, hk.2⟩ : _ ∧ k_ ≠ gb136))) (fun _ hk => hk.2) (.string (rdOf ByteArray.empty t130 0))) (fun _ h_ => h_.1)))) (by decide) hg); have n3_ := Aside0.mk (blk_grown (g := gb136) (o := .cells #[.int .i64 t134, .string (rdOf ByteArray.empty t130 0)] 51 (0, 0)) (by (with_reducible repeat (first | refine blk_drewN ?_ _ | refine blk_drew ?_ | refine blk_alloc ?_ _)); refine blk_put (cs := #[.int .i64 t134, .string t135]) ?_ 1 _ rfl; (with_reducible repeat (first | refine blk_drewN ?_ _ | refine blk_drew ?_ | refine blk_alloc ?_ _)); exact BK136.out) hg (Kd.R_away HO_3.out (fun _ hk => hk.2))); have n4_ := Aside0.mk (hb); have n5_ := Aside0.mk (ho); clear HO_2; clear BK125; clear HO132; clear BK136; clear HB; clear HO_3; have HO_2 := n0_; have BK125 := n1_; have HO132 := n2_; have BK136 := n3_; have HB := n4_; have HO140 := n5_; clear n0_ n1_ n2_ n3_ n4_ n5_; clear ho hb hg hat; obtain ⟨Ao29, co29, eo29⟩ := Kd.R_slice HO140.out; subst eo29) | ((with_reducible refine gate_builtin (b := .append) (xs := #[.tmp 34, .tmp 36]) rfl ?_); at_builtin; refine Kd.S_append (Kd.slice 51 k51) (w0 := w) w.heap.size rfl (.tmp 34) (.tmp 36) 72 52 (.slice none 0 0) 24 rfl Tryd.underlying72 info52 rfl (by decide) (by omega) u2 x2_2 y138 [.slice Ao29 y138.length co29] (fun k_ => k_ ≠ gb125 ∧ k_ ≠ gb136) (fun k_ => some k_ = (.slice Ao29 y138.length co29 : Value).ownBlock) rfl rfl ?aP (fun k_ hk_ => ((Kd.R_mono (ok' := fun k_ => ((fun k_ => k_ ≠ gb125 ∧ k_ ≠ gb136)) k_ ∧ some k_ ≠ (u2 : Value).ownBlock) (Kd.R_apart' (HO140.out) (Kd.S_typed HO_2.out) (by decide)) (fun k_ hk => ⟨⟨hk.1.1, hk.1.2⟩, hk.2⟩))).1 k_ hk_.symm) ?aF ?aO ?aB ?aS ?aL ?_; (case aP => exact Kd.M_row (Kd.R_mono (Kd.R_tight rfl (Kd.R_mono (ok' := fun k_ => ((fun k_ => k_ ≠ gb125 ∧ k_ ≠ gb136)) k_ ∧ some k_ ≠ (u2 : Value).ownBlock) (Kd.R_apart' (HO140.out) (Kd.S_typed HO_2.out) (by decide)) (fun k_ hk => ⟨⟨hk.1.1, hk.1.2⟩, hk.2⟩))) (fun _ h_ => h_))); (case aB => exact (by repeat (first | (with_reducible first | exact HB.out | apply below_alloc | apply pw_below_drewN | apply below_drew1 | refine below_set ?_ GE125.out | refine below_set ?_ GE136.out) | exact HB.out))); (case aF => exact (fun k_ hk => ⟨Kd.freshB (g := gb125) (o := .cells #[.int .i64 ((rd_T51 l0 x11_1).f0), .string (rdOf ByteArray.empty t130 1)] 51 (0, 0)) (by (with_reducible repeat (first | refine blk_drewN ?_ _ | refine blk_drew ?_ | refine blk_alloc ?_ _)); exact BK125.out) k_ hk, Kd.freshB (g := gb136) (o := .cells #[.int .i64 t134, .string (rdOf ByteArray.empty t130 0)] 51 (0, 0)) (by (with_reducible repeat (first | refine blk_drewN ?_ _ | refine blk_drew ?_ | refine blk_alloc ?_ _)); exact BK136.out) k_ hk⟩)); (case aO => exact (by (with_reducible repeat (first | apply Kd.S_alloc | apply Kd.S_drewN | apply Kd.S_drew)); exact Kd.S_mono HO_2.out (fun k_ hk => ⟨⟨hk.1.1, hk.1.2⟩, fun e_ => hk.2 e_⟩))); (case aS => exact (below_size (by repeat (first | (with_reducible first | exact HB.out | apply below_alloc | apply pw_below_drewN | apply below_drew1 | refine below_set ?_ GE125.out | refine below_set ?_ GE136.out) | exact HB.out)))); (case aL => have := LMc14.out; omega); intro v142 w28 ho hb hg hat; rw [← Ny141.out] at ho; have n0_ := Aside0.mk (blk_grown (g := gb125) (o := .cells #[.int .i64 ((rd_T51 l0 x11_1).f0), .string (rdOf ByteArray.empty t130 1)] 51 (0, 0)) (by (with_reducible repeat (first | refine blk_drewN ?_ _ | refine blk_drew ?_ | refine blk_alloc ?_ _)); exact BK125.out) hg (Kd.S_ne HO_2.out BK125.out (by decide))); have n1_ := Aside0.mk (Kd.R_over' (by (with_reducible repeat (first | apply Kd.R_alloc | apply Kd.R_drewN | apply Kd.R_drew)); exact HO132.out) (Kd.S_typed (by (with_reducible repeat (first | apply Kd.S_alloc | apply Kd.S_drewN | apply Kd.S_drew)); exact HO_2.out)) (by decide) hg); have n2_ := Aside0.mk (blk_grown (g := gb136) (o := .cells #[.int .i64 t134, .string (rdOf ByteArray.empty t130 0)] 51 (0, 0)) (by (with_reducible repeat (first | refine blk_drewN ?_ _ | refine blk_drew ?_ | refine blk_alloc ?_ _)); exact BK136.out) hg (Kd.S_ne HO_2.out BK136.out (by decide))); have n3_ := Aside0.mk (hb); have n4_ := Aside0.mk (ho); clear BK125; clear HO132; clear BK136; clear HB; clear HO_2; clear HO140; have BK125 := n0_; have HO132 := n1_; have BK136 := n2_; have HB := n3_; have HO143 := n4_; clear n0_ n1_ n2_ n3_ n4_; clear ho hb hg hat; have hcz30_0 : w28.cell? ⟨gb125, 0, none⟩ = some (.int .i64 ((rd_T51 l0 x11_1).f0)) := (blk_cell BK125.out 0).trans rfl; have hcz30_1 : w28.cell? ⟨gb125, 1, none⟩ = some (.string (rdOf ByteArray.empty t130 1)) := (blk_cell BK125.out 1).trans rfl; have hfz30_0 := blk_frozen BK125.out 0; have hfz30_1 := blk_frozen BK125.out 1))
                            go_roundg k2
                            case measure => have := HK1.out; have := HK2.out; omega
                            case rel => exact ⟨(y141), (([] : List (S51))), (wrap64 (x11_1 + 1)), (by first | rfl | (simp; done) | (simp [*]; done)), H', ⟨by have := HK1.out; have := HK2.out; omega⟩, ⟨by (with_reducible repeat (first | apply Kd.S_alloc | apply Kd.S_drewN | apply Kd.S_drew)); exact Kd.S_mono HO143.out (fun _ hk => (by simp [Value.ownBlock]))⟩, ⟨by first | exact Kd.R_nil _ _ _ _ _ | exact Kd.N_nil _ _ _ _ _ | exact Kd.V_nil _ _ _ _ _ | exact Kd.Q_nil _ _ _ _ _ | exact Kd.S_nil _ _ _ _ _⟩, ⟨by repeat (first | (with_reducible first | exact HB.out | apply below_alloc | apply pw_below_drewN | apply below_drew1 | refine below_set ?_ GE125.out | refine below_set ?_ GE136.out) | exact HB.out)⟩⟩
                          · rw [if_neg c15] at H
                            have c15b0 : (((rdOf ByteArray.empty t130 1).size : Int) == 0) = false := beq_eq_false_iff_ne.mpr c15
                            have c15b1 : (((rdOf ByteArray.empty t130 1).size : Int) != 0) = true := bne_iff_ne.mpr c15
                            have H' := Aside0.mk H
                            clear H
                            have hcz31_0 : wr.cell? ⟨gb125, 0, none⟩ = some (.int .i64 ((rd_T51 l0 x11_1).f0)) := (blk_cell BK125.out 0).trans rfl
                            have hcz31_1 : wr.cell? ⟨gb125, 1, none⟩ = some (.string x126001_2) := (blk_cell BK125.out 1).trans rfl
                            have hfz31_0 := blk_frozen BK125.out 0
                            have hfz31_1 := blk_frozen BK125.out 1
                            go_wp2_with (first | ((with_reducible refine gate_callee (f := 28) rfl ?_); refine goesL_ (some 17) rfl rfl Tryd.func28 (by kernel_rfl) rfl #[.string x126001_2, .string (⟨#[10]⟩ : ByteArray)] rfl (by (try simp only [List.map_toArray, List.map_cons, List.map_nil]); first | done | rfl | (simp only [List.length_drop, List.length_take]; rfl)) ?_; (with_reducible refine (chroma_zzContains.calls k2 x126001_2 (⟨#[10]⟩ : ByteArray) true _ A7.out).mono ?_); rintro e w' ⟨rfl, ⟨nd, rfl⟩⟩; refine ⟨_, rfl, ?_⟩; (try (rw [drewN_self wr]; generalize hq_ : World.drewN wr _ = wr; have n0_ : Aside0 (Kd.S (Kd.slice 51 k51) 52 wr w.heap.size (fun k_ => some k_ ≠ (u3 : Value).ownBlock ∧ k_ ≠ gb125) u2 x2_2) := ⟨by rw [← hq_]; exact (by (with_reducible repeat (first | apply Kd.S_alloc | apply Kd.S_drewN | apply Kd.S_drew)); exact HO_2.out)⟩; have n1_ : Aside0 (Kd.R k51 51 wr w.heap.size (fun k_ => k_ ≠ gb125) u3 x3_2) := ⟨by rw [← hq_]; exact (by (with_reducible repeat (first | apply Kd.R_alloc | apply Kd.R_drewN | apply Kd.R_drew)); exact HO_3.out)⟩; have n2_ : Aside0 (wr.heap[gb125]? = some (.cells #[.int .i64 ((rd_T51 l0 x11_1).f0), .string x126001_2] 51 (0, 0))) := ⟨by rw [← hq_]; exact (by (with_reducible repeat (first | refine blk_drewN ?_ _ | refine blk_drew ?_ | refine blk_alloc ?_ _)); exact BK125.out)⟩; have n3_ : Aside0 (Below w.heap.size w wr) := ⟨by rw [← hq_]; exact (by repeat (first | (with_reducible first | exact HB.out | apply below_alloc | apply pw_below_drewN | apply below_drew1 | refine below_set ?_ GE125.out) | exact HB.out))⟩; clear HO_2 HO_3 BK125 HB hq_; have HO_2 := n0_; have HO_3 := n1_; have BK125 := n2_; have HB := n3_; clear n0_ n1_ n2_ n3_)); have hcz32_0 : wr.cell? ⟨gb125, 0, none⟩ = some (.int .i64 ((rd_T51 l0 x11_1).f0)) := (blk_cell BK125.out 0).trans rfl; have hcz32_1 : wr.cell? ⟨gb125, 1, none⟩ = some (.string x126001_2) := (blk_cell BK125.out 1).trans rfl; have hfz32_0 := blk_frozen BK125.out 0; have hfz32_1 := blk_frozen BK125.out 1) | ((with_reducible refine gate_callee (f := 29) rfl ?_); refine goesL_ (some 20) rfl rfl Tryd.func29 (by kernel_rfl) rfl #[.string x126001_2, .string (⟨#[10]⟩ : ByteArray)] rfl (by (try simp only [List.map_toArray, List.map_cons, List.map_nil]); first | done | rfl | (simp only [List.length_drop, List.length_take]; rfl)) ?_; (with_reducible refine (chroma_zzSplitAfter.calls k2 x126001_2 (⟨#[10]⟩ : ByteArray) t130 _ A9.out).mono ?_); rintro e w33 ⟨v131, rfl, ho0, hb⟩; refine ⟨_, rfl, ?_⟩; have n0_ := Aside0.mk (Kd.S_below (by (with_reducible repeat (first | apply Kd.S_alloc | apply Kd.S_drewN | apply Kd.S_drew)); exact HO_2.out) hb); have n1_ := Aside0.mk (Kd.R_below (by (with_reducible repeat (first | apply Kd.R_alloc | apply Kd.R_drewN | apply Kd.R_drew)); exact HO_3.out) hb); have n2_ := Aside0.mk (Kd.R_lower ho0 (below_size (by repeat (first | (with_reducible first | exact HB.out | apply below_alloc | apply pw_below_drewN | apply below_drew1 | refine below_set ?_ GE125.out) | exact HB.out)))); have n3_ := Aside0.mk (blk_below (g := gb125) (o := .cells #[.int .i64 ((rd_T51 l0 x11_1).f0), .string x126001_2] 51 (0, 0)) (by (with_reducible repeat (first | refine blk_drewN ?_ _ | refine blk_drew ?_ | refine blk_alloc ?_ _)); exact BK125.out) hb); have n4_ := Aside0.mk (below_step (by repeat (first | (with_reducible first | exact HB.out | apply below_alloc | apply pw_below_drewN | apply below_drew1 | refine below_set ?_ GE125.out) | exact HB.out)) hb); clear HO_2; clear HO_3; clear BK125; clear HB; have HO_2 := n0_; have HO_3 := n1_; have HO132 := n2_; have BK125 := n3_; have HB := n4_; clear n0_ n1_ n2_ n3_ n4_; (try clear hb); (try clear hb2); (try clear hk); (try clear hi); (try clear ho0); obtain ⟨Ao34, co34, eo34⟩ := Kd.R_slice HO132.out; subst eo34; have p133 : 0 ≤ (1 : Int) := (by omega); have q133 : 1 < (t130.length : Int) := of_decide_eq_true (by first | (with_reducible assumption) | assumption); obtain ⟨ad133, e133, hx133_0⟩ := Kd.at_string (Kd.R_reads' HO132.out).2.2 1 p133 q133; cases e133; (try simp only [show (1 : Int).toNat = 1 from rfl, Nat.reduceMul, Nat.reduceEqDiff, Go.Addr.add, ↓reduceIte] at hx133_0); have qi133 : (1 < t130.length) = True := eq_true (by omega); (try rw [show ((1 : Int)).toNat = 1 from rfl] at hx133_0); replace p133 := eq_true p133; replace q133 := eq_true q133; have hcz35_0 : w33.cell? ⟨gb125, 0, none⟩ = some (.int .i64 ((rd_T51 l0 x11_1).f0)) := (blk_cell BK125.out 0).trans rfl; have hcz35_1 : w33.cell? ⟨gb125, 1, none⟩ = some (.string x126001_2) := (blk_cell BK125.out 1).trans rfl; have hfz35_0 := blk_frozen BK125.out 0; have hfz35_1 := blk_frozen BK125.out 1) | ((with_reducible refine gate_callee (f := 30) rfl ?_); refine goesL_ (some 25) rfl rfl Tryd.func30 (by kernel_rfl) rfl #[.pointer (some ⟨gb125, 0, none⟩)] rfl (by (try simp only [List.map_toArray, List.map_cons, List.map_nil]); first | done | rfl | (simp only [List.length_drop, List.length_take]; rfl)) ?_; (with_reducible refine (chroma_Token_Clone.calls gb125 ((rd_T51 l0 x11_1).f0) (rdOf ByteArray.empty t130 1) t134 t135 _ ?side1 A11.out).mono ?_); (case side1 => (with_reducible repeat (first | refine blk_drewN ?_ _ | refine blk_drew ?_ | refine blk_alloc ?_ _)); refine blk_put (cs := #[.int .i64 ((rd_T51 l0 x11_1).f0), .string x126001_2]) ?_ 1 _ rfl; (with_reducible repeat (first | refine blk_drewN ?_ _ | refine blk_drew ?_ | refine blk_alloc ?_ _)); exact BK125.out); rintro e w36 ⟨rfl, hb⟩; refine ⟨_, rfl, ?_⟩; have n0_ := Aside0.mk (Kd.S_below (by (with_reducible repeat (first | apply Kd.S_alloc | apply Kd.S_drewN | apply Kd.S_drew)); exact (Kd.S_mono (Kd.S_far (p := ⟨gb125, 1, none⟩) (Kd.S_mono HO_2.out (fun k_ hk => (⟨hk, hk.2⟩ : _ ∧ k_ ≠ gb125))) (fun _ hk => hk.2) (.string (rdOf ByteArray.empty t130 1))) (fun _ h_ => h_.1))) hb); have n1_ := Aside0.mk (Kd.R_below (by (with_reducible repeat (first | apply Kd.R_alloc | apply Kd.R_drewN | apply Kd.R_drew)); exact (Kd.R_mono (Kd.R_far (p := ⟨gb125, 1, none⟩) (Kd.R_mono HO_3.out (fun k_ hk => (⟨hk, hk⟩ : _ ∧ k_ ≠ gb125))) (fun _ hk => hk.2) (.string (rdOf ByteArray.empty t130 1))) (fun _ h_ => h_.1))) hb); have n2_ := Aside0.mk (Kd.R_below (by (with_reducible repeat (first | apply Kd.R_alloc | apply Kd.R_drewN | apply Kd.R_drew)); exact (Kd.R_mono (Kd.R_far (p := ⟨gb125, 1, none⟩) (Kd.R_types HO132.out BK125.out (by decide)) (fun _ hk => hk.2) (.string (rdOf ByteArray.empty t130 1))) (fun _ h_ => h_.1))) hb); have n3_ := Aside0.mk (blk_below (g := gb125) (o := .cells #[.int .i64 ((rd_T51 l0 x11_1).f0), .string (rdOf ByteArray.empty t130 1)] 51 (0, 0)) (by (with_reducible repeat (first | refine blk_drewN ?_ _ | refine blk_drew ?_ | refine blk_alloc ?_ _)); refine blk_put (cs := #[.int .i64 ((rd_T51 l0 x11_1).f0), .string x126001_2]) ?_ 1 _ rfl; (with_reducible repeat (first | refine blk_drewN ?_ _ | refine blk_drew ?_ | refine blk_alloc ?_ _)); exact BK125.out) hb); have n4_ := Aside0.mk (below_step (by repeat (first | (with_reducible first | exact HB.out | apply below_alloc | apply pw_below_drewN | apply below_drew1 | refine below_set ?_ GE125.out) | exact HB.out)) hb); clear HO_2; clear HO_3; clear HO132; clear BK125; clear HB; have HO_2 := n0_; have HO_3 := n1_; have HO132 := n2_; have BK125 := n3_; have HB := n4_; clear n0_ n1_ n2_ n3_ n4_; (try clear hb); (try clear hb2); (try clear hk); (try clear hi)) | ((with_reducible refine gate_dst (N := 7) rfl ?_); refine box_event ?hg (N := 7) ?hd (cs := #[.int .i64 0, .string (⟨#[]⟩ : ByteArray)]) (t := 51) ?hr ?_; (case hd => rfl); (case hg => rfl); (case hr => first | (go_simp; done) | (go_simp; rfl)); intro gb136 hg w37 hbox hb; have n0_ := Aside0.mk (Kd.S_below (Kd.S_elderB (by (with_reducible repeat (first | apply Kd.S_alloc | apply Kd.S_drewN | apply Kd.S_drew)); exact HO_2.out) gb136 (Nat.le_of_eq hg.symm)) hb); have n1_ := Aside0.mk (Kd.R_below (Kd.R_elderB (by (with_reducible repeat (first | apply Kd.R_alloc | apply Kd.R_drewN | apply Kd.R_drew)); exact HO_3.out) gb136 (Nat.le_of_eq hg.symm)) hb); have n2_ := Aside0.mk (Kd.R_below (by (with_reducible repeat (first | apply Kd.R_alloc | apply Kd.R_drewN | apply Kd.R_drew)); exact HO132.out) hb); have n3_ := Aside0.mk (blk_below (g := gb125) (o := .cells #[.int .i64 ((rd_T51 l0 x11_1).f0), .string (rdOf ByteArray.empty t130 1)] 51 (0, 0)) (by (with_reducible repeat (first | refine blk_drewN ?_ _ | refine blk_drew ?_ | refine blk_alloc ?_ _)); exact BK125.out) hb); have n4_ := Aside0.mk (below_step (by repeat (first | (with_reducible first | exact HB.out | apply below_alloc | apply pw_below_drewN | apply below_drew1 | refine below_set ?_ GE125.out) | exact HB.out)) hb); have n5_ := Aside0.mk (hbox); have n6_ := Aside0.mk ((by rw [hg]; exact (below_size (by repeat (first | (with_reducible first | exact HB.out | apply below_alloc | apply pw_below_drewN | apply below_drew1 | refine below_set ?_ GE125.out) | exact HB.out))) : w.heap.size ≤ gb136)); have n7_ := Aside0.mk ((by rw [hg]; exact (below_size (by repeat (first | (with_reducible first | exact HB.out | apply below_alloc | apply pw_below_drewN | apply below_drew1 | refine below_set ?_ GE125.out) | exact HB.out))) : w.heap.size ≤ gb136)); have n8_ := Aside0.mk ((by rw [hg]; exact Nat.ne_of_lt (blk_lt (g := gb125) (o := .cells #[.int .i64 ((rd_T51 l0 x11_1).f0), .string (rdOf ByteArray.empty t130 1)] 51 (0, 0)) (by (with_reducible repeat (first | refine blk_drewN ?_ _ | refine blk_drew ?_ | refine blk_alloc ?_ _)); exact BK125.out)) : gb125 ≠ gb136)); have n9_ := Aside0.mk ((by rw [hg]; exact Nat.ne_of_gt (blk_lt (g := gb125) (o := .cells #[.int .i64 ((rd_T51 l0 x11_1).f0), .string (rdOf ByteArray.empty t130 1)] 51 (0, 0)) (by (with_reducible repeat (first | refine blk_drewN ?_ _ | refine blk_drew ?_ | refine blk_alloc ?_ _)); exact BK125.out)) : gb136 ≠ gb125)); clear HO_2; clear HO_3; clear HO132; clear BK125; clear HB; have HO_2 := n0_; have HO_3 := n1_; have HO132 := n2_; have BK125 := n3_; have HB := n4_; have BK136 := n5_; have GW136 := n6_; have GE136 := n7_; have NB125_136 := n8_; have NB136_125 := n9_; clear n0_ n1_ n2_ n3_ n4_ n5_ n6_ n7_ n8_ n9_; clear hb hbox hg; have hnb38 := NB136_125.out; have hnc38 := NB125_136.out; have hcz39_0 : w37.cell? ⟨gb136, 0, none⟩ = some (.int .i64 0) := (blk_cell BK136.out 0).trans rfl; have hcz39_1 : w37.cell? ⟨gb136, 1, none⟩ = some (.string (⟨#[]⟩ : ByteArray)) := (blk_cell BK136.out 1).trans rfl; have hfz39_0 := blk_frozen BK136.out 0; have hfz39_1 := blk_frozen BK136.out 1) | ((with_reducible refine gate_store (t := 51) (p := 7) rfl ?_); refine store_event (t := 51) (p := 7) (v := ?vo_w40) (w1 := ((w37.setCell ⟨gb136, 0, none⟩ (.int .i64 t134)).setCell ⟨gb136, 1, none⟩ (.string t135))) ?hg ?ho ?hn ?hr ?_; (case ho => rfl); (case hg => rfl); (case hn => rfl); (case hr => first | (go_simp; done) | (go_simp; rfl)); intro w40 hw; have n0_ : Aside0 (Kd.S (Kd.slice 51 k51) 52 w40 w.heap.size (fun k_ => some k_ ≠ (u3 : Value).ownBlock ∧ k_ ≠ gb125 ∧ k_ ≠ gb136) u2 x2_2) := ⟨(by rw [hw]; exact (by (with_reducible repeat (first | apply Kd.S_alloc | apply Kd.S_drewN | apply Kd.S_drew)); exact Kd.S_mono (Kd.S_far (p := ⟨gb136, 1, none⟩) (Kd.S_far (p := ⟨gb136, 0, none⟩) (Kd.S_mono HO_2.out (fun k_ hk => (⟨hk, hk.2⟩ : _ ∧ k_ ≠ gb136))) (fun _ hk => hk.2) (.int .i64 t134)) (fun _ hk => hk.2) (.string t135)) (fun _ hk => ⟨hk.1.1.1, ⟨hk.1.1.2, hk.1.2⟩⟩)))⟩; have n1_ : Aside0 (Kd.R k51 51 w40 w.heap.size (fun k_ => k_ ≠ gb125 ∧ k_ ≠ gb136) u3 x3_2) := ⟨(by rw [hw]; exact (by (with_reducible repeat (first | apply Kd.R_alloc | apply Kd.R_drewN | apply Kd.R_drew)); exact Kd.R_mono (Kd.R_far (p := ⟨gb136, 1, none⟩) (Kd.R_far (p := ⟨gb136, 0, none⟩) (Kd.R_mono HO_3.out (fun k_ hk => (⟨hk, hk.2⟩ : _ ∧ k_ ≠ gb136))) (fun _ hk => hk.2) (.int .i64 t134)) (fun _ hk => hk.2) (.string t135)) (fun _ hk => ⟨hk.1.1, hk.1.2⟩)))⟩; have n2_ : Aside0 (Kd.R Kd.string 9 w40 w.heap.size (fun _ => True) (.slice (some ad133) t130.length co34) t130) := ⟨(by rw [hw]; exact (by (with_reducible repeat (first | apply Kd.R_alloc | apply Kd.R_drewN | apply Kd.R_drew)); exact Kd.R_mono (Kd.R_far (p := ⟨gb136, 1, none⟩) (Kd.R_far (p := ⟨gb136, 0, none⟩) (Kd.R_types HO132.out BK136.out (by decide)) (fun _ hk => hk.2) (.int .i64 t134)) (fun _ hk => hk.2) (.string t135)) (fun _ hk => trivial)))⟩; have n3_ : Aside0 (w40.heap[gb125]? = some (.cells #[.int .i64 ((rd_T51 l0 x11_1).f0), .string (rdOf ByteArray.empty t130 1)] 51 (0, 0))) := ⟨(by rw [hw]; exact (by (with_reducible repeat (first | refine blk_drewN ?_ _ | refine blk_drew ?_ | refine blk_alloc ?_ _)); refine blk_far ?_ NB125_136.out _; (with_reducible repeat (first | refine blk_drewN ?_ _ | refine blk_drew ?_ | refine blk_alloc ?_ _)); refine blk_far ?_ NB125_136.out _; (with_reducible repeat (first | refine blk_drewN ?_ _ | refine blk_drew ?_ | refine blk_alloc ?_ _)); exact BK125.out))⟩; have n4_ : Aside0 (w40.heap[gb136]? = some (.cells #[.int .i64 t134, .string t135] 51 (0, 0))) := ⟨(by rw [hw]; exact (by (with_reducible repeat (first | refine blk_drewN ?_ _ | refine blk_drew ?_ | refine blk_alloc ?_ _)); refine blk_put (cs := #[.int .i64 t134, .string (⟨#[]⟩ : ByteArray)]) ?_ 1 _ rfl; (with_reducible repeat (first | refine blk_drewN ?_ _ | refine blk_drew ?_ | refine blk_alloc ?_ _)); refine blk_put (cs := #[.int .i64 0, .string (⟨#[]⟩ : ByteArray)]) ?_ 0 _ rfl; (with_reducible repeat (first | refine blk_drewN ?_ _ | refine blk_drew ?_ | refine blk_alloc ?_ _)); exact BK136.out))⟩; have n5_ : Aside0 (Below w.heap.size w w40) := ⟨(by rw [hw]; exact (by repeat (first | (with_reducible first | exact HB.out | apply below_alloc | apply pw_below_drewN | apply below_drew1 | refine below_set ?_ GE125.out | refine below_set ?_ GE136.out) | exact HB.out)))⟩; clear hw; clear HO_2; clear HO_3; clear HO132; clear BK125; clear BK136; clear HB; have HO_2 := n0_; have HO_3 := n1_; have HO132 := n2_; have BK125 := n3_; have BK136 := n4_; have HB := n5_; clear n0_ n1_ n2_ n3_ n4_ n5_; have p137 : 0 ≤ (0 : Int) := (by omega); have q137 : 0 < (t130.length : Int) := of_decide_eq_true (by first | (with_reducible assumption) | assumption); obtain ⟨ad137, e137, hx137_0⟩ := Kd.at_string (Kd.R_reads' HO132.out).2.2 0 p137 q137; obtain rfl : ad133 = ad137 := (by injection e137); have qi137 : (0 < t130.length) = True := eq_true (by omega); (try rw [show ((0 : Int)).toNat = 0 from rfl] at hx137_0); (try rw [Addr.add_zero'] at hx137_0); replace p137 := eq_true p137; replace q137 := eq_true q137; have hcz41_0 : w40.cell? ⟨gb136, 0, none⟩ = some (.int .i64 t134) := (blk_cell BK136.out 0).trans rfl; have hcz41_1 : w40.cell? ⟨gb136, 1, none⟩ = some (.string t135) := (blk_cell BK136.out 1).trans rfl; have hfz41_0 := blk_frozen BK136.out 0; have hfz41_1 := blk_frozen BK136.out 1) | ((with_reducible refine gate_builtin (b := .append) (xs := #[.tmp 30, .tmp 32]) rfl ?_); at_builtin; refine Kd.R_append k51 (w0 := w) w.heap.size rfl (.tmp 30) (.tmp 32) 52 51 (.agg #[(.int .i64 0), (.string ⟨#[]⟩)]) 24 rfl Tryd.underlying52 info51 rfl (by decide) (by omega) u3 x3_2 (⟨t134, rdOf ByteArray.empty t130 0⟩ : S51) [.int .i64 t134, .string (rdOf ByteArray.empty t130 0)] (fun k_ => k_ ≠ gb125 ∧ k_ ≠ gb136) (fun _ => False) rfl (by first | (go_simp; done) | (go_simp; rfl)) ?aP (fun _ hk => hk.elim) ?aF ?aO ?aB ?aS ?aL ?_; (case aP => exact k51_mkM _ _ _ (⟨t134, rdOf ByteArray.empty t130 0⟩ : S51)); (case aB => exact (by repeat (first | (with_reducible first | exact HB.out | apply below_alloc | apply pw_below_drewN | apply below_drew1 | refine below_set ?_ GE125.out | refine below_set ?_ GE136.out) | exact HB.out))); (case aF => exact (fun k_ hk => ⟨Kd.freshB (g := gb125) (o := .cells #[.int .i64 ((rd_T51 l0 x11_1).f0), .string (rdOf ByteArray.empty t130 1)] 51 (0, 0)) (by (with_reducible repeat (first | refine blk_drewN ?_ _ | refine blk_drew ?_ | refine blk_alloc ?_ _)); refine blk_far ?_ NB125_136.out _; (with_reducible repeat (first | refine blk_drewN ?_ _ | refine blk_drew ?_ | refine blk_alloc ?_ _)); exact BK125.out) k_ hk, Kd.freshB (g := gb136) (o := .cells #[.int .i64 t134, .string (rdOf ByteArray.empty t130 0)] 51 (0, 0)) (by (with_reducible repeat (first | refine blk_drewN ?_ _ | refine blk_drew ?_ | refine blk_alloc ?_ _)); refine blk_put (cs := #[.int .i64 t134, .string t135]) ?_ 1 _ rfl; (with_reducible repeat (first | refine blk_drewN ?_ _ | refine blk_drew ?_ | refine blk_alloc ?_ _)); exact BK136.out) k_ hk⟩)); (case aO => exact (by (with_reducible repeat (first | apply Kd.R_alloc | apply Kd.R_drewN | apply Kd.R_drew)); exact Kd.R_mono (Kd.R_far (p := ⟨gb136, 1, none⟩) (Kd.R_mono HO_3.out (fun k_ hk => (⟨hk, hk.2⟩ : _ ∧ k_ ≠ gb136))) (fun _ hk => hk.2) (.string (rdOf ByteArray.empty t130 0))) (fun _ hk => ⟨hk.1.1, hk.1.2⟩))); (case aS => exact (below_size (by repeat (first | (with_reducible first | exact HB.out | apply below_alloc | apply pw_below_drewN | apply below_drew1 | refine below_set ?_ GE125.out | refine below_set ?_ GE136.out) | exact HB.out)))); (case aL => have := LMc13.out; omega); intro v139 w42 ho hb hg hat; rw [← Ny138.out] at ho; have n0_ := Aside0.mk (Kd.S_after (ok := (fun k_ => k_ ≠ gb125 ∧ k_ ≠ gb136)) (by (with_reducible repeat (first | apply Kd.S_alloc | apply Kd.S_drewN | apply Kd.S_drew)); exact Kd.S_mono (Kd.S_far (p := ⟨gb136, 1, none⟩) (Kd.S_mono HO_2.out (fun k_ hk => (⟨hk, hk.2.2⟩ : _ ∧ k_ ≠ gb136))) (fun _ hk => hk.2) (.string (rdOf ByteArray.empty t130 0))) (fun _ hk => ⟨⟨hk.1.2.1, hk.1.2.2⟩, hk.1.1⟩)) hg hat); have n1_ := Aside0.mk (blk_grown (g := gb125) (o := .cells #[.int .i64 ((rd_T51 l0 x11_1).f0), .string (rdOf ByteArray.empty t130 1)] 51 (0, 0)) (by (with_reducible repeat (first | refine blk_drewN ?_ _ | refine blk_drew ?_ | refine blk_alloc ?_ _)); refine blk_far ?_ NB125_136.out _; (with_reducible repeat (first | refine blk_drewN ?_ _ | refine blk_drew ?_ | refine blk_alloc ?_ _)); exact BK125.out) hg (Kd.R_away HO_3.out (fun _ hk => hk.1))); have n2_ := Aside0.mk (Kd.R_over' (by (with_reducible repeat (first | apply Kd.R_alloc | apply Kd.R_drewN | apply Kd.R_drew)); exact (Kd.R_mono (Kd.R_far (p := ⟨gb136, 1, none⟩) (Kd.R_types HO132.out BK136.out (by decide)) (fun _ hk => hk.2) (.string (rdOf ByteArray.empty t130 0))) (fun _ h_ => h_.1))) (Kd.R_typed (by (with_reducible repeat (first | apply Kd.R_alloc | apply Kd.R_drewN | apply Kd.R_drew)); exact (Kd.R_mono (Kd.R_far (p := ⟨gb136, 1, none⟩) (Kd.R_mono HO_3.out (fun k_ hk => (⟨hk, hk.2⟩ : _ ∧ k_ ≠ gb136))) (fun _ hk => hk.2) (.string (rdOf ByteArray.empty t130 0))) (fun _ h_ => h_.1)))) (by decide) hg); have n3_ := Aside0.mk (blk_grown (g := gb136) (o := .cells #[.int .i64 t134, .string (rdOf ByteArray.empty t130 0)] 51 (0, 0)) (by (with_reducible repeat (first | refine blk_drewN ?_ _ | refine blk_drew ?_ | refine blk_alloc ?_ _)); refine blk_put (cs := #[.int .i64 t134, .string t135]) ?_ 1 _ rfl; (with_reducible repeat (first | refine blk_drewN ?_ _ | refine blk_drew ?_ | refine blk_alloc ?_ _)); exact BK136.out) hg (Kd.R_away HO_3.out (fun _ hk => hk.2))); have n4_ := Aside0.mk (hb); have n5_ := Aside0.mk (ho); clear HO_2; clear BK125; clear HO132; clear BK136; clear HB; clear HO_3; have HO_2 := n0_; have BK125 := n1_; have HO132 := n2_; have BK136 := n3_; have HB := n4_; have HO140 := n5_; clear n0_ n1_ n2_ n3_ n4_ n5_; clear ho hb hg hat; obtain ⟨Ao44, co44, eo44⟩ := Kd.R_slice HO140.out; subst eo44) | ((with_reducible refine gate_builtin (b := .append) (xs := #[.tmp 34, .tmp 36]) rfl ?_); at_builtin; refine Kd.S_append (Kd.slice 51 k51) (w0 := w) w.heap.size rfl (.tmp 34) (.tmp 36) 72 52 (.slice none 0 0) 24 rfl Tryd.underlying72 info52 rfl (by decide) (by omega) u2 x2_2 y138 [.slice Ao44 y138.length co44] (fun k_ => k_ ≠ gb125 ∧ k_ ≠ gb136) (fun k_ => some k_ = (.slice Ao44 y138.length co44 : Value).ownBlock) rfl rfl ?aP (fun k_ hk_ => ((Kd.R_mono (ok' := fun k_ => ((fun k_ => k_ ≠ gb125 ∧ k_ ≠ gb136)) k_ ∧ some k_ ≠ (u2 : Value).ownBlock) (Kd.R_apart' (HO140.out) (Kd.S_typed HO_2.out) (by decide)) (fun k_ hk => ⟨⟨hk.1.1, hk.1.2⟩, hk.2⟩))).1 k_ hk_.symm) ?aF ?aO ?aB ?aS ?aL ?_; (case aP => exact Kd.M_row (Kd.R_mono (Kd.R_tight rfl (Kd.R_mono (ok' := fun k_ => ((fun k_ => k_ ≠ gb125 ∧ k_ ≠ gb136)) k_ ∧ some k_ ≠ (u2 : Value).ownBlock) (Kd.R_apart' (HO140.out) (Kd.S_typed HO_2.out) (by decide)) (fun k_ hk => ⟨⟨hk.1.1, hk.1.2⟩, hk.2⟩))) (fun _ h_ => h_))); (case aB => exact (by repeat (first | (with_reducible first | exact HB.out | apply below_alloc | apply pw_below_drewN | apply below_drew1 | refine below_set ?_ GE125.out | refine below_set ?_ GE136.out) | exact HB.out))); (case aF => exact (fun k_ hk => ⟨Kd.freshB (g := gb125) (o := .cells #[.int .i64 ((rd_T51 l0 x11_1).f0), .string (rdOf ByteArray.empty t130 1)] 51 (0, 0)) (by (with_reducible repeat (first | refine blk_drewN ?_ _ | refine blk_drew ?_ | refine blk_alloc ?_ _)); exact BK125.out) k_ hk, Kd.freshB (g := gb136) (o := .cells #[.int .i64 t134, .string (rdOf ByteArray.empty t130 0)] 51 (0, 0)) (by (with_reducible repeat (first | refine blk_drewN ?_ _ | refine blk_drew ?_ | refine blk_alloc ?_ _)); exact BK136.out) k_ hk⟩)); (case aO => exact (by (with_reducible repeat (first | apply Kd.S_alloc | apply Kd.S_drewN | apply Kd.S_drew)); exact Kd.S_mono HO_2.out (fun k_ hk => ⟨⟨hk.1.1, hk.1.2⟩, fun e_ => hk.2 e_⟩))); (case aS => exact (below_size (by repeat (first | (with_reducible first | exact HB.out | apply below_alloc | apply pw_below_drewN | apply below_drew1 | refine below_set ?_ GE125.out | refine below_set ?_ GE136.out) | exact HB.out)))); (case aL => have := LMc14.out; omega); intro v142 w43 ho hb hg hat; rw [← Ny141.out] at ho; have n0_ := Aside0.mk (blk_grown (g := gb125) (o := .cells #[.int .i64 ((rd_T51 l0 x11_1).f0), .string (rdOf ByteArray.empty t130 1)] 51 (0, 0)) (by (with_reducible repeat (first | refine blk_drewN ?_ _ | refine blk_drew ?_ | refine blk_alloc ?_ _)); exact BK125.out) hg (Kd.S_ne HO_2.out BK125.out (by decide))); have n1_ := Aside0.mk (Kd.R_over' (by (with_reducible repeat (first | apply Kd.R_alloc | apply Kd.R_drewN | apply Kd.R_drew)); exact HO132.out) (Kd.S_typed (by (with_reducible repeat (first | apply Kd.S_alloc | apply Kd.S_drewN | apply Kd.S_drew)); exact HO_2.out)) (by decide) hg); have n2_ := Aside0.mk (blk_grown (g := gb136) (o := .cells #[.int .i64 t134, .string (rdOf ByteArray.empty t130 0)] 51 (0, 0)) (by (with_reducible repeat (first | refine blk_drewN ?_ _ | refine blk_drew ?_ | refine blk_alloc ?_ _)); exact BK136.out) hg (Kd.S_ne HO_2.out BK136.out (by decide))); have n3_ := Aside0.mk (hb); have n4_ := Aside0.mk (ho); clear BK125; clear HO132; clear BK136; clear HB; clear HO_2; clear HO140; have BK125 := n0_; have HO132 := n1_; have BK136 := n2_; have HB := n3_; have HO143 := n4_; clear n0_ n1_ n2_ n3_ n4_; clear ho hb hg hat; have hcz45_0 : w43.cell? ⟨gb125, 0, none⟩ = some (.int .i64 ((rd_T51 l0 x11_1).f0)) := (blk_cell BK125.out 0).trans rfl; have hcz45_1 : w43.cell? ⟨gb125, 1, none⟩ = some (.string (rdOf ByteArray.empty t130 1)) := (blk_cell BK125.out 1).trans rfl; have hfz45_0 := blk_frozen BK125.out 0; have hfz45_1 := blk_frozen BK125.out 1))
                            go_roundg k2
                            case measure => have := HK1.out; have := HK2.out; omega
                            case rel => exact ⟨(y141), (([] : List (S51))), (rdOf ByteArray.empty t130 1), H', ⟨by have := HK1.out; have := HK2.out; omega⟩, ⟨by (with_reducible repeat (first | apply Kd.S_alloc | apply Kd.S_drewN | apply Kd.S_drew)); exact Kd.S_mono HO143.out (fun _ hk => ⟨(by simp [Value.ownBlock]), hk.1⟩)⟩, ⟨by first | exact Kd.R_nil _ _ _ _ _ | exact Kd.N_nil _ _ _ _ _ | exact Kd.V_nil _ _ _ _ _ | exact Kd.Q_nil _ _ _ _ _ | exact Kd.S_nil _ _ _ _ _⟩, ⟨by (with_reducible repeat (first | refine blk_drewN ?_ _ | refine blk_drew ?_ | refine blk_alloc ?_ _)); exact BK125.out⟩, ⟨by repeat (first | (with_reducible first | exact HB.out | apply below_alloc | apply pw_below_drewN | apply below_drew1 | refine below_set ?_ GE125.out | refine below_set ?_ GE136.out) | exact HB.out)⟩⟩
                        · rw [if_neg c14] at H
                          exact absurd H (by simp)
                      · rw [if_neg c13] at H
                        exact absurd H (by simp)
                    · rw [if_neg c12] at H
                      exact absurd H (by simp)
                  · rw [if_neg c10] at H
                    exact absurd H (by simp)
                · replace c8 := Bool.eq_false_iff.mpr c8
                  subst c8
                  have H1 : (if x3_2.length < 5864062014805 then (chroma_SplitTokensIntoLines.l0 k2 x2_2 (x3_2 ++ [(⟨((rd_T51 l0 x11_1).f0), x126001_2⟩ : S51)]) l0 (l0.length : Int) (wrap64 (x11_1 + 1))) else (none)) = some r := by rw [if_neg (show ¬ (false = true) by decide)] at H; exact H
                  clear H
                  have H := H1
                  clear H1
                  by_cases c46 : x3_2.length < 5864062014805
                  · rw [if_pos c46] at H
                    have LMc46 := Aside0.mk c46
                    clear c46
                    obtain ⟨y127, hy127⟩ : ∃ y_ : List (S51), y_ = (x3_2 ++ [(⟨((rd_T51 l0 x11_1).f0), x126001_2⟩ : S51)]) := ⟨_, rfl⟩
                    replace H : (chroma_SplitTokensIntoLines.l0 k2 x2_2 y127 l0 (l0.length : Int) (wrap64 (x11_1 + 1))) = some r := by first | (rw [hy127]; with_reducible exact H) | (have H2_ := (Option.bind_some _ _).symm.trans H; rw [hy127]; with_reducible exact H2_) | (have H2_ := (Option.bind_some _ _).symm.trans H; with_reducible exact H2_) | with_reducible exact H | (rw [hy127]; exact H) | exact H
                    have Ny127 := Aside0.mk hy127
                    clear hy127
                    have H' := Aside0.mk H
                    clear H
                    have hcz47_0 : wr.cell? ⟨gb125, 0, none⟩ = some (.int .i64 ((rd_T51 l0 x11_1).f0)) := (blk_cell BK125.out 0).trans rfl
                    have hcz47_1 : wr.cell? ⟨gb125, 1, none⟩ = some (.string x126001_2) := (blk_cell BK125.out 1).trans rfl
                    have hfz47_0 := blk_frozen BK125.out 0
                    have hfz47_1 := blk_frozen BK125.out 1
                    go_wp2_with (first | ((with_reducible refine gate_callee (f := 28) rfl ?_); refine goesL_ (some 17) rfl rfl Tryd.func28 (by kernel_rfl) rfl #[.string x126001_2, .string (⟨#[10]⟩ : ByteArray)] rfl (by (try simp only [List.map_toArray, List.map_cons, List.map_nil]); first | done | rfl | (simp only [List.length_drop, List.length_take]; rfl)) ?_; (with_reducible refine (chroma_zzContains.calls k2 x126001_2 (⟨#[10]⟩ : ByteArray) false _ A7.out).mono ?_); rintro e w' ⟨rfl, ⟨nd, rfl⟩⟩; refine ⟨_, rfl, ?_⟩) | ((with_reducible refine gate_builtin (b := .append) (xs := #[.tmp 42, .tmp 44]) rfl ?_); at_builtin; refine Kd.R_append k51 (w0 := w) w.heap.size rfl (.tmp 42) (.tmp 44) 52 51 (.agg #[(.int .i64 0), (.string ⟨#[]⟩)]) 24 rfl Tryd.underlying52 info51 rfl (by decide) (by omega) u3 x3_2 (⟨((rd_T51 l0 x11_1).f0), x126001_2⟩ : S51) [.int .i64 ((rd_T51 l0 x11_1).f0), .string x126001_2] (fun k_ => k_ ≠ gb125) (fun _ => False) rfl rfl ?aP (fun _ hk => hk.elim) ?aF ?aO ?aB ?aS ?aL ?_; (case aP => exact k51_mkM _ _ _ (⟨((rd_T51 l0 x11_1).f0), x126001_2⟩ : S51)); (case aB => exact (by repeat (first | (with_reducible first | exact HB.out | apply below_alloc | apply pw_below_drewN | apply below_drew1 | refine below_set ?_ GE125.out) | exact HB.out))); (case aF => exact (fun k_ hk => Kd.freshB (g := gb125) (o := .cells #[.int .i64 ((rd_T51 l0 x11_1).f0), .string x126001_2] 51 (0, 0)) (by (with_reducible repeat (first | refine blk_drewN ?_ _ | refine blk_drew ?_ | refine blk_alloc ?_ _)); exact BK125.out) k_ hk)); (case aO => exact (by (with_reducible repeat (first | apply Kd.R_alloc | apply Kd.R_drewN | apply Kd.R_drew)); exact HO_3.out)); (case aS => exact (below_size (by repeat (first | (with_reducible first | exact HB.out | apply below_alloc | apply pw_below_drewN | apply below_drew1 | refine below_set ?_ GE125.out) | exact HB.out)))); (case aL => have := LMc46.out; omega); intro v128 w48 ho hb hg hat; rw [← Ny127.out] at ho; have n0_ := Aside0.mk (Kd.S_after (ok := (fun k_ => k_ ≠ gb125)) (by (with_reducible repeat (first | apply Kd.S_alloc | apply Kd.S_drewN | apply Kd.S_drew)); exact Kd.S_mono HO_2.out (fun _ hk => ⟨hk.2, hk.1⟩)) hg hat); have n1_ := Aside0.mk (blk_grown (g := gb125) (o := .cells #[.int .i64 ((rd_T51 l0 x11_1).f0), .string x126001_2] 51 (0, 0)) (by (with_reducible repeat (first | refine blk_drewN ?_ _ | refine blk_drew ?_ | refine blk_alloc ?_ _)); exact BK125.out) hg (Kd.R_away HO_3.out (fun _ hk => hk))); have n2_ := Aside0.mk (hb); have n3_ := Aside0.mk (ho); clear HO_2; clear BK125; clear HB; clear HO_3; have HO_2 := n0_; have BK125 := n1_; have HB := n2_; have HO129 := n3_; clear n0_ n1_ n2_ n3_; clear ho hb hg hat))
                    go_roundg k2
                    case measure => have := HK1.out; have := HK2.out; omega
                    case rel => exact ⟨(x2_2), (y127), (wrap64 (x11_1 + 1)), (by first | rfl | (simp; done) | (simp [*]; done)), H', ⟨by have := HK1.out; have := HK2.out; omega⟩, ⟨by (with_reducible repeat (first | apply Kd.S_alloc | apply Kd.S_drewN | apply Kd.S_drew)); exact Kd.S_mono HO_2.out (fun _ hk => hk.2)⟩, ⟨by (with_reducible repeat (first | apply Kd.R_alloc | apply Kd.R_drewN | apply Kd.R_drew)); exact Kd.R_mono HO129.out (fun _ hk => trivial)⟩, ⟨by repeat (first | (with_reducible first | exact HB.out | apply below_alloc | apply pw_below_drewN | apply below_drew1 | refine below_set ?_ GE125.out) | exact HB.out)⟩⟩
                  · rw [if_neg c46] at H
                    exact absurd H (by simp)
          · rw [if_neg c4] at H
            exact absurd H (by simp)
        · rw [if_neg c3] at H
          exact absurd H (by simp)
      · rw [if_neg c2] at H
        have c2b0 : decide (x11_1 < (l0.length : Int)) = false := decide_eq_false c2
        clear c2
        have HC49 := Aside0.mk H
        clear H
        obtain ⟨Ao50, co50, eo50⟩ := Kd.R_slice HO_3.out
        subst eo50
        go_upto_if 49 with (fail)
        go_cut [2] (fun v2 wc => ∃ (kq : Nat) (x2_48 : List (List (S51))), Aside0 (chroma_SplitTokensIntoLines.j2 kq x2_48 = some r) ∧ Aside0 (kq ≤ k1) ∧ Aside0 (Kd.S (Kd.slice 51 k51) 52 wc w.heap.size (fun _ => True) v2 x2_48) ∧ Aside0 (Below w.heap.size w wc))
        case first =>
          have H := HC49.out
          clear HC49
          by_cases c51 : (x3_1.length : Int) > 0
          · rw [if_pos c51] at H
            have c51b0 : decide (0 < (x3_1.length : Int)) = true := decide_eq_true c51
            have c51b1 : decide (0 < x3_1.length) = true := decide_eq_true (by omega)
            clear c51
            (try (have c51b2 := c51b0; simp only [ByteArray.size_extract, Nat.min_self] at c51b2)); (first | rw [c51b0] | (simp only [i64_w, i32_w]; rw [c51b0]) | rw [c51b1] | skip)
            by_cases c52 : x2_1.length < 5864062014805
            · rw [if_pos c52] at H
              have LMc52 := Aside0.mk c52
              clear c52
              obtain ⟨y144, hy144⟩ : ∃ y_ : List (List (S51)), y_ = (x2_1 ++ [x3_1]) := ⟨_, rfl⟩
              replace H : (chroma_SplitTokensIntoLines.j2 k1 y144) = some r := by first | (rw [hy144]; with_reducible exact H) | (have H2_ := (Option.bind_some _ _).symm.trans H; rw [hy144]; with_reducible exact H2_) | (have H2_ := (Option.bind_some _ _).symm.trans H; with_reducible exact H2_) | with_reducible exact H | (rw [hy144]; exact H) | exact H
              have Ny144 := Aside0.mk hy144
              clear hy144
              have H' := Aside0.mk H
              clear H
              go_wp2_with (first | ((with_reducible refine gate_builtin (b := .append) (xs := #[.tmp 50, .tmp 52]) rfl ?_); at_builtin; refine Kd.S_append (Kd.slice 51 k51) (w0 := w) w.heap.size rfl (.tmp 50) (.tmp 52) 72 52 (.slice none 0 0) 24 rfl Tryd.underlying72 info52 rfl (by decide) (by omega) u2 x2_1 x3_1 [.slice Ao50 x3_1.length co50] (fun _ => True) (fun k_ => some k_ = (.slice Ao50 x3_1.length co50 : Value).ownBlock) rfl rfl ?aP (fun k_ hk_ => ((Kd.R_mono (ok' := fun k_ => ((fun _ => True)) k_ ∧ some k_ ≠ (u2 : Value).ownBlock) (Kd.R_apart' (HO_3.out) (Kd.S_typed HO_2.out) (by decide)) (fun k_ hk => ⟨trivial, hk.2⟩))).1 k_ hk_.symm) ?aF ?aO ?aB ?aS ?aL ?_; (case aP => exact Kd.M_row (Kd.R_mono (Kd.R_tight rfl (Kd.R_mono (ok' := fun k_ => ((fun _ => True)) k_ ∧ some k_ ≠ (u2 : Value).ownBlock) (Kd.R_apart' (HO_3.out) (Kd.S_typed HO_2.out) (by decide)) (fun k_ hk => ⟨trivial, hk.2⟩))) (fun _ h_ => h_))); (case aB => exact (by repeat (first | (with_reducible first | exact HB.out | apply below_alloc | apply pw_below_drewN | apply below_drew1) | exact HB.out))); (case aF => exact (fun _ _ => trivial)); (case aO => exact (by (with_reducible repeat (first | apply Kd.S_alloc | apply Kd.S_drewN | apply Kd.S_drew)); exact Kd.S_mono HO_2.out (fun k_ hk => ⟨trivial, fun e_ => hk e_⟩))); (case aS => exact (below_size (by repeat (first | (with_reducible first | exact HB.out | apply below_alloc | apply pw_below_drewN | apply below_drew1) | exact HB.out)))); (case aL => have := LMc52.out; omega); intro v145 w53 ho hb hg hat; rw [← Ny144.out] at ho; have n0_ := Aside0.mk (hb); have n1_ := Aside0.mk (ho); clear HB; clear HO_2; clear HO_3; have HB := n0_; have HO146 := n1_; clear n0_ n1_; clear ho hb hg hat))
              go_meet
              case rel => exact ⟨_, (y144), H', ⟨by have := HK1.out; first | omega | exact Nat.le_refl _⟩, ⟨by (with_reducible repeat (first | apply Kd.S_alloc | apply Kd.S_drewN | apply Kd.S_drew)); exact HO146.out⟩, ⟨by repeat (first | (with_reducible first | exact HB.out | apply below_alloc | apply pw_below_drewN | apply below_drew1) | exact HB.out)⟩⟩
            · rw [if_neg c52] at H
              exact absurd H (by simp)
          · rw [if_neg c51] at H
            have c51b0 : decide (0 < (x3_1.length : Int)) = false := decide_eq_false c51
            have c51b1 : decide (0 < x3_1.length) = false := decide_eq_false (by omega)
            clear c51
            (try (have c51b2 := c51b0; simp only [ByteArray.size_extract, Nat.min_self] at c51b2)); (first | rw [c51b0] | (simp only [i64_w, i32_w]; rw [c51b0]) | rw [c51b1] | skip)
            have H' := Aside0.mk H
            clear H
            go_wp2
            go_meet
            case rel => exact ⟨_, (x2_1), H', ⟨by have := HK1.out; first | omega | exact Nat.le_refl _⟩, ⟨by (with_reducible repeat (first | apply Kd.S_alloc | apply Kd.S_drewN | apply Kd.S_drew)); exact Kd.S_mono HO_2.out (fun _ hk => trivial)⟩, ⟨by repeat (first | (with_reducible first | exact HB.out | apply below_alloc | apply pw_below_drewN | apply below_drew1) | exact HB.out)⟩⟩
        case rest =>
          clear HC49
          try clear c1
          try clear p1
          try clear q1
          try clear hx1
          try clear qi1
          try clear c2
          try clear c2b0
          try clear p2
          try clear c3
          try clear c3b0
          try clear p3
          try clear c4
          try clear c4b0
          try clear c5
          try clear p6
          try clear c8
          try clear c10
          try clear c10b0
          try clear c10b1
          try clear c12
          try clear c12b0
          try clear c12b1
          try clear p12
          try clear q12
          try clear hx12
          try clear c13
          try clear p13
          try clear q13
          try clear hx13
          try clear qi13
          try clear c14
          try clear c15
          try clear c15b0
          try clear c15b1
          try clear c23
          try clear c27
          try clear c28
          try clear c29
          try clear c30
          try clear c38
          try clear c46
          try clear c51
          try clear c51b0
          try clear c51b1
          try clear c51b2
          try clear c52
          try clear hcz16_0
          try clear hcz16_1
          try clear hcz17_0
          try clear hcz17_1
          try clear hcz20_0
          try clear hcz20_1
          try clear hcz24_0
          try clear hcz24_1
          try clear hcz26_0
          try clear hcz26_1
          try clear hcz30_0
          try clear hcz30_1
          try clear hcz31_0
          try clear hcz31_1
          try clear hcz32_0
          try clear hcz32_1
          try clear hcz35_0
          try clear hcz35_1
          try clear hcz39_0
          try clear hcz39_1
          try clear hcz41_0
          try clear hcz41_1
          try clear hcz45_0
          try clear hcz45_1
          try clear hcz47_0
          try clear hcz47_1
          try clear hcz6_0
          try clear hcz6_1
          try clear hfz16_0
          try clear hfz16_1
          try clear hfz17_0
          try clear hfz17_1
          try clear hfz20_0
          try clear hfz20_1
          try clear hfz24_0
          try clear hfz24_1
          try clear hfz26_0
          try clear hfz26_1
          try clear hfz30_0
          try clear hfz30_1
          try clear hfz31_0
          try clear hfz31_1
          try clear hfz32_0
          try clear hfz32_1
          try clear hfz35_0
          try clear hfz35_1
          try clear hfz39_0
          try clear hfz39_1
          try clear hfz41_0
          try clear hfz41_1
          try clear hfz45_0
          try clear hfz45_1
          try clear hfz47_0
          try clear hfz47_1
          try clear hfz6_0
          try clear hfz6_1
          try clear hx124_0
          try clear hx124_1
          try clear hx133_0
          try clear hx137_0
          try clear p1
          try clear p124
          try clear p133
          try clear p137
          try clear p2
          try clear p3
          try clear q1
          try clear q124
          try clear q133
          try clear q137
          obtain ⟨kq, x2_48, HA, HJ48, HO_2, HB⟩ := hcut
          cases kq with
          | zero => exact absurd HA.out (by simp [chroma_SplitTokensIntoLines.j2])
          | succ kj48 =>
            have H := HA.out
            clear HA
            simp only [chroma_SplitTokensIntoLines.j2] at H
            by_cases c54 : (x2_48.length : Int) > 0
            · rw [if_pos c54] at H
              have c54b0 : decide (0 < (x2_48.length : Int)) = true := decide_eq_true c54
              have c54b1 : decide (0 < x2_48.length) = true := decide_eq_true (by omega)
              clear c54
              obtain ⟨ji55, hji55⟩ : ∃ j_ : Int, (wrap64 ((x2_48.length : Int) - 1)) = j_ := ⟨_, rfl⟩
              replace H : (if 0 ≤ (ji55) then (if (ji55) < (x2_48.length : Int) then (if ((rd_L4 x2_48 (ji55)).length : Int) = 1 then (if 0 < ((rd_L4 x2_48 (ji55)).length : Int) then (if ((rd_T51 (rd_L4 x2_48 (ji55)) 0).f1).toList = ([] : List UInt8) then (if (ji55) ≤ (x2_48.length : Int) then (some (x2_48.take ((ji55) : Int).toNat)) else (none)) else (some x2_48)) else (none)) else (some x2_48)) else (none)) else (none)) = some r := by first | (rw [hji55] at H; exact H) | (simp only [hji55] at H ⊢; exact H)
              have hji55w : (IntKind.i64.wrap ((x2_48.length : Int) - 1)) = ji55 := (i64_w _).trans hji55
              by_cases c56 : 0 ≤ (ji55)
              · rw [if_pos c56] at H
                have c56b0 : decide (0 ≤ (ji55)) = true := decide_eq_true c56
                clear c56
                by_cases c57 : (ji55) < (x2_48.length : Int)
                · rw [if_pos c57] at H
                  have c57b0 : decide ((ji55) < (x2_48.length : Int)) = true := decide_eq_true c57
                  clear c57
                  by_cases c58 : ((rd_L4 x2_48 (ji55)).length : Int) = 1
                  · rw [if_pos c58] at H
                    have c58b0 : (((rd_L4 x2_48 (ji55)).length : Int) == 1) = true := beq_iff_eq.mpr c58
                    have c58b1 : (((rd_L4 x2_48 (ji55)).length : Int) != 1) = false := bne_eq_false_iff_eq.mpr c58
                    clear c58
                    by_cases c59 : 0 < ((rd_L4 x2_48 (ji55)).length : Int)
                    · rw [if_pos c59] at H
                      have c59b0 : decide (0 < ((rd_L4 x2_48 (ji55)).length : Int)) = true := decide_eq_true c59
                      have c59b1 : decide (0 < (rd_L4 x2_48 (ji55)).length) = true := decide_eq_true (by omega)
                      clear c59
                      by_cases c60 : ((rd_T51 (rd_L4 x2_48 (ji55)) 0).f1).toList = ([] : List UInt8)
                      · rw [if_pos c60] at H
                        have c60b0 : (((rd_T51 (rd_L4 x2_48 (ji55)) 0).f1).toList == ([] : List UInt8)) = true := beq_iff_eq.mpr c60
                        have c60b1 : (((rd_T51 (rd_L4 x2_48 (ji55)) 0).f1).toList != ([] : List UInt8)) = false := bne_eq_false_iff_eq.mpr c60
                        clear c60
                        by_cases c61 : (ji55) ≤ (x2_48.length : Int)
                        · rw [if_pos c61] at H
                          have c61b0 := eq_true c61
                          have c61b1 : decide ((ji55) ≤ (x2_48.length : Int)) = true := decide_eq_true c61
                          clear c61
                          obtain ⟨y149, hy149⟩ : ∃ y_ : List (List (S51)), y_ = (x2_48.take ((ji55) : Int).toNat) := ⟨_, rfl⟩
                          replace H : (some y149) = some r := by first | (rw [hy149]; with_reducible exact H) | (have H2_ := (Option.bind_some _ _).symm.trans H; rw [hy149]; with_reducible exact H2_) | (have H2_ := (Option.bind_some _ _).symm.trans H; with_reducible exact H2_) | with_reducible exact H | (rw [hy149]; exact H) | exact H
                          have Ny149 := Aside0.mk hy149
                          clear hy149
                          obtain rfl := Option.some.inj H
                          obtain ⟨Ao62, co62, eo62⟩ := Kd.S_slice HO_2.out
                          subst eo62
                          have p147 : 0 ≤ ((ji55) : Int) := of_decide_eq_true (by first | (with_reducible assumption) | assumption)
                          have q147 : (ji55) < (x2_48.length : Int) := of_decide_eq_true (by first | (with_reducible assumption) | assumption)
                          obtain ⟨ad147, A147_0, c147_0, e147, hx147_0, hl147_0, hi147_0⟩ := at_L4 (Kd.S_reads' HO_2.out).2.2 (ji55) p147 q147
                          cases e147
                          obtain ⟨ce147, hce147, hMe147, hcc147⟩ := Kd.S_get HO_2.out [] (ji55) p147 (by first | exact q147 | exact of_decide_eq_true (by first | (with_reducible assumption) | assumption) | (have e_ := (Kd.S_reads' HO_2.out).1; omega))
                          obtain ⟨ve147_0, rfl, ge147_0⟩ := hMe147
                          have hv147_0 := hcc147 0 _ rfl
                          rw [Nat.add_zero, show ((Kd.slice 51 k51)).sz = 1 from rfl, Nat.mul_one] at hv147_0
                          replace hv147_0 := Option.some.inj (hv147_0.symm.trans hx147_0)
                          rw [hv147_0] at ge147_0
                          have HL147_0 := Aside0.mk (show Kd.R k51 51 _ _ _ _ (rd_L4 x2_48 (ji55)) from ge147_0)
                          clear hv147_0 ge147_0
                          clear hcc147 hce147
                          have HR147_0 := Aside0.mk hi147_0
                          have HC147_0 := Aside0.mk hl147_0
                          clear hi147_0 hl147_0
                          replace p147 := eq_true p147
                          replace q147 := eq_true q147
                          have p148 : 0 ≤ (0 : Int) := (by omega)
                          have q148 : 0 < ((rd_L4 x2_48 (ji55)).length : Int) := of_decide_eq_true (by first | (with_reducible assumption) | assumption)
                          obtain ⟨ad148, e148, hx148_0, hx148_1⟩ := at_T51 (by repeat (first | (with_reducible exact HR147_0.out) | (with_reducible refine Kd.C_alloc ?_ _) | (with_reducible refine Kd.C_drewN ?_ _) | (with_reducible refine Kd.C_drew ?_) | exact HR147_0.out)) 0 p148 q148
                          cases e148
                          have qi148 : (0 < (rd_L4 x2_48 (ji55)).length) = True := eq_true (by omega)
                          (try rw [show ((0 : Int)).toNat = 0 from rfl] at hx148_0)
                          (try rw [show 0 * 2 = 0 from rfl] at hx148_0)
                          (try rw [Addr.add_zero'] at hx148_0)
                          (try rw [show ((0 : Int)).toNat = 0 from rfl] at hx148_1)
                          (try rw [show 0 * 2 = 0 from rfl] at hx148_1)
                          (try rw [Addr.add_zero'] at hx148_1)
                          replace p148 := eq_true p148
                          replace q148 := eq_true q148
                          have q63 : ((ji55) : Int) ≤ ((x2_48.length : Int) : Int) := of_decide_eq_true (by first | (with_reducible assumption) | assumption)
                          obtain ⟨i063, hi063, _, hsz63, _⟩ := info_parts info52
                          have hcut63 := cut_to (P := Tryd.prog) 72 52 .i64 Tryd.underlying72 hi063 (some ad147) x2_48.length co62 (ji55) (of_decide_eq_true (by first | (with_reducible assumption) | assumption)) q63 (Kd.S_reads' HO_2.out).2.1
                          have hr63 := Kd.S_take (m := ((ji55) : Int).toNat) HO_2.out (by omega)
                          have hy63 : y149.length = ((ji55) : Int).toNat := (by rw [Ny149.out, List.length_take]; omega)
                          rw [← Ny149.out] at hr63
                          rw [← hy63] at hr63 hcut63
                          clear hy63 hi063 hsz63 HO_2
                          have HO151 := Aside0.mk hr63
                          clear hr63
                          replace q63 := eq_true q63
                          go_wp2
                          (try rw [Exit.noGoto_ret])
                          go_ret
                          exact ⟨_, by first | rfl | (simp [errW_none, errW_some] <;> rfl) | (simp only [← hji55]; first | rfl | (simp [errW_none, errW_some] <;> rfl)) | (simp [*, errW_none, errW_some] <;> rfl), by (with_reducible repeat (first | apply Kd.S_alloc | apply Kd.S_drewN | apply Kd.S_drew)); exact HO151.out, by repeat (first | (with_reducible first | exact HB.out | apply below_alloc | apply pw_below_drewN | apply below_drew1) | exact HB.out)⟩
                        · rw [if_neg c61] at H
                          exact absurd H (by simp)
                      · rw [if_neg c60] at H
                        have c60b0 : (((rd_T51 (rd_L4 x2_48 (ji55)) 0).f1).toList == ([] : List UInt8)) = false := beq_eq_false_iff_ne.mpr c60
                        have c60b1 : (((rd_T51 (rd_L4 x2_48 (ji55)) 0).f1).toList != ([] : List UInt8)) = true := bne_iff_ne.mpr c60
                        obtain rfl := Option.some.inj H
                        obtain ⟨Ao64, co64, eo64⟩ := Kd.S_slice HO_2.out
                        subst eo64
                        have p147 : 0 ≤ ((ji55) : Int) := of_decide_eq_true (by first | (with_reducible assumption) | assumption)
                        have q147 : (ji55) < (x2_48.length : Int) := of_decide_eq_true (by first | (with_reducible assumption) | assumption)
                        obtain ⟨ad147, A147_0, c147_0, e147, hx147_0, hl147_0, hi147_0⟩ := at_L4 (Kd.S_reads' HO_2.out).2.2 (ji55) p147 q147
                        cases e147
                        obtain ⟨ce147, hce147, hMe147, hcc147⟩ := Kd.S_get HO_2.out [] (ji55) p147 (by first | exact q147 | exact of_decide_eq_true (by first | (with_reducible assumption) | assumption) | (have e_ := (Kd.S_reads' HO_2.out).1; omega))
                        obtain ⟨ve147_0, rfl, ge147_0⟩ := hMe147
                        have hv147_0 := hcc147 0 _ rfl
                        rw [Nat.add_zero, show ((Kd.slice 51 k51)).sz = 1 from rfl, Nat.mul_one] at hv147_0
                        replace hv147_0 := Option.some.inj (hv147_0.symm.trans hx147_0)
                        rw [hv147_0] at ge147_0
                        have HL147_0 := Aside0.mk (show Kd.R k51 51 _ _ _ _ (rd_L4 x2_48 (ji55)) from ge147_0)
                        clear hv147_0 ge147_0
                        clear hcc147 hce147
                        have HR147_0 := Aside0.mk hi147_0
                        have HC147_0 := Aside0.mk hl147_0
                        clear hi147_0 hl147_0
                        replace p147 := eq_true p147
                        replace q147 := eq_true q147
                        have p148 : 0 ≤ (0 : Int) := (by omega)
                        have q148 : 0 < ((rd_L4 x2_48 (ji55)).length : Int) := of_decide_eq_true (by first | (with_reducible assumption) | assumption)
                        obtain ⟨ad148, e148, hx148_0, hx148_1⟩ := at_T51 (by repeat (first | (with_reducible exact HR147_0.out) | (with_reducible refine Kd.C_alloc ?_ _) | (with_reducible refine Kd.C_drewN ?_ _) | (with_reducible refine Kd.C_drew ?_) | exact HR147_0.out)) 0 p148 q148
                        cases e148
                        have qi148 : (0 < (rd_L4 x2_48 (ji55)).length) = True := eq_true (by omega)
                        (try rw [show ((0 : Int)).toNat = 0 from rfl] at hx148_0)
                        (try rw [show 0 * 2 = 0 from rfl] at hx148_0)
                        (try rw [Addr.add_zero'] at hx148_0)
                        (try rw [show ((0 : Int)).toNat = 0 from rfl] at hx148_1)
                        (try rw [show 0 * 2 = 0 from rfl] at hx148_1)
                        (try rw [Addr.add_zero'] at hx148_1)
                        replace p148 := eq_true p148
                        replace q148 := eq_true q148
                        go_wp2
                        (try rw [Exit.noGoto_ret])
                        go_ret
                        exact ⟨_, by first | rfl | (simp [errW_none, errW_some] <;> rfl) | (simp only [← hji55]; first | rfl | (simp [errW_none, errW_some] <;> rfl)) | (simp [*, errW_none, errW_some] <;> rfl), by (with_reducible repeat (first | apply Kd.S_alloc | apply Kd.S_drewN | apply Kd.S_drew)); exact HO_2.out, by repeat (first | (with_reducible first | exact HB.out | apply below_alloc | apply pw_below_drewN | apply below_drew1) | exact HB.out)⟩
                    · rw [if_neg c59] at H
                      exact absurd H (by simp)
                  · rw [if_neg c58] at H
                    have c58b0 : (((rd_L4 x2_48 (ji55)).length : Int) == 1) = false := beq_eq_false_iff_ne.mpr c58
                    have c58b1 : (((rd_L4 x2_48 (ji55)).length : Int) != 1) = true := bne_iff_ne.mpr c58
                    obtain rfl := Option.some.inj H
                    obtain ⟨Ao65, co65, eo65⟩ := Kd.S_slice HO_2.out
                    subst eo65
                    have p147 : 0 ≤ ((ji55) : Int) := of_decide_eq_true (by first | (with_reducible assumption) | assumption)
                    have q147 : (ji55) < (x2_48.length : Int) := of_decide_eq_true (by first | (with_reducible assumption) | assumption)
                    obtain ⟨ad147, A147_0, c147_0, e147, hx147_0, hl147_0, hi147_0⟩ := at_L4 (Kd.S_reads' HO_2.out).2.2 (ji55) p147 q147
                    cases e147
                    obtain ⟨ce147, hce147, hMe147, hcc147⟩ := Kd.S_get HO_2.out [] (ji55) p147 (by first | exact q147 | exact of_decide_eq_true (by first | (with_reducible assumption) | assumption) | (have e_ := (Kd.S_reads' HO_2.out).1; omega))
                    obtain ⟨ve147_0, rfl, ge147_0⟩ := hMe147
                    have hv147_0 := hcc147 0 _ rfl
                    rw [Nat.add_zero, show ((Kd.slice 51 k51)).sz = 1 from rfl, Nat.mul_one] at hv147_0
                    replace hv147_0 := Option.some.inj (hv147_0.symm.trans hx147_0)
                    rw [hv147_0] at ge147_0
                    have HL147_0 := Aside0.mk (show Kd.R k51 51 _ _ _ _ (rd_L4 x2_48 (ji55)) from ge147_0)
                    clear hv147_0 ge147_0
                    clear hcc147 hce147
                    have HR147_0 := Aside0.mk hi147_0
                    have HC147_0 := Aside0.mk hl147_0
                    clear hi147_0 hl147_0
                    replace p147 := eq_true p147
                    replace q147 := eq_true q147
                    go_wp2
                    (try rw [Exit.noGoto_ret])
                    go_ret
                    exact ⟨_, by first | rfl | (simp [errW_none, errW_some] <;> rfl) | (simp only [← hji55]; first | rfl | (simp [errW_none, errW_some] <;> rfl)) | (simp [*, errW_none, errW_some] <;> rfl), by (with_reducible repeat (first | apply Kd.S_alloc | apply Kd.S_drewN | apply Kd.S_drew)); exact HO_2.out, by repeat (first | (with_reducible first | exact HB.out | apply below_alloc | apply pw_below_drewN | apply below_drew1) | exact HB.out)⟩
                · rw [if_neg c57] at H
                  exact absurd H (by simp)
              · rw [if_neg c56] at H
                exact absurd H (by simp)
            · rw [if_neg c54] at H
              have c54b0 : decide (0 < (x2_48.length : Int)) = false := decide_eq_false c54
              have c54b1 : decide (0 < x2_48.length) = false := decide_eq_false (by omega)
              clear c54
              obtain rfl := Option.some.inj H
              obtain ⟨Ao66, co66, eo66⟩ := Kd.S_slice HO_2.out
              subst eo66
              go_wp2
              (try rw [Exit.noGoto_ret])
              go_ret
              exact ⟨_, by first | rfl | (simp [errW_none, errW_some] <;> rfl) | (simp [*, errW_none, errW_some] <;> rfl), by (with_reducible repeat (first | apply Kd.S_alloc | apply Kd.S_drewN | apply Kd.S_drew)); exact HO_2.out, by repeat (first | (with_reducible first | exact HB.out | apply below_alloc | apply pw_below_drewN | apply below_drew1) | exact HB.out)⟩

end Go.Proofs.YtgpamoanclhbhaaDoor.R
