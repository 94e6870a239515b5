/- An entry without another: the package's and the reference's (written by gen_sub.py). -/
import Derived.Test.YtifhhejohdmiaaaDoorGet
import Derived.Sort.CutIn
set_option linter.unusedVariables false
set_option linter.unusedSimpArgs false
namespace Go.Proofs.YtifhhejohdmiaaaDoorEnt
open Go.RowKit Go.Shelf Go.Proofs.YtifhhejohdmiaaaDoorW.PrintWords Go.Proofs.YtifhhejohdmiaaaDoorFmt Go.Proofs.YtifhhejohdmiaaaDoorMapI Go.Proofs.YtifhhejohdmiaaaDoorFlt Go.Proofs.YtifhhejohdmiaaaDoor
set_option maxRecDepth 100000 in
set_option maxHeartbeats 4000000 in
theorem csub_c_w (a b : Ent) (v0 v1 v2 v3 v4 v5 : Int) (E : Aside0 (v0 = (if b.c = a.c then 0 else a.c) ∧ v1 = (if b.b = a.b then 0 else a.b) ∧ v2 = (if b.o = a.o then 0 else a.o) ∧ v3 = (if b.bo = a.bo then 0 else a.bo) ∧ v4 = (if b.it = a.it then 0 else a.it) ∧ v5 = (if b.un = a.un then 0 else a.un))) (w : World) :
    Calls Tryd.prog 37 #[.agg #[.int .i32 a.c, .int .i32 a.b, .int .i32 a.o, .int .u8 a.bo, .int .u8 a.it, .int .u8 a.un, .bool a.ni], .agg #[.int .i32 b.c, .int .i32 b.b, .int .i32 b.o, .int .u8 b.bo, .int .u8 b.it, .int .u8 b.un, .bool b.ni]] w fun x w' => x = .returned (.agg #[.int .i32 v0, .int .i32 v1, .int .i32 v2, .int .u8 v3, .int .u8 v4, .int .u8 v5, .bool false]) ∧ Below w.heap.size w w' := by
  have hu := Tryd.underlying57
  have hsk : ∃ W0, (((w.alloc (.cells #[.int .i32 a.c, .int .i32 a.b, .int .i32 a.o, .int .u8 a.bo, .int .u8 a.it, .int .u8 a.un, .bool a.ni] 57)).alloc (.cells #[.int .i32 b.c, .int .i32 b.b, .int .i32 b.o, .int .u8 b.bo, .int .u8 b.it, .int .u8 b.un, .bool b.ni] 57)).alloc (.cells #[.int .i32 0, .int .i32 0, .int .i32 0, .int .u8 0, .int .u8 0, .int .u8 0, .bool false] 57)).alloc (.cells #[.int .i32 0, .int .i32 0, .int .i32 0, .int .u8 0, .int .u8 0, .int .u8 0, .bool false] 57) = W0 ∧ W0.heap[w.heap.size]? = some (.cells #[.int .i32 a.c, .int .i32 a.b, .int .i32 a.o, .int .u8 a.bo, .int .u8 a.it, .int .u8 a.un, .bool a.ni] 57 (0, 0)) ∧ W0.heap[w.heap.size + 1]? = some (.cells #[.int .i32 b.c, .int .i32 b.b, .int .i32 b.o, .int .u8 b.bo, .int .u8 b.it, .int .u8 b.un, .bool b.ni] 57 (0, 0)) ∧ W0.heap[w.heap.size + 1 + 1]? = some (.cells #[.int .i32 0, .int .i32 0, .int .i32 0, .int .u8 0, .int .u8 0, .int .u8 0, .bool false] 57 (0, 0)) ∧ W0.heap[w.heap.size + 1 + 1 + 1]? = some (.cells #[.int .i32 0, .int .i32 0, .int .i32 0, .int .u8 0, .int .u8 0, .int .u8 0, .bool false] 57 (0, 0)) ∧ Below w.heap.size w W0 := by
    have e1 := blk_new w (.cells #[.int .i32 a.c, .int .i32 a.b, .int .i32 a.o, .int .u8 a.bo, .int .u8 a.it, .int .u8 a.un, .bool a.ni] 57)
    have e2 := blk_new (w.alloc (.cells #[.int .i32 a.c, .int .i32 a.b, .int .i32 a.o, .int .u8 a.bo, .int .u8 a.it, .int .u8 a.un, .bool a.ni] 57)) (.cells #[.int .i32 b.c, .int .i32 b.b, .int .i32 b.o, .int .u8 b.bo, .int .u8 b.it, .int .u8 b.un, .bool b.ni] 57)
    have e3 := blk_new ((w.alloc (.cells #[.int .i32 a.c, .int .i32 a.b, .int .i32 a.o, .int .u8 a.bo, .int .u8 a.it, .int .u8 a.un, .bool a.ni] 57)).alloc (.cells #[.int .i32 b.c, .int .i32 b.b, .int .i32 b.o, .int .u8 b.bo, .int .u8 b.it, .int .u8 b.un, .bool b.ni] 57)) (.cells #[.int .i32 0, .int .i32 0, .int .i32 0, .int .u8 0, .int .u8 0, .int .u8 0, .bool false] 57)
    have e4 := blk_new (((w.alloc (.cells #[.int .i32 a.c, .int .i32 a.b, .int .i32 a.o, .int .u8 a.bo, .int .u8 a.it, .int .u8 a.un, .bool a.ni] 57)).alloc (.cells #[.int .i32 b.c, .int .i32 b.b, .int .i32 b.o, .int .u8 b.bo, .int .u8 b.it, .int .u8 b.un, .bool b.ni] 57)).alloc (.cells #[.int .i32 0, .int .i32 0, .int .i32 0, .int .u8 0, .int .u8 0, .int .u8 0, .bool false] 57)) (.cells #[.int .i32 0, .int .i32 0, .int .i32 0, .int .u8 0, .int .u8 0, .int .u8 0, .bool false] 57)
    simp only [World.size_alloc] at e2 e3 e4
    exact ⟨_, rfl, blk_alloc (blk_alloc (blk_alloc e1 _) _) _, blk_alloc (blk_alloc e2 _) _, blk_alloc e3 _, e4, below_alloc (below_alloc (below_alloc (below_alloc (Below.refl _ _) _) _) _) _⟩
  obtain ⟨W0, hW0, hA, hB, hZ, hX, hW⟩ := hsk
  have HA := Aside0.mk hA
  have HB := Aside0.mk hB
  have HZ := Aside0.mk hZ
  have HX := Aside0.mk hX
  have HW := Aside0.mk hW
  have H0 := Aside0.mk hW0
  clear hA hB hZ hX hW hW0
  go_enter Tryd.func37, Tryd.ntmps37
  go_upto_region 2 with fail
  rw [H0.out]
  clear H0
  have hf0 := (blk_cell HA.out 0).trans rfl
  have hf1 := (blk_cell HB.out 0).trans rfl
  go_upto_if 11 with fail
  (try simp only [Act.put, List.setIfInBounds_toArray, List.set_cons_zero, List.set_cons_succ])
  go_cut [] (fun wc => Aside0 (wc.heap[w.heap.size]? = some (.cells #[.int .i32 a.c, .int .i32 a.b, .int .i32 a.o, .int .u8 a.bo, .int .u8 a.it, .int .u8 a.un, .bool a.ni] 57 (0, 0))) ∧ Aside0 (wc.heap[w.heap.size + 1]? = some (.cells #[.int .i32 b.c, .int .i32 b.b, .int .i32 b.o, .int .u8 b.bo, .int .u8 b.it, .int .u8 b.un, .bool b.ni] 57 (0, 0))) ∧ Aside0 (wc.heap[w.heap.size + 1 + 1]? = some (.cells #[.int .i32 0, .int .i32 0, .int .i32 0, .int .u8 0, .int .u8 0, .int .u8 0, .bool false] 57 (0, 0))) ∧ Aside0 (wc.heap[w.heap.size + 1 + 1 + 1]? = some (.cells #[.int .i32 (if b.c = a.c then 0 else a.c), .int .i32 0, .int .i32 0, .int .u8 0, .int .u8 0, .int .u8 0, .bool false] 57 (0, 0))) ∧ Aside0 (Below w.heap.size w wc))
  case first =>
    have hz := blk_frozen HX.out 0
    have hx := (blk_cell HX.out 0).trans rfl
    by_cases q : b.c = a.c
    · have HQ := Aside0.mk q
      have q1 : (b.c != a.c) = false := bne_eq_false_iff_eq.mpr q
      clear q
      (first | rw [q1] | skip)
      go_wp2
      go_meet
      case rel => exact ⟨HA, HB, HZ, by rw [if_pos HQ.out]; exact HX, HW⟩
    · have HQ := Aside0.mk q
      have q1 : (b.c != a.c) = true := bne_iff_ne.mpr q
      clear q
      (first | rw [q1] | skip)
      go_wp2
      go_meet
      case rel => exact ⟨⟨blk_far HA.out (show w.heap.size ≠ w.heap.size + 1 + 1 + 1 by omega) _⟩, ⟨blk_far HB.out (show w.heap.size + 1 ≠ w.heap.size + 1 + 1 + 1 by omega) _⟩, ⟨blk_far HZ.out (show w.heap.size + 1 + 1 ≠ w.heap.size + 1 + 1 + 1 by omega) _⟩, by rw [if_neg HQ.out]; exact ⟨blk_put (cs := #[.int .i32 0, .int .i32 0, .int .i32 0, .int .u8 0, .int .u8 0, .int .u8 0, .bool false]) HX.out 0 _ rfl⟩, ⟨below_set HW.out (by omega)⟩⟩
  case rest =>
    try clear hf0
    try clear hf1
    clear HA HB HZ HX HW
    obtain ⟨HA, HB, HZ, HX, HW⟩ := hcut
    have hf0 := (blk_cell HA.out 1).trans rfl
    have hf1 := (blk_cell HB.out 1).trans rfl
    go_upto_if 19 with fail
    (try simp only [Act.put, List.setIfInBounds_toArray, List.set_cons_zero, List.set_cons_succ])
    go_cut [] (fun wc => Aside0 (wc.heap[w.heap.size]? = some (.cells #[.int .i32 a.c, .int .i32 a.b, .int .i32 a.o, .int .u8 a.bo, .int .u8 a.it, .int .u8 a.un, .bool a.ni] 57 (0, 0))) ∧ Aside0 (wc.heap[w.heap.size + 1]? = some (.cells #[.int .i32 b.c, .int .i32 b.b, .int .i32 b.o, .int .u8 b.bo, .int .u8 b.it, .int .u8 b.un, .bool b.ni] 57 (0, 0))) ∧ Aside0 (wc.heap[w.heap.size + 1 + 1]? = some (.cells #[.int .i32 0, .int .i32 0, .int .i32 0, .int .u8 0, .int .u8 0, .int .u8 0, .bool false] 57 (0, 0))) ∧ Aside0 (wc.heap[w.heap.size + 1 + 1 + 1]? = some (.cells #[.int .i32 (if b.c = a.c then 0 else a.c), .int .i32 (if b.b = a.b then 0 else a.b), .int .i32 0, .int .u8 0, .int .u8 0, .int .u8 0, .bool false] 57 (0, 0))) ∧ Aside0 (Below w.heap.size w wc))
    case first =>
      have hz := blk_frozen HX.out 1
      have hx := (blk_cell HX.out 1).trans rfl
      by_cases q : b.b = a.b
      · have HQ := Aside0.mk q
        have q1 : (b.b != a.b) = false := bne_eq_false_iff_eq.mpr q
        clear q
        (first | rw [q1] | skip)
        go_wp2
        go_meet
        case rel => exact ⟨HA, HB, HZ, by rw [if_pos HQ.out]; exact HX, HW⟩
      · have HQ := Aside0.mk q
        have q1 : (b.b != a.b) = true := bne_iff_ne.mpr q
        clear q
        (first | rw [q1] | skip)
        go_wp2
        go_meet
        case rel => exact ⟨⟨blk_far HA.out (show w.heap.size ≠ w.heap.size + 1 + 1 + 1 by omega) _⟩, ⟨blk_far HB.out (show w.heap.size + 1 ≠ w.heap.size + 1 + 1 + 1 by omega) _⟩, ⟨blk_far HZ.out (show w.heap.size + 1 + 1 ≠ w.heap.size + 1 + 1 + 1 by omega) _⟩, by rw [if_neg HQ.out]; exact ⟨blk_put (cs := #[.int .i32 (if b.c = a.c then 0 else a.c), .int .i32 0, .int .i32 0, .int .u8 0, .int .u8 0, .int .u8 0, .bool false]) HX.out 1 _ rfl⟩, ⟨below_set HW.out (by omega)⟩⟩
    case rest =>
      try clear hf0
      try clear hf1
      clear HA HB HZ HX HW
      obtain ⟨HA, HB, HZ, HX, HW⟩ := hcut
      have hf0 := (blk_cell HA.out 3).trans rfl
      have hf1 := (blk_cell HB.out 3).trans rfl
      go_upto_if 27 with fail
      (try simp only [Act.put, List.setIfInBounds_toArray, List.set_cons_zero, List.set_cons_succ])
      go_cut [] (fun wc => Aside0 (wc.heap[w.heap.size]? = some (.cells #[.int .i32 a.c, .int .i32 a.b, .int .i32 a.o, .int .u8 a.bo, .int .u8 a.it, .int .u8 a.un, .bool a.ni] 57 (0, 0))) ∧ Aside0 (wc.heap[w.heap.size + 1]? = some (.cells #[.int .i32 b.c, .int .i32 b.b, .int .i32 b.o, .int .u8 b.bo, .int .u8 b.it, .int .u8 b.un, .bool b.ni] 57 (0, 0))) ∧ Aside0 (wc.heap[w.heap.size + 1 + 1]? = some (.cells #[.int .i32 0, .int .i32 0, .int .i32 0, .int .u8 0, .int .u8 0, .int .u8 0, .bool false] 57 (0, 0))) ∧ Aside0 (wc.heap[w.heap.size + 1 + 1 + 1]? = some (.cells #[.int .i32 (if b.c = a.c then 0 else a.c), .int .i32 (if b.b = a.b then 0 else a.b), .int .i32 0, .int .u8 (if b.bo = a.bo then 0 else a.bo), .int .u8 0, .int .u8 0, .bool false] 57 (0, 0))) ∧ Aside0 (Below w.heap.size w wc))
      case first =>
        have hz := blk_frozen HX.out 3
        have hx := (blk_cell HX.out 3).trans rfl
        by_cases q : b.bo = a.bo
        · have HQ := Aside0.mk q
          have q1 : (b.bo != a.bo) = false := bne_eq_false_iff_eq.mpr q
          clear q
          (first | rw [q1] | skip)
          go_wp2
          go_meet
          case rel => exact ⟨HA, HB, HZ, by rw [if_pos HQ.out]; exact HX, HW⟩
        · have HQ := Aside0.mk q
          have q1 : (b.bo != a.bo) = true := bne_iff_ne.mpr q
          clear q
          (first | rw [q1] | skip)
          go_wp2
          go_meet
          case rel => exact ⟨⟨blk_far HA.out (show w.heap.size ≠ w.heap.size + 1 + 1 + 1 by omega) _⟩, ⟨blk_far HB.out (show w.heap.size + 1 ≠ w.heap.size + 1 + 1 + 1 by omega) _⟩, ⟨blk_far HZ.out (show w.heap.size + 1 + 1 ≠ w.heap.size + 1 + 1 + 1 by omega) _⟩, by rw [if_neg HQ.out]; exact ⟨blk_put (cs := #[.int .i32 (if b.c = a.c then 0 else a.c), .int .i32 (if b.b = a.b then 0 else a.b), .int .i32 0, .int .u8 0, .int .u8 0, .int .u8 0, .bool false]) HX.out 3 _ rfl⟩, ⟨below_set HW.out (by omega)⟩⟩
      case rest =>
        try clear hf0
        try clear hf1
        clear HA HB HZ HX HW
        obtain ⟨HA, HB, HZ, HX, HW⟩ := hcut
        have hf0 := (blk_cell HA.out 4).trans rfl
        have hf1 := (blk_cell HB.out 4).trans rfl
        go_upto_if 35 with fail
        (try simp only [Act.put, List.setIfInBounds_toArray, List.set_cons_zero, List.set_cons_succ])
        go_cut [] (fun wc => Aside0 (wc.heap[w.heap.size]? = some (.cells #[.int .i32 a.c, .int .i32 a.b, .int .i32 a.o, .int .u8 a.bo, .int .u8 a.it, .int .u8 a.un, .bool a.ni] 57 (0, 0))) ∧ Aside0 (wc.heap[w.heap.size + 1]? = some (.cells #[.int .i32 b.c, .int .i32 b.b, .int .i32 b.o, .int .u8 b.bo, .int .u8 b.it, .int .u8 b.un, .bool b.ni] 57 (0, 0))) ∧ Aside0 (wc.heap[w.heap.size + 1 + 1]? = some (.cells #[.int .i32 0, .int .i32 0, .int .i32 0, .int .u8 0, .int .u8 0, .int .u8 0, .bool false] 57 (0, 0))) ∧ Aside0 (wc.heap[w.heap.size + 1 + 1 + 1]? = some (.cells #[.int .i32 (if b.c = a.c then 0 else a.c), .int .i32 (if b.b = a.b then 0 else a.b), .int .i32 0, .int .u8 (if b.bo = a.bo then 0 else a.bo), .int .u8 (if b.it = a.it then 0 else a.it), .int .u8 0, .bool false] 57 (0, 0))) ∧ Aside0 (Below w.heap.size w wc))
        case first =>
          have hz := blk_frozen HX.out 4
          have hx := (blk_cell HX.out 4).trans rfl
          by_cases q : b.it = a.it
          · have HQ := Aside0.mk q
            have q1 : (b.it != a.it) = false := bne_eq_false_iff_eq.mpr q
            clear q
            (first | rw [q1] | skip)
            go_wp2
            go_meet
            case rel => exact ⟨HA, HB, HZ, by rw [if_pos HQ.out]; exact HX, HW⟩
          · have HQ := Aside0.mk q
            have q1 : (b.it != a.it) = true := bne_iff_ne.mpr q
            clear q
            (first | rw [q1] | skip)
            go_wp2
            go_meet
            case rel => exact ⟨⟨blk_far HA.out (show w.heap.size ≠ w.heap.size + 1 + 1 + 1 by omega) _⟩, ⟨blk_far HB.out (show w.heap.size + 1 ≠ w.heap.size + 1 + 1 + 1 by omega) _⟩, ⟨blk_far HZ.out (show w.heap.size + 1 + 1 ≠ w.heap.size + 1 + 1 + 1 by omega) _⟩, by rw [if_neg HQ.out]; exact ⟨blk_put (cs := #[.int .i32 (if b.c = a.c then 0 else a.c), .int .i32 (if b.b = a.b then 0 else a.b), .int .i32 0, .int .u8 (if b.bo = a.bo then 0 else a.bo), .int .u8 0, .int .u8 0, .bool false]) HX.out 4 _ rfl⟩, ⟨below_set HW.out (by omega)⟩⟩
        case rest =>
          try clear hf0
          try clear hf1
          clear HA HB HZ HX HW
          obtain ⟨HA, HB, HZ, HX, HW⟩ := hcut
          have hf0 := (blk_cell HA.out 5).trans rfl
          have hf1 := (blk_cell HB.out 5).trans rfl
          go_upto_if 43 with fail
          (try simp only [Act.put, List.setIfInBounds_toArray, List.set_cons_zero, List.set_cons_succ])
          go_cut [] (fun wc => Aside0 (wc.heap[w.heap.size]? = some (.cells #[.int .i32 a.c, .int .i32 a.b, .int .i32 a.o, .int .u8 a.bo, .int .u8 a.it, .int .u8 a.un, .bool a.ni] 57 (0, 0))) ∧ Aside0 (wc.heap[w.heap.size + 1]? = some (.cells #[.int .i32 b.c, .int .i32 b.b, .int .i32 b.o, .int .u8 b.bo, .int .u8 b.it, .int .u8 b.un, .bool b.ni] 57 (0, 0))) ∧ Aside0 (wc.heap[w.heap.size + 1 + 1]? = some (.cells #[.int .i32 0, .int .i32 0, .int .i32 0, .int .u8 0, .int .u8 0, .int .u8 0, .bool false] 57 (0, 0))) ∧ Aside0 (wc.heap[w.heap.size + 1 + 1 + 1]? = some (.cells #[.int .i32 (if b.c = a.c then 0 else a.c), .int .i32 (if b.b = a.b then 0 else a.b), .int .i32 0, .int .u8 (if b.bo = a.bo then 0 else a.bo), .int .u8 (if b.it = a.it then 0 else a.it), .int .u8 (if b.un = a.un then 0 else a.un), .bool false] 57 (0, 0))) ∧ Aside0 (Below w.heap.size w wc))
          case first =>
            have hz := blk_frozen HX.out 5
            have hx := (blk_cell HX.out 5).trans rfl
            by_cases q : b.un = a.un
            · have HQ := Aside0.mk q
              have q1 : (b.un != a.un) = false := bne_eq_false_iff_eq.mpr q
              clear q
              (first | rw [q1] | skip)
              go_wp2
              go_meet
              case rel => exact ⟨HA, HB, HZ, by rw [if_pos HQ.out]; exact HX, HW⟩
            · have HQ := Aside0.mk q
              have q1 : (b.un != a.un) = true := bne_iff_ne.mpr q
              clear q
              (first | rw [q1] | skip)
              go_wp2
              go_meet
              case rel => exact ⟨⟨blk_far HA.out (show w.heap.size ≠ w.heap.size + 1 + 1 + 1 by omega) _⟩, ⟨blk_far HB.out (show w.heap.size + 1 ≠ w.heap.size + 1 + 1 + 1 by omega) _⟩, ⟨blk_far HZ.out (show w.heap.size + 1 + 1 ≠ w.heap.size + 1 + 1 + 1 by omega) _⟩, by rw [if_neg HQ.out]; exact ⟨blk_put (cs := #[.int .i32 (if b.c = a.c then 0 else a.c), .int .i32 (if b.b = a.b then 0 else a.b), .int .i32 0, .int .u8 (if b.bo = a.bo then 0 else a.bo), .int .u8 (if b.it = a.it then 0 else a.it), .int .u8 0, .bool false]) HX.out 5 _ rfl⟩, ⟨below_set HW.out (by omega)⟩⟩
          case rest =>
            try clear hf0
            try clear hf1
            clear HA HB HZ HX HW
            obtain ⟨HA, HB, HZ, HX, HW⟩ := hcut
            have hf0 := (blk_cell HA.out 2).trans rfl
            have hf1 := (blk_cell HB.out 2).trans rfl
            go_upto_if 51 with fail
            (try simp only [Act.put, List.setIfInBounds_toArray, List.set_cons_zero, List.set_cons_succ])
            go_cut [] (fun wc => Aside0 (wc.heap[w.heap.size]? = some (.cells #[.int .i32 a.c, .int .i32 a.b, .int .i32 a.o, .int .u8 a.bo, .int .u8 a.it, .int .u8 a.un, .bool a.ni] 57 (0, 0))) ∧ Aside0 (wc.heap[w.heap.size + 1]? = some (.cells #[.int .i32 b.c, .int .i32 b.b, .int .i32 b.o, .int .u8 b.bo, .int .u8 b.it, .int .u8 b.un, .bool b.ni] 57 (0, 0))) ∧ Aside0 (wc.heap[w.heap.size + 1 + 1]? = some (.cells #[.int .i32 0, .int .i32 0, .int .i32 0, .int .u8 0, .int .u8 0, .int .u8 0, .bool false] 57 (0, 0))) ∧ Aside0 (wc.heap[w.heap.size + 1 + 1 + 1]? = some (.cells #[.int .i32 (if b.c = a.c then 0 else a.c), .int .i32 (if b.b = a.b then 0 else a.b), .int .i32 (if b.o = a.o then 0 else a.o), .int .u8 (if b.bo = a.bo then 0 else a.bo), .int .u8 (if b.it = a.it then 0 else a.it), .int .u8 (if b.un = a.un then 0 else a.un), .bool false] 57 (0, 0))) ∧ Aside0 (Below w.heap.size w wc))
            case first =>
              have hz := blk_frozen HX.out 2
              have hx := (blk_cell HX.out 2).trans rfl
              by_cases q : b.o = a.o
              · have HQ := Aside0.mk q
                have q1 : (b.o != a.o) = false := bne_eq_false_iff_eq.mpr q
                clear q
                (first | rw [q1] | skip)
                go_wp2
                go_meet
                case rel => exact ⟨HA, HB, HZ, by rw [if_pos HQ.out]; exact HX, HW⟩
              · have HQ := Aside0.mk q
                have q1 : (b.o != a.o) = true := bne_iff_ne.mpr q
                clear q
                (first | rw [q1] | skip)
                go_wp2
                go_meet
                case rel => exact ⟨⟨blk_far HA.out (show w.heap.size ≠ w.heap.size + 1 + 1 + 1 by omega) _⟩, ⟨blk_far HB.out (show w.heap.size + 1 ≠ w.heap.size + 1 + 1 + 1 by omega) _⟩, ⟨blk_far HZ.out (show w.heap.size + 1 + 1 ≠ w.heap.size + 1 + 1 + 1 by omega) _⟩, by rw [if_neg HQ.out]; exact ⟨blk_put (cs := #[.int .i32 (if b.c = a.c then 0 else a.c), .int .i32 (if b.b = a.b then 0 else a.b), .int .i32 0, .int .u8 (if b.bo = a.bo then 0 else a.bo), .int .u8 (if b.it = a.it then 0 else a.it), .int .u8 (if b.un = a.un then 0 else a.un), .bool false]) HX.out 2 _ rfl⟩, ⟨below_set HW.out (by omega)⟩⟩
            case rest =>
              try clear hf0
              try clear hf1
              clear HA HB HZ HX HW
              obtain ⟨HA, HB, HZ, HX, HW⟩ := hcut
              rw [← E.out.1, ← E.out.2.1, ← E.out.2.2.1, ← E.out.2.2.2.1, ← E.out.2.2.2.2.1, ← E.out.2.2.2.2.2] at HX
              have hf0 := (blk_cell HX.out 0).trans rfl
              have hz0 := blk_frozen HZ.out 0
              have hy0 := (blk_cell HZ.out 0).trans rfl
              have hf1 := (blk_cell HX.out 1).trans rfl
              have hz1 := blk_frozen HZ.out 1
              have hy1 := (blk_cell HZ.out 1).trans rfl
              have hf2 := (blk_cell HX.out 2).trans rfl
              have hz2 := blk_frozen HZ.out 2
              have hy2 := (blk_cell HZ.out 2).trans rfl
              have hf3 := (blk_cell HX.out 3).trans rfl
              have hz3 := blk_frozen HZ.out 3
              have hy3 := (blk_cell HZ.out 3).trans rfl
              have hf4 := (blk_cell HX.out 4).trans rfl
              have hz4 := blk_frozen HZ.out 4
              have hy4 := (blk_cell HZ.out 4).trans rfl
              have hf5 := (blk_cell HX.out 5).trans rfl
              have hz5 := blk_frozen HZ.out 5
              have hy5 := (blk_cell HZ.out 5).trans rfl
              have hf6 := (blk_cell HX.out 6).trans rfl
              have hz6 := blk_frozen HZ.out 6
              have hy6 := (blk_cell HZ.out 6).trans rfl
              have hfin : (setAll (w.heap.size + 1 + 1) wc 0 [.int .i32 v0, .int .i32 v1, .int .i32 v2, .int .u8 v3, .int .u8 v4, .int .u8 v5, .bool false]).heap[w.heap.size + 1 + 1]? = some (.cells #[.int .i32 v0, .int .i32 v1, .int .i32 v2, .int .u8 v3, .int .u8 v4, .int .u8 v5, .bool false] 57 (0, 0)) := by
                rw [setAll_blk _ _ 0 _ HZ.out]; rfl
              rw [set7] at hfin
              have hbe := HW.out.trans (setAll_below (b := w.heap.size + 1 + 1) (n := w.heap.size) (by omega) [.int .i32 v0, .int .i32 v1, .int .i32 v2, .int .u8 v3, .int .u8 v4, .int .u8 v5, .bool false] wc 0)
              rw [set7] at hbe
              have HF := Aside0.mk hfin
              have HE := Aside0.mk hbe
              clear hfin hbe
              go_wp2
              exact bodyPost_ret (results_cell_row rfl _ _ (w.heap.size + 1 + 1) 57 #[.int .i32 v0, .int .i32 v1, .int .i32 v2, .int .u8 v3, .int .u8 v4, .int .u8 v5, .bool false] (0, 0) _ rfl HF.out Tryd.underlying57 rfl (by kernel_rfl)) rfl ⟨rfl, HE.out⟩
theorem csub_c (a b : Ent) (w : World) :
    Calls Tryd.prog 37 #[.agg #[.int .i32 a.c, .int .i32 a.b, .int .i32 a.o, .int .u8 a.bo, .int .u8 a.it, .int .u8 a.un, .bool a.ni], .agg #[.int .i32 b.c, .int .i32 b.b, .int .i32 b.o, .int .u8 b.bo, .int .u8 b.it, .int .u8 b.un, .bool b.ni]] w fun x w' => x = .returned (.agg #[.int .i32 (if b.c = a.c then 0 else a.c), .int .i32 (if b.b = a.b then 0 else a.b), .int .i32 (if b.o = a.o then 0 else a.o), .int .u8 (if b.bo = a.bo then 0 else a.bo), .int .u8 (if b.it = a.it then 0 else a.it), .int .u8 (if b.un = a.un then 0 else a.un), .bool false]) ∧ Below w.heap.size w w' :=
  csub_c_w a b _ _ _ _ _ _ ⟨⟨rfl, rfl, rfl, rfl, rfl, rfl⟩⟩ w
set_option maxRecDepth 100000 in
set_option maxHeartbeats 4000000 in
theorem ssub_c_w (a b : Ent) (v0 v1 v2 v3 v4 v5 : Int) (E : Aside0 (v0 = (if a.c = b.c then 0 else a.c) ∧ v1 = (if a.b = b.b then 0 else a.b) ∧ v2 = (if a.o = b.o then 0 else a.o) ∧ v3 = (if a.bo = b.bo then 0 else a.bo) ∧ v4 = (if a.it = b.it then 0 else a.it) ∧ v5 = (if a.un = b.un then 0 else a.un))) (w : World) :
    Calls Tryd.prog 22 #[.agg #[.int .i32 a.c, .int .i32 a.b, .int .i32 a.o, .int .u8 a.bo, .int .u8 a.it, .int .u8 a.un, .bool a.ni], .agg #[.int .i32 b.c, .int .i32 b.b, .int .i32 b.o, .int .u8 b.bo, .int .u8 b.it, .int .u8 b.un, .bool b.ni]] w fun x w' => x = .returned (.agg #[.int .i32 v0, .int .i32 v1, .int .i32 v2, .int .u8 v3, .int .u8 v4, .int .u8 v5, .bool false]) ∧ Below w.heap.size w w' := by
  have hu := Tryd.underlying26
  have hsk : ∃ W0, (((w.alloc (.cells #[.int .i32 a.c, .int .i32 a.b, .int .i32 a.o, .int .u8 a.bo, .int .u8 a.it, .int .u8 a.un, .bool a.ni] 26)).alloc (.cells #[.int .i32 b.c, .int .i32 b.b, .int .i32 b.o, .int .u8 b.bo, .int .u8 b.it, .int .u8 b.un, .bool b.ni] 26)).alloc (.cells #[.int .i32 0, .int .i32 0, .int .i32 0, .int .u8 0, .int .u8 0, .int .u8 0, .bool false] 26)).alloc (.cells #[.int .i32 0, .int .i32 0, .int .i32 0, .int .u8 0, .int .u8 0, .int .u8 0, .bool false] 26) = W0 ∧ W0.heap[w.heap.size]? = some (.cells #[.int .i32 a.c, .int .i32 a.b, .int .i32 a.o, .int .u8 a.bo, .int .u8 a.it, .int .u8 a.un, .bool a.ni] 26 (0, 0)) ∧ W0.heap[w.heap.size + 1]? = some (.cells #[.int .i32 b.c, .int .i32 b.b, .int .i32 b.o, .int .u8 b.bo, .int .u8 b.it, .int .u8 b.un, .bool b.ni] 26 (0, 0)) ∧ W0.heap[w.heap.size + 1 + 1]? = some (.cells #[.int .i32 0, .int .i32 0, .int .i32 0, .int .u8 0, .int .u8 0, .int .u8 0, .bool false] 26 (0, 0)) ∧ W0.heap[w.heap.size + 1 + 1 + 1]? = some (.cells #[.int .i32 0, .int .i32 0, .int .i32 0, .int .u8 0, .int .u8 0, .int .u8 0, .bool false] 26 (0, 0)) ∧ Below w.heap.size w W0 := by
    have e1 := blk_new w (.cells #[.int .i32 a.c, .int .i32 a.b, .int .i32 a.o, .int .u8 a.bo, .int .u8 a.it, .int .u8 a.un, .bool a.ni] 26)
    have e2 := blk_new (w.alloc (.cells #[.int .i32 a.c, .int .i32 a.b, .int .i32 a.o, .int .u8 a.bo, .int .u8 a.it, .int .u8 a.un, .bool a.ni] 26)) (.cells #[.int .i32 b.c, .int .i32 b.b, .int .i32 b.o, .int .u8 b.bo, .int .u8 b.it, .int .u8 b.un, .bool b.ni] 26)
    have e3 := blk_new ((w.alloc (.cells #[.int .i32 a.c, .int .i32 a.b, .int .i32 a.o, .int .u8 a.bo, .int .u8 a.it, .int .u8 a.un, .bool a.ni] 26)).alloc (.cells #[.int .i32 b.c, .int .i32 b.b, .int .i32 b.o, .int .u8 b.bo, .int .u8 b.it, .int .u8 b.un, .bool b.ni] 26)) (.cells #[.int .i32 0, .int .i32 0, .int .i32 0, .int .u8 0, .int .u8 0, .int .u8 0, .bool false] 26)
    have e4 := blk_new (((w.alloc (.cells #[.int .i32 a.c, .int .i32 a.b, .int .i32 a.o, .int .u8 a.bo, .int .u8 a.it, .int .u8 a.un, .bool a.ni] 26)).alloc (.cells #[.int .i32 b.c, .int .i32 b.b, .int .i32 b.o, .int .u8 b.bo, .int .u8 b.it, .int .u8 b.un, .bool b.ni] 26)).alloc (.cells #[.int .i32 0, .int .i32 0, .int .i32 0, .int .u8 0, .int .u8 0, .int .u8 0, .bool false] 26)) (.cells #[.int .i32 0, .int .i32 0, .int .i32 0, .int .u8 0, .int .u8 0, .int .u8 0, .bool false] 26)
    simp only [World.size_alloc] at e2 e3 e4
    exact ⟨_, rfl, blk_alloc (blk_alloc (blk_alloc e1 _) _) _, blk_alloc (blk_alloc e2 _) _, blk_alloc e3 _, e4, below_alloc (below_alloc (below_alloc (below_alloc (Below.refl _ _) _) _) _) _⟩
  obtain ⟨W0, hW0, hA, hB, hZ, hX, hW⟩ := hsk
  have HA := Aside0.mk hA
  have HB := Aside0.mk hB
  have HZ := Aside0.mk hZ
  have HX := Aside0.mk hX
  have HW := Aside0.mk hW
  have H0 := Aside0.mk hW0
  clear hA hB hZ hX hW hW0
  go_enter Tryd.func22, Tryd.ntmps22
  go_upto_region 2 with fail
  rw [H0.out]
  clear H0
  have hf0 := (blk_cell HA.out 0).trans rfl
  have hf1 := (blk_cell HB.out 0).trans rfl
  go_upto_if 10 with fail
  (try simp only [Act.put, List.setIfInBounds_toArray, List.set_cons_zero, List.set_cons_succ])
  go_cut [] (fun wc => Aside0 (wc.heap[w.heap.size]? = some (.cells #[.int .i32 a.c, .int .i32 a.b, .int .i32 a.o, .int .u8 a.bo, .int .u8 a.it, .int .u8 a.un, .bool a.ni] 26 (0, 0))) ∧ Aside0 (wc.heap[w.heap.size + 1]? = some (.cells #[.int .i32 b.c, .int .i32 b.b, .int .i32 b.o, .int .u8 b.bo, .int .u8 b.it, .int .u8 b.un, .bool b.ni] 26 (0, 0))) ∧ Aside0 (wc.heap[w.heap.size + 1 + 1]? = some (.cells #[.int .i32 0, .int .i32 0, .int .i32 0, .int .u8 0, .int .u8 0, .int .u8 0, .bool false] 26 (0, 0))) ∧ Aside0 (wc.heap[w.heap.size + 1 + 1 + 1]? = some (.cells #[.int .i32 (if a.c = b.c then 0 else a.c), .int .i32 0, .int .i32 0, .int .u8 0, .int .u8 0, .int .u8 0, .bool false] 26 (0, 0))) ∧ Aside0 (Below w.heap.size w wc))
  case first =>
    have hz := blk_frozen HX.out 0
    have hx := (blk_cell HX.out 0).trans rfl
    by_cases q : a.c = b.c
    · have HQ := Aside0.mk q
      have q1 : (a.c != b.c) = false := bne_eq_false_iff_eq.mpr q
      clear q
      (first | rw [q1] | skip)
      go_wp2
      go_meet
      case rel => exact ⟨HA, HB, HZ, by rw [if_pos HQ.out]; exact HX, HW⟩
    · have HQ := Aside0.mk q
      have q1 : (a.c != b.c) = true := bne_iff_ne.mpr q
      clear q
      (first | rw [q1] | skip)
      go_wp2
      go_meet
      case rel => exact ⟨⟨blk_far HA.out (show w.heap.size ≠ w.heap.size + 1 + 1 + 1 by omega) _⟩, ⟨blk_far HB.out (show w.heap.size + 1 ≠ w.heap.size + 1 + 1 + 1 by omega) _⟩, ⟨blk_far HZ.out (show w.heap.size + 1 + 1 ≠ w.heap.size + 1 + 1 + 1 by omega) _⟩, by rw [if_neg HQ.out]; exact ⟨blk_put (cs := #[.int .i32 0, .int .i32 0, .int .i32 0, .int .u8 0, .int .u8 0, .int .u8 0, .bool false]) HX.out 0 _ rfl⟩, ⟨below_set HW.out (by omega)⟩⟩
  case rest =>
    try clear hf0
    try clear hf1
    clear HA HB HZ HX HW
    obtain ⟨HA, HB, HZ, HX, HW⟩ := hcut
    have hf0 := (blk_cell HA.out 1).trans rfl
    have hf1 := (blk_cell HB.out 1).trans rfl
    go_upto_if 18 with fail
    (try simp only [Act.put, List.setIfInBounds_toArray, List.set_cons_zero, List.set_cons_succ])
    go_cut [] (fun wc => Aside0 (wc.heap[w.heap.size]? = some (.cells #[.int .i32 a.c, .int .i32 a.b, .int .i32 a.o, .int .u8 a.bo, .int .u8 a.it, .int .u8 a.un, .bool a.ni] 26 (0, 0))) ∧ Aside0 (wc.heap[w.heap.size + 1]? = some (.cells #[.int .i32 b.c, .int .i32 b.b, .int .i32 b.o, .int .u8 b.bo, .int .u8 b.it, .int .u8 b.un, .bool b.ni] 26 (0, 0))) ∧ Aside0 (wc.heap[w.heap.size + 1 + 1]? = some (.cells #[.int .i32 0, .int .i32 0, .int .i32 0, .int .u8 0, .int .u8 0, .int .u8 0, .bool false] 26 (0, 0))) ∧ Aside0 (wc.heap[w.heap.size + 1 + 1 + 1]? = some (.cells #[.int .i32 (if a.c = b.c then 0 else a.c), .int .i32 (if a.b = b.b then 0 else a.b), .int .i32 0, .int .u8 0, .int .u8 0, .int .u8 0, .bool false] 26 (0, 0))) ∧ Aside0 (Below w.heap.size w wc))
    case first =>
      have hz := blk_frozen HX.out 1
      have hx := (blk_cell HX.out 1).trans rfl
      by_cases q : a.b = b.b
      · have HQ := Aside0.mk q
        have q1 : (a.b != b.b) = false := bne_eq_false_iff_eq.mpr q
        clear q
        (first | rw [q1] | skip)
        go_wp2
        go_meet
        case rel => exact ⟨HA, HB, HZ, by rw [if_pos HQ.out]; exact HX, HW⟩
      · have HQ := Aside0.mk q
        have q1 : (a.b != b.b) = true := bne_iff_ne.mpr q
        clear q
        (first | rw [q1] | skip)
        go_wp2
        go_meet
        case rel => exact ⟨⟨blk_far HA.out (show w.heap.size ≠ w.heap.size + 1 + 1 + 1 by omega) _⟩, ⟨blk_far HB.out (show w.heap.size + 1 ≠ w.heap.size + 1 + 1 + 1 by omega) _⟩, ⟨blk_far HZ.out (show w.heap.size + 1 + 1 ≠ w.heap.size + 1 + 1 + 1 by omega) _⟩, by rw [if_neg HQ.out]; exact ⟨blk_put (cs := #[.int .i32 (if a.c = b.c then 0 else a.c), .int .i32 0, .int .i32 0, .int .u8 0, .int .u8 0, .int .u8 0, .bool false]) HX.out 1 _ rfl⟩, ⟨below_set HW.out (by omega)⟩⟩
    case rest =>
      try clear hf0
      try clear hf1
      clear HA HB HZ HX HW
      obtain ⟨HA, HB, HZ, HX, HW⟩ := hcut
      have hf0 := (blk_cell HA.out 2).trans rfl
      have hf1 := (blk_cell HB.out 2).trans rfl
      go_upto_if 26 with fail
      (try simp only [Act.put, List.setIfInBounds_toArray, List.set_cons_zero, List.set_cons_succ])
      go_cut [] (fun wc => Aside0 (wc.heap[w.heap.size]? = some (.cells #[.int .i32 a.c, .int .i32 a.b, .int .i32 a.o, .int .u8 a.bo, .int .u8 a.it, .int .u8 a.un, .bool a.ni] 26 (0, 0))) ∧ Aside0 (wc.heap[w.heap.size + 1]? = some (.cells #[.int .i32 b.c, .int .i32 b.b, .int .i32 b.o, .int .u8 b.bo, .int .u8 b.it, .int .u8 b.un, .bool b.ni] 26 (0, 0))) ∧ Aside0 (wc.heap[w.heap.size + 1 + 1]? = some (.cells #[.int .i32 0, .int .i32 0, .int .i32 0, .int .u8 0, .int .u8 0, .int .u8 0, .bool false] 26 (0, 0))) ∧ Aside0 (wc.heap[w.heap.size + 1 + 1 + 1]? = some (.cells #[.int .i32 (if a.c = b.c then 0 else a.c), .int .i32 (if a.b = b.b then 0 else a.b), .int .i32 (if a.o = b.o then 0 else a.o), .int .u8 0, .int .u8 0, .int .u8 0, .bool false] 26 (0, 0))) ∧ Aside0 (Below w.heap.size w wc))
      case first =>
        have hz := blk_frozen HX.out 2
        have hx := (blk_cell HX.out 2).trans rfl
        by_cases q : a.o = b.o
        · have HQ := Aside0.mk q
          have q1 : (a.o != b.o) = false := bne_eq_false_iff_eq.mpr q
          clear q
          (first | rw [q1] | skip)
          go_wp2
          go_meet
          case rel => exact ⟨HA, HB, HZ, by rw [if_pos HQ.out]; exact HX, HW⟩
        · have HQ := Aside0.mk q
          have q1 : (a.o != b.o) = true := bne_iff_ne.mpr q
          clear q
          (first | rw [q1] | skip)
          go_wp2
          go_meet
          case rel => exact ⟨⟨blk_far HA.out (show w.heap.size ≠ w.heap.size + 1 + 1 + 1 by omega) _⟩, ⟨blk_far HB.out (show w.heap.size + 1 ≠ w.heap.size + 1 + 1 + 1 by omega) _⟩, ⟨blk_far HZ.out (show w.heap.size + 1 + 1 ≠ w.heap.size + 1 + 1 + 1 by omega) _⟩, by rw [if_neg HQ.out]; exact ⟨blk_put (cs := #[.int .i32 (if a.c = b.c then 0 else a.c), .int .i32 (if a.b = b.b then 0 else a.b), .int .i32 0, .int .u8 0, .int .u8 0, .int .u8 0, .bool false]) HX.out 2 _ rfl⟩, ⟨below_set HW.out (by omega)⟩⟩
      case rest =>
        try clear hf0
        try clear hf1
        clear HA HB HZ HX HW
        obtain ⟨HA, HB, HZ, HX, HW⟩ := hcut
        have hf0 := (blk_cell HA.out 3).trans rfl
        have hf1 := (blk_cell HB.out 3).trans rfl
        go_upto_if 34 with fail
        (try simp only [Act.put, List.setIfInBounds_toArray, List.set_cons_zero, List.set_cons_succ])
        go_cut [] (fun wc => Aside0 (wc.heap[w.heap.size]? = some (.cells #[.int .i32 a.c, .int .i32 a.b, .int .i32 a.o, .int .u8 a.bo, .int .u8 a.it, .int .u8 a.un, .bool a.ni] 26 (0, 0))) ∧ Aside0 (wc.heap[w.heap.size + 1]? = some (.cells #[.int .i32 b.c, .int .i32 b.b, .int .i32 b.o, .int .u8 b.bo, .int .u8 b.it, .int .u8 b.un, .bool b.ni] 26 (0, 0))) ∧ Aside0 (wc.heap[w.heap.size + 1 + 1]? = some (.cells #[.int .i32 0, .int .i32 0, .int .i32 0, .int .u8 0, .int .u8 0, .int .u8 0, .bool false] 26 (0, 0))) ∧ Aside0 (wc.heap[w.heap.size + 1 + 1 + 1]? = some (.cells #[.int .i32 (if a.c = b.c then 0 else a.c), .int .i32 (if a.b = b.b then 0 else a.b), .int .i32 (if a.o = b.o then 0 else a.o), .int .u8 (if a.bo = b.bo then 0 else a.bo), .int .u8 0, .int .u8 0, .bool false] 26 (0, 0))) ∧ Aside0 (Below w.heap.size w wc))
        case first =>
          have hz := blk_frozen HX.out 3
          have hx := (blk_cell HX.out 3).trans rfl
          by_cases q : a.bo = b.bo
          · have HQ := Aside0.mk q
            have q1 : (a.bo != b.bo) = false := bne_eq_false_iff_eq.mpr q
            clear q
            (first | rw [q1] | skip)
            go_wp2
            go_meet
            case rel => exact ⟨HA, HB, HZ, by rw [if_pos HQ.out]; exact HX, HW⟩
          · have HQ := Aside0.mk q
            have q1 : (a.bo != b.bo) = true := bne_iff_ne.mpr q
            clear q
            (first | rw [q1] | skip)
            go_wp2
            go_meet
            case rel => exact ⟨⟨blk_far HA.out (show w.heap.size ≠ w.heap.size + 1 + 1 + 1 by omega) _⟩, ⟨blk_far HB.out (show w.heap.size + 1 ≠ w.heap.size + 1 + 1 + 1 by omega) _⟩, ⟨blk_far HZ.out (show w.heap.size + 1 + 1 ≠ w.heap.size + 1 + 1 + 1 by omega) _⟩, by rw [if_neg HQ.out]; exact ⟨blk_put (cs := #[.int .i32 (if a.c = b.c then 0 else a.c), .int .i32 (if a.b = b.b then 0 else a.b), .int .i32 (if a.o = b.o then 0 else a.o), .int .u8 0, .int .u8 0, .int .u8 0, .bool false]) HX.out 3 _ rfl⟩, ⟨below_set HW.out (by omega)⟩⟩
        case rest =>
          try clear hf0
          try clear hf1
          clear HA HB HZ HX HW
          obtain ⟨HA, HB, HZ, HX, HW⟩ := hcut
          have hf0 := (blk_cell HA.out 4).trans rfl
          have hf1 := (blk_cell HB.out 4).trans rfl
          go_upto_if 42 with fail
          (try simp only [Act.put, List.setIfInBounds_toArray, List.set_cons_zero, List.set_cons_succ])
          go_cut [] (fun wc => Aside0 (wc.heap[w.heap.size]? = some (.cells #[.int .i32 a.c, .int .i32 a.b, .int .i32 a.o, .int .u8 a.bo, .int .u8 a.it, .int .u8 a.un, .bool a.ni] 26 (0, 0))) ∧ Aside0 (wc.heap[w.heap.size + 1]? = some (.cells #[.int .i32 b.c, .int .i32 b.b, .int .i32 b.o, .int .u8 b.bo, .int .u8 b.it, .int .u8 b.un, .bool b.ni] 26 (0, 0))) ∧ Aside0 (wc.heap[w.heap.size + 1 + 1]? = some (.cells #[.int .i32 0, .int .i32 0, .int .i32 0, .int .u8 0, .int .u8 0, .int .u8 0, .bool false] 26 (0, 0))) ∧ Aside0 (wc.heap[w.heap.size + 1 + 1 + 1]? = some (.cells #[.int .i32 (if a.c = b.c then 0 else a.c), .int .i32 (if a.b = b.b then 0 else a.b), .int .i32 (if a.o = b.o then 0 else a.o), .int .u8 (if a.bo = b.bo then 0 else a.bo), .int .u8 (if a.it = b.it then 0 else a.it), .int .u8 0, .bool false] 26 (0, 0))) ∧ Aside0 (Below w.heap.size w wc))
          case first =>
            have hz := blk_frozen HX.out 4
            have hx := (blk_cell HX.out 4).trans rfl
            by_cases q : a.it = b.it
            · have HQ := Aside0.mk q
              have q1 : (a.it != b.it) = false := bne_eq_false_iff_eq.mpr q
              clear q
              (first | rw [q1] | skip)
              go_wp2
              go_meet
              case rel => exact ⟨HA, HB, HZ, by rw [if_pos HQ.out]; exact HX, HW⟩
            · have HQ := Aside0.mk q
              have q1 : (a.it != b.it) = true := bne_iff_ne.mpr q
              clear q
              (first | rw [q1] | skip)
              go_wp2
              go_meet
              case rel => exact ⟨⟨blk_far HA.out (show w.heap.size ≠ w.heap.size + 1 + 1 + 1 by omega) _⟩, ⟨blk_far HB.out (show w.heap.size + 1 ≠ w.heap.size + 1 + 1 + 1 by omega) _⟩, ⟨blk_far HZ.out (show w.heap.size + 1 + 1 ≠ w.heap.size + 1 + 1 + 1 by omega) _⟩, by rw [if_neg HQ.out]; exact ⟨blk_put (cs := #[.int .i32 (if a.c = b.c then 0 else a.c), .int .i32 (if a.b = b.b then 0 else a.b), .int .i32 (if a.o = b.o then 0 else a.o), .int .u8 (if a.bo = b.bo then 0 else a.bo), .int .u8 0, .int .u8 0, .bool false]) HX.out 4 _ rfl⟩, ⟨below_set HW.out (by omega)⟩⟩
          case rest =>
            try clear hf0
            try clear hf1
            clear HA HB HZ HX HW
            obtain ⟨HA, HB, HZ, HX, HW⟩ := hcut
            have hf0 := (blk_cell HA.out 5).trans rfl
            have hf1 := (blk_cell HB.out 5).trans rfl
            go_upto_if 50 with fail
            (try simp only [Act.put, List.setIfInBounds_toArray, List.set_cons_zero, List.set_cons_succ])
            go_cut [] (fun wc => Aside0 (wc.heap[w.heap.size]? = some (.cells #[.int .i32 a.c, .int .i32 a.b, .int .i32 a.o, .int .u8 a.bo, .int .u8 a.it, .int .u8 a.un, .bool a.ni] 26 (0, 0))) ∧ Aside0 (wc.heap[w.heap.size + 1]? = some (.cells #[.int .i32 b.c, .int .i32 b.b, .int .i32 b.o, .int .u8 b.bo, .int .u8 b.it, .int .u8 b.un, .bool b.ni] 26 (0, 0))) ∧ Aside0 (wc.heap[w.heap.size + 1 + 1]? = some (.cells #[.int .i32 0, .int .i32 0, .int .i32 0, .int .u8 0, .int .u8 0, .int .u8 0, .bool false] 26 (0, 0))) ∧ Aside0 (wc.heap[w.heap.size + 1 + 1 + 1]? = some (.cells #[.int .i32 (if a.c = b.c then 0 else a.c), .int .i32 (if a.b = b.b then 0 else a.b), .int .i32 (if a.o = b.o then 0 else a.o), .int .u8 (if a.bo = b.bo then 0 else a.bo), .int .u8 (if a.it = b.it then 0 else a.it), .int .u8 (if a.un = b.un then 0 else a.un), .bool false] 26 (0, 0))) ∧ Aside0 (Below w.heap.size w wc))
            case first =>
              have hz := blk_frozen HX.out 5
              have hx := (blk_cell HX.out 5).trans rfl
              by_cases q : a.un = b.un
              · have HQ := Aside0.mk q
                have q1 : (a.un != b.un) = false := bne_eq_false_iff_eq.mpr q
                clear q
                (first | rw [q1] | skip)
                go_wp2
                go_meet
                case rel => exact ⟨HA, HB, HZ, by rw [if_pos HQ.out]; exact HX, HW⟩
              · have HQ := Aside0.mk q
                have q1 : (a.un != b.un) = true := bne_iff_ne.mpr q
                clear q
                (first | rw [q1] | skip)
                go_wp2
                go_meet
                case rel => exact ⟨⟨blk_far HA.out (show w.heap.size ≠ w.heap.size + 1 + 1 + 1 by omega) _⟩, ⟨blk_far HB.out (show w.heap.size + 1 ≠ w.heap.size + 1 + 1 + 1 by omega) _⟩, ⟨blk_far HZ.out (show w.heap.size + 1 + 1 ≠ w.heap.size + 1 + 1 + 1 by omega) _⟩, by rw [if_neg HQ.out]; exact ⟨blk_put (cs := #[.int .i32 (if a.c = b.c then 0 else a.c), .int .i32 (if a.b = b.b then 0 else a.b), .int .i32 (if a.o = b.o then 0 else a.o), .int .u8 (if a.bo = b.bo then 0 else a.bo), .int .u8 (if a.it = b.it then 0 else a.it), .int .u8 0, .bool false]) HX.out 5 _ rfl⟩, ⟨below_set HW.out (by omega)⟩⟩
            case rest =>
              try clear hf0
              try clear hf1
              clear HA HB HZ HX HW
              obtain ⟨HA, HB, HZ, HX, HW⟩ := hcut
              rw [← E.out.1, ← E.out.2.1, ← E.out.2.2.1, ← E.out.2.2.2.1, ← E.out.2.2.2.2.1, ← E.out.2.2.2.2.2] at HX
              have hf0 := (blk_cell HX.out 0).trans rfl
              have hz0 := blk_frozen HZ.out 0
              have hy0 := (blk_cell HZ.out 0).trans rfl
              have hf1 := (blk_cell HX.out 1).trans rfl
              have hz1 := blk_frozen HZ.out 1
              have hy1 := (blk_cell HZ.out 1).trans rfl
              have hf2 := (blk_cell HX.out 2).trans rfl
              have hz2 := blk_frozen HZ.out 2
              have hy2 := (blk_cell HZ.out 2).trans rfl
              have hf3 := (blk_cell HX.out 3).trans rfl
              have hz3 := blk_frozen HZ.out 3
              have hy3 := (blk_cell HZ.out 3).trans rfl
              have hf4 := (blk_cell HX.out 4).trans rfl
              have hz4 := blk_frozen HZ.out 4
              have hy4 := (blk_cell HZ.out 4).trans rfl
              have hf5 := (blk_cell HX.out 5).trans rfl
              have hz5 := blk_frozen HZ.out 5
              have hy5 := (blk_cell HZ.out 5).trans rfl
              have hf6 := (blk_cell HX.out 6).trans rfl
              have hz6 := blk_frozen HZ.out 6
              have hy6 := (blk_cell HZ.out 6).trans rfl
              have hfin : (setAll (w.heap.size + 1 + 1) wc 0 [.int .i32 v0, .int .i32 v1, .int .i32 v2, .int .u8 v3, .int .u8 v4, .int .u8 v5, .bool false]).heap[w.heap.size + 1 + 1]? = some (.cells #[.int .i32 v0, .int .i32 v1, .int .i32 v2, .int .u8 v3, .int .u8 v4, .int .u8 v5, .bool false] 26 (0, 0)) := by
                rw [setAll_blk _ _ 0 _ HZ.out]; rfl
              rw [set7] at hfin
              have hbe := HW.out.trans (setAll_below (b := w.heap.size + 1 + 1) (n := w.heap.size) (by omega) [.int .i32 v0, .int .i32 v1, .int .i32 v2, .int .u8 v3, .int .u8 v4, .int .u8 v5, .bool false] wc 0)
              rw [set7] at hbe
              have HF := Aside0.mk hfin
              have HE := Aside0.mk hbe
              clear hfin hbe
              go_wp2
              exact bodyPost_ret (results_cell_row rfl _ _ (w.heap.size + 1 + 1) 26 #[.int .i32 v0, .int .i32 v1, .int .i32 v2, .int .u8 v3, .int .u8 v4, .int .u8 v5, .bool false] (0, 0) _ rfl HF.out Tryd.underlying26 rfl (by kernel_rfl)) rfl ⟨rfl, HE.out⟩
theorem ssub_c (a b : Ent) (w : World) :
    Calls Tryd.prog 22 #[.agg #[.int .i32 a.c, .int .i32 a.b, .int .i32 a.o, .int .u8 a.bo, .int .u8 a.it, .int .u8 a.un, .bool a.ni], .agg #[.int .i32 b.c, .int .i32 b.b, .int .i32 b.o, .int .u8 b.bo, .int .u8 b.it, .int .u8 b.un, .bool b.ni]] w fun x w' => x = .returned (.agg #[.int .i32 (if a.c = b.c then 0 else a.c), .int .i32 (if a.b = b.b then 0 else a.b), .int .i32 (if a.o = b.o then 0 else a.o), .int .u8 (if a.bo = b.bo then 0 else a.bo), .int .u8 (if a.it = b.it then 0 else a.it), .int .u8 (if a.un = b.un then 0 else a.un), .bool false]) ∧ Below w.heap.size w w' :=
  ssub_c_w a b _ _ _ _ _ _ ⟨⟨rfl, rfl, rfl, rfl, rfl, rfl⟩⟩ w
end Go.Proofs.YtifhhejohdmiaaaDoorEnt
