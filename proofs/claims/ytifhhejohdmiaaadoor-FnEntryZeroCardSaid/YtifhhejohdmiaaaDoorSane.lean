/- laws.styled: it returns true. -/
import Derived.Test.YtifhhejohdmiaaaDoorGet2
import Derived.Test.YtifhhejohdmiaaaDoorColMath
set_option linter.unusedVariables false
set_option linter.unusedSimpArgs false
namespace Go.Proofs.YtifhhejohdmiaaaDoorEnt
open Go.RowKit Go.Shelf Go.Proofs.YtifhhejohdmiaaaDoorW.PrintWords Go.Proofs.YtifhhejohdmiaaaDoorFmt Go.Proofs.YtifhhejohdmiaaaDoorMapI Go.Proofs.YtifhhejohdmiaaaDoorFlt Go.Proofs.YtifhhejohdmiaaaDoor
theorem string_f (n : Nat) (hn : n < 16777216) : A.impl_ColourString.f ((n : Int) + 1) = some ⟨(35 :: digs 6 n).toArray⟩ := by
  have e : wrap64 (wrap32 ((n : Int) + 1 - 1)) = (n : Int) := by unfold wrap64 wrap32; omega
  unfold A.impl_ColourString.f A.chroma_Colour_String.f A.chroma_zzHex6.f
  rw [e, if_pos (by omega), if_pos (by omega), hex6_eq n hn, Option.bind_some]
  have hs : (⟨(digs 6 n).toArray⟩ : ByteArray).size = 6 := by rw [← data_length]; exact digs_len 6 n
  rw [hs, if_pos (by decide), Option.bind_some]
  exact congrArg some (bytes_eq (by simp))
theorem str_c (n : Nat) (hn : n < 16777216) (w : World) (hV : VarsOK w) : Calls Tryd.prog 29 #[.int .i32 ((n : Int) + 1)] w fun x w' => x = .returned (.string ⟨(35 :: digs 6 n).toArray⟩) ∧ Below w.heap.size w w' :=
  A.impl_ColourString.calls _ _ w hV (string_f n hn)
def saneL : List (Int × ByteArray) := [(-1, ⟨#[98, 103, 58, 35, 102, 102, 102, 102, 102, 102]⟩), (1000, ⟨#[98, 111, 108, 100, 32, 35, 48, 48, 48, 48, 56, 48]⟩)]
theorem sane_ok : badL saneL = false := by decide +kernel
theorem sane_c : (fullS [lineE saneL] 1006).c = 129 := by decide +kernel
theorem sane_b : (fullS [lineE saneL] 1006).b = 16777216 := by decide +kernel
theorem sane_bo : (fullS [lineE saneL] 1006).bo = 1 := by decide +kernel
theorem d1 : digs 6 16777215 = [102, 102, 102, 102, 102, 102] := by decide +kernel
theorem d2 : digs 6 128 = [48, 48, 48, 48, 56, 48] := by decide +kernel
theorem sane_get (w : World) (hV : VarsOK w) :
    Calls Tryd.prog 26 #[.slice (some ⟨w.heap.size, 0, none⟩) 2 2, .slice (some ⟨w.heap.size + 1, 0, none⟩) 1 1] ((w.alloc (.cells #[.int .i64 (-1), .string ⟨#[98, 103, 58, 35, 102, 102, 102, 102, 102, 102]⟩, .int .i64 1000, .string ⟨#[98, 111, 108, 100, 32, 35, 48, 48, 48, 48, 56, 48]⟩] 49)).alloc (.cells #[.int .i64 1006] 3)) fun x w' =>
      (∃ g cap, x = .returned (.tuple #[.slice (some ⟨g, 0, none⟩) 1 cap, .bool true]) ∧ w'.cell? ⟨g, 0, none⟩ = some (.int .i32 129) ∧ w'.cell? ⟨g, 1, none⟩ = some (.int .i32 16777216) ∧ w'.cell? ⟨g, 3, none⟩ = some (.int .u8 1)) ∧ Below w.heap.size w w' := by
  have hB : Below w.heap.size w ((w.alloc (.cells #[.int .i64 (-1), .string ⟨#[98, 103, 58, 35, 102, 102, 102, 102, 102, 102]⟩, .int .i64 1000, .string ⟨#[98, 111, 108, 100, 32, 35, 48, 48, 48, 48, 56, 48]⟩] 49)).alloc (.cells #[.int .i64 1006] 3)) := below_alloc (below_alloc (Below.refl _ _) _) _
  have h1 := blk_alloc (blk_new w (.cells #[.int .i64 (-1), .string ⟨#[98, 103, 58, 35, 102, 102, 102, 102, 102, 102]⟩, .int .i64 1000, .string ⟨#[98, 111, 108, 100, 32, 35, 48, 48, 48, 48, 56, 48]⟩] 49)) (.cells #[.int .i64 1006] 3)
  have h2 := blk_new (w.alloc (.cells #[.int .i64 (-1), .string ⟨#[98, 103, 58, 35, 102, 102, 102, 102, 102, 102]⟩, .int .i64 1000, .string ⟨#[98, 111, 108, 100, 32, 35, 48, 48, 48, 48, 56, 48]⟩] 49)) (.cells #[.int .i64 1006] 3)
  rw [World.size_alloc] at h2
  refine (styleGet_c (some ⟨w.heap.size, 0, none⟩) 2 saneL (by decide) (by decide) (by
      intro p hp
      simp only [saneL, List.mem_cons, List.not_mem_nil, or_false] at hp
      rcases hp with rfl | rfl
      · exact ⟨ok_of (by decide) (by decide), by decide⟩
      · exact ⟨ok_of (by decide) (by decide), by decide⟩) (some ⟨w.heap.size + 1, 0, none⟩) 1 [1006] (by decide) (by decide) (by
      intro t ht
      simp only [List.mem_cons, List.not_mem_nil, or_false] at ht
      subst ht
      exact ok_of (by decide) (by decide)) _ (hV.below hB) (fun _ => ⟨w.heap.size, 0, rfl, by simp; omega, fun i hi => ?_⟩) (fun _ => ⟨w.heap.size + 1, 0, rfl, by simp, fun i hi => ?_⟩)).mono ?_
  · have : i = 0 ∨ i = 1 := by simp [saneL] at hi; omega
    rcases this with rfl | rfl
    · exact ⟨(blk_cell h1 0).trans rfl, (blk_cell h1 1).trans rfl⟩
    · exact ⟨(blk_cell h1 2).trans rfl, (blk_cell h1 3).trans rfl⟩
  · have : i = 0 := by simp at hi; omega
    subst this
    exact (blk_cell h2 0).trans rfl
  · rintro x w' ⟨⟨hbad, _⟩ | ⟨_, v, rfl, ho⟩, hb⟩
    · rw [sane_ok] at hbad; cases hbad
    · have ho' : w'.ownsRow _ 23 7 v 1 _ := ho
      obtain ⟨g, cap, rfl, _, _⟩ := ho'.form (by decide)
      have c0 := ho'.cells (g := g) rfl 0 (.int .i32 129) (by rw [← sane_c]; rfl)
      have c1 := ho'.cells (g := g) rfl 1 (.int .i32 16777216) (by rw [← sane_b]; rfl)
      have c3 := ho'.cells (g := g) rfl 3 (.int .u8 1) (by rw [← sane_bo]; rfl)
      rw [add_plain] at c0 c1 c3
      exact ⟨⟨g, cap, rfl, c0, c1, c3⟩, hB.trans (hb.mono hB.size)⟩
set_option maxRecDepth 100000 in
set_option maxHeartbeats 4000000 in
theorem sane (w : World) (hV : VarsOK w) : Calls Tryd.prog 13 #[] w fun x w' => x = .returned (.bool true) ∧ Below w.heap.size w w' := by
  have kG := Aside0.mk (sane_get w hV)
  have HV := Aside0.mk hV
  clear hV
  have k1 : Aside0 (∀ W, Below w.heap.size w W → Calls Tryd.prog 29 #[.int .i32 16777216] W fun x w' => x = .returned (.string ⟨#[35, 102, 102, 102, 102, 102, 102]⟩) ∧ Below W.heap.size W w') := ⟨fun W hW => by
    have := str_c 16777215 (by decide) W (HV.out.below hW)
    rw [d1] at this
    exact this⟩
  have k2 : Aside0 (∀ W, Below w.heap.size w W → Calls Tryd.prog 29 #[.int .i32 129] W fun x w' => x = .returned (.string ⟨#[35, 48, 48, 48, 48, 56, 48]⟩) ∧ Below W.heap.size W w') := ⟨fun W hW => by
    have := str_c 128 (by decide) W (HV.out.below hW)
    rw [d2] at this
    exact this⟩
  go_enter Tryd.func13, Tryd.ntmps13
  go_wp2_with (first | (go_at_call 26; refine kG.out.mono ?_; rintro x1 w1 ⟨⟨g, cap, rfl, c0, c1, c3⟩, hb1⟩; have lg := World.block_lt_of_cell? w1 _ c0) | (go_at_call 29; (with_reducible first | (refine (k1.out _ hb1).mono ?_; rintro x2 w2 ⟨rfl, hb2⟩; have c02 := (hb2.cell (p := ⟨g, 0, none⟩) lg).trans c0; have hb12 := below_on hb1 hb2 hb1.size) | (refine (k2.out _ hb12).mono ?_; rintro x3 w3 ⟨rfl, hb3⟩))))
  go_ret
  exact ⟨rfl, below_on hb12 hb3 hb12.size⟩
end Go.Proofs.YtifhhejohdmiaaaDoorEnt
