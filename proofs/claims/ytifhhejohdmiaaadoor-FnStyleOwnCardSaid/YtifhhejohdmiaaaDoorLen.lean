/- laws.entries: what the call computes. -/
import Derived.Test.YtifhhejohdmiaaaDoorGet
set_option linter.unusedVariables false
set_option linter.unusedSimpArgs false
namespace Go.Proofs.YtifhhejohdmiaaaDoorEnt
open Go.RowKit Go.Shelf Go.Proofs.YtifhhejohdmiaaaDoorW.PrintWords Go.Proofs.YtifhhejohdmiaaaDoorFmt Go.Proofs.YtifhhejohdmiaaaDoorMapI Go.Proofs.YtifhhejohdmiaaaDoorFlt Go.Proofs.YtifhhejohdmiaaaDoor
theorem infoX : (Tryd.prog.info? 26).map (fun i => (i.zero, i.size, i.bytes)) = some (some (.agg #[(.int .i32 0), (.int .i32 0), (.int .i32 0), (.int .u8 0), (.int .u8 0), (.int .u8 0), (.bool false)]), 7, 16) := by kernel_rfl
set_option maxRecDepth 100000 in
set_option maxHeartbeats 8000000 in
theorem lawsEntries_c (A : Option Addr) (cap : Nat) (es : List Ent) (hl : es.length ≤ 1000000) (hc : es.length ≤ cap) (w : World) (hA : es ≠ [] → ∃ g o, A = some ⟨g, o, none⟩ ∧ g < w.heap.size ∧ Ents w g o es) :
    Calls Tryd.prog 20 #[.slice A es.length cap] w fun x w' => ∃ v, x = .returned v ∧ w'.ownsRow w.heap.size 26 7 v es.length (flat es) ∧ Below w.heap.size w w' := by
  have HA := Aside0.mk hA
  clear hA
  go_enter Tryd.func20, Tryd.ntmps20
  go_wp2
  go_loopw [3, 8] (fun v i wr => ∃ k : Nat, k ≤ es.length ∧ i = .int .i64 (k : Int) ∧ Aside0 (wr.ownsRow w.heap.size 26 7 v k (flat (es.take k))) ∧ Aside0 (Below w.heap.size w wr)) (fun _ i _ => es.length - (intOf i).toNat)
  case atStart => exact ⟨0, Nat.zero_le _, rfl, ⟨own_nil _ _ _ _⟩, ⟨Below.refl _ _⟩⟩
  case round =>
    obtain ⟨k, hkl, rfl, HO, HB⟩ := hrel
    by_cases hlt : k < es.length
    · obtain ⟨g, o, rfl, hg, hP⟩ := HA.out (fun e => by rw [e] at hlt; simp at hlt)
      have hP' := hP.same (HB.out.block g hg)
      obtain ⟨d0, d1, d2, d3, d4, d5, d6⟩ := hP' k hlt
      have htk : es.take (k + 1) = es.take k ++ [es[k]] := by rw [List.take_succ_eq_append_getElem hlt]
      generalize es[k] = a at *
      have hlti : (k : Int) < (es.length : Int) := by omega
      have HT := Aside0.mk htk
      clear htk hP hP'
      obtain ⟨A0, c0, hv⟩ := own_slice HO.out
      subst hv
      have hone : ∀ u ∈ [Value.int .i32 a.c, .int .i32 a.b, .int .i32 a.o, .int .u8 a.bo, .int .u8 a.it, .int .u8 a.un, .bool a.ni], u.oneCell' = true := by simp [Value.oneCell']
      have hbd : (k + 1) * 16 ≤ 140737488355328 := by omega
      have HN := Aside0.mk hone
      have HD := Aside0.mk hbd
      clear hone hbd
      go_upto_region 5 with fail
      have hsk : ∃ W1, wr.alloc (.cells #[.int .i32 a.c, .int .i32 a.b, .int .i32 a.o, .int .u8 a.bo, .int .u8 a.it, .int .u8 a.un, .bool a.ni] 23) = W1 ∧ W1.heap[wr.heap.size]? = some (.cells (cells a) 23 (0, 0)) ∧ Below wr.heap.size wr W1 := ⟨_, rfl, blk_new _ _, below_alloc (Below.refl _ _) _⟩
      obtain ⟨W1, hW1, hE1, hb1⟩ := hsk
      rw [hW1]
      obtain ⟨b0, b1, b2, b3, b4, b5, b6, -, -, -, -, -, -, -⟩ := blk7e hE1
      have HB1 := Aside0.mk hb1
      clear hW1 hE1 hb1
      go_wp2_with ((with_reducible refine gate_builtin (b := .append) (xs := #[.tmp 12, .tmp 14]) rfl ?_); at_builtin; refine print_append_cells (w0 := w) w.heap.size rfl (.tmp 12) (.tmp 14) 37 26 (.agg #[(.int .i32 0), (.int .i32 0), (.int .i32 0), (.int .u8 0), (.int .u8 0), (.int .u8 0), (.bool false)]) 7 16 rfl Tryd.underlying37 infoX rfl (Nat.succ_pos _) (Nat.succ_pos _) (.slice A0 k c0) k (flat (es.take k)) [.int .i32 a.c, .int .i32 a.b, .int .i32 a.o, .int .u8 a.bo, .int .u8 a.it, .int .u8 a.un, .bool a.ni] rfl rfl rfl HN.out (pw_own_below HO.out HB1.out) (below_on HB.out HB1.out HB.out.size) (Nat.le_trans HB.out.size HB1.out.size) HD.out ?_; intro v1 w3 ho3 hB3 hg3 hat3; obtain ⟨A3, c3, hv3⟩ := own_slice ho3)
      refine ⟨⟨k + 1, by omega, by rw [Int.natCast_add]; rfl, ⟨?_⟩, ⟨hB3⟩⟩, by simp [intOf]; omega⟩
      rw [HT.out, flat_snoc, ← hv3]
      exact ho3
    · obtain rfl : k = es.length := by omega
      rw [List.take_length] at HO
      go_wp2
      go_ret
      exact ⟨_, rfl, HO.out, HB.out⟩
end Go.Proofs.YtifhhejohdmiaaaDoorEnt
