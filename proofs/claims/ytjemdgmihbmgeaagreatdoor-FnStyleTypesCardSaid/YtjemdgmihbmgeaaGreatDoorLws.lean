/- laws.parts and laws.sameEntries: what the calls compute. -/
import Derived.Test.YtjemdgmihbmgeaaGreatDoorGet
set_option linter.unusedVariables false
set_option linter.unusedSimpArgs false
namespace Go.Proofs.YtjemdgmihbmgeaaGreatDoorEnt
open Go.RowKit Go.Shelf Go.Proofs.YtjemdgmihbmgeaaGreatDoorW.PrintWords Go.Proofs.YtjemdgmihbmgeaaGreatDoorFmt Go.Proofs.YtjemdgmihbmgeaaGreatDoorMapI Go.Proofs.YtjemdgmihbmgeaaGreatDoorFlt Go.Proofs.YtjemdgmihbmgeaaGreatDoor
def flatP (l : List (Int × ByteArray)) : List Value := l.flatMap fun p => [.int .i64 p.1, .string p.2]
theorem flatP_snoc (l : List (Int × ByteArray)) (p : Int × ByteArray) : flatP (l ++ [p]) = flatP l ++ [.int .i64 p.1, .string p.2] := by simp [flatP]
theorem infoP : (Tryz.prog.info? 64).map (fun i => (i.zero, i.size, i.bytes)) = some (some (.agg #[.int .i64 0, .string ⟨#[]⟩]), 2, 24) := by kernel_rfl
set_option maxRecDepth 100000 in
set_option maxHeartbeats 8000000 in
theorem lawsParts_c (A : Option Addr) (cap : Nat) (l : List (Int × ByteArray)) (hl : l.length ≤ 1000000) (hc : l.length ≤ cap) (w : World) (hA : l ≠ [] → ∃ g o, A = some ⟨g, o, none⟩ ∧ g < w.heap.size ∧ PartsAt w g o l) :
    Calls Tryz.prog 9 #[.slice A l.length cap] w fun x w' => ∃ v, x = .returned v ∧ w'.ownsRow w.heap.size 64 2 v l.length (flatP l) ∧ Below w.heap.size w w' := by
  have HA := Aside0.mk hA
  clear hA
  go_enter Tryz.func9, Tryz.ntmps9
  go_wp2
  go_loopw [3, 8] (fun v i wr => ∃ k : Nat, k ≤ l.length ∧ i = .int .i64 (k : Int) ∧ Aside0 (wr.ownsRow w.heap.size 64 2 v k (flatP (l.take k))) ∧ Aside0 (Below w.heap.size w wr)) (fun _ i _ => l.length - (intOf i).toNat)
  case atStart => exact ⟨0, Nat.zero_le _, rfl, ⟨own_nil _ _ _ _⟩, ⟨Below.refl _ _⟩⟩
  case round =>
    obtain ⟨k, hkl, rfl, HO, HB⟩ := hrel
    by_cases hlt : k < l.length
    · obtain ⟨g, o, rfl, hg, hP⟩ := HA.out (fun e => by rw [e] at hlt; simp at hlt)
      have hP' := hP.same (HB.out.block g hg)
      obtain ⟨d0, d1⟩ := hP' k hlt
      have htk : l.take (k + 1) = l.take k ++ [l[k]] := by rw [List.take_succ_eq_append_getElem hlt]
      generalize l[k] = a at *
      have hlti : (k : Int) < (l.length : Int) := by omega
      have HT := Aside0.mk htk
      clear htk hP hP'
      obtain ⟨A0, c0, hv⟩ := own_slice HO.out
      subst hv
      have hone : ∀ u ∈ [Value.int .i64 a.1, .string a.2], u.oneCell' = true := by simp [Value.oneCell']
      have hbd : (k + 1) * 24 ≤ 140737488355328 := by omega
      have HN := Aside0.mk hone
      have HD := Aside0.mk hbd
      clear hone hbd
      go_upto_region 5 with fail
      have hsk : ∃ W1, wr.alloc (.cells #[.int .i64 a.1, .string a.2] 54) = W1 ∧ W1.heap[wr.heap.size]? = some (.cells #[.int .i64 a.1, .string a.2] 54 (0, 0)) ∧ Below wr.heap.size wr W1 := ⟨_, rfl, blk_new _ _, below_alloc (Below.refl _ _) _⟩
      obtain ⟨W1, hW1, hE1, hb1⟩ := hsk
      rw [hW1]
      have b0 := (blk_cell hE1 0).trans rfl
      have b1 := (blk_cell hE1 1).trans rfl
      have HB1 := Aside0.mk hb1
      clear hW1 hE1 hb1
      go_wp2_with ((with_reducible refine gate_builtin (b := .append) (xs := #[.tmp 12, .tmp 14]) rfl ?_); at_builtin; refine print_append_cells (w0 := w) w.heap.size rfl (.tmp 12) (.tmp 14) 29 64 (.agg #[.int .i64 0, .string ⟨#[]⟩]) 2 24 rfl Tryz.underlying29 infoP rfl (Nat.succ_pos _) (Nat.succ_pos _) (.slice A0 k c0) k (flatP (l.take k)) [.int .i64 a.1, .string a.2] rfl rfl rfl HN.out (pw_own_below HO.out HB1.out) (below_on HB.out HB1.out HB.out.size) (Nat.le_trans HB.out.size HB1.out.size) HD.out ?_; intro v1 w3 ho3 hB3 hg3 hat3; obtain ⟨A3, c3, hv3⟩ := own_slice ho3)
      refine ⟨⟨k + 1, by omega, by rw [Int.natCast_add]; rfl, ⟨?_⟩, ⟨hB3⟩⟩, by simp [intOf]; omega⟩
      rw [HT.out, flatP_snoc, ← hv3]
      exact ho3
    · obtain rfl : k = l.length := by omega
      rw [List.take_length] at HO
      go_wp2
      go_ret
      exact ⟨_, rfl, HO.out, HB.out⟩
set_option maxRecDepth 100000 in
set_option maxHeartbeats 8000000 in
/-- Two lists of the same entries. -/
theorem lawsSame_c (A : Option Addr) (cap : Nat) (B : Option Addr) (capb : Nat) (es : List Ent) (hl : es.length ≤ 1000000) (w : World)
    (hA : es ≠ [] → ∃ g o, A = some ⟨g, o, none⟩ ∧ g < w.heap.size ∧ Ents w g o es) (hB : es ≠ [] → ∃ g o, B = some ⟨g, o, none⟩ ∧ g < w.heap.size ∧ Ents w g o es) :
    Calls Tryz.prog 16 #[.slice A es.length cap, .slice B es.length capb] w fun x w' => x = .returned (.bool true) ∧ Below w.heap.size w w' := by
  have HA := Aside0.mk hA
  have HB := Aside0.mk hB
  clear hA hB
  go_enter Tryz.func16, Tryz.ntmps16
  go_wp2
  go_loopw [13] (fun i wr => ∃ k : Nat, k ≤ es.length ∧ i = .int .i64 (k : Int) ∧ Aside0 (Below w.heap.size w wr)) (fun i _ => es.length - (intOf i).toNat)
  case atStart => exact ⟨0, Nat.zero_le _, rfl, ⟨Below.refl _ _⟩⟩
  case round =>
    obtain ⟨k, hkl, rfl, HBe⟩ := hrel
    by_cases hlt : k < es.length
    · obtain ⟨g, o, rfl, hg, hP⟩ := HA.out (fun e => by rw [e] at hlt; simp at hlt)
      obtain ⟨g2, o2, rfl, hg2, hP2⟩ := HB.out (fun e => by rw [e] at hlt; simp at hlt)
      obtain ⟨d0, d1, d2, d3, d4, d5, d6⟩ := (hP.same (HBe.out.block g hg)) k hlt
      obtain ⟨f0, f1, f2, f3, f4, f5, f6⟩ := (hP2.same (HBe.out.block g2 hg2)) k hlt
      generalize es[k] = a at *
      have hlti : (k : Int) < (es.length : Int) := by omega
      have hk0 : (0 : Int) ≤ (k : Int) := by omega
      have hu := Tryz.underlying71
      have hu2 := Tryz.underlying62
      clear hP hP2
      go_wp2
      go_quiet (fail)
      go_wp2
      exact ⟨⟨k + 1, by omega, by rw [Int.natCast_add]; rfl, ⟨pw_below_drewN HBe.out _⟩⟩, by simp [intOf]; omega⟩
    · obtain rfl : k = es.length := by omega
      go_wp2
      go_ret
      exact ⟨rfl, HBe.out⟩
theorem flatP_get : ∀ (l : List (Int × ByteArray)) (j : Nat) (hj : j < l.length), ((flatP l).drop (j * 2)).take 2 = [.int .i64 l[j].1, .string l[j].2]
  | p :: l, 0, hj => rfl
  | p :: l, j + 1, hj => by
    have h : flatP (p :: l) = [.int .i64 p.1, .string p.2] ++ flatP l := by simp [flatP]
    have h2 : ([.int .i64 p.1, .string p.2] : List Value).length = 2 := rfl
    rw [h, show (j + 1) * 2 = 2 + j * 2 by omega, ← List.drop_drop, List.drop_left' h2]
    exact flatP_get l j (by simpa using hj)
end Go.Proofs.YtjemdgmihbmgeaaGreatDoorEnt
