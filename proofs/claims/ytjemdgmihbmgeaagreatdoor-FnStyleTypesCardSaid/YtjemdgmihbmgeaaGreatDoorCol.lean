/- chroma.ParseColour and Colour.String: what the calls compute. -/
import Derived.Test.YtjemdgmihbmgeaaGreatDoorNorm
import Derived.Test.YtjemdgmihbmgeaaGreatDoorPu
set_option linter.unusedVariables false
set_option linter.unusedSimpArgs false
namespace Go.Proofs.YtjemdgmihbmgeaaGreatDoorFmt
open Go.RowKit Go.Proofs.YtjemdgmihbmgeaaGreatDoorW.PrintWords

theorem ml_all {p : ByteArray → Prop} : ∀ {l : List (ByteArray × ByteArray)} (h : ∀ x ∈ l, p x.2) {s v : ByteArray}, ml l s = some v → p v
  | [], _, s, v, hv => by cases hv
  | (k, u) :: l, h, s, v, hv => by
    unfold ml at hv
    split at hv
    · obtain rfl := Option.some.inj hv; exact h (k, u) (by simp)
    · exact ml_all (fun x hx => h x (by simp [hx])) hv
theorem ansi6 : ∀ x ∈ ansiL, x.2.size = 6 := by decide +kernel
theorem norm_size (s : ByteArray) : (norm s).size ≤ s.size + 6 := by
  unfold norm
  split
  · rename_i v hv; have := ml_all (p := fun v => v.size = 6) ansi6 hv; omega
  · split
    · rename_i x y z hl
      show (#[x, x, y, y, z, z] : Array UInt8).size ≤ _
      exact Nat.le_add_left _ _
    · rename_i l _ hl
      have h := congrArg List.length hl
      rw [data_length, List.length_cons] at h
      show l.toArray.size ≤ _
      rw [List.size_toArray]; omega
    · omega
set_option maxHeartbeats 4000000 in
set_option maxRecDepth 100000 in
theorem parse16 (s : ByteArray) (hs : s.size ≤ 281474976710656) (w : World) (hV : VarsOK w) :
    Calls Tryz.prog 124 #[.string s, .int .i64 16, .int .i64 32] w fun e w' =>
      (∃ m, e = .returned (.tuple #[.int .u64 m, .nilIface]) ∧ puS s = some m ∨ (∃ N, e = .returned (.tuple #[.int .u64 m, .iface 246 (.pointer (some ⟨N, 0, none⟩))])) ∧ puS s = none) ∧ Below w.heap.size w w' := by
  have hp := parseI16 s (by omega) w
  go_enter Tryz.func124, Tryz.ntmps124
  have hp' := Aside0.mk hp
  clear hp
  go_upto_region 2 with (go_at_call 138; refine hp'.out.mono ?_; rintro e w1 ⟨⟨m, ⟨rfl, hpu⟩ | ⟨rfl | rfl, hpu⟩⟩, hB⟩)
  · clear hp'
    go_wp2_with fail
    go_ret2
    exact ⟨⟨m, .inl ⟨rfl, hpu⟩⟩, hB⟩
  · clear hp'
    have hV1 := hV.below hB
    obtain ⟨te, pe, hcell⟩ := hV1.syn
    have ht := Aside0.mk (Tryz.strconv_toError_syntax ⟨#[80, 97, 114, 115, 101, 85, 105, 110, 116]⟩ s 16 32 _ w1 hs hcell (.inr ⟨te, pe, rfl⟩))
    clear hcell
    go_wp2_with (go_at_call 139; refine ht.out.mono ?_; rintro e w2 ⟨N, rfl, hN, hcells, hB2⟩)
    go_ret2
    exact ⟨⟨m, .inr ⟨⟨N, rfl⟩, hpu⟩⟩, hB.trans (hB2.mono hB.size)⟩
  · clear hp'
    have hV1 := hV.below hB
    obtain ⟨te, pe, hcell⟩ := hV1.ran
    have ht := Aside0.mk (Tryz.strconv_toError_range ⟨#[80, 97, 114, 115, 101, 85, 105, 110, 116]⟩ s 16 32 _ w1 hs hcell (.inr ⟨te, pe, rfl⟩))
    clear hcell
    go_wp2_with (go_at_call 139; refine ht.out.mono ?_; rintro e w2 ⟨N, rfl, hN, hcells, hB2⟩)
    go_ret2
    exact ⟨⟨m, .inr ⟨⟨N, rfl⟩, hpu⟩⟩, hB.trans (hB2.mono hB.size)⟩
/-- The colour that a text is read as. -/
def pcol (s : ByteArray) : Int := match puS (norm s) with
  | some m => wrap32 (m + 1)
  | none => 0
theorem pu16_le : ∀ (l : List Int) (m k : Int), m ≤ 4294967295 → pu16 l m = some k → k ≤ 4294967295
  | [], m, k, hm, h => by cases h; exact hm
  | c :: l, m, k, hm, h => by
    unfold pu16 at h
    split at h
    · cases h
    · split at h
      · rename_i hle; exact pu16_le l _ k hle h
      · cases h
theorem dig16_pos {c d : Int} (h : dig16 c = some d) : 0 ≤ d := by
  unfold dig16 at h
  split at h
  · cases h; omega
  · split at h
    · cases h; omega
    · cases h
theorem pu16_pos : ∀ (l : List Int) (m k : Int), 0 ≤ m → pu16 l m = some k → 0 ≤ k
  | [], m, k, hm, h => by cases h; exact hm
  | c :: l, m, k, hm, h => by
    unfold pu16 at h
    split at h
    · cases h
    · rename_i d hd
      have := dig16_pos hd
      split at h
      · exact pu16_pos l _ k (by omega) h
      · cases h
theorem puS_le {s : ByteArray} {m : Int} (h : puS s = some m) : 0 ≤ m ∧ m ≤ 4294967295 := by
  unfold puS at h
  split at h
  · cases h
  · exact ⟨pu16_pos _ _ _ (by omega) h, pu16_le _ _ _ (by omega) h⟩
set_option maxHeartbeats 4000000 in
set_option maxRecDepth 100000 in
theorem parseColour (s : ByteArray) (hs : s.size ≤ 140737488351232) (w : World) (hV : VarsOK w) :
    Calls Tryz.prog 96 #[.string s] w fun e w' => e = .returned (.int .i32 (pcol s)) ∧ Below w.heap.size w w' := by
  have hn := Aside0.mk (normalise s hs w)
  have hsz := norm_size s
  go_enter Tryz.func96, Tryz.ntmps96
  go_upto_region 2 with (go_at_call 123; refine hn.out.mono ?_; rintro e w1 ⟨rfl, hB⟩)
  have hp := Aside0.mk (parse16 (norm s) (by omega) w1 (hV.below hB))
  have hc : pcol s = match puS (norm s) with
    | some m => wrap32 (m + 1)
    | none => 0 := rfl
  have hc' := Aside0.mk hc
  clear hn hc
  go_upto_region 3 with (go_at_call 124; refine hp.out.mono ?_; rintro e w2 ⟨⟨m, ⟨rfl, hpu⟩ | ⟨⟨N, rfl⟩, hpu⟩⟩, hB2⟩)
  · clear hp
    obtain ⟨hm0, hm1⟩ := puS_le hpu
    go_wp2_with fail
    go_ret
    refine ⟨?_, hB.trans (hB2.mono hB.size)⟩
    rw [hc'.out, hpu]
    rfl
  · clear hp
    go_wp2_with fail
    go_ret
    refine ⟨?_, hB.trans (hB2.mono hB.size)⟩
    rw [hc'.out, hpu]
    rfl
end Go.Proofs.YtjemdgmihbmgeaaGreatDoorFmt
