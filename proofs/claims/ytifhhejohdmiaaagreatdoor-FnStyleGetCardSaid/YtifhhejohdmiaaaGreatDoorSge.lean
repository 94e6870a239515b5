/- The reference's StyleGet: what the call tells. -/
import Derived.Test.YtifhhejohdmiaaaGreatDoorMade
set_option linter.unusedVariables false
set_option linter.unusedSimpArgs false
namespace Go.Proofs.YtifhhejohdmiaaaGreatDoorEnt
open Go.RowKit Go.Shelf Go.Proofs.YtifhhejohdmiaaaGreatDoorW.PrintWords Go.Proofs.YtifhhejohdmiaaaGreatDoorFmt Go.Proofs.YtifhhejohdmiaaaGreatDoorMapI Go.Proofs.YtifhhejohdmiaaaGreatDoorFlt Go.Proofs.YtifhhejohdmiaaaGreatDoor Go.Proofs.YtifhhejohdmiaaaGreatDoor.S
theorem infoX27 : (Tryz.prog.info? 27).map (fun i => (i.zero, i.size, i.bytes)) = some (some (.agg #[(.int .i32 0), (.int .i32 0), (.int .i32 0), (.int .u8 0), (.int .u8 0), (.int .u8 0), (.bool false)]), 7, 16) := by kernel_rfl
def SGetRes (r : Int ⊕ Lines) (ask : List Int) (base : Nat) (x : Ending) (w' : World) : Prop := match r with
  | .inl n => x = .returned (.tuple #[.slice none 0 0, .bool false, .int .i64 n])
  | .inr ls => (ask.any (openL [ls]) = true ∧ x = .returned (.tuple #[.slice none 0 0, .bool false, .int .i64 2])) ∨
    (ask.any (openL [ls]) = false ∧ ∃ v, x = .returned (.tuple #[v, .bool true, .int .i64 1]) ∧ w'.ownsRow base 27 7 v ask.length (flat (ask.map (fullL [ls]))))
theorem madeF_len : ∀ (l : List (Int × ByteArray)) (acc ls : Lines), madeF l acc = .inr ls → ls.length ≤ acc.length + l.length
  | [], acc, ls, h => by
    unfold madeF at h
    injection h with h
    subst h
    simp
  | p :: r, acc, ls, h => by
    unfold madeF at h
    split at h
    · have := madeF_len r acc ls h
      simp; omega
    · split at h
      · split at h
        · have := madeF_len r _ ls h
          simp at this ⊢; omega
        · cases h
      · cases h
set_option maxRecDepth 100000 in
set_option maxHeartbeats 8000000 in
theorem specGet_c (A : Option Addr) (cap : Nat) (l : List (Int × ByteArray)) (hl : l.length ≤ 1000000) (hc : l.length ≤ cap) (hk : ∀ p ∈ l, p.2.size ≤ 200)
    (B : Option Addr) (capb : Nat) (ask : List Int) (hl2 : ask.length ≤ 1000000) (hc2 : ask.length ≤ capb) (w : World)
    (hA : l ≠ [] → ∃ g o, A = some ⟨g, o, none⟩ ∧ g < w.heap.size ∧ PartsAt w g o l) (hB : ask ≠ [] → ∃ g o, B = some ⟨g, o, none⟩ ∧ g < w.heap.size ∧ AskAt w g o ask) :
    Calls Tryz.prog 15 #[.slice A l.length cap, .slice B ask.length capb] w fun x w' => SGetRes (madeF l []) ask w.heap.size x w' ∧ Below w.heap.size w w' := by
  have kM := Aside0.mk (made_c A cap l hl hc hk none w hA)
  have HAs := Aside0.mk hB
  have HML := Aside0.mk (fun ls h => madeF_len l [] ls h)
  clear hk hA hB
  generalize madeF l [] = res at *
  go_enter Tryz.func15, Tryz.ntmps15
  cases res with
  | inl n =>
    go_wp2_with (go_at_call 40; refine kM.out.mono ?_; rintro x1 w1 ⟨hx, hb1⟩; obtain rfl := (show x1 = _ from hx); clear hx)
    go_ret3
    exact ⟨rfl, hb1⟩
  | inr ls =>
    have hlen : ls.length ≤ 1000000 := by have := HML.out ls rfl; simp at this; omega
    go_upto_region 5 with (go_at_call 40; refine kM.out.mono ?_; rintro x1 w1 ⟨⟨b, rfl, hsp⟩, hb1⟩)
    have HSp : Aside0 (SpcsAt w1 [ls] (some ⟨b, 0, none⟩)) := ⟨⟨b, none, rfl, hsp, rfl⟩⟩
    have HB1 := Aside0.mk hb1
    have HLl := Aside0.mk hlen
    clear hsp hb1 hlen
    go_wp2
    go_loopw [10, 24] (fun v i wr => ∃ k : Nat, k ≤ ask.length ∧ i = .int .i64 (k : Int) ∧ Aside0 ((ask.take k).any (openL [ls]) = false) ∧ Aside0 (wr.ownsRow w1.heap.size 27 7 v k (flat ((ask.take k).map (fullL [ls])))) ∧ Aside0 (Below w1.heap.size w1 wr)) (fun _ i _ => ask.length - (intOf i).toNat)
    case atStart => exact ⟨0, Nat.zero_le _, rfl, ⟨by rw [List.take_zero]; rfl⟩, ⟨own_nil _ _ _ _⟩, ⟨Below.refl _ _⟩⟩
    case round =>
      obtain ⟨k, hkl, rfl, HNo, HO, HB⟩ := hrel
      have HBw : Aside0 (Below w.heap.size w wr) := ⟨below_on HB1.out HB.out HB1.out.size⟩
      have HSr : Aside0 (SpcsAt wr [ls] (some ⟨b, 0, none⟩)) := ⟨SpcsAt.below HB.out HSp.out⟩
      have hlL : ∀ x ∈ [ls], x.length ≤ 1000000 := fun x hx => by rw [List.mem_singleton] at hx; rw [hx]; exact HLl.out
      have HlL := Aside0.mk hlL
      clear hlL
      by_cases hlt : k < ask.length
      · obtain ⟨g, o, rfl, hg, hP⟩ := HAs.out (fun e => by rw [e] at hlt; simp at hlt)
        have d0 := (hP.same (HBw.out.block g hg)) k hlt
        have hmem := List.getElem_mem hlt
        have htk : (ask.take (k + 1)).map (fullL [ls]) = (ask.take k).map (fullL [ls]) ++ [fullL [ls] ask[k]] := by rw [List.take_succ_eq_append_getElem hlt, List.map_append]; rfl
        have hany : (ask.take (k + 1)).any (openL [ls]) = ((ask.take k).any (openL [ls]) || openL [ls] ask[k]) := by rw [List.take_succ_eq_append_getElem hlt, List.any_append]; simp
        have hall : openL [ls] ask[k] = true → ask.any (openL [ls]) = true := fun h => List.any_eq_true.2 ⟨_, hmem, h⟩
        generalize ask[k] = t at *
        have hlti : (k : Int) < (ask.length : Int) := by omega
        have kO := Aside0.mk (open_c [ls] (by simp) HlL.out (some ⟨b, 0, none⟩) t wr HSr.out)
        have kG : Aside0 (∀ W, Below wr.heap.size wr W → Calls Tryz.prog 42 #[.pointer (some ⟨b, 0, none⟩), .int .i64 t] W fun x W' => x = .returned (.agg #[.int .i32 (fullL [ls] t).c, .int .i32 (fullL [ls] t).b, .int .i32 (fullL [ls] t).o, .int .u8 (fullL [ls] t).bo, .int .u8 (fullL [ls] t).it, .int .u8 (fullL [ls] t).un, .bool (fullL [ls] t).ni]) ∧ Below W.heap.size W W') := ⟨fun W hW => sget_c [ls] (by simp) HlL.out _ t W (SpcsAt.below hW HSr.out)⟩
        have HT := Aside0.mk htk
        have HY := Aside0.mk hany
        have HAl := Aside0.mk hall
        clear htk hP hany hall hmem
        generalize fullL [ls] t = e at *
        cases ho : openL [ls] t with
        | true =>
          rw [ho] at kO
          have HOp := Aside0.mk ho
          clear ho
          go_wp2_with (go_at_call 41; refine kO.out.mono ?_; rintro y1 w5 ⟨rfl, hb5⟩)
          go_ret3
          exact ⟨.inl ⟨HAl.out HOp.out, rfl⟩, below_on HBw.out hb5 HBw.out.size⟩
        | false =>
          rw [ho] at kO
          have HOp := Aside0.mk ho
          clear ho
          obtain ⟨A0, c0, hv⟩ := own_slice HO.out
          subst hv
          have hone : ∀ u ∈ [Value.int .i32 e.c, .int .i32 e.b, .int .i32 e.o, .int .u8 e.bo, .int .u8 e.it, .int .u8 e.un, .bool e.ni], u.oneCell' = true := by simp [Value.oneCell']
          have hbd : (k + 1) * 16 ≤ 140737488355328 := by omega
          have HN := Aside0.mk hone
          have HD := Aside0.mk hbd
          clear hone hbd
          go_wp2_with (first | (go_at_call 41; refine kO.out.mono ?_; rintro y1 w5 ⟨rfl, hb5⟩) | (go_at_call 42; refine (kG.out _ hb5).mono ?_; rintro y2 w6 ⟨rfl, hb6⟩) | ((with_reducible refine gate_builtin (b := .append) (xs := #[.tmp 31, .tmp 35]) rfl ?_); at_builtin; refine print_append_cells (w0 := w1) w1.heap.size rfl (.tmp 31) (.tmp 35) 34 27 (.agg #[(.int .i32 0), (.int .i32 0), (.int .i32 0), (.int .u8 0), (.int .u8 0), (.int .u8 0), (.bool false)]) 7 16 rfl Tryz.underlying34 infoX27 rfl (Nat.succ_pos _) (Nat.succ_pos _) (.slice A0 k c0) k (flat ((ask.take k).map (fullL [ls]))) [.int .i32 e.c, .int .i32 e.b, .int .i32 e.o, .int .u8 e.bo, .int .u8 e.it, .int .u8 e.un, .bool e.ni] rfl rfl rfl HN.out (pw_own_below (pw_own_below HO.out hb5) hb6) (below_on (below_on HB.out hb5 HB.out.size) hb6 (Nat.le_trans HB.out.size hb5.size)) (Nat.le_trans HB.out.size (Nat.le_trans hb5.size hb6.size)) HD.out ?_; intro v1 w3 ho3 hB3 hg3 hat3; obtain ⟨A3, c3, hv3⟩ := own_slice ho3))
          refine ⟨⟨k + 1, by omega, by rw [Int.natCast_add]; rfl, ⟨by rw [HY.out, HNo.out, HOp.out]; rfl⟩, ⟨?_⟩, ⟨hB3⟩⟩, by simp [intOf]; omega⟩
          rw [HT.out, flat_snoc, ← hv3]
          exact ho3
      · obtain rfl : k = ask.length := by omega
        rw [List.take_length] at HO HNo
        go_wp2
        go_ret3
        exact ⟨.inr ⟨HNo.out, _, rfl, own_weaken HO.out HB1.out.size⟩, HBw.out⟩
end Go.Proofs.YtifhhejohdmiaaaGreatDoorEnt
