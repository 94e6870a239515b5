/- StyleHas: the thin package's and the reference's (merged). -/
import Derived.Test.YtjemdgmihbmgeaaGreatDoorGet
import Derived.Test.YtjemdgmihbmgeaaGreatDoorMade
set_option linter.unusedVariables false
set_option linter.unusedSimpArgs false
namespace Go.Proofs.YtjemdgmihbmgeaaGreatDoorEnt
open Go.RowKit Go.Shelf Go.Proofs.YtjemdgmihbmgeaaGreatDoorW.PrintWords Go.Proofs.YtjemdgmihbmgeaaGreatDoorFmt Go.Proofs.YtjemdgmihbmgeaaGreatDoorMapI Go.Proofs.YtjemdgmihbmgeaaGreatDoorFlt Go.Proofs.YtjemdgmihbmgeaaGreatDoor
theorem infoB2 : (Tryz.prog.info? 4).map (fun i => (i.zero, i.size, i.bytes)) = some (some (.bool false), 1, 1) := by kernel_rfl
def hasB (L : List (Int → Option Ent)) (t : Int) : Bool := !isZ (getS L t) || synt t
set_option maxRecDepth 100000 in
set_option maxHeartbeats 4000000 in
theorem has_c (L : List (Int → Option Ent)) (hL : L ≠ []) (a : Option Addr) (n : Nat) (t : Int) (ht : Ok t) (w : World) (hS : StyAt n w L a) :
    Calls Tryz.prog 28 #[.pointer a, .int .i64 t] w fun x w' => x = .returned (.bool (hasB L t)) ∧ Below w.heap.size w w' := by
  have kG : Aside0 (Calls Tryz.prog 59 #[.pointer a, .int .i64 t] w fun x W' => x = .returned (.agg #[.int .i32 (getS L t).c, .int .i32 (getS L t).b, .int .i32 (getS L t).o, .int .u8 (getS L t).bo, .int .u8 (getS L t).it, .int .u8 (getS L t).un, .bool (getS L t).ni]) ∧ Below w.heap.size w W') := ⟨get_c L a n t ht w hL hS⟩
  have kZ := Aside0.mk (isZ_c (getS L t))
  have kSy := Aside0.mk (synt_c a t)
  have hr : hasB L t = (!isZ (getS L t) || synt t) := rfl
  have HR := Aside0.mk hr
  clear hr hS
  generalize getS L t = e at *
  cases hz : isZ e with
  | false =>
    rw [hz] at kZ
    have HZ := Aside0.mk hz
    clear hz
    go_enter Tryz.func28, Tryz.ntmps28
    go_wp2_with (first | (go_at_call 59; refine kG.out.mono ?_; rintro x1 w1 ⟨rfl, hb1⟩) | (go_at_call 60; refine (kZ.out _).mono ?_; rintro x2 w2 ⟨rfl, hb2⟩))
    go_ret
    exact ⟨by rw [HR.out, HZ.out]; rfl, below_on hb1 hb2 hb1.size⟩
  | true =>
    rw [hz] at kZ
    have HZ := Aside0.mk hz
    clear hz
    go_enter Tryz.func28, Tryz.ntmps28
    go_wp2_with (first | (go_at_call 59; refine kG.out.mono ?_; rintro x1 w1 ⟨rfl, hb1⟩) | (go_at_call 60; refine (kZ.out _).mono ?_; rintro x2 w2 ⟨rfl, hb2⟩) | (go_at_call 61; refine (kSy.out _).mono ?_; rintro x3 w3 ⟨rfl, hb3⟩))
    go_ret
    exact ⟨by rw [HR.out, HZ.out]; rfl, below_on (below_on hb1 hb2 hb1.size) hb3 (Nat.le_trans hb1.size hb2.size)⟩
def hasW (L : List (Int → Option Ent)) (t : Int) : Value := .bool (hasB L t)
def HasRes (l : List (Int × ByteArray)) (ask : List Int) (base : Nat) (x : Ending) (w' : World) : Prop :=
  (badL l = true ∧ x = .returned (.slice none 0 0)) ∨
  (badL l = false ∧ ∃ v, x = .returned v ∧ w'.ownsRow base 4 1 v ask.length (ask.map (hasW [lineE l])))
set_option maxRecDepth 100000 in
set_option maxHeartbeats 8000000 in
theorem styleHas_c (A : Option Addr) (cap : Nat) (l : List (Int × ByteArray)) (hl : l.length ≤ 1000000) (hc : l.length ≤ cap) (hk : ∀ p ∈ l, Ok p.1 ∧ p.2.size ≤ 140737488351232)
    (B : Option Addr) (capb : Nat) (ask : List Int) (hl2 : ask.length ≤ 1000000) (hc2 : ask.length ≤ capb) (hk2 : ∀ t ∈ ask, Ok t) (w : World) (hV : VarsOK w)
    (hA : l ≠ [] → ∃ g o, A = some ⟨g, o, none⟩ ∧ g < w.heap.size ∧ PartsAt w g o l) (hB : ask ≠ [] → ∃ g o, B = some ⟨g, o, none⟩ ∧ g < w.heap.size ∧ AskAt w g o ask) :
    Calls Tryz.prog 10 #[.slice A l.length cap, .slice B ask.length capb] w fun x w' => HasRes l ask w.heap.size x w' ∧ Below w.heap.size w w' := by
  have kS := Aside0.mk (styled_c A cap l hl hc hk w hV hA)
  have HK := Aside0.mk hk
  have HK2 := Aside0.mk hk2
  have HAs := Aside0.mk hB
  clear hk hk2 hA hB hV
  go_enter Tryz.func10, Tryz.ntmps10
  go_wp2_with (go_at_call 27; refine kS.out.mono ?_; rintro x1 w1 ⟨⟨rfl, hx⟩ | ⟨p, mp, rfl, h2, h3, h4⟩, hb1⟩)
  · go_ret
    obtain ⟨k, t, _, h5, h6⟩ := hx
    exact ⟨.inl ⟨badL_true h5 h6, rfl⟩, hb1⟩
  · have HBad := Aside0.mk (badL_false (fun p hp => (HK.out p hp).1) h4)
    have HSt : Aside0 (StyAt l.length w1 [lineE l] (some ⟨p, 0, none⟩)) := ⟨⟨p, mp, _, _, none, rfl, h2, h3, rfl⟩⟩
    have HB1 := Aside0.mk hb1
    clear h2 h3 h4 hb1 kS
    go_loopw [6, 15] (fun v i wr => ∃ k : Nat, k ≤ ask.length ∧ i = .int .i64 (k : Int) ∧ Aside0 (wr.ownsRow w1.heap.size 4 1 v k ((ask.take k).map (hasW [lineE l]))) ∧ Aside0 (Below w1.heap.size w1 wr)) (fun _ i _ => ask.length - (intOf i).toNat)
    case atStart => exact ⟨0, Nat.zero_le _, rfl, ⟨own_nil _ _ _ _⟩, ⟨Below.refl _ _⟩⟩
    case round =>
      obtain ⟨k, hkl, rfl, HO, HB⟩ := hrel
      have HBw : Aside0 (Below w.heap.size w wr) := ⟨below_on HB1.out HB.out HB1.out.size⟩
      by_cases hlt : k < ask.length
      · obtain ⟨g, o, rfl, hg, hP⟩ := HAs.out (fun e => by rw [e] at hlt; simp at hlt)
        have d0 := (hP.same (HBw.out.block g hg)) k hlt
        have hkt := HK2.out _ (List.getElem_mem hlt)
        have htk : (ask.take (k + 1)).map (hasW [lineE l]) = (ask.take k).map (hasW [lineE l]) ++ [.bool (hasB [lineE l] ask[k])] := by rw [List.take_succ_eq_append_getElem hlt, List.map_append]; rfl
        generalize ask[k] = t at *
        have hlti : (k : Int) < (ask.length : Int) := by omega
        have kt := Aside0.mk (has_c [lineE l] (by simp) (some ⟨p, 0, none⟩) l.length t hkt wr (StyAt.below HB.out HSt.out))
        have HT := Aside0.mk htk
        clear htk hP
        generalize hasB [lineE l] t = z at *
        obtain ⟨A0, c0, hv⟩ := own_slice HO.out
        subst hv
        have hone : ∀ u ∈ [Value.bool z], u.oneCell' = true := by simp [Value.oneCell']
        have hbd : (k + 1) * 1 ≤ 140737488355328 := by omega
        have HN := Aside0.mk hone
        have HD := Aside0.mk hbd
        clear hone hbd
        go_wp2_with (first | (go_at_call 28; refine kt.out.mono ?_; rintro y1 w5 ⟨rfl, hb5⟩) | ((with_reducible refine gate_builtin (b := .append) (xs := #[.tmp 19, .tmp 23]) rfl ?_); at_builtin; refine print_append_cells (w0 := w1) w1.heap.size rfl (.tmp 19) (.tmp 23) 26 4 (.bool false) 1 1 rfl Tryz.underlying26 infoB2 rfl (Nat.succ_pos _) (Nat.succ_pos _) (.slice A0 k c0) k ((ask.take k).map (hasW [lineE l])) [.bool z] rfl rfl rfl HN.out (pw_own_below HO.out hb5) (below_on HB.out hb5 HB.out.size) (Nat.le_trans HB.out.size hb5.size) HD.out ?_; intro v1 w3 ho3 hB3 hg3 hat3; obtain ⟨A3, c3, hv3⟩ := own_slice ho3))
        refine ⟨⟨k + 1, by omega, by rw [Int.natCast_add]; rfl, ⟨?_⟩, ⟨hB3⟩⟩, by simp [intOf]; omega⟩
        rw [HT.out, ← hv3]
        exact ho3
      · obtain rfl : k = ask.length := by omega
        rw [List.take_length] at HO
        go_wp2
        go_ret
        exact ⟨.inr ⟨HBad.out, _, rfl, own_weaken HO.out HB1.out.size⟩, HBw.out⟩
end Go.Proofs.YtjemdgmihbmgeaaGreatDoorEnt
set_option linter.unusedVariables false
set_option linter.unusedSimpArgs false
namespace Go.Proofs.YtjemdgmihbmgeaaGreatDoorEnt
open Go.RowKit Go.Shelf Go.Proofs.YtjemdgmihbmgeaaGreatDoorW.PrintWords Go.Proofs.YtjemdgmihbmgeaaGreatDoorFmt Go.Proofs.YtjemdgmihbmgeaaGreatDoorMapI Go.Proofs.YtjemdgmihbmgeaaGreatDoorFlt Go.Proofs.YtjemdgmihbmgeaaGreatDoor Go.Proofs.YtjemdgmihbmgeaaGreatDoor.S
theorem infoX27 : (Tryz.prog.info? 62).map (fun i => (i.zero, i.size, i.bytes)) = some (some (.agg #[(.int .i32 0), (.int .i32 0), (.int .i32 0), (.int .u8 0), (.int .u8 0), (.int .u8 0), (.bool false)]), 7, 16) := by kernel_rfl
def SGetRes (r : Int ⊕ Lines) (ask : List Int) (base : Nat) (x : Ending) (w' : World) : Prop := match r with
  | .inl n => x = .returned (.tuple #[.slice none 0 0, .bool false, .int .i64 n])
  | .inr ls => (ask.any (openL [ls]) = true ∧ x = .returned (.tuple #[.slice none 0 0, .bool false, .int .i64 2])) ∨
    (ask.any (openL [ls]) = false ∧ ∃ v, x = .returned (.tuple #[v, .bool true, .int .i64 1]) ∧ w'.ownsRow base 62 7 v ask.length (flat (ask.map (fullL [ls]))))
theorem madeF_len : ∀ (l : List (Int × ByteArray)) (acc ls : Lines), madeF l acc = .inr ls → ls.length ≤ acc.length + l.length
  | [], acc, ls, h => by
    unfold madeF at h
    injection h with h
    subst h
    simp
  | p :: r, acc, ls, h => by
    unfold madeF at h
    split at h
    · have := madeF_len r acc ls h
      simp; omega
    · split at h
      · split at h
        · have := madeF_len r _ ls h
          simp at this ⊢; omega
        · cases h
      · cases h
end Go.Proofs.YtjemdgmihbmgeaaGreatDoorEnt
set_option linter.unusedVariables false
set_option linter.unusedSimpArgs false
namespace Go.Proofs.YtjemdgmihbmgeaaGreatDoorEnt
open Go.RowKit Go.Shelf Go.Proofs.YtjemdgmihbmgeaaGreatDoorW.PrintWords Go.Proofs.YtjemdgmihbmgeaaGreatDoorFmt Go.Proofs.YtjemdgmihbmgeaaGreatDoorMapI Go.Proofs.YtjemdgmihbmgeaaGreatDoorFlt Go.Proofs.YtjemdgmihbmgeaaGreatDoor Go.Proofs.YtjemdgmihbmgeaaGreatDoor.S
theorem infoB1 : (Tryz.prog.info? 4).map (fun i => (i.zero, i.size, i.bytes)) = some (some (.bool false), 1, 1) := by kernel_rfl
def hasV (ls : Lines) (t : Int) : Value := .bool (!isZ (ownL [ls] t))
def SHasRes (r : Int ⊕ Lines) (ask : List Int) (base : Nat) (x : Ending) (w' : World) : Prop := match r with
  | .inl n => x = .returned (.tuple #[.slice none 0 0, .bool false, .int .i64 n])
  | .inr ls => (ask.any (openL [ls]) = true ∧ x = .returned (.tuple #[.slice none 0 0, .bool false, .int .i64 2])) ∨
    (ask.any (openL [ls]) = false ∧ ∃ v, x = .returned (.tuple #[v, .bool true, .int .i64 1]) ∧ w'.ownsRow base 4 1 v ask.length (ask.map (hasV ls)))
set_option maxRecDepth 100000 in
set_option maxHeartbeats 8000000 in
theorem specHas_c (A : Option Addr) (cap : Nat) (l : List (Int × ByteArray)) (hl : l.length ≤ 1000000) (hc : l.length ≤ cap) (hk : ∀ p ∈ l, p.2.size ≤ 200)
    (B : Option Addr) (capb : Nat) (ask : List Int) (hl2 : ask.length ≤ 1000000) (hc2 : ask.length ≤ capb) (w : World)
    (hA : l ≠ [] → ∃ g o, A = some ⟨g, o, none⟩ ∧ g < w.heap.size ∧ PartsAt w g o l) (hB : ask ≠ [] → ∃ g o, B = some ⟨g, o, none⟩ ∧ g < w.heap.size ∧ AskAt w g o ask) :
    Calls Tryz.prog 8 #[.slice A l.length cap, .slice B ask.length capb] w fun x w' => SHasRes (madeF l []) ask w.heap.size x w' ∧ Below w.heap.size w w' := by
  have kM := Aside0.mk (made_c A cap l hl hc hk none w hA)
  have HAs := Aside0.mk hB
  have HML := Aside0.mk (fun ls h => madeF_len l [] ls h)
  clear hk hA hB
  generalize madeF l [] = res at *
  go_enter Tryz.func8, Tryz.ntmps8
  cases res with
  | inl n =>
    go_wp2_with (go_at_call 23; refine kM.out.mono ?_; rintro x1 w1 ⟨hx, hb1⟩; obtain rfl := (show x1 = _ from hx); clear hx)
    go_ret3
    exact ⟨rfl, hb1⟩
  | inr ls =>
    have hlen : ls.length ≤ 1000000 := by have := HML.out ls rfl; simp at this; omega
    go_upto_region 5 with (go_at_call 23; refine kM.out.mono ?_; rintro x1 w1 ⟨⟨b, rfl, hsp⟩, hb1⟩)
    have HSp : Aside0 (SpcsAt w1 [ls] (some ⟨b, 0, none⟩)) := ⟨⟨b, none, rfl, hsp, rfl⟩⟩
    have HB1 := Aside0.mk hb1
    have HLl := Aside0.mk hlen
    clear hsp hb1 hlen
    go_wp2
    go_loopw [10, 24] (fun v i wr => ∃ k : Nat, k ≤ ask.length ∧ i = .int .i64 (k : Int) ∧ Aside0 ((ask.take k).any (openL [ls]) = false) ∧ Aside0 (wr.ownsRow w1.heap.size 4 1 v k ((ask.take k).map (hasV ls))) ∧ Aside0 (Below w1.heap.size w1 wr)) (fun _ i _ => ask.length - (intOf i).toNat)
    case atStart => exact ⟨0, Nat.zero_le _, rfl, ⟨by rw [List.take_zero]; rfl⟩, ⟨own_nil _ _ _ _⟩, ⟨Below.refl _ _⟩⟩
    case round =>
      obtain ⟨k, hkl, rfl, HNo, HO, HB⟩ := hrel
      have HBw : Aside0 (Below w.heap.size w wr) := ⟨below_on HB1.out HB.out HB1.out.size⟩
      have HSr : Aside0 (SpcsAt wr [ls] (some ⟨b, 0, none⟩)) := ⟨SpcsAt.below HB.out HSp.out⟩
      have hlL : ∀ x ∈ [ls], x.length ≤ 1000000 := fun x hx => by rw [List.mem_singleton] at hx; rw [hx]; exact HLl.out
      have HlL := Aside0.mk hlL
      clear hlL
      by_cases hlt : k < ask.length
      · obtain ⟨g, o, rfl, hg, hP⟩ := HAs.out (fun e => by rw [e] at hlt; simp at hlt)
        have d0 := (hP.same (HBw.out.block g hg)) k hlt
        have hmem := List.getElem_mem hlt
        have htk : (ask.take (k + 1)).map (hasV ls) = (ask.take k).map (hasV ls) ++ [hasV ls ask[k]] := by rw [List.take_succ_eq_append_getElem hlt, List.map_append]; rfl
        have hany : (ask.take (k + 1)).any (openL [ls]) = ((ask.take k).any (openL [ls]) || openL [ls] ask[k]) := by rw [List.take_succ_eq_append_getElem hlt, List.any_append]; simp
        have hall : openL [ls] ask[k] = true → ask.any (openL [ls]) = true := fun h => List.any_eq_true.2 ⟨_, hmem, h⟩
        generalize ask[k] = t at *
        have hlti : (k : Int) < (ask.length : Int) := by omega
        have kO := Aside0.mk (open_c [ls] (by simp) HlL.out (some ⟨b, 0, none⟩) t wr HSr.out)
        have kG : Aside0 (∀ W, Below wr.heap.size wr W → Calls Tryz.prog 26 #[.pointer (some ⟨b, 0, none⟩), .int .i64 t] W fun x W' => x = .returned (.agg #[.int .i32 (ownL [ls] t).c, .int .i32 (ownL [ls] t).b, .int .i32 (ownL [ls] t).o, .int .u8 (ownL [ls] t).bo, .int .u8 (ownL [ls] t).it, .int .u8 (ownL [ls] t).un, .bool (ownL [ls] t).ni]) ∧ Below W.heap.size W W') := ⟨fun W hW => own_c [ls] _ t W (by simp) HlL.out (SpcsAt.below hW HSr.out)⟩
        have kZ := Aside0.mk (specZ_c (ownL [ls] t))
        have hh : hasV ls t = .bool (!isZ (ownL [ls] t)) := rfl
        rw [hh] at htk
        have HT := Aside0.mk htk
        have HY := Aside0.mk hany
        have HAl := Aside0.mk hall
        clear htk hP hany hall hmem hh
        generalize ownL [ls] t = e at *
        generalize isZ e = z at *
        cases ho : openL [ls] t with
        | true =>
          rw [ho] at kO
          have HOp := Aside0.mk ho
          clear ho
          go_wp2_with (go_at_call 24; refine kO.out.mono ?_; rintro y1 w5 ⟨rfl, hb5⟩)
          go_ret3
          exact ⟨.inl ⟨HAl.out HOp.out, rfl⟩, below_on HBw.out hb5 HBw.out.size⟩
        | false =>
          rw [ho] at kO
          have HOp := Aside0.mk ho
          clear ho
          obtain ⟨A0, c0, hv⟩ := own_slice HO.out
          subst hv
          have hone : ∀ u ∈ [Value.bool (!z)], u.oneCell' = true := by simp [Value.oneCell']
          have hbd : (k + 1) * 1 ≤ 140737488355328 := by omega
          have HN := Aside0.mk hone
          have HD := Aside0.mk hbd
          clear hone hbd
          go_wp2_with (first | (go_at_call 24; refine kO.out.mono ?_; rintro y1 w5 ⟨rfl, hb5⟩) | (go_at_call 26; refine (kG.out _ hb5).mono ?_; rintro y2 w6 ⟨rfl, hb6⟩) | (go_at_call 25; refine (kZ.out _).mono ?_; rintro y3 w7 ⟨rfl, hb7⟩) | ((with_reducible refine gate_builtin (b := .append) (xs := #[.tmp 31, .tmp 37]) rfl ?_); at_builtin; refine print_append_cells (w0 := w1) w1.heap.size rfl (.tmp 31) (.tmp 37) 26 4 (.bool false) 1 1 rfl Tryz.underlying26 infoB1 rfl (Nat.succ_pos _) (Nat.succ_pos _) (.slice A0 k c0) k ((ask.take k).map (hasV ls)) [.bool (!z)] rfl rfl rfl HN.out (pw_own_below (pw_own_below (pw_own_below HO.out hb5) hb6) hb7) (below_on (below_on (below_on HB.out hb5 HB.out.size) hb6 (Nat.le_trans HB.out.size hb5.size)) hb7 (Nat.le_trans HB.out.size (Nat.le_trans hb5.size hb6.size))) (Nat.le_trans HB.out.size (Nat.le_trans hb5.size (Nat.le_trans hb6.size hb7.size))) HD.out ?_; intro v1 w3 ho3 hB3 hg3 hat3; obtain ⟨A3, c3, hv3⟩ := own_slice ho3))
          refine ⟨⟨k + 1, by omega, by rw [Int.natCast_add]; rfl, ⟨by rw [HY.out, HNo.out, HOp.out]; rfl⟩, ⟨?_⟩, ⟨hB3⟩⟩, by simp [intOf]; omega⟩
          rw [HT.out, ← hv3]
          exact ho3
      · obtain rfl : k = ask.length := by omega
        rw [List.take_length] at HO HNo
        go_wp2
        go_ret3
        exact ⟨.inr ⟨HNo.out, _, rfl, own_weaken HO.out HB1.out.size⟩, HBw.out⟩
end Go.Proofs.YtjemdgmihbmgeaaGreatDoorEnt
