/- strings.FieldsSeq: what its iterator hands on. -/
import Derived.RangeFuncNested
import Derived.RangeFuncBound
import Derived.RangeFuncCalls
import Derived.RangeFuncLeaves
import Derived.Shelf.Abstract
import Derived.Shelf.RegionOpen
import Derived.WalkKit
import Derived.OwnWalkIn
import Derived.TacticsInMore
import Derived.LoopNIn
import Derived.LoopIn
import Derived.Sort.CutIn
import Derived.Shelf.Unicode.DecodeLastEight
import Derived.Test.YtjemdgmihbmgeaaGreatDoorFmt
import Derived.Test.YtjemdgmihbmgeaaGreatDoorShelf
import Derived.Test.YtjemdgmihbmgeaaGreatDoorBack
set_option linter.unusedVariables false
set_option linter.unusedSimpArgs false
namespace Go.Proofs.YtjemdgmihbmgeaaGreatDoorFld
open Go.RowKit Go.Shelf Go.Proofs.YtjemdgmihbmgeaaGreatDoorW.PrintWords Go.Proofs.YtjemdgmihbmgeaaGreatDoorFmt Go.Proofs.YtjemdgmihbmgeaaGreatDoorEnt
attribute [local go_sem] Oper.semAt_some
abbrev Str : Type := { x : ByteArray // x.size ≤ 140737488351232 }
def mkS (x : ByteArray) : Str := if h : x.size ≤ 140737488351232 then ⟨x, h⟩ else ⟨⟨#[]⟩, by decide⟩
theorem mkS_val {x : ByteArray} (h : x.size ≤ 140737488351232) : (mkS x).1 = x := by unfold mkS; rw [dif_pos h]
def byt (s : ByteArray) (i : Nat) : UInt8 := if h : i < s.size then s[i] else 0
/-- How many bytes the rune at place i takes. -/
def wid (s : ByteArray) (i : Nat) : Nat := if (byt s i).toNat < 128 then 1 else (Lib.decodeGo (s.extract i s.size)).2
/-- Is the rune at place i a blank? -/
def blank (s : ByteArray) (i : Nat) : Bool := if (byt s i).toNat < 128 then Lib.isSp (byt s i) else Lib.isSpaceZ (Lib.decodeGo (s.extract i s.size)).1
def fsq (s : ByteArray) : Nat → Nat → Option Nat → List ByteArray
  | 0, _, _ => []
  | g + 1, i, st => if i < s.size then
      (if blank s i = true then (st.map fun b => s.extract b i).toList ++ fsq s g (i + wid s i) none
      else fsq s g (i + wid s i) (some (st.getD i)))
    else (st.map fun b => s.extract b s.size).toList
/-- The pieces of a text between blanks. -/
def fields (s : ByteArray) : List ByteArray := fsq s (s.size + 1) 0 none
theorem wid_pos (s : ByteArray) (i : Nat) (h : i < s.size) : 1 ≤ wid s i ∧ i + wid s i ≤ s.size ∧ wid s i ≤ 4 := by
  unfold wid
  split
  · omega
  · have h1 := Lib.decodeGo_le_size (s.extract i s.size)
    have h2 := Lib.decodeGo_le4 (s.extract i s.size)
    have h3 : (s.extract i s.size).size = s.size - i := by rw [ByteArray.size_extract]; omega
    refine ⟨?_, by omega, h2⟩
    unfold Lib.decodeGo
    rw [if_neg (by omega), Lib.decode_at]
    unfold Lib.decodeN
    repeat' split
    all_goals simp
theorem decode_rune (s : ByteArray) : (Lib.decodeGo s).1 < 2147483648 := by
  unfold Lib.decodeGo
  split
  · simp
  · rw [Lib.decode_at]
    unfold Lib.decodeN
    repeat' split
    all_goals (simp only; omega)
def spI (x : UInt8) : Int := if Lib.isSp x then 1 else 0
theorem spI_eq (x : UInt8) : (spI x == 0) = !Lib.isSp x := by unfold spI; cases Lib.isSp x <;> rfl
theorem spI_ne (x : UInt8) : (spI x != 0) = Lib.isSp x := by unfold spI; cases Lib.isSp x <;> rfl
def stV : Option Nat → Int
  | none => -1
  | some b => (b : Int)
set_option maxHeartbeats 1000000 in
theorem fields_in (n : Nat) (s : ByteArray) (w : World) :
    CallsIn Fence.wide n Tryz.prog 94 #[.string s] w fun e w' => e = .returned (.func (.func 119) #[] #[.pointer (some ⟨w.heap.size, 0, none⟩)]) ∧ w' = w.alloc (.cells #[.string s] 9) := by
  refine callsIn_of_wp Tryz.func94 rfl trivial ?_ rfl
  simp only [Tryz.ntmps94, List.size_toArray, List.length_cons, List.length_nil, Nat.reduceAdd, Nat.reduceSub, Array.replicate_succ, Array.replicate_zero, List.push_toArray, List.append_toArray, List.nil_append, List.cons_append]
  gi_wp2
  go_ret
  exact ⟨rfl, rfl⟩
/-- The pieces that are to come from place i on, with a piece begun at st. -/
def Rest (s : ByteArray) (i : Nat) (st : Option Nat) (pre : List Str) : Prop :=
  ∃ g, s.size - i < g ∧ (fields s).map mkS = pre ++ (fsq s g i st).map mkS ∧ (∀ b, st = some b → b ≤ i)
theorem Rest.start (s : ByteArray) : Rest s 0 none [] := ⟨s.size + 1, by omega, by simp [fields], fun b h => by cases h⟩
theorem Rest.skip {s : ByteArray} {i : Nat} {pre : List Str} (h : Rest s i none pre) (hi : i < s.size) (hb : blank s i = true) : Rest s (i + wid s i) none pre := by
  obtain ⟨g, hg, he, _⟩ := h
  have := wid_pos s i hi
  match g, hg with
  | g + 1, hg =>
    refine ⟨g, by omega, ?_, fun b h => by cases h⟩
    rw [he, fsq, if_pos hi, if_pos hb]; rfl
theorem Rest.go {s : ByteArray} {i : Nat} {st : Option Nat} {pre : List Str} (h : Rest s i st pre) (hi : i < s.size) (hb : blank s i = false) : Rest s (i + wid s i) (some (st.getD i)) pre := by
  obtain ⟨g, hg, he, hst⟩ := h
  have := wid_pos s i hi
  match g, hg with
  | g + 1, hg =>
    refine ⟨g, by omega, ?_, fun b h => ?_⟩
    · rw [he, fsq, if_pos hi, if_neg (by rw [hb]; simp)]
    · injection h with h
      cases st with
      | none => simp at h; omega
      | some c => have := hst c rfl; simp at h; omega
theorem Rest.cut {s : ByteArray} {i b : Nat} {pre : List Str} (h : Rest s i (some b) pre) (hi : i < s.size) (hb : blank s i = true) :
    Rest s (i + wid s i) none (pre ++ [mkS (s.extract b i)]) ∧ pre.length < ((fields s).map mkS).length ∧ ∃ r, (fields s).map mkS = (pre ++ [mkS (s.extract b i)]) ++ r := by
  obtain ⟨g, hg, he, hst⟩ := h
  have := wid_pos s i hi
  match g, hg with
  | g + 1, hg =>
    rw [fsq, if_pos hi, if_pos hb] at he
    have he' : (fields s).map mkS = (pre ++ [mkS (s.extract b i)]) ++ (fsq s g (i + wid s i) none).map mkS := by rw [he]; simp
    exact ⟨⟨g, by omega, he', fun b h => by cases h⟩, by rw [he']; simp, _, he'⟩
theorem Rest.last {s : ByteArray} {i b : Nat} {pre : List Str} (h : Rest s i (some b) pre) (hi : ¬ i < s.size) : (fields s).map mkS = pre ++ [mkS (s.extract b s.size)] := by
  obtain ⟨g, hg, he, hst⟩ := h
  match g, hg with
  | g + 1, hg => rw [he, fsq, if_neg hi]; rfl
theorem Rest.over {s : ByteArray} {i : Nat} {pre : List Str} (h : Rest s i none pre) (hi : ¬ i < s.size) : (fields s).map mkS = pre := by
  obtain ⟨g, hg, he, hst⟩ := h
  match g, hg with
  | g + 1, hg => rw [he, fsq, if_neg hi]; simp
set_option maxRecDepth 100000 in
set_option maxHeartbeats 8000000 in
theorem fields1_in (n : Nat) (hn : 1 ≤ n) (l Bs : Nat) (w0 : World) (hV : VarsOK w0) (s : ByteArray) (hs : s.size ≤ 140737488351232) (J Jx : List Str → World → Prop)
    (hJ : ∀ pre A B, J pre A → Below A.heap.size A B → J pre B)
    (hY : ∀ pre x W, J pre W → pre.length < ((fields s).map mkS).length → YieldAt Fence.wide (n - 1) Tryz.prog l #[.string x.1] W fun e W' =>
      (e = .returned (.bool true) ∧ J (pre ++ [x]) W' ∧ KpB w0.heap.size Bs W W') ∨ (e = .returned (.bool false) ∧ Jx (pre ++ [x]) W'))
    (W : World) (hBs : W.heap[Bs]? = some (.cells #[.string s] 9 (0, 0))) (hB0 : Below w0.heap.size w0 W) (h0 : J [] W) :
    CallsIn Fence.wide n Tryz.prog 119 #[.func (.yield l) #[] #[], .pointer (some ⟨Bs, 0, none⟩)] W fun e W' => (∃ v, e = .returned v) ∧
      (J ((fields s).map mkS) W' ∨ (∃ pre r, (fields s).map mkS = pre ++ r ∧ Jx pre W')) := by
  refine callsIn_of_wp Tryz.func119 rfl trivial ?_ rfl
  simp only [Tryz.ntmps119, List.size_toArray, List.length_cons, List.length_nil, Nat.reduceAdd, Nat.reduceSub, Array.replicate_succ, Array.replicate_zero, List.push_toArray, List.append_toArray, List.nil_append, List.cons_append]
  gi_wp2
  gi_loopw [3, 4] (fun st i wr => ∃ (k : Nat) (b : Option Nat) (pre : List Str), k ≤ s.size ∧ i = .int .i64 (k : Int) ∧ st = .int .i64 (stV b) ∧ Aside0 (Rest s k b pre) ∧ J pre wr ∧ Below w0.heap.size w0 wr ∧ wr.heap[Bs]? = some (.cells #[.string s] 9 (0, 0)))
    (fun _ i _ => s.size - (intOf i).toNat)
  case atStart => exact ⟨0, none, [], Nat.zero_le _, rfl, rfl, ⟨Rest.start s⟩, h0, hB0, hBs⟩
  case round =>
    obtain ⟨k, b, pre, hk, rfl, rfl, hR, hJp, hBw, hb⟩ := hrel
    have cB' : wr.cell? ⟨Bs, 0, none⟩ = some (.string s) := by simp [World.cell?, hb]
    have hVr := hV.below hBw
    by_cases hlt : k < s.size
    · obtain ⟨x, hx⟩ : ∃ x : UInt8, s[k] = x := ⟨_, rfl⟩
      have hbx : byt s k = x := by unfold byt; rw [dif_pos hlt]; exact hx
      have hT := hVr.asp x.toNat (by have := x.toNat_lt; omega)
      have hT' : wr.cell? ⟨0, x.toNat, none⟩ = some (.int .u8 (spI x)) := by rw [hT]; simp [spI]
      have hsp1 := spI_eq x
      have hsp2 := spI_ne x
      have hx256 := x.toNat_lt
      have hkz : (k : Int) < (s.size : Int) := by omega
      clear hT
      gi_upto_if 23 with (fail)
      gi_cut [5, 7, 23] from 56 (fun sz sp ts wc => sz = .int .i64 (wid s k : Int) ∧ sp = .bool (blank s k) ∧ Aside0 (Below wr.heap.size wr wc))
      case first =>
        have hw : wid s k = if x.toNat < 128 then 1 else (Lib.decodeGo (s.extract k s.size)).2 := by unfold wid; rw [hbx]
        have hbl : blank s k = if x.toNat < 128 then Lib.isSp x else Lib.isSpaceZ (Lib.decodeGo (s.extract k s.size)).1 := by unfold blank; rw [hbx]
        by_cases hx8 : x.toNat < 128
        · rw [if_pos hx8] at hw hbl
          have hw' := Aside0.mk hw
          have hbl' := Aside0.mk hbl
          have h8 : (x.toNat : Int) < 128 := by omega
          clear hw hbl
          gi_wp2
          gi_meet
          exact ⟨by rw [hw'.out]; rfl, by rw [hbl'.out], ⟨Below.refl _ _⟩⟩
        · rw [if_neg hx8] at hw hbl
          have hw' := Aside0.mk hw
          have hbl' := Aside0.mk hbl
          have h8 : (128 : Int) ≤ (x.toNat : Int) := by omega
          have hr := decode_rune (s.extract k s.size)
          have kD := Aside0.mk (Tryz.utf8_DecodeRuneInString (s.extract k s.size) wr hVr.u8)
          have kS : Aside0 (∀ W, Below wr.heap.size wr W → Calls Tryz.prog 121 #[.int .i32 ((Lib.decodeGo (s.extract k s.size)).1 : Int)] W fun e w' => e = .returned (.bool (Lib.isSpaceZ ((Lib.decodeGo (s.extract k s.size)).1 : Int))) ∧ Below W.heap.size W w') := ⟨fun W hW => Tryz.unicode_IsSpace_any _ W (by omega) (by omega) (WhiteTab_below hVr.ws hW)⟩
          clear hw hbl hx8 hr
          generalize (Lib.decodeGo (s.extract k s.size)).1 = r at *
          generalize (Lib.decodeGo (s.extract k s.size)).2 = d at *
          gi_wp2_with (first | (refine ⟨trivial, ?_⟩; gi_at_call 120; refine (callsIn_wide.2 kD.out).mono ?_; rintro e w1 ⟨rfl, hb1⟩) | (refine ⟨trivial, ?_⟩; gi_at_call 121; refine (callsIn_wide.2 (kS.out _ hb1)).mono ?_; rintro e w2 ⟨rfl, hb2⟩))
          gi_meet
          exact ⟨by rw [hw'.out], by rw [hbl'.out], ⟨hb1.trans (hb2.mono hb1.size)⟩⟩
      case rest =>
        obtain ⟨rfl, rfl, hBc⟩ := hcut
        have hJc := hJ _ _ _ hJp hBc.out
        have hBw' : Below w0.heap.size w0 wc := hBw.trans (hBc.out.mono hBw.size)
        have hbc := (hBc.out.block Bs (blk_lt hb)).trans hb
        have cBc : wc.cell? ⟨Bs, 0, none⟩ = some (.string s) := by simp [World.cell?, hbc]
        obtain ⟨hw1, hw2, hw3⟩ := wid_pos s k hlt
        have hks : (k : Int) ≤ (s.size : Int) := by omega
        have hsum : wrap64 ((k : Int) + (wid s k : Int)) = ((k + wid s k : Nat) : Int) := by unfold wrap64; omega
        clear hT' hsp1 hsp2 cB' hb hJp hBw hBc
        cases hbl : blank s k with
        | true =>
          cases b with
          | none =>
            have hst : stV none = -1 := rfl
            rw [hst]
            have hR' := Aside0.mk (hR.out.skip hlt hbl)
            clear hR hbl
            gi_wp2
            go_roundw
            case rel => exact ⟨k + wid s k, none, pre, by omega, by rw [Int.natCast_add], rfl, hR', hJc, hBw', hbc⟩
            case measure => simp [intOf]; omega
          | some b =>
            obtain ⟨hR1, hR2, r, hR3⟩ := hR.out.cut hlt hbl
            have hst : stV (some b) = (b : Int) := rfl
            have hb0 : (0 : Int) ≤ (b : Int) := by omega
            have hbk : (b : Int) ≤ (k : Int) := by
              obtain ⟨_, _, _, hq⟩ := hR.out
              have := hq b rfl
              omega
            rw [hst]
            have hsz : (s.extract b k).size ≤ 140737488351232 := by rw [ByteArray.size_extract]; omega
            obtain ⟨fn, tmps, assign, body, hy, hRd⟩ := hY pre (mkS (s.extract b k)) wc hJc hR2
            rw [mkS_val hsz] at hy
            have hR1' := Aside0.mk hR1
            have hR3' := Aside0.mk hR3
            have hsum' := Aside0.mk hsum
            clear hR hbl hR1 hR2 hR3
            gi_wp2
            refine hRd.mono ?_
            rintro e W3 (⟨rfl, hJ3, hk3, hk4⟩ | ⟨rfl, hJx3⟩)
            · gi_wp2
              go_roundw
              case rel => exact ⟨k + wid s k, none, pre ++ [mkS (s.extract b k)], by omega, by rw [Int.natCast_add], rfl, hR1', hJ3, hBw'.trans hk3, hk4.trans hbc⟩
              case measure => simp [intOf]; omega
            · gi_wp2
              refine bodyPost_ret (results_none rfl _ _ _) rfl ?_
              exact ⟨⟨_, rfl⟩, .inr ⟨_, r, hR3'.out, hJx3⟩⟩
        | false =>
          have hR' := Aside0.mk (hR.out.go hlt hbl)
          have hsum' := Aside0.mk hsum
          cases b with
          | none =>
            have hst : stV none = -1 := rfl
            rw [hst]
            clear hR hbl
            gi_wp2
            go_roundw
            case rel => exact ⟨k + wid s k, some k, pre, by omega, by rw [Int.natCast_add], rfl, hR', hJc, hBw', hbc⟩
            case measure => simp [intOf]; omega
          | some b =>
            have hst : stV (some b) = (b : Int) := rfl
            have hb0 : (0 : Int) ≤ (b : Int) := by omega
            rw [hst]
            clear hR hbl
            gi_wp2
            go_roundw
            case rel => exact ⟨k + wid s k, some b, pre, by omega, by rw [Int.natCast_add], rfl, hR', hJc, hBw', hbc⟩
            case measure => simp [intOf]; omega
    · have hlt' : ¬ (k : Int) < (s.size : Int) := by omega
      cases b with
      | none =>
        have hst : stV none = -1 := rfl
        rw [hst]
        have hov := hR.out.over hlt
        subst hov
        gi_wp2
        go_end0
        exact ⟨⟨_, rfl⟩, .inl hJp⟩
      | some b =>
        have hl := hR.out.last hlt
        obtain ⟨_, _, _, hq⟩ := hR.out
        have hbk := hq b rfl
        have hst : stV (some b) = (b : Int) := rfl
        have hb0 : (0 : Int) ≤ (b : Int) := by omega
        have hbs : (b : Int) ≤ (s.size : Int) := by omega
        have hsz : (s.extract b s.size).size ≤ 140737488351232 := by rw [ByteArray.size_extract]; omega
        obtain ⟨fn, tmps, assign, body, hy, hRd⟩ := hY pre (mkS (s.extract b s.size)) wr hJp (by rw [hl]; simp)
        rw [mkS_val hsz] at hy
        have hl' := Aside0.mk hl
        clear hl hq hR
        rw [hst]
        gi_wp2
        refine hRd.mono ?_
        rintro e W3 (⟨rfl, hJ3, hk3, hk4⟩ | ⟨rfl, hJx3⟩)
        · gi_wp2
          go_end0
          exact ⟨⟨_, rfl⟩, .inl (by rw [hl'.out]; exact hJ3)⟩
        · gi_wp2
          go_end0
          exact ⟨⟨_, rfl⟩, .inr ⟨_, [], by rw [hl'.out, List.append_nil], hJx3⟩⟩
theorem fields_stops (n : Nat) (hn : 1 ≤ n) (Bs : Nat) (w0 : World) (hV : VarsOK w0) (s : ByteArray) (hs : s.size ≤ 140737488351232) (w : World)
    (hBs : w.heap[Bs]? = some (.cells #[.string s] 9 (0, 0))) (hB0 : Below w0.heap.size w0 w) :
    SeqStopsK Fence.wide n Tryz.prog 119 #[.pointer (some ⟨Bs, 0, none⟩)] (fun x : Str => #[Value.string x.1]) (KpB w0.heap.size Bs) (fun ys => ys = (fields s).map mkS) (fun pre => ∃ r, (fields s).map mkS = pre ++ r) ((fields s).map mkS).length w := fun l J Jx W hW hJ _ hY h0 => by
  have hb := (hW.block Bs (blk_lt hBs)).trans hBs
  refine (fields1_in n hn l Bs w0 hV s hs J Jx (fun pre A B hj hg => hJ pre A B none hj (grown_of_below hg none) (fun r e => by cases e)) hY W hb (hB0.trans (hW.mono hB0.size)) h0).mono ?_
  rintro e W' ⟨he, hj | ⟨pre, r, hk, hj⟩⟩
  · exact ⟨he, .inl ⟨_, rfl, hj⟩⟩
  · exact ⟨he, .inr ⟨pre, ⟨r, hk⟩, hj⟩⟩
end Go.Proofs.YtjemdgmihbmgeaaGreatDoorFld
