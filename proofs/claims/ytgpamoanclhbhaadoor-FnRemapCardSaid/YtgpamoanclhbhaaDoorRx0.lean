-- WRITTEN BY OUR myprint.py, a program of this session's over the kit's printer
import Derived.Test.YtgpamoanclhbhaaDoorProg
import Derived.Below
import Derived.Deep.Draws
import Derived.Deep.AppendLies
import Derived.Maps.AppendAt
import Derived.OwnWalk
import Derived.Laws.BytesArg
import Derived.Laws.MakeOwn
import Derived.Laws.OwnMore
import Derived.Deep.OwnRows
import Derived.Tactics
import Derived.Lib.ConvBytes
import Derived.Laws.Slices
import Derived.WalkKit
import Derived.KernelRfl
import Derived.RowKit3
import Derived.Deep.LoopGhost
import Derived.Deep.QuietTactic
import Derived.BigQuiet
import Derived.WideLaws
import Derived.Deep.DeepCutAuto
import Derived.Deep.CutBlock
import Derived.Deep.RegionHeld3
import Derived.Laws.Rows
import Derived.Lib.AppendStr
import Derived.ArgAppend
import Derived.Laws.IdiomCopy
import Derived.OrdersHeld
import Derived.Laws.BitsLemmas
import Derived.RowKit
import Derived.Test.YtgpamoanclhbhaaDoorFmt
import Derived.Test.YtgpamoanclhbhaaDoorEvt
import Derived.Maps.RangeWalk
import Derived.StillTailTactics
import Derived.Test.YtgpamoanclhbhaaDoorWWords
import Derived.Test.YtgpamoanclhbhaaDoorWLast
import Derived.Test.YtgpamoanclhbhaaDoorWTab
import Derived.Test.YtgpamoanclhbhaaDoorWFour
import Derived.Test.YtgpamoanclhbhaaDoorWQPut
import Derived.Test.YtgpamoanclhbhaaDoorWApart
import Derived.Test.YtgpamoanclhbhaaDoorWArr
import Derived.Test.YtgpamoanclhbhaaDoorWZeros
import Derived.Test.YtgpamoanclhbhaaDoorWFoot
import Derived.Test.YtgpamoanclhbhaaDoorWKept
import Derived.Test.YtgpamoanclhbhaaDoorWShare
import Derived.Test.YtgpamoanclhbhaaDoorWN
import Derived.Test.YtgpamoanclhbhaaDoorWFootNe
import Derived.Test.YtgpamoanclhbhaaDoorWAt
import Derived.Test.YtgpamoanclhbhaaDoorWEqStruct
import Derived.Test.YtgpamoanclhbhaaDoorWRepsOne
import Derived.Test.YtgpamoanclhbhaaDoorWInv
import Derived.Test.YtgpamoanclhbhaaDoorWInvWords
import Derived.Test.YtgpamoanclhbhaaDoorWGuard
import Derived.Test.YtgpamoanclhbhaaDoorWNEv
import Derived.Test.YtgpamoanclhbhaaDoorWMore
namespace Go.Proofs.YtgpamoanclhbhaaDoor.R
open Go.RowKit Go.Proofs.YtgpamoanclhbhaaDoorW.PrintWords Go.Proofs.YtgpamoanclhbhaaDoorW.PrintLast Go.Proofs.YtgpamoanclhbhaaDoorW.PrintMore
attribute [local go_sem] max2_int min2_int max_two min_two max_three min_three max_four min_four   -- for this text's walks alone
set_option linter.unusedVariables false
set_option linter.unusedSimpArgs false



def errW : Option Int → Value
  | none => .nilIface
  | some c => .iface 0 (.int .i64 c)
theorem errW_none : errW none = .nilIface := rfl
theorem errW_some (c : Int) : errW (some c) = .iface 0 (.int .i64 c) := rfl

theorem info5 : (Tryd.prog.info? 5).map (fun i => (i.zero, i.size, i.bytes)) = some (some (.int .u8 0), 1, 1) := by kernel_rfl
theorem info9 : (Tryd.prog.info? 9).map (fun i => (i.zero, i.size, i.bytes)) = some (some (.string ⟨#[]⟩), 1, 16) := by kernel_rfl
theorem info22 : (Tryd.prog.info? 22).map (fun i => (i.zero, i.size, i.bytes)) = some (some (.slice none 0 0), 1, 24) := by kernel_rfl
theorem info29 : (Tryd.prog.info? 29).map (fun i => (i.zero, i.size, i.bytes)) = some (some (.agg #[(.int .i64 0), (.string ⟨#[]⟩)]), 2, 24) := by kernel_rfl
theorem info34 : (Tryd.prog.info? 34).map (fun i => (i.zero, i.size, i.bytes)) = some (some (.agg #[(.int .i64 0), (.slice none 0 0)]), 2, 32) := by kernel_rfl
theorem info51 : (Tryd.prog.info? 51).map (fun i => (i.zero, i.size, i.bytes)) = some (some (.agg #[(.int .i64 0), (.string ⟨#[]⟩)]), 2, 24) := by kernel_rfl
theorem info52 : (Tryd.prog.info? 52).map (fun i => (i.zero, i.size, i.bytes)) = some (some (.slice none 0 0), 1, 24) := by kernel_rfl
-- the values' own types
/-! #### struct type 29 -/
structure S29 where
  f0 : Int
  f1 : ByteArray
def z29 : S29 := ⟨(0 : Int), (⟨#[]⟩ : ByteArray)⟩
def k29 : Kd S29 := Kd.iso (Kd.pair (Kd.int .i64) Kd.string) (fun x : S29 => (x.f0, x.f1))
theorem k29_open {w : World} {x : S29} {cs : List Value} (h : k29.K w x cs) : cs = [.int .i64 x.f0, .string x.f1] := by
  obtain ⟨_, _, rfl, rfl, rfl⟩ := h
  exact rfl
theorem k29_openM {w : World} {base : Nat} {ok : Nat → Prop} {x : S29} {cs : List Value} (h : k29.M w base ok x cs) : cs = [.int .i64 x.f0, .string x.f1] := by
  obtain ⟨_, _, rfl, rfl, rfl⟩ := h
  exact rfl
theorem k29_mk (w : World) (x : S29)  : k29.K w x [.int .i64 x.f0, .string x.f1] := ⟨[.int .i64 x.f0], [.string x.f1], rfl, rfl, rfl⟩
theorem k29_mkM (w : World) (base : Nat) (ok : Nat → Prop) (x : S29)  : k29.M w base ok x [.int .i64 x.f0, .string x.f1] := ⟨[.int .i64 x.f0], [.string x.f1], rfl, rfl, rfl⟩
def rd_T29 (xs : List S29) (i : Int) : S29 := xs.getD i.toNat z29
theorem at_T29 {w : World} {A : Option Addr} {n : Nat} {xs : List S29} (h : Kd.C k29 w A n xs) (i : Int) (h0 : 0 ≤ i) (h1 : i < n) : ∃ ad , A = some ad ∧ w.cell? (ad.add (i.toNat * 2)) = some (.int .i64 (rd_T29 xs i).f0) ∧ w.cell? ⟨(ad.add (i.toNat * 2)).block, (ad.add (i.toNat * 2)).off + 1, none⟩ = some (.string (rd_T29 xs i).f1) := by
  obtain ⟨ad, c, e, _, hK, hc0⟩ := Kd.C_get h z29 i h0 h1
  have hc : ∀ j u, c[j]? = some u → w.cell? (ad.add (i.toNat * 2 + j)) = some u := hc0
  obtain rfl := k29_open hK
  exact ⟨ad, e, hc 0 _ rfl, by rw [← add_field _ _ 1 (by omega)]; exact hc 1 _ rfl⟩

/-! #### struct type 51 -/
structure S51 where
  f0 : Int
  f1 : ByteArray
def z51 : S51 := ⟨(0 : Int), (⟨#[]⟩ : ByteArray)⟩
def k51 : Kd S51 := Kd.iso (Kd.pair (Kd.int .i64) Kd.string) (fun x : S51 => (x.f0, x.f1))
theorem k51_open {w : World} {x : S51} {cs : List Value} (h : k51.K w x cs) : cs = [.int .i64 x.f0, .string x.f1] := by
  obtain ⟨_, _, rfl, rfl, rfl⟩ := h
  exact rfl
theorem k51_openM {w : World} {base : Nat} {ok : Nat → Prop} {x : S51} {cs : List Value} (h : k51.M w base ok x cs) : cs = [.int .i64 x.f0, .string x.f1] := by
  obtain ⟨_, _, rfl, rfl, rfl⟩ := h
  exact rfl
theorem k51_mk (w : World) (x : S51)  : k51.K w x [.int .i64 x.f0, .string x.f1] := ⟨[.int .i64 x.f0], [.string x.f1], rfl, rfl, rfl⟩
theorem k51_mkM (w : World) (base : Nat) (ok : Nat → Prop) (x : S51)  : k51.M w base ok x [.int .i64 x.f0, .string x.f1] := ⟨[.int .i64 x.f0], [.string x.f1], rfl, rfl, rfl⟩
def rd_T51 (xs : List S51) (i : Int) : S51 := xs.getD i.toNat z51
theorem at_T51 {w : World} {A : Option Addr} {n : Nat} {xs : List S51} (h : Kd.C k51 w A n xs) (i : Int) (h0 : 0 ≤ i) (h1 : i < n) : ∃ ad , A = some ad ∧ w.cell? (ad.add (i.toNat * 2)) = some (.int .i64 (rd_T51 xs i).f0) ∧ w.cell? ⟨(ad.add (i.toNat * 2)).block, (ad.add (i.toNat * 2)).off + 1, none⟩ = some (.string (rd_T51 xs i).f1) := by
  obtain ⟨ad, c, e, _, hK, hc0⟩ := Kd.C_get h z51 i h0 h1
  have hc : ∀ j u, c[j]? = some u → w.cell? (ad.add (i.toNat * 2 + j)) = some u := hc0
  obtain rfl := k51_open hK
  exact ⟨ad, e, hc 0 _ rfl, by rw [← add_field _ _ 1 (by omega)]; exact hc 1 _ rfl⟩

def rd_L4 (xs : List (List S51)) (i : Int) : (List S51) := xs.getD i.toNat ([] : List S51)
theorem at_L4 {w : World} {A : Option Addr} {n : Nat} {xs : List (List S51)} (h : Kd.C (Kd.slice 51 k51) w A n xs) (i : Int) (h0 : 0 ≤ i) (h1 : i < n) : ∃ ad A0 c0, A = some ad ∧ w.cell? (ad.add i.toNat) = some (.slice A0 (rd_L4 xs i).length c0) ∧ (rd_L4 xs i).length ≤ c0 ∧ k51.C w A0 (rd_L4 xs i).length (rd_L4 xs i) := by
  obtain ⟨ad, c, e, _, hK, hc0⟩ := Kd.C_get h ([] : List S51) i h0 h1
  have hc : ∀ j u, c[j]? = some u → w.cell? (ad.add (i.toNat * 1 + j)) = some u := hc0
  obtain ⟨A0, c0, rfl, l0, g0⟩ := hK
  exact ⟨ad, A0, c0, e, by have hq := hc 0 _ rfl; rwa [Nat.mul_one, Nat.add_zero] at hq, l0, g0⟩

def rd_L5 (xs : List (List S29)) (i : Int) : (List S29) := xs.getD i.toNat ([] : List S29)
theorem at_L5 {w : World} {A : Option Addr} {n : Nat} {xs : List (List S29)} (h : Kd.C (Kd.slice 29 k29) w A n xs) (i : Int) (h0 : 0 ≤ i) (h1 : i < n) : ∃ ad A0 c0, A = some ad ∧ w.cell? (ad.add i.toNat) = some (.slice A0 (rd_L5 xs i).length c0) ∧ (rd_L5 xs i).length ≤ c0 ∧ k29.C w A0 (rd_L5 xs i).length (rd_L5 xs i) := by
  obtain ⟨ad, c, e, _, hK, hc0⟩ := Kd.C_get h ([] : List S29) i h0 h1
  have hc : ∀ j u, c[j]? = some u → w.cell? (ad.add (i.toNat * 1 + j)) = some u := hc0
  obtain ⟨A0, c0, rfl, l0, g0⟩ := hK
  exact ⟨ad, A0, c0, e, by have hq := hc 0 _ rfl; rwa [Nat.mul_one, Nat.add_zero] at hq, l0, g0⟩

/-! #### struct type 34 -/
structure S34 where
  f0 : Int
  f1 : (List S29)
def z34 : S34 := ⟨(0 : Int), ([] : List S29)⟩
def k34 : Kd S34 := Kd.iso (Kd.pair (Kd.int .i64) (Kd.slice 29 k29)) (fun x : S34 => (x.f0, x.f1))
theorem k34_open {w : World} {x : S34} {cs : List Value} (h : k34.K w x cs) : ∃ A1 c1, cs = [.int .i64 x.f0, .slice A1 x.f1.length c1] ∧ x.f1.length ≤ c1 ∧ k29.C w A1 x.f1.length x.f1 := by
  obtain ⟨_, _, rfl, rfl, ⟨A1, c1, rfl, l1, g1⟩⟩ := h
  exact ⟨A1, c1, rfl, l1, g1⟩
theorem k34_openM {w : World} {base : Nat} {ok : Nat → Prop} {x : S34} {cs : List Value} (h : k34.M w base ok x cs) : ∃ v1, cs = [.int .i64 x.f0, v1] ∧ k29.R 29 w base ok v1 x.f1 := by
  obtain ⟨_, _, rfl, rfl, ⟨v1, rfl, g1⟩⟩ := h
  exact ⟨v1, rfl, g1⟩
theorem k34_mk (w : World) (x : S34) {A1 : Option Addr} {c1 : Nat} (l1 : x.f1.length ≤ c1) (g1 : k29.C w A1 x.f1.length x.f1) : k34.K w x [.int .i64 x.f0, .slice A1 x.f1.length c1] := ⟨[.int .i64 x.f0], [.slice A1 x.f1.length c1], rfl, rfl, ⟨A1, c1, rfl, l1, g1⟩⟩
theorem k34_mkM (w : World) (base : Nat) (ok : Nat → Prop) (x : S34) {v1 : Value} (g1 : k29.R 29 w base ok v1 x.f1) : k34.M w base ok x [.int .i64 x.f0, v1] := ⟨[.int .i64 x.f0], [v1], rfl, rfl, ⟨v1, rfl, g1⟩⟩
def rd_T34 (xs : List S34) (i : Int) : S34 := xs.getD i.toNat z34
theorem at_T34 {w : World} {A : Option Addr} {n : Nat} {xs : List S34} (h : Kd.C k34 w A n xs) (i : Int) (h0 : 0 ≤ i) (h1 : i < n) : ∃ ad A1 c1, A = some ad ∧ w.cell? (ad.add (i.toNat * 2)) = some (.int .i64 (rd_T34 xs i).f0) ∧ w.cell? ⟨(ad.add (i.toNat * 2)).block, (ad.add (i.toNat * 2)).off + 1, none⟩ = some (.slice A1 (rd_T34 xs i).f1.length c1) ∧ (rd_T34 xs i).f1.length ≤ c1 ∧ k29.C w A1 (rd_T34 xs i).f1.length (rd_T34 xs i).f1 := by
  obtain ⟨ad, c, e, _, hK, hc0⟩ := Kd.C_get h z34 i h0 h1
  have hc : ∀ j u, c[j]? = some u → w.cell? (ad.add (i.toNat * 2 + j)) = some u := hc0
  obtain ⟨A1, c1, rfl, l1, g1⟩ := k34_open hK
  exact ⟨ad, A1, c1, e, hc 0 _ rfl, by rw [← add_field _ _ 1 (by omega)]; exact hc 1 _ rfl, l1, g1⟩

def rd_L8 (xs : List (List S34)) (i : Int) : (List S34) := xs.getD i.toNat ([] : List S34)
theorem at_L8 {w : World} {A : Option Addr} {n : Nat} {xs : List (List S34)} (h : Kd.C (Kd.slice 34 k34) w A n xs) (i : Int) (h0 : 0 ≤ i) (h1 : i < n) : ∃ ad A0 c0, A = some ad ∧ w.cell? (ad.add i.toNat) = some (.slice A0 (rd_L8 xs i).length c0) ∧ (rd_L8 xs i).length ≤ c0 ∧ k34.C w A0 (rd_L8 xs i).length (rd_L8 xs i) := by
  obtain ⟨ad, c, e, _, hK, hc0⟩ := Kd.C_get h ([] : List S34) i h0 h1
  have hc : ∀ j u, c[j]? = some u → w.cell? (ad.add (i.toNat * 1 + j)) = some u := hc0
  obtain ⟨A0, c0, rfl, l0, g0⟩ := hK
  exact ⟨ad, A0, c0, e, by have hq := hc 0 _ rfl; rwa [Nat.mul_one, Nat.add_zero] at hq, l0, g0⟩

end Go.Proofs.YtgpamoanclhbhaaDoor.R
