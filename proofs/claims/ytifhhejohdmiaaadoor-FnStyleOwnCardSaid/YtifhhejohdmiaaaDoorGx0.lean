-- WRITTEN BY OUR myprint.py, a program of this session's over the kit's printer
import Derived.Test.YtifhhejohdmiaaaDoorProg
import Derived.Below
import Derived.Deep.Draws
import Derived.Deep.AppendLies
import Derived.Maps.AppendAt
import Derived.OwnWalk
import Derived.Laws.BytesArg
import Derived.Laws.MakeOwn
import Derived.Laws.OwnMore
import Derived.Deep.OwnRows
import Derived.Tactics
import Derived.Lib.ConvBytes
import Derived.Laws.Slices
import Derived.WalkKit
import Derived.KernelRfl
import Derived.RowKit3
import Derived.Deep.LoopGhost
import Derived.Deep.QuietTactic
import Derived.BigQuiet
import Derived.WideLaws
import Derived.Deep.DeepCutAuto
import Derived.Deep.CutBlock
import Derived.Deep.RegionHeld3
import Derived.Laws.Rows
import Derived.Lib.AppendStr
import Derived.ArgAppend
import Derived.Laws.IdiomCopy
import Derived.OrdersHeld
import Derived.Laws.BitsLemmas
import Derived.RowKit
import Derived.Test.YtifhhejohdmiaaaDoorSeq
import Derived.Test.YtifhhejohdmiaaaDoorWWords
import Derived.Test.YtifhhejohdmiaaaDoorWLast
import Derived.Test.YtifhhejohdmiaaaDoorWTab
import Derived.Test.YtifhhejohdmiaaaDoorWFour
import Derived.Test.YtifhhejohdmiaaaDoorWQPut
import Derived.Test.YtifhhejohdmiaaaDoorWApart
import Derived.Test.YtifhhejohdmiaaaDoorWArr
import Derived.Test.YtifhhejohdmiaaaDoorWZeros
import Derived.Test.YtifhhejohdmiaaaDoorWFoot
import Derived.Test.YtifhhejohdmiaaaDoorWKept
import Derived.Test.YtifhhejohdmiaaaDoorWShare
import Derived.Test.YtifhhejohdmiaaaDoorWN
import Derived.Test.YtifhhejohdmiaaaDoorWFootNe
import Derived.Test.YtifhhejohdmiaaaDoorWAt
import Derived.Test.YtifhhejohdmiaaaDoorWEqStruct
import Derived.Test.YtifhhejohdmiaaaDoorWRepsOne
import Derived.Test.YtifhhejohdmiaaaDoorWInv
import Derived.Test.YtifhhejohdmiaaaDoorWInvWords
import Derived.Test.YtifhhejohdmiaaaDoorWGuard
import Derived.Test.YtifhhejohdmiaaaDoorWNEv
import Derived.Test.YtifhhejohdmiaaaDoorWMore
namespace Go.Proofs.YtifhhejohdmiaaaDoor.G
open Go.RowKit Go.Proofs.YtifhhejohdmiaaaDoorW.PrintWords Go.Proofs.YtifhhejohdmiaaaDoorW.PrintLast Go.Proofs.YtifhhejohdmiaaaDoorW.PrintMore
attribute [local go_sem] max2_int min2_int max_two min_two max_three min_three max_four min_four   -- for this text's walks alone
set_option linter.unusedVariables false
set_option linter.unusedSimpArgs false



def errW : Option Int → Value
  | none => .nilIface
  | some c => .iface 0 (.int .i64 c)
theorem errW_none : errW none = .nilIface := rfl
theorem errW_some (c : Int) : errW (some c) = .iface 0 (.int .i64 c) := rfl

theorem info3 : (Tryd.prog.info? 3).map (fun i => (i.zero, i.size, i.bytes)) = some (some (.int .i64 0), 1, 8) := by kernel_rfl
theorem info9 : (Tryd.prog.info? 9).map (fun i => (i.zero, i.size, i.bytes)) = some (some (.string ⟨#[]⟩), 1, 16) := by kernel_rfl
theorem info21 : (Tryd.prog.info? 21).map (fun i => (i.zero, i.size, i.bytes)) = some (some (.int .i32 0), 1, 4) := by kernel_rfl
theorem info23 : (Tryd.prog.info? 23).map (fun i => (i.zero, i.size, i.bytes)) = some (some (.agg #[(.int .i32 0), (.int .i32 0), (.int .i32 0), (.int .u8 0), (.int .u8 0), (.int .u8 0), (.bool false)]), 7, 16) := by kernel_rfl
theorem info49 : (Tryd.prog.info? 49).map (fun i => (i.zero, i.size, i.bytes)) = some (some (.agg #[(.int .i64 0), (.string ⟨#[]⟩)]), 2, 24) := by kernel_rfl
-- the values' own types
def rd_L4 (xs : List (List ByteArray)) (i : Int) : (List ByteArray) := xs.getD i.toNat ([] : List ByteArray)
theorem at_L4 {w : World} {A : Option Addr} {n : Nat} {xs : List (List ByteArray)} (h : Kd.C (Kd.slice 9 Kd.string) w A n xs) (i : Int) (h0 : 0 ≤ i) (h1 : i < n) : ∃ ad A0 c0, A = some ad ∧ w.cell? (ad.add i.toNat) = some (.slice A0 (rd_L4 xs i).length c0) ∧ (rd_L4 xs i).length ≤ c0 ∧ Kd.string.C w A0 (rd_L4 xs i).length (rd_L4 xs i) := by
  obtain ⟨ad, c, e, _, hK, hc0⟩ := Kd.C_get h ([] : List ByteArray) i h0 h1
  have hc : ∀ j u, c[j]? = some u → w.cell? (ad.add (i.toNat * 1 + j)) = some u := hc0
  obtain ⟨A0, c0, rfl, l0, g0⟩ := hK
  exact ⟨ad, A0, c0, e, by have hq := hc 0 _ rfl; rwa [Nat.mul_one, Nat.add_zero] at hq, l0, g0⟩

/-! #### struct type 49 -/
structure S49 where
  f0 : Int
  f1 : ByteArray
def z49 : S49 := ⟨(0 : Int), (⟨#[]⟩ : ByteArray)⟩
def k49 : Kd S49 := Kd.iso (Kd.pair (Kd.int .i64) Kd.string) (fun x : S49 => (x.f0, x.f1))
theorem k49_open {w : World} {x : S49} {cs : List Value} (h : k49.K w x cs) : cs = [.int .i64 x.f0, .string x.f1] := by
  obtain ⟨_, _, rfl, rfl, rfl⟩ := h
  exact rfl
theorem k49_openM {w : World} {base : Nat} {ok : Nat → Prop} {x : S49} {cs : List Value} (h : k49.M w base ok x cs) : cs = [.int .i64 x.f0, .string x.f1] := by
  obtain ⟨_, _, rfl, rfl, rfl⟩ := h
  exact rfl
theorem k49_mk (w : World) (x : S49)  : k49.K w x [.int .i64 x.f0, .string x.f1] := ⟨[.int .i64 x.f0], [.string x.f1], rfl, rfl, rfl⟩
theorem k49_mkM (w : World) (base : Nat) (ok : Nat → Prop) (x : S49)  : k49.M w base ok x [.int .i64 x.f0, .string x.f1] := ⟨[.int .i64 x.f0], [.string x.f1], rfl, rfl, rfl⟩
def rd_T49 (xs : List S49) (i : Int) : S49 := xs.getD i.toNat z49
theorem at_T49 {w : World} {A : Option Addr} {n : Nat} {xs : List S49} (h : Kd.C k49 w A n xs) (i : Int) (h0 : 0 ≤ i) (h1 : i < n) : ∃ ad , A = some ad ∧ w.cell? (ad.add (i.toNat * 2)) = some (.int .i64 (rd_T49 xs i).f0) ∧ w.cell? ⟨(ad.add (i.toNat * 2)).block, (ad.add (i.toNat * 2)).off + 1, none⟩ = some (.string (rd_T49 xs i).f1) := by
  obtain ⟨ad, c, e, _, hK, hc0⟩ := Kd.C_get h z49 i h0 h1
  have hc : ∀ j u, c[j]? = some u → w.cell? (ad.add (i.toNat * 2 + j)) = some u := hc0
  obtain rfl := k49_open hK
  exact ⟨ad, e, hc 0 _ rfl, by rw [← add_field _ _ 1 (by omega)]; exact hc 1 _ rfl⟩

def rd_L6 (xs : List (List S49)) (i : Int) : (List S49) := xs.getD i.toNat ([] : List S49)
theorem at_L6 {w : World} {A : Option Addr} {n : Nat} {xs : List (List S49)} (h : Kd.C (Kd.slice 49 k49) w A n xs) (i : Int) (h0 : 0 ≤ i) (h1 : i < n) : ∃ ad A0 c0, A = some ad ∧ w.cell? (ad.add i.toNat) = some (.slice A0 (rd_L6 xs i).length c0) ∧ (rd_L6 xs i).length ≤ c0 ∧ k49.C w A0 (rd_L6 xs i).length (rd_L6 xs i) := by
  obtain ⟨ad, c, e, _, hK, hc0⟩ := Kd.C_get h ([] : List S49) i h0 h1
  have hc : ∀ j u, c[j]? = some u → w.cell? (ad.add (i.toNat * 1 + j)) = some u := hc0
  obtain ⟨A0, c0, rfl, l0, g0⟩ := hK
  exact ⟨ad, A0, c0, e, by have hq := hc 0 _ rfl; rwa [Nat.mul_one, Nat.add_zero] at hq, l0, g0⟩

def rd_L7 (xs : List (List Int)) (i : Int) : (List Int) := xs.getD i.toNat ([] : List Int)
theorem at_L7 {w : World} {A : Option Addr} {n : Nat} {xs : List (List Int)} (h : Kd.C (Kd.slice 3 (Kd.int .i64)) w A n xs) (i : Int) (h0 : 0 ≤ i) (h1 : i < n) : ∃ ad A0 c0, A = some ad ∧ w.cell? (ad.add i.toNat) = some (.slice A0 (rd_L7 xs i).length c0) ∧ (rd_L7 xs i).length ≤ c0 ∧ (Kd.int .i64).C w A0 (rd_L7 xs i).length (rd_L7 xs i) := by
  obtain ⟨ad, c, e, _, hK, hc0⟩ := Kd.C_get h ([] : List Int) i h0 h1
  have hc : ∀ j u, c[j]? = some u → w.cell? (ad.add (i.toNat * 1 + j)) = some u := hc0
  obtain ⟨A0, c0, rfl, l0, g0⟩ := hK
  exact ⟨ad, A0, c0, e, by have hq := hc 0 _ rfl; rwa [Nat.mul_one, Nat.add_zero] at hq, l0, g0⟩

/-! #### struct type 23 -/
structure S23 where
  f0 : Int
  f1 : Int
  f2 : Int
  f3 : Int
  f4 : Int
  f5 : Int
  f6 : Bool
def z23 : S23 := ⟨(0 : Int), (0 : Int), (0 : Int), (0 : Int), (0 : Int), (0 : Int), false⟩
def k23 : Kd S23 := Kd.iso (Kd.pair (Kd.int .i32) (Kd.pair (Kd.int .i32) (Kd.pair (Kd.int .i32) (Kd.pair (Kd.int .u8) (Kd.pair (Kd.int .u8) (Kd.pair (Kd.int .u8) Kd.bool)))))) (fun x : S23 => (x.f0, x.f1, x.f2, x.f3, x.f4, x.f5, x.f6))
theorem k23_open {w : World} {x : S23} {cs : List Value} (h : k23.K w x cs) : cs = [.int .i32 x.f0, .int .i32 x.f1, .int .i32 x.f2, .int .u8 x.f3, .int .u8 x.f4, .int .u8 x.f5, .bool x.f6] := by
  obtain ⟨_, _, rfl, rfl, ⟨_, _, rfl, rfl, ⟨_, _, rfl, rfl, ⟨_, _, rfl, rfl, ⟨_, _, rfl, rfl, ⟨_, _, rfl, rfl, rfl⟩⟩⟩⟩⟩⟩ := h
  exact rfl
theorem k23_openM {w : World} {base : Nat} {ok : Nat → Prop} {x : S23} {cs : List Value} (h : k23.M w base ok x cs) : cs = [.int .i32 x.f0, .int .i32 x.f1, .int .i32 x.f2, .int .u8 x.f3, .int .u8 x.f4, .int .u8 x.f5, .bool x.f6] := by
  obtain ⟨_, _, rfl, rfl, ⟨_, _, rfl, rfl, ⟨_, _, rfl, rfl, ⟨_, _, rfl, rfl, ⟨_, _, rfl, rfl, ⟨_, _, rfl, rfl, rfl⟩⟩⟩⟩⟩⟩ := h
  exact rfl
theorem k23_mk (w : World) (x : S23)  : k23.K w x [.int .i32 x.f0, .int .i32 x.f1, .int .i32 x.f2, .int .u8 x.f3, .int .u8 x.f4, .int .u8 x.f5, .bool x.f6] := ⟨[.int .i32 x.f0], [.int .i32 x.f1, .int .i32 x.f2, .int .u8 x.f3, .int .u8 x.f4, .int .u8 x.f5, .bool x.f6], rfl, rfl, ⟨[.int .i32 x.f1], [.int .i32 x.f2, .int .u8 x.f3, .int .u8 x.f4, .int .u8 x.f5, .bool x.f6], rfl, rfl, ⟨[.int .i32 x.f2], [.int .u8 x.f3, .int .u8 x.f4, .int .u8 x.f5, .bool x.f6], rfl, rfl, ⟨[.int .u8 x.f3], [.int .u8 x.f4, .int .u8 x.f5, .bool x.f6], rfl, rfl, ⟨[.int .u8 x.f4], [.int .u8 x.f5, .bool x.f6], rfl, rfl, ⟨[.int .u8 x.f5], [.bool x.f6], rfl, rfl, rfl⟩⟩⟩⟩⟩⟩
theorem k23_mkM (w : World) (base : Nat) (ok : Nat → Prop) (x : S23)  : k23.M w base ok x [.int .i32 x.f0, .int .i32 x.f1, .int .i32 x.f2, .int .u8 x.f3, .int .u8 x.f4, .int .u8 x.f5, .bool x.f6] := ⟨[.int .i32 x.f0], [.int .i32 x.f1, .int .i32 x.f2, .int .u8 x.f3, .int .u8 x.f4, .int .u8 x.f5, .bool x.f6], rfl, rfl, ⟨[.int .i32 x.f1], [.int .i32 x.f2, .int .u8 x.f3, .int .u8 x.f4, .int .u8 x.f5, .bool x.f6], rfl, rfl, ⟨[.int .i32 x.f2], [.int .u8 x.f3, .int .u8 x.f4, .int .u8 x.f5, .bool x.f6], rfl, rfl, ⟨[.int .u8 x.f3], [.int .u8 x.f4, .int .u8 x.f5, .bool x.f6], rfl, rfl, ⟨[.int .u8 x.f4], [.int .u8 x.f5, .bool x.f6], rfl, rfl, ⟨[.int .u8 x.f5], [.bool x.f6], rfl, rfl, rfl⟩⟩⟩⟩⟩⟩
def rd_T23 (xs : List S23) (i : Int) : S23 := xs.getD i.toNat z23
theorem at_T23 {w : World} {A : Option Addr} {n : Nat} {xs : List S23} (h : Kd.C k23 w A n xs) (i : Int) (h0 : 0 ≤ i) (h1 : i < n) : ∃ ad , A = some ad ∧ w.cell? (ad.add (i.toNat * 7)) = some (.int .i32 (rd_T23 xs i).f0) ∧ w.cell? ⟨(ad.add (i.toNat * 7)).block, (ad.add (i.toNat * 7)).off + 1, none⟩ = some (.int .i32 (rd_T23 xs i).f1) ∧ w.cell? ⟨(ad.add (i.toNat * 7)).block, (ad.add (i.toNat * 7)).off + 2, none⟩ = some (.int .i32 (rd_T23 xs i).f2) ∧ w.cell? ⟨(ad.add (i.toNat * 7)).block, (ad.add (i.toNat * 7)).off + 3, none⟩ = some (.int .u8 (rd_T23 xs i).f3) ∧ w.cell? ⟨(ad.add (i.toNat * 7)).block, (ad.add (i.toNat * 7)).off + 4, none⟩ = some (.int .u8 (rd_T23 xs i).f4) ∧ w.cell? ⟨(ad.add (i.toNat * 7)).block, (ad.add (i.toNat * 7)).off + 5, none⟩ = some (.int .u8 (rd_T23 xs i).f5) ∧ w.cell? ⟨(ad.add (i.toNat * 7)).block, (ad.add (i.toNat * 7)).off + 6, none⟩ = some (.bool (rd_T23 xs i).f6) := by
  obtain ⟨ad, c, e, _, hK, hc0⟩ := Kd.C_get h z23 i h0 h1
  have hc : ∀ j u, c[j]? = some u → w.cell? (ad.add (i.toNat * 7 + j)) = some u := hc0
  obtain rfl := k23_open hK
  exact ⟨ad, e, hc 0 _ rfl, by rw [← add_field _ _ 1 (by omega)]; exact hc 1 _ rfl, by rw [← add_field _ _ 2 (by omega)]; exact hc 2 _ rfl, by rw [← add_field _ _ 3 (by omega)]; exact hc 3 _ rfl, by rw [← add_field _ _ 4 (by omega)]; exact hc 4 _ rfl, by rw [← add_field _ _ 5 (by omega)]; exact hc 5 _ rfl, by rw [← add_field _ _ 6 (by omega)]; exact hc 6 _ rfl⟩

def rd_L10 (xs : List (List S23)) (i : Int) : (List S23) := xs.getD i.toNat ([] : List S23)
theorem at_L10 {w : World} {A : Option Addr} {n : Nat} {xs : List (List S23)} (h : Kd.C (Kd.slice 23 k23) w A n xs) (i : Int) (h0 : 0 ≤ i) (h1 : i < n) : ∃ ad A0 c0, A = some ad ∧ w.cell? (ad.add i.toNat) = some (.slice A0 (rd_L10 xs i).length c0) ∧ (rd_L10 xs i).length ≤ c0 ∧ k23.C w A0 (rd_L10 xs i).length (rd_L10 xs i) := by
  obtain ⟨ad, c, e, _, hK, hc0⟩ := Kd.C_get h ([] : List S23) i h0 h1
  have hc : ∀ j u, c[j]? = some u → w.cell? (ad.add (i.toNat * 1 + j)) = some u := hc0
  obtain ⟨A0, c0, rfl, l0, g0⟩ := hK
  exact ⟨ad, A0, c0, e, by have hq := hc 0 _ rfl; rwa [Nat.mul_one, Nat.add_zero] at hq, l0, g0⟩

end Go.Proofs.YtifhhejohdmiaaaDoor.G
