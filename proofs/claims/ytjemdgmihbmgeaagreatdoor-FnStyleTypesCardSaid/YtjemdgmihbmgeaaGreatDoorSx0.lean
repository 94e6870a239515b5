-- WRITTEN BY OUR myprint.py, a program of this session's over the kit's printer
import Derived.Test.YtjemdgmihbmgeaaGreatDoorProg
import Derived.Below
import Derived.Deep.Draws
import Derived.Deep.AppendLies
import Derived.Maps.AppendAt
import Derived.OwnWalk
import Derived.Laws.BytesArg
import Derived.Laws.MakeOwn
import Derived.Laws.OwnMore
import Derived.Deep.OwnRows
import Derived.Tactics
import Derived.Lib.ConvBytes
import Derived.Laws.Slices
import Derived.WalkKit
import Derived.KernelRfl
import Derived.RowKit3
import Derived.Deep.LoopGhost
import Derived.Deep.QuietTactic
import Derived.BigQuiet
import Derived.WideLaws
import Derived.Deep.DeepCutAuto
import Derived.Deep.CutBlock
import Derived.Deep.RegionHeld3
import Derived.Laws.Rows
import Derived.Lib.AppendStr
import Derived.ArgAppend
import Derived.Laws.IdiomCopy
import Derived.OrdersHeld
import Derived.Laws.BitsLemmas
import Derived.RowKit
import Derived.Test.YtjemdgmihbmgeaaGreatDoorGet
import Derived.Test.YtjemdgmihbmgeaaGreatDoorWWords
import Derived.Test.YtjemdgmihbmgeaaGreatDoorWLast
import Derived.Test.YtjemdgmihbmgeaaGreatDoorWTab
import Derived.Test.YtjemdgmihbmgeaaGreatDoorWQPut
import Derived.Test.YtjemdgmihbmgeaaGreatDoorWApart
import Derived.Test.YtjemdgmihbmgeaaGreatDoorWArr
import Derived.Test.YtjemdgmihbmgeaaGreatDoorWZeros
import Derived.Test.YtjemdgmihbmgeaaGreatDoorWFoot
import Derived.Test.YtjemdgmihbmgeaaGreatDoorWKept
import Derived.Test.YtjemdgmihbmgeaaGreatDoorWShare
import Derived.Test.YtjemdgmihbmgeaaGreatDoorWN
import Derived.Test.YtjemdgmihbmgeaaGreatDoorWEqStruct
import Derived.Test.YtjemdgmihbmgeaaGreatDoorWRepsOne
import Derived.Test.YtjemdgmihbmgeaaGreatDoorWInv
import Derived.Test.YtjemdgmihbmgeaaGreatDoorWGuard
import Derived.Test.YtjemdgmihbmgeaaGreatDoorWNEv
import Derived.Test.YtjemdgmihbmgeaaGreatDoorWMore
namespace Go.Proofs.YtjemdgmihbmgeaaGreatDoor.S
open Go.RowKit Go.Proofs.YtjemdgmihbmgeaaGreatDoorW.PrintWords Go.Proofs.YtjemdgmihbmgeaaGreatDoorW.PrintLast Go.Proofs.YtjemdgmihbmgeaaGreatDoorW.PrintMore
attribute [local go_sem] max2_int min2_int max_two min_two max_three min_three max_four min_four   -- for this text's walks alone
set_option linter.unusedVariables false
set_option linter.unusedSimpArgs false



def errW : Option Int → Value
  | none => .nilIface
  | some c => .iface 0 (.int .i64 c)
theorem errW_none : errW none = .nilIface := rfl
theorem errW_some (c : Int) : errW (some c) = .iface 0 (.int .i64 c) := rfl

theorem info5 : (Tryz.prog.info? 5).map (fun i => (i.zero, i.size, i.bytes)) = some (some (.int .u8 0), 1, 1) := by kernel_rfl
theorem info9 : (Tryz.prog.info? 9).map (fun i => (i.zero, i.size, i.bytes)) = some (some (.string ⟨#[]⟩), 1, 16) := by kernel_rfl
theorem info158 : (Tryz.prog.info? 158).map (fun i => (i.zero, i.size, i.bytes)) = some (some (.agg #[(.int .i64 0), (.string ⟨#[]⟩)]), 2, 24) := by kernel_rfl
theorem info166 : (Tryz.prog.info? 166).map (fun i => (i.zero, i.size, i.bytes)) = some (some (.agg #[(.string ⟨#[]⟩), (.int .i64 0)]), 2, 24) := by kernel_rfl
-- the values' own types
/-! #### struct type 166 -/
structure S166 where
  f0 : ByteArray
  f1 : Int
def z166 : S166 := ⟨(⟨#[]⟩ : ByteArray), (0 : Int)⟩
def k166 : Kd S166 := Kd.iso (Kd.pair Kd.string (Kd.int .i64)) (fun x : S166 => (x.f0, x.f1))
theorem k166_open {w : World} {x : S166} {cs : List Value} (h : k166.K w x cs) : cs = [.string x.f0, .int .i64 x.f1] := by
  obtain ⟨_, _, rfl, rfl, rfl⟩ := h
  exact rfl
theorem k166_openM {w : World} {base : Nat} {ok : Nat → Prop} {x : S166} {cs : List Value} (h : k166.M w base ok x cs) : cs = [.string x.f0, .int .i64 x.f1] := by
  obtain ⟨_, _, rfl, rfl, rfl⟩ := h
  exact rfl
theorem k166_mk (w : World) (x : S166)  : k166.K w x [.string x.f0, .int .i64 x.f1] := ⟨[.string x.f0], [.int .i64 x.f1], rfl, rfl, rfl⟩
theorem k166_mkM (w : World) (base : Nat) (ok : Nat → Prop) (x : S166)  : k166.M w base ok x [.string x.f0, .int .i64 x.f1] := ⟨[.string x.f0], [.int .i64 x.f1], rfl, rfl, rfl⟩
def rd_T166 (xs : List S166) (i : Int) : S166 := xs.getD i.toNat z166
theorem at_T166 {w : World} {A : Option Addr} {n : Nat} {xs : List S166} (h : Kd.C k166 w A n xs) (i : Int) (h0 : 0 ≤ i) (h1 : i < n) : ∃ ad , A = some ad ∧ w.cell? (ad.add (i.toNat * 2)) = some (.string (rd_T166 xs i).f0) ∧ w.cell? ⟨(ad.add (i.toNat * 2)).block, (ad.add (i.toNat * 2)).off + 1, none⟩ = some (.int .i64 (rd_T166 xs i).f1) := by
  obtain ⟨ad, c, e, _, hK, hc0⟩ := Kd.C_get h z166 i h0 h1
  have hc : ∀ j u, c[j]? = some u → w.cell? (ad.add (i.toNat * 2 + j)) = some u := hc0
  obtain rfl := k166_open hK
  exact ⟨ad, e, hc 0 _ rfl, by rw [← add_field _ _ 1 (by omega)]; exact hc 1 _ rfl⟩

/-! #### struct type 158 -/
structure S158 where
  f0 : Int
  f1 : ByteArray
def z158 : S158 := ⟨(0 : Int), (⟨#[]⟩ : ByteArray)⟩
def k158 : Kd S158 := Kd.iso (Kd.pair (Kd.int .i64) Kd.string) (fun x : S158 => (x.f0, x.f1))
theorem k158_open {w : World} {x : S158} {cs : List Value} (h : k158.K w x cs) : cs = [.int .i64 x.f0, .string x.f1] := by
  obtain ⟨_, _, rfl, rfl, rfl⟩ := h
  exact rfl
theorem k158_openM {w : World} {base : Nat} {ok : Nat → Prop} {x : S158} {cs : List Value} (h : k158.M w base ok x cs) : cs = [.int .i64 x.f0, .string x.f1] := by
  obtain ⟨_, _, rfl, rfl, rfl⟩ := h
  exact rfl
theorem k158_mk (w : World) (x : S158)  : k158.K w x [.int .i64 x.f0, .string x.f1] := ⟨[.int .i64 x.f0], [.string x.f1], rfl, rfl, rfl⟩
theorem k158_mkM (w : World) (base : Nat) (ok : Nat → Prop) (x : S158)  : k158.M w base ok x [.int .i64 x.f0, .string x.f1] := ⟨[.int .i64 x.f0], [.string x.f1], rfl, rfl, rfl⟩
def rd_T158 (xs : List S158) (i : Int) : S158 := xs.getD i.toNat z158
theorem at_T158 {w : World} {A : Option Addr} {n : Nat} {xs : List S158} (h : Kd.C k158 w A n xs) (i : Int) (h0 : 0 ≤ i) (h1 : i < n) : ∃ ad , A = some ad ∧ w.cell? (ad.add (i.toNat * 2)) = some (.int .i64 (rd_T158 xs i).f0) ∧ w.cell? ⟨(ad.add (i.toNat * 2)).block, (ad.add (i.toNat * 2)).off + 1, none⟩ = some (.string (rd_T158 xs i).f1) := by
  obtain ⟨ad, c, e, _, hK, hc0⟩ := Kd.C_get h z158 i h0 h1
  have hc : ∀ j u, c[j]? = some u → w.cell? (ad.add (i.toNat * 2 + j)) = some u := hc0
  obtain rfl := k158_open hK
  exact ⟨ad, e, hc 0 _ rfl, by rw [← add_field _ _ 1 (by omega)]; exact hc 1 _ rfl⟩

/-! #### struct type 62 -/
structure S62 where
  f0 : Int
  f1 : Int
  f2 : Int
  f3 : Int
  f4 : Int
  f5 : Int
  f6 : Bool
def z62 : S62 := ⟨(0 : Int), (0 : Int), (0 : Int), (0 : Int), (0 : Int), (0 : Int), false⟩
def k62 : Kd S62 := Kd.iso (Kd.pair (Kd.int .i32) (Kd.pair (Kd.int .i32) (Kd.pair (Kd.int .i32) (Kd.pair (Kd.int .u8) (Kd.pair (Kd.int .u8) (Kd.pair (Kd.int .u8) Kd.bool)))))) (fun x : S62 => (x.f0, x.f1, x.f2, x.f3, x.f4, x.f5, x.f6))
theorem k62_open {w : World} {x : S62} {cs : List Value} (h : k62.K w x cs) : cs = [.int .i32 x.f0, .int .i32 x.f1, .int .i32 x.f2, .int .u8 x.f3, .int .u8 x.f4, .int .u8 x.f5, .bool x.f6] := by
  obtain ⟨_, _, rfl, rfl, ⟨_, _, rfl, rfl, ⟨_, _, rfl, rfl, ⟨_, _, rfl, rfl, ⟨_, _, rfl, rfl, ⟨_, _, rfl, rfl, rfl⟩⟩⟩⟩⟩⟩ := h
  exact rfl
theorem k62_openM {w : World} {base : Nat} {ok : Nat → Prop} {x : S62} {cs : List Value} (h : k62.M w base ok x cs) : cs = [.int .i32 x.f0, .int .i32 x.f1, .int .i32 x.f2, .int .u8 x.f3, .int .u8 x.f4, .int .u8 x.f5, .bool x.f6] := by
  obtain ⟨_, _, rfl, rfl, ⟨_, _, rfl, rfl, ⟨_, _, rfl, rfl, ⟨_, _, rfl, rfl, ⟨_, _, rfl, rfl, ⟨_, _, rfl, rfl, rfl⟩⟩⟩⟩⟩⟩ := h
  exact rfl
theorem k62_mk (w : World) (x : S62)  : k62.K w x [.int .i32 x.f0, .int .i32 x.f1, .int .i32 x.f2, .int .u8 x.f3, .int .u8 x.f4, .int .u8 x.f5, .bool x.f6] := ⟨[.int .i32 x.f0], [.int .i32 x.f1, .int .i32 x.f2, .int .u8 x.f3, .int .u8 x.f4, .int .u8 x.f5, .bool x.f6], rfl, rfl, ⟨[.int .i32 x.f1], [.int .i32 x.f2, .int .u8 x.f3, .int .u8 x.f4, .int .u8 x.f5, .bool x.f6], rfl, rfl, ⟨[.int .i32 x.f2], [.int .u8 x.f3, .int .u8 x.f4, .int .u8 x.f5, .bool x.f6], rfl, rfl, ⟨[.int .u8 x.f3], [.int .u8 x.f4, .int .u8 x.f5, .bool x.f6], rfl, rfl, ⟨[.int .u8 x.f4], [.int .u8 x.f5, .bool x.f6], rfl, rfl, ⟨[.int .u8 x.f5], [.bool x.f6], rfl, rfl, rfl⟩⟩⟩⟩⟩⟩
theorem k62_mkM (w : World) (base : Nat) (ok : Nat → Prop) (x : S62)  : k62.M w base ok x [.int .i32 x.f0, .int .i32 x.f1, .int .i32 x.f2, .int .u8 x.f3, .int .u8 x.f4, .int .u8 x.f5, .bool x.f6] := ⟨[.int .i32 x.f0], [.int .i32 x.f1, .int .i32 x.f2, .int .u8 x.f3, .int .u8 x.f4, .int .u8 x.f5, .bool x.f6], rfl, rfl, ⟨[.int .i32 x.f1], [.int .i32 x.f2, .int .u8 x.f3, .int .u8 x.f4, .int .u8 x.f5, .bool x.f6], rfl, rfl, ⟨[.int .i32 x.f2], [.int .u8 x.f3, .int .u8 x.f4, .int .u8 x.f5, .bool x.f6], rfl, rfl, ⟨[.int .u8 x.f3], [.int .u8 x.f4, .int .u8 x.f5, .bool x.f6], rfl, rfl, ⟨[.int .u8 x.f4], [.int .u8 x.f5, .bool x.f6], rfl, rfl, ⟨[.int .u8 x.f5], [.bool x.f6], rfl, rfl, rfl⟩⟩⟩⟩⟩⟩
def rd_T62 (xs : List S62) (i : Int) : S62 := xs.getD i.toNat z62
theorem at_T62 {w : World} {A : Option Addr} {n : Nat} {xs : List S62} (h : Kd.C k62 w A n xs) (i : Int) (h0 : 0 ≤ i) (h1 : i < n) : ∃ ad , A = some ad ∧ w.cell? (ad.add (i.toNat * 7)) = some (.int .i32 (rd_T62 xs i).f0) ∧ w.cell? ⟨(ad.add (i.toNat * 7)).block, (ad.add (i.toNat * 7)).off + 1, none⟩ = some (.int .i32 (rd_T62 xs i).f1) ∧ w.cell? ⟨(ad.add (i.toNat * 7)).block, (ad.add (i.toNat * 7)).off + 2, none⟩ = some (.int .i32 (rd_T62 xs i).f2) ∧ w.cell? ⟨(ad.add (i.toNat * 7)).block, (ad.add (i.toNat * 7)).off + 3, none⟩ = some (.int .u8 (rd_T62 xs i).f3) ∧ w.cell? ⟨(ad.add (i.toNat * 7)).block, (ad.add (i.toNat * 7)).off + 4, none⟩ = some (.int .u8 (rd_T62 xs i).f4) ∧ w.cell? ⟨(ad.add (i.toNat * 7)).block, (ad.add (i.toNat * 7)).off + 5, none⟩ = some (.int .u8 (rd_T62 xs i).f5) ∧ w.cell? ⟨(ad.add (i.toNat * 7)).block, (ad.add (i.toNat * 7)).off + 6, none⟩ = some (.bool (rd_T62 xs i).f6) := by
  obtain ⟨ad, c, e, _, hK, hc0⟩ := Kd.C_get h z62 i h0 h1
  have hc : ∀ j u, c[j]? = some u → w.cell? (ad.add (i.toNat * 7 + j)) = some u := hc0
  obtain rfl := k62_open hK
  exact ⟨ad, e, hc 0 _ rfl, by rw [← add_field _ _ 1 (by omega)]; exact hc 1 _ rfl, by rw [← add_field _ _ 2 (by omega)]; exact hc 2 _ rfl, by rw [← add_field _ _ 3 (by omega)]; exact hc 3 _ rfl, by rw [← add_field _ _ 4 (by omega)]; exact hc 4 _ rfl, by rw [← add_field _ _ 5 (by omega)]; exact hc 5 _ rfl, by rw [← add_field _ _ 6 (by omega)]; exact hc 6 _ rfl⟩

end Go.Proofs.YtjemdgmihbmgeaaGreatDoor.S
