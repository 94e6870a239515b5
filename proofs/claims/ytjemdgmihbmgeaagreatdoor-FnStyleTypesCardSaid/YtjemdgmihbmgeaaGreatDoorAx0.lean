-- WRITTEN BY OUR myprint.py, a program of this session's over the kit's printer
import Derived.Test.YtjemdgmihbmgeaaGreatDoorProg
import Derived.Below
import Derived.Deep.Draws
import Derived.Deep.AppendLies
import Derived.Maps.AppendAt
import Derived.OwnWalk
import Derived.Laws.BytesArg
import Derived.Laws.MakeOwn
import Derived.Laws.OwnMore
import Derived.Deep.OwnRows
import Derived.Tactics
import Derived.Lib.ConvBytes
import Derived.Laws.Slices
import Derived.WalkKit
import Derived.KernelRfl
import Derived.RowKit3
import Derived.Deep.LoopGhost
import Derived.Deep.QuietTactic
import Derived.BigQuiet
import Derived.WideLaws
import Derived.Deep.DeepCutAuto
import Derived.Deep.CutBlock
import Derived.Deep.RegionHeld3
import Derived.Laws.Rows
import Derived.Lib.AppendStr
import Derived.ArgAppend
import Derived.Laws.IdiomCopy
import Derived.OrdersHeld
import Derived.Laws.BitsLemmas
import Derived.RowKit
import Derived.Test.YtjemdgmihbmgeaaGreatDoorCol
import Derived.Test.YtjemdgmihbmgeaaGreatDoorWWords
import Derived.Test.YtjemdgmihbmgeaaGreatDoorWLast
import Derived.Test.YtjemdgmihbmgeaaGreatDoorWTab
import Derived.Test.YtjemdgmihbmgeaaGreatDoorWQPut
import Derived.Test.YtjemdgmihbmgeaaGreatDoorWApart
import Derived.Test.YtjemdgmihbmgeaaGreatDoorWArr
import Derived.Test.YtjemdgmihbmgeaaGreatDoorWZeros
import Derived.Test.YtjemdgmihbmgeaaGreatDoorWFoot
import Derived.Test.YtjemdgmihbmgeaaGreatDoorWKept
import Derived.Test.YtjemdgmihbmgeaaGreatDoorWShare
import Derived.Test.YtjemdgmihbmgeaaGreatDoorWN
import Derived.Test.YtjemdgmihbmgeaaGreatDoorWEqStruct
import Derived.Test.YtjemdgmihbmgeaaGreatDoorWRepsOne
import Derived.Test.YtjemdgmihbmgeaaGreatDoorWInv
import Derived.Test.YtjemdgmihbmgeaaGreatDoorWGuard
import Derived.Test.YtjemdgmihbmgeaaGreatDoorWNEv
import Derived.Test.YtjemdgmihbmgeaaGreatDoorWMore
namespace Go.Proofs.YtjemdgmihbmgeaaGreatDoor.A
open Go.RowKit Go.Proofs.YtjemdgmihbmgeaaGreatDoorW.PrintWords Go.Proofs.YtjemdgmihbmgeaaGreatDoorW.PrintLast Go.Proofs.YtjemdgmihbmgeaaGreatDoorW.PrintMore
attribute [local go_sem] max2_int min2_int max_two min_two max_three min_three max_four min_four   -- for this text's walks alone
set_option linter.unusedVariables false
set_option linter.unusedSimpArgs false



def errW : Option Int → Value
  | none => .nilIface
  | some c => .iface 0 (.int .i64 c)
theorem errW_none : errW none = .nilIface := rfl
theorem errW_some (c : Int) : errW (some c) = .iface 0 (.int .i64 c) := rfl

-- the values' own types
/-! #### struct type 94 -/
structure S94 where
  f0 : Int
  f1 : Int
  f2 : Int
  f3 : Int
  f4 : Int
  f5 : Int
  f6 : Bool
def z94 : S94 := ⟨(0 : Int), (0 : Int), (0 : Int), (0 : Int), (0 : Int), (0 : Int), false⟩
def k94 : Kd S94 := Kd.iso (Kd.pair (Kd.int .i32) (Kd.pair (Kd.int .i32) (Kd.pair (Kd.int .i32) (Kd.pair (Kd.int .u8) (Kd.pair (Kd.int .u8) (Kd.pair (Kd.int .u8) Kd.bool)))))) (fun x : S94 => (x.f0, x.f1, x.f2, x.f3, x.f4, x.f5, x.f6))
theorem k94_open {w : World} {x : S94} {cs : List Value} (h : k94.K w x cs) : cs = [.int .i32 x.f0, .int .i32 x.f1, .int .i32 x.f2, .int .u8 x.f3, .int .u8 x.f4, .int .u8 x.f5, .bool x.f6] := by
  obtain ⟨_, _, rfl, rfl, ⟨_, _, rfl, rfl, ⟨_, _, rfl, rfl, ⟨_, _, rfl, rfl, ⟨_, _, rfl, rfl, ⟨_, _, rfl, rfl, rfl⟩⟩⟩⟩⟩⟩ := h
  exact rfl
theorem k94_openM {w : World} {base : Nat} {ok : Nat → Prop} {x : S94} {cs : List Value} (h : k94.M w base ok x cs) : cs = [.int .i32 x.f0, .int .i32 x.f1, .int .i32 x.f2, .int .u8 x.f3, .int .u8 x.f4, .int .u8 x.f5, .bool x.f6] := by
  obtain ⟨_, _, rfl, rfl, ⟨_, _, rfl, rfl, ⟨_, _, rfl, rfl, ⟨_, _, rfl, rfl, ⟨_, _, rfl, rfl, ⟨_, _, rfl, rfl, rfl⟩⟩⟩⟩⟩⟩ := h
  exact rfl
theorem k94_mk (w : World) (x : S94)  : k94.K w x [.int .i32 x.f0, .int .i32 x.f1, .int .i32 x.f2, .int .u8 x.f3, .int .u8 x.f4, .int .u8 x.f5, .bool x.f6] := ⟨[.int .i32 x.f0], [.int .i32 x.f1, .int .i32 x.f2, .int .u8 x.f3, .int .u8 x.f4, .int .u8 x.f5, .bool x.f6], rfl, rfl, ⟨[.int .i32 x.f1], [.int .i32 x.f2, .int .u8 x.f3, .int .u8 x.f4, .int .u8 x.f5, .bool x.f6], rfl, rfl, ⟨[.int .i32 x.f2], [.int .u8 x.f3, .int .u8 x.f4, .int .u8 x.f5, .bool x.f6], rfl, rfl, ⟨[.int .u8 x.f3], [.int .u8 x.f4, .int .u8 x.f5, .bool x.f6], rfl, rfl, ⟨[.int .u8 x.f4], [.int .u8 x.f5, .bool x.f6], rfl, rfl, ⟨[.int .u8 x.f5], [.bool x.f6], rfl, rfl, rfl⟩⟩⟩⟩⟩⟩
theorem k94_mkM (w : World) (base : Nat) (ok : Nat → Prop) (x : S94)  : k94.M w base ok x [.int .i32 x.f0, .int .i32 x.f1, .int .i32 x.f2, .int .u8 x.f3, .int .u8 x.f4, .int .u8 x.f5, .bool x.f6] := ⟨[.int .i32 x.f0], [.int .i32 x.f1, .int .i32 x.f2, .int .u8 x.f3, .int .u8 x.f4, .int .u8 x.f5, .bool x.f6], rfl, rfl, ⟨[.int .i32 x.f1], [.int .i32 x.f2, .int .u8 x.f3, .int .u8 x.f4, .int .u8 x.f5, .bool x.f6], rfl, rfl, ⟨[.int .i32 x.f2], [.int .u8 x.f3, .int .u8 x.f4, .int .u8 x.f5, .bool x.f6], rfl, rfl, ⟨[.int .u8 x.f3], [.int .u8 x.f4, .int .u8 x.f5, .bool x.f6], rfl, rfl, ⟨[.int .u8 x.f4], [.int .u8 x.f5, .bool x.f6], rfl, rfl, ⟨[.int .u8 x.f5], [.bool x.f6], rfl, rfl, rfl⟩⟩⟩⟩⟩⟩
def rd_T94 (xs : List S94) (i : Int) : S94 := xs.getD i.toNat z94
theorem at_T94 {w : World} {A : Option Addr} {n : Nat} {xs : List S94} (h : Kd.C k94 w A n xs) (i : Int) (h0 : 0 ≤ i) (h1 : i < n) : ∃ ad , A = some ad ∧ w.cell? (ad.add (i.toNat * 7)) = some (.int .i32 (rd_T94 xs i).f0) ∧ w.cell? ⟨(ad.add (i.toNat * 7)).block, (ad.add (i.toNat * 7)).off + 1, none⟩ = some (.int .i32 (rd_T94 xs i).f1) ∧ w.cell? ⟨(ad.add (i.toNat * 7)).block, (ad.add (i.toNat * 7)).off + 2, none⟩ = some (.int .i32 (rd_T94 xs i).f2) ∧ w.cell? ⟨(ad.add (i.toNat * 7)).block, (ad.add (i.toNat * 7)).off + 3, none⟩ = some (.int .u8 (rd_T94 xs i).f3) ∧ w.cell? ⟨(ad.add (i.toNat * 7)).block, (ad.add (i.toNat * 7)).off + 4, none⟩ = some (.int .u8 (rd_T94 xs i).f4) ∧ w.cell? ⟨(ad.add (i.toNat * 7)).block, (ad.add (i.toNat * 7)).off + 5, none⟩ = some (.int .u8 (rd_T94 xs i).f5) ∧ w.cell? ⟨(ad.add (i.toNat * 7)).block, (ad.add (i.toNat * 7)).off + 6, none⟩ = some (.bool (rd_T94 xs i).f6) := by
  obtain ⟨ad, c, e, _, hK, hc0⟩ := Kd.C_get h z94 i h0 h1
  have hc : ∀ j u, c[j]? = some u → w.cell? (ad.add (i.toNat * 7 + j)) = some u := hc0
  obtain rfl := k94_open hK
  exact ⟨ad, e, hc 0 _ rfl, by rw [← add_field _ _ 1 (by omega)]; exact hc 1 _ rfl, by rw [← add_field _ _ 2 (by omega)]; exact hc 2 _ rfl, by rw [← add_field _ _ 3 (by omega)]; exact hc 3 _ rfl, by rw [← add_field _ _ 4 (by omega)]; exact hc 4 _ rfl, by rw [← add_field _ _ 5 (by omega)]; exact hc 5 _ rfl, by rw [← add_field _ _ 6 (by omega)]; exact hc 6 _ rfl⟩

end Go.Proofs.YtjemdgmihbmgeaaGreatDoor.A
