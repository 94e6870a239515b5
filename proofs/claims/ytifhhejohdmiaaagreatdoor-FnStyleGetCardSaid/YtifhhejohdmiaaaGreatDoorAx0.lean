-- WRITTEN BY OUR myprint.py, a program of this session's over the kit's printer
import Derived.Test.YtifhhejohdmiaaaGreatDoorProg
import Derived.Below
import Derived.Deep.Draws
import Derived.Deep.AppendLies
import Derived.Maps.AppendAt
import Derived.OwnWalk
import Derived.Laws.BytesArg
import Derived.Laws.MakeOwn
import Derived.Laws.OwnMore
import Derived.Deep.OwnRows
import Derived.Tactics
import Derived.Lib.ConvBytes
import Derived.Laws.Slices
import Derived.WalkKit
import Derived.KernelRfl
import Derived.RowKit3
import Derived.Deep.LoopGhost
import Derived.Deep.QuietTactic
import Derived.BigQuiet
import Derived.WideLaws
import Derived.Deep.DeepCutAuto
import Derived.Deep.CutBlock
import Derived.Deep.RegionHeld3
import Derived.Laws.Rows
import Derived.Lib.AppendStr
import Derived.ArgAppend
import Derived.Laws.IdiomCopy
import Derived.OrdersHeld
import Derived.Laws.BitsLemmas
import Derived.RowKit
import Derived.Test.YtifhhejohdmiaaaGreatDoorCol
import Derived.Test.YtifhhejohdmiaaaGreatDoorWWords
import Derived.Test.YtifhhejohdmiaaaGreatDoorWLast
import Derived.Test.YtifhhejohdmiaaaGreatDoorWTab
import Derived.Test.YtifhhejohdmiaaaGreatDoorWQPut
import Derived.Test.YtifhhejohdmiaaaGreatDoorWApart
import Derived.Test.YtifhhejohdmiaaaGreatDoorWArr
import Derived.Test.YtifhhejohdmiaaaGreatDoorWZeros
import Derived.Test.YtifhhejohdmiaaaGreatDoorWFoot
import Derived.Test.YtifhhejohdmiaaaGreatDoorWKept
import Derived.Test.YtifhhejohdmiaaaGreatDoorWShare
import Derived.Test.YtifhhejohdmiaaaGreatDoorWN
import Derived.Test.YtifhhejohdmiaaaGreatDoorWEqStruct
import Derived.Test.YtifhhejohdmiaaaGreatDoorWRepsOne
import Derived.Test.YtifhhejohdmiaaaGreatDoorWInv
import Derived.Test.YtifhhejohdmiaaaGreatDoorWGuard
import Derived.Test.YtifhhejohdmiaaaGreatDoorWNEv
import Derived.Test.YtifhhejohdmiaaaGreatDoorWMore
namespace Go.Proofs.YtifhhejohdmiaaaGreatDoor.A
open Go.RowKit Go.Proofs.YtifhhejohdmiaaaGreatDoorW.PrintWords Go.Proofs.YtifhhejohdmiaaaGreatDoorW.PrintLast Go.Proofs.YtifhhejohdmiaaaGreatDoorW.PrintMore
attribute [local go_sem] max2_int min2_int max_two min_two max_three min_three max_four min_four   -- for this text's walks alone
set_option linter.unusedVariables false
set_option linter.unusedSimpArgs false



def errW : Option Int → Value
  | none => .nilIface
  | some c => .iface 0 (.int .i64 c)
theorem errW_none : errW none = .nilIface := rfl
theorem errW_some (c : Int) : errW (some c) = .iface 0 (.int .i64 c) := rfl

-- the values' own types
/-! #### struct type 74 -/
structure S74 where
  f0 : Int
  f1 : Int
  f2 : Int
  f3 : Int
  f4 : Int
  f5 : Int
  f6 : Bool
def z74 : S74 := ⟨(0 : Int), (0 : Int), (0 : Int), (0 : Int), (0 : Int), (0 : Int), false⟩
def k74 : Kd S74 := Kd.iso (Kd.pair (Kd.int .i32) (Kd.pair (Kd.int .i32) (Kd.pair (Kd.int .i32) (Kd.pair (Kd.int .u8) (Kd.pair (Kd.int .u8) (Kd.pair (Kd.int .u8) Kd.bool)))))) (fun x : S74 => (x.f0, x.f1, x.f2, x.f3, x.f4, x.f5, x.f6))
theorem k74_open {w : World} {x : S74} {cs : List Value} (h : k74.K w x cs) : cs = [.int .i32 x.f0, .int .i32 x.f1, .int .i32 x.f2, .int .u8 x.f3, .int .u8 x.f4, .int .u8 x.f5, .bool x.f6] := by
  obtain ⟨_, _, rfl, rfl, ⟨_, _, rfl, rfl, ⟨_, _, rfl, rfl, ⟨_, _, rfl, rfl, ⟨_, _, rfl, rfl, ⟨_, _, rfl, rfl, rfl⟩⟩⟩⟩⟩⟩ := h
  exact rfl
theorem k74_openM {w : World} {base : Nat} {ok : Nat → Prop} {x : S74} {cs : List Value} (h : k74.M w base ok x cs) : cs = [.int .i32 x.f0, .int .i32 x.f1, .int .i32 x.f2, .int .u8 x.f3, .int .u8 x.f4, .int .u8 x.f5, .bool x.f6] := by
  obtain ⟨_, _, rfl, rfl, ⟨_, _, rfl, rfl, ⟨_, _, rfl, rfl, ⟨_, _, rfl, rfl, ⟨_, _, rfl, rfl, ⟨_, _, rfl, rfl, rfl⟩⟩⟩⟩⟩⟩ := h
  exact rfl
theorem k74_mk (w : World) (x : S74)  : k74.K w x [.int .i32 x.f0, .int .i32 x.f1, .int .i32 x.f2, .int .u8 x.f3, .int .u8 x.f4, .int .u8 x.f5, .bool x.f6] := ⟨[.int .i32 x.f0], [.int .i32 x.f1, .int .i32 x.f2, .int .u8 x.f3, .int .u8 x.f4, .int .u8 x.f5, .bool x.f6], rfl, rfl, ⟨[.int .i32 x.f1], [.int .i32 x.f2, .int .u8 x.f3, .int .u8 x.f4, .int .u8 x.f5, .bool x.f6], rfl, rfl, ⟨[.int .i32 x.f2], [.int .u8 x.f3, .int .u8 x.f4, .int .u8 x.f5, .bool x.f6], rfl, rfl, ⟨[.int .u8 x.f3], [.int .u8 x.f4, .int .u8 x.f5, .bool x.f6], rfl, rfl, ⟨[.int .u8 x.f4], [.int .u8 x.f5, .bool x.f6], rfl, rfl, ⟨[.int .u8 x.f5], [.bool x.f6], rfl, rfl, rfl⟩⟩⟩⟩⟩⟩
theorem k74_mkM (w : World) (base : Nat) (ok : Nat → Prop) (x : S74)  : k74.M w base ok x [.int .i32 x.f0, .int .i32 x.f1, .int .i32 x.f2, .int .u8 x.f3, .int .u8 x.f4, .int .u8 x.f5, .bool x.f6] := ⟨[.int .i32 x.f0], [.int .i32 x.f1, .int .i32 x.f2, .int .u8 x.f3, .int .u8 x.f4, .int .u8 x.f5, .bool x.f6], rfl, rfl, ⟨[.int .i32 x.f1], [.int .i32 x.f2, .int .u8 x.f3, .int .u8 x.f4, .int .u8 x.f5, .bool x.f6], rfl, rfl, ⟨[.int .i32 x.f2], [.int .u8 x.f3, .int .u8 x.f4, .int .u8 x.f5, .bool x.f6], rfl, rfl, ⟨[.int .u8 x.f3], [.int .u8 x.f4, .int .u8 x.f5, .bool x.f6], rfl, rfl, ⟨[.int .u8 x.f4], [.int .u8 x.f5, .bool x.f6], rfl, rfl, ⟨[.int .u8 x.f5], [.bool x.f6], rfl, rfl, rfl⟩⟩⟩⟩⟩⟩
def rd_T74 (xs : List S74) (i : Int) : S74 := xs.getD i.toNat z74
theorem at_T74 {w : World} {A : Option Addr} {n : Nat} {xs : List S74} (h : Kd.C k74 w A n xs) (i : Int) (h0 : 0 ≤ i) (h1 : i < n) : ∃ ad , A = some ad ∧ w.cell? (ad.add (i.toNat * 7)) = some (.int .i32 (rd_T74 xs i).f0) ∧ w.cell? ⟨(ad.add (i.toNat * 7)).block, (ad.add (i.toNat * 7)).off + 1, none⟩ = some (.int .i32 (rd_T74 xs i).f1) ∧ w.cell? ⟨(ad.add (i.toNat * 7)).block, (ad.add (i.toNat * 7)).off + 2, none⟩ = some (.int .i32 (rd_T74 xs i).f2) ∧ w.cell? ⟨(ad.add (i.toNat * 7)).block, (ad.add (i.toNat * 7)).off + 3, none⟩ = some (.int .u8 (rd_T74 xs i).f3) ∧ w.cell? ⟨(ad.add (i.toNat * 7)).block, (ad.add (i.toNat * 7)).off + 4, none⟩ = some (.int .u8 (rd_T74 xs i).f4) ∧ w.cell? ⟨(ad.add (i.toNat * 7)).block, (ad.add (i.toNat * 7)).off + 5, none⟩ = some (.int .u8 (rd_T74 xs i).f5) ∧ w.cell? ⟨(ad.add (i.toNat * 7)).block, (ad.add (i.toNat * 7)).off + 6, none⟩ = some (.bool (rd_T74 xs i).f6) := by
  obtain ⟨ad, c, e, _, hK, hc0⟩ := Kd.C_get h z74 i h0 h1
  have hc : ∀ j u, c[j]? = some u → w.cell? (ad.add (i.toNat * 7 + j)) = some u := hc0
  obtain rfl := k74_open hK
  exact ⟨ad, e, hc 0 _ rfl, by rw [← add_field _ _ 1 (by omega)]; exact hc 1 _ rfl, by rw [← add_field _ _ 2 (by omega)]; exact hc 2 _ rfl, by rw [← add_field _ _ 3 (by omega)]; exact hc 3 _ rfl, by rw [← add_field _ _ 4 (by omega)]; exact hc 4 _ rfl, by rw [← add_field _ _ 5 (by omega)]; exact hc 5 _ rfl, by rw [← add_field _ _ 6 (by omega)]; exact hc 6 _ rfl⟩

end Go.Proofs.YtifhhejohdmiaaaGreatDoor.A
