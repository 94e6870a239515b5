-- WRITTEN BY OUR myprint.py, a program of this session's over the kit's printer
import Derived.Test.YtibjlefenodhaaaDoorProg
import Derived.Below
import Derived.Deep.Draws
import Derived.Deep.AppendLies
import Derived.Maps.AppendAt
import Derived.OwnWalk
import Derived.Laws.BytesArg
import Derived.Laws.MakeOwn
import Derived.Laws.OwnMore
import Derived.Deep.OwnRows
import Derived.Tactics
import Derived.Lib.ConvBytes
import Derived.Laws.Slices
import Derived.WalkKit
import Derived.KernelRfl
import Derived.RowKit3
import Derived.Deep.LoopGhost
import Derived.Deep.QuietTactic
import Derived.BigQuiet
import Derived.WideLaws
import Derived.Deep.DeepCutAuto
import Derived.Deep.CutBlock
import Derived.Deep.RegionHeld3
import Derived.Laws.Rows
import Derived.Lib.AppendStr
import Derived.ArgAppend
import Derived.Laws.IdiomCopy
import Derived.OrdersHeld
import Derived.Laws.BitsLemmas
import Derived.RowKit
import Derived.Test.YtibjlefenodhaaaDoorFmt
import Derived.Test.YtibjlefenodhaaaDoorEvt
import Derived.Test.YtibjlefenodhaaaDoorWWords
import Derived.Test.YtibjlefenodhaaaDoorWLast
import Derived.Test.YtibjlefenodhaaaDoorWTab
import Derived.Test.YtibjlefenodhaaaDoorWFour
import Derived.Test.YtibjlefenodhaaaDoorWQPut
import Derived.Test.YtibjlefenodhaaaDoorWApart
import Derived.Test.YtibjlefenodhaaaDoorWArr
import Derived.Test.YtibjlefenodhaaaDoorWZeros
import Derived.Test.YtibjlefenodhaaaDoorWFoot
import Derived.Test.YtibjlefenodhaaaDoorWKept
import Derived.Test.YtibjlefenodhaaaDoorWShare
import Derived.Test.YtibjlefenodhaaaDoorWN
import Derived.Test.YtibjlefenodhaaaDoorWFootNe
import Derived.Test.YtibjlefenodhaaaDoorWAt
import Derived.Test.YtibjlefenodhaaaDoorWEqStruct
import Derived.Test.YtibjlefenodhaaaDoorWRepsOne
import Derived.Test.YtibjlefenodhaaaDoorWInv
import Derived.Test.YtibjlefenodhaaaDoorWInvWords
import Derived.Test.YtibjlefenodhaaaDoorWGuard
import Derived.Test.YtibjlefenodhaaaDoorWNEv
import Derived.Test.YtibjlefenodhaaaDoorWMore
namespace Go.Proofs.YtibjlefenodhaaaDoor.T
open Go.RowKit Go.Proofs.YtibjlefenodhaaaDoorW.PrintWords Go.Proofs.YtibjlefenodhaaaDoorW.PrintLast Go.Proofs.YtibjlefenodhaaaDoorW.PrintMore
attribute [local go_sem] max2_int min2_int max_two min_two max_three min_three max_four min_four   -- for this text's walks alone
set_option linter.unusedVariables false
set_option linter.unusedSimpArgs false



def errW : Option Int → Value
  | none => .nilIface
  | some c => .iface 0 (.int .i64 c)
theorem errW_none : errW none = .nilIface := rfl
theorem errW_some (c : Int) : errW (some c) = .iface 0 (.int .i64 c) := rfl

theorem info9 : (Tryd.prog.info? 9).map (fun i => (i.zero, i.size, i.bytes)) = some (some (.string ⟨#[]⟩), 1, 16) := by kernel_rfl
-- the values' own types
def rd_L1 (xs : List (List ByteArray)) (i : Int) : (List ByteArray) := xs.getD i.toNat ([] : List ByteArray)
theorem at_L1 {w : World} {A : Option Addr} {n : Nat} {xs : List (List ByteArray)} (h : Kd.C (Kd.slice 9 Kd.string) w A n xs) (i : Int) (h0 : 0 ≤ i) (h1 : i < n) : ∃ ad A0 c0, A = some ad ∧ w.cell? (ad.add i.toNat) = some (.slice A0 (rd_L1 xs i).length c0) ∧ (rd_L1 xs i).length ≤ c0 ∧ Kd.string.C w A0 (rd_L1 xs i).length (rd_L1 xs i) := by
  obtain ⟨ad, c, e, _, hK, hc0⟩ := Kd.C_get h ([] : List ByteArray) i h0 h1
  have hc : ∀ j u, c[j]? = some u → w.cell? (ad.add (i.toNat * 1 + j)) = some u := hc0
  obtain ⟨A0, c0, rfl, l0, g0⟩ := hK
  exact ⟨ad, A0, c0, e, by have hq := hc 0 _ rfl; rwa [Nat.mul_one, Nat.add_zero] at hq, l0, g0⟩

/-! #### struct type 28 -/
structure S28 where
  f0 : ByteArray
  f1 : (List ByteArray)
  f2 : (List ByteArray)
  f3 : (List ByteArray)
  f4 : (List ByteArray)
  f5 : Int
def z28 : S28 := ⟨(⟨#[]⟩ : ByteArray), ([] : List ByteArray), ([] : List ByteArray), ([] : List ByteArray), ([] : List ByteArray), (0 : Int)⟩
def k28 : Kd S28 := Kd.iso (Kd.pair Kd.string (Kd.pair (Kd.slice 9 Kd.string) (Kd.pair (Kd.slice 9 Kd.string) (Kd.pair (Kd.slice 9 Kd.string) (Kd.pair (Kd.slice 9 Kd.string) (Kd.int .u64)))))) (fun x : S28 => (x.f0, x.f1, x.f2, x.f3, x.f4, x.f5))
theorem k28_open {w : World} {x : S28} {cs : List Value} (h : k28.K w x cs) : ∃ A1 c1 A2 c2 A3 c3 A4 c4, cs = [.string x.f0, .slice A1 x.f1.length c1, .slice A2 x.f2.length c2, .slice A3 x.f3.length c3, .slice A4 x.f4.length c4, .int .u64 x.f5] ∧ x.f1.length ≤ c1 ∧ Kd.string.C w A1 x.f1.length x.f1 ∧ x.f2.length ≤ c2 ∧ Kd.string.C w A2 x.f2.length x.f2 ∧ x.f3.length ≤ c3 ∧ Kd.string.C w A3 x.f3.length x.f3 ∧ x.f4.length ≤ c4 ∧ Kd.string.C w A4 x.f4.length x.f4 := by
  obtain ⟨_, _, rfl, rfl, ⟨_, _, rfl, ⟨A1, c1, rfl, l1, g1⟩, ⟨_, _, rfl, ⟨A2, c2, rfl, l2, g2⟩, ⟨_, _, rfl, ⟨A3, c3, rfl, l3, g3⟩, ⟨_, _, rfl, ⟨A4, c4, rfl, l4, g4⟩, rfl⟩⟩⟩⟩⟩ := h
  exact ⟨A1, c1, A2, c2, A3, c3, A4, c4, rfl, l1, g1, l2, g2, l3, g3, l4, g4⟩
theorem k28_openM {w : World} {base : Nat} {ok : Nat → Prop} {x : S28} {cs : List Value} (h : k28.M w base ok x cs) : ∃ v1 v2 v3 v4, cs = [.string x.f0, v1, v2, v3, v4, .int .u64 x.f5] ∧ Kd.string.R 9 w base ok v1 x.f1 ∧ Kd.string.R 9 w base ok v2 x.f2 ∧ Kd.string.R 9 w base ok v3 x.f3 ∧ Kd.string.R 9 w base ok v4 x.f4 := by
  obtain ⟨_, _, rfl, rfl, ⟨_, _, rfl, ⟨v1, rfl, g1⟩, ⟨_, _, rfl, ⟨v2, rfl, g2⟩, ⟨_, _, rfl, ⟨v3, rfl, g3⟩, ⟨_, _, rfl, ⟨v4, rfl, g4⟩, rfl⟩⟩⟩⟩⟩ := h
  exact ⟨v1, v2, v3, v4, rfl, g1, g2, g3, g4⟩
theorem k28_mk (w : World) (x : S28) {A1 : Option Addr} {c1 : Nat} (l1 : x.f1.length ≤ c1) (g1 : Kd.string.C w A1 x.f1.length x.f1) {A2 : Option Addr} {c2 : Nat} (l2 : x.f2.length ≤ c2) (g2 : Kd.string.C w A2 x.f2.length x.f2) {A3 : Option Addr} {c3 : Nat} (l3 : x.f3.length ≤ c3) (g3 : Kd.string.C w A3 x.f3.length x.f3) {A4 : Option Addr} {c4 : Nat} (l4 : x.f4.length ≤ c4) (g4 : Kd.string.C w A4 x.f4.length x.f4) : k28.K w x [.string x.f0, .slice A1 x.f1.length c1, .slice A2 x.f2.length c2, .slice A3 x.f3.length c3, .slice A4 x.f4.length c4, .int .u64 x.f5] := ⟨[.string x.f0], [.slice A1 x.f1.length c1, .slice A2 x.f2.length c2, .slice A3 x.f3.length c3, .slice A4 x.f4.length c4, .int .u64 x.f5], rfl, rfl, ⟨[.slice A1 x.f1.length c1], [.slice A2 x.f2.length c2, .slice A3 x.f3.length c3, .slice A4 x.f4.length c4, .int .u64 x.f5], rfl, ⟨A1, c1, rfl, l1, g1⟩, ⟨[.slice A2 x.f2.length c2], [.slice A3 x.f3.length c3, .slice A4 x.f4.length c4, .int .u64 x.f5], rfl, ⟨A2, c2, rfl, l2, g2⟩, ⟨[.slice A3 x.f3.length c3], [.slice A4 x.f4.length c4, .int .u64 x.f5], rfl, ⟨A3, c3, rfl, l3, g3⟩, ⟨[.slice A4 x.f4.length c4], [.int .u64 x.f5], rfl, ⟨A4, c4, rfl, l4, g4⟩, rfl⟩⟩⟩⟩⟩
theorem k28_mkM (w : World) (base : Nat) (ok : Nat → Prop) (x : S28) {v1 : Value} (g1 : Kd.string.R 9 w base ok v1 x.f1) {v2 : Value} (g2 : Kd.string.R 9 w base ok v2 x.f2) {v3 : Value} (g3 : Kd.string.R 9 w base ok v3 x.f3) {v4 : Value} (g4 : Kd.string.R 9 w base ok v4 x.f4) : k28.M w base ok x [.string x.f0, v1, v2, v3, v4, .int .u64 x.f5] := ⟨[.string x.f0], [v1, v2, v3, v4, .int .u64 x.f5], rfl, rfl, ⟨[v1], [v2, v3, v4, .int .u64 x.f5], rfl, ⟨v1, rfl, g1⟩, ⟨[v2], [v3, v4, .int .u64 x.f5], rfl, ⟨v2, rfl, g2⟩, ⟨[v3], [v4, .int .u64 x.f5], rfl, ⟨v3, rfl, g3⟩, ⟨[v4], [.int .u64 x.f5], rfl, ⟨v4, rfl, g4⟩, rfl⟩⟩⟩⟩⟩
def rd_T28 (xs : List S28) (i : Int) : S28 := xs.getD i.toNat z28
theorem at_T28 {w : World} {A : Option Addr} {n : Nat} {xs : List S28} (h : Kd.C k28 w A n xs) (i : Int) (h0 : 0 ≤ i) (h1 : i < n) : ∃ ad A1 c1 A2 c2 A3 c3 A4 c4, A = some ad ∧ w.cell? (ad.add (i.toNat * 6)) = some (.string (rd_T28 xs i).f0) ∧ w.cell? ⟨(ad.add (i.toNat * 6)).block, (ad.add (i.toNat * 6)).off + 1, none⟩ = some (.slice A1 (rd_T28 xs i).f1.length c1) ∧ w.cell? ⟨(ad.add (i.toNat * 6)).block, (ad.add (i.toNat * 6)).off + 2, none⟩ = some (.slice A2 (rd_T28 xs i).f2.length c2) ∧ w.cell? ⟨(ad.add (i.toNat * 6)).block, (ad.add (i.toNat * 6)).off + 3, none⟩ = some (.slice A3 (rd_T28 xs i).f3.length c3) ∧ w.cell? ⟨(ad.add (i.toNat * 6)).block, (ad.add (i.toNat * 6)).off + 4, none⟩ = some (.slice A4 (rd_T28 xs i).f4.length c4) ∧ w.cell? ⟨(ad.add (i.toNat * 6)).block, (ad.add (i.toNat * 6)).off + 5, none⟩ = some (.int .u64 (rd_T28 xs i).f5) ∧ (rd_T28 xs i).f1.length ≤ c1 ∧ Kd.string.C w A1 (rd_T28 xs i).f1.length (rd_T28 xs i).f1 ∧ (rd_T28 xs i).f2.length ≤ c2 ∧ Kd.string.C w A2 (rd_T28 xs i).f2.length (rd_T28 xs i).f2 ∧ (rd_T28 xs i).f3.length ≤ c3 ∧ Kd.string.C w A3 (rd_T28 xs i).f3.length (rd_T28 xs i).f3 ∧ (rd_T28 xs i).f4.length ≤ c4 ∧ Kd.string.C w A4 (rd_T28 xs i).f4.length (rd_T28 xs i).f4 := by
  obtain ⟨ad, c, e, _, hK, hc0⟩ := Kd.C_get h z28 i h0 h1
  have hc : ∀ j u, c[j]? = some u → w.cell? (ad.add (i.toNat * 6 + j)) = some u := hc0
  obtain ⟨A1, c1, A2, c2, A3, c3, A4, c4, rfl, l1, g1, l2, g2, l3, g3, l4, g4⟩ := k28_open hK
  exact ⟨ad, A1, c1, A2, c2, A3, c3, A4, c4, e, hc 0 _ rfl, by rw [← add_field _ _ 1 (by omega)]; exact hc 1 _ rfl, by rw [← add_field _ _ 2 (by omega)]; exact hc 2 _ rfl, by rw [← add_field _ _ 3 (by omega)]; exact hc 3 _ rfl, by rw [← add_field _ _ 4 (by omega)]; exact hc 4 _ rfl, by rw [← add_field _ _ 5 (by omega)]; exact hc 5 _ rfl, l1, g1, l2, g2, l3, g3, l4, g4⟩

end Go.Proofs.YtibjlefenodhaaaDoor.T
