-- WRITTEN BY OUR myprint.py, a program of this session's over the kit's printer
import Derived.Test.YthpfcofkhchkcaaDoorProg
import Derived.Below
import Derived.Deep.Draws
import Derived.Deep.AppendLies
import Derived.Maps.AppendAt
import Derived.OwnWalk
import Derived.Laws.BytesArg
import Derived.Laws.MakeOwn
import Derived.Laws.OwnMore
import Derived.Deep.OwnRows
import Derived.Tactics
import Derived.Lib.ConvBytes
import Derived.Laws.Slices
import Derived.WalkKit
import Derived.KernelRfl
import Derived.RowKit3
import Derived.Deep.LoopGhost
import Derived.Deep.QuietTactic
import Derived.BigQuiet
import Derived.WideLaws
import Derived.Deep.DeepCutAuto
import Derived.Deep.CutBlock
import Derived.Deep.RegionHeld3
import Derived.Laws.Rows
import Derived.Lib.AppendStr
import Derived.ArgAppend
import Derived.Laws.IdiomCopy
import Derived.OrdersHeld
import Derived.Laws.BitsLemmas
import Derived.RowKit
import Derived.Test.YthpfcofkhchkcaaDoorCol
import Derived.Test.YthpfcofkhchkcaaDoorWWords
import Derived.Test.YthpfcofkhchkcaaDoorWLast
import Derived.Test.YthpfcofkhchkcaaDoorWTab
import Derived.Test.YthpfcofkhchkcaaDoorWFour
import Derived.Test.YthpfcofkhchkcaaDoorWQPut
import Derived.Test.YthpfcofkhchkcaaDoorWApart
import Derived.Test.YthpfcofkhchkcaaDoorWArr
import Derived.Test.YthpfcofkhchkcaaDoorWZeros
import Derived.Test.YthpfcofkhchkcaaDoorWFoot
import Derived.Test.YthpfcofkhchkcaaDoorWKept
import Derived.Test.YthpfcofkhchkcaaDoorWShare
import Derived.Test.YthpfcofkhchkcaaDoorWN
import Derived.Test.YthpfcofkhchkcaaDoorWFootNe
import Derived.Test.YthpfcofkhchkcaaDoorWAt
import Derived.Test.YthpfcofkhchkcaaDoorWEqStruct
import Derived.Test.YthpfcofkhchkcaaDoorWRepsOne
import Derived.Test.YthpfcofkhchkcaaDoorWInv
import Derived.Test.YthpfcofkhchkcaaDoorWInvWords
import Derived.Test.YthpfcofkhchkcaaDoorWGuard
import Derived.Test.YthpfcofkhchkcaaDoorWNEv
import Derived.Test.YthpfcofkhchkcaaDoorWMore
namespace Go.Proofs.YthpfcofkhchkcaaDoor.M
open Go.RowKit Go.Proofs.YthpfcofkhchkcaaDoorW.PrintWords Go.Proofs.YthpfcofkhchkcaaDoorW.PrintLast Go.Proofs.YthpfcofkhchkcaaDoorW.PrintMore
attribute [local go_sem] max2_int min2_int max_two min_two max_three min_three max_four min_four   -- for this text's walks alone
set_option linter.unusedVariables false
set_option linter.unusedSimpArgs false



def errW : Option Int → Value
  | none => .nilIface
  | some c => .iface 0 (.int .i64 c)
theorem errW_none : errW none = .nilIface := rfl
theorem errW_some (c : Int) : errW (some c) = .iface 0 (.int .i64 c) := rfl

theorem info5 : (Tryd.prog.info? 5).map (fun i => (i.zero, i.size, i.bytes)) = some (some (.int .u8 0), 1, 1) := by kernel_rfl
theorem info56 : (Tryd.prog.info? 56).map (fun i => (i.zero, i.size, i.bytes)) = some (some (.agg #[(.string ⟨#[]⟩), (.int .i64 0)]), 2, 24) := by kernel_rfl
-- the values' own types
/-! #### struct type 56 -/
structure S56 where
  f0 : ByteArray
  f1 : Int
def z56 : S56 := ⟨(⟨#[]⟩ : ByteArray), (0 : Int)⟩
def k56 : Kd S56 := Kd.iso (Kd.pair Kd.string (Kd.int .i64)) (fun x : S56 => (x.f0, x.f1))
theorem k56_open {w : World} {x : S56} {cs : List Value} (h : k56.K w x cs) : cs = [.string x.f0, .int .i64 x.f1] := by
  obtain ⟨_, _, rfl, rfl, rfl⟩ := h
  exact rfl
theorem k56_openM {w : World} {base : Nat} {ok : Nat → Prop} {x : S56} {cs : List Value} (h : k56.M w base ok x cs) : cs = [.string x.f0, .int .i64 x.f1] := by
  obtain ⟨_, _, rfl, rfl, rfl⟩ := h
  exact rfl
theorem k56_mk (w : World) (x : S56)  : k56.K w x [.string x.f0, .int .i64 x.f1] := ⟨[.string x.f0], [.int .i64 x.f1], rfl, rfl, rfl⟩
theorem k56_mkM (w : World) (base : Nat) (ok : Nat → Prop) (x : S56)  : k56.M w base ok x [.string x.f0, .int .i64 x.f1] := ⟨[.string x.f0], [.int .i64 x.f1], rfl, rfl, rfl⟩
def rd_T56 (xs : List S56) (i : Int) : S56 := xs.getD i.toNat z56
theorem at_T56 {w : World} {A : Option Addr} {n : Nat} {xs : List S56} (h : Kd.C k56 w A n xs) (i : Int) (h0 : 0 ≤ i) (h1 : i < n) : ∃ ad , A = some ad ∧ w.cell? (ad.add (i.toNat * 2)) = some (.string (rd_T56 xs i).f0) ∧ w.cell? ⟨(ad.add (i.toNat * 2)).block, (ad.add (i.toNat * 2)).off + 1, none⟩ = some (.int .i64 (rd_T56 xs i).f1) := by
  obtain ⟨ad, c, e, _, hK, hc0⟩ := Kd.C_get h z56 i h0 h1
  have hc : ∀ j u, c[j]? = some u → w.cell? (ad.add (i.toNat * 2 + j)) = some u := hc0
  obtain rfl := k56_open hK
  exact ⟨ad, e, hc 0 _ rfl, by rw [← add_field _ _ 1 (by omega)]; exact hc 1 _ rfl⟩

end Go.Proofs.YthpfcofkhchkcaaDoor.M
