-- WRITTEN BY OUR myprint.py, a program of this session's over the kit's printer
import Derived.Test.YtifhhejohdmiaaaGreatDoorProg
import Derived.Below
import Derived.Deep.Draws
import Derived.Deep.AppendLies
import Derived.Maps.AppendAt
import Derived.OwnWalk
import Derived.Laws.BytesArg
import Derived.Laws.MakeOwn
import Derived.Laws.OwnMore
import Derived.Deep.OwnRows
import Derived.Tactics
import Derived.Lib.ConvBytes
import Derived.Laws.Slices
import Derived.WalkKit
import Derived.KernelRfl
import Derived.RowKit3
import Derived.Deep.LoopGhost
import Derived.Deep.QuietTactic
import Derived.BigQuiet
import Derived.WideLaws
import Derived.Deep.DeepCutAuto
import Derived.Deep.CutBlock
import Derived.Deep.RegionHeld3
import Derived.Laws.Rows
import Derived.Lib.AppendStr
import Derived.ArgAppend
import Derived.Laws.IdiomCopy
import Derived.OrdersHeld
import Derived.Laws.BitsLemmas
import Derived.RowKit
import Derived.Test.YtifhhejohdmiaaaGreatDoorGet
import Derived.Test.YtifhhejohdmiaaaGreatDoorWWords
import Derived.Test.YtifhhejohdmiaaaGreatDoorWLast
import Derived.Test.YtifhhejohdmiaaaGreatDoorWTab
import Derived.Test.YtifhhejohdmiaaaGreatDoorWFour
import Derived.Test.YtifhhejohdmiaaaGreatDoorWQPut
import Derived.Test.YtifhhejohdmiaaaGreatDoorWApart
import Derived.Test.YtifhhejohdmiaaaGreatDoorWArr
import Derived.Test.YtifhhejohdmiaaaGreatDoorWZeros
import Derived.Test.YtifhhejohdmiaaaGreatDoorWFoot
import Derived.Test.YtifhhejohdmiaaaGreatDoorWKept
import Derived.Test.YtifhhejohdmiaaaGreatDoorWShare
import Derived.Test.YtifhhejohdmiaaaGreatDoorWN
import Derived.Test.YtifhhejohdmiaaaGreatDoorWFootNe
import Derived.Test.YtifhhejohdmiaaaGreatDoorWAt
import Derived.Test.YtifhhejohdmiaaaGreatDoorWEqStruct
import Derived.Test.YtifhhejohdmiaaaGreatDoorWRepsOne
import Derived.Test.YtifhhejohdmiaaaGreatDoorWInv
import Derived.Test.YtifhhejohdmiaaaGreatDoorWInvWords
import Derived.Test.YtifhhejohdmiaaaGreatDoorWGuard
import Derived.Test.YtifhhejohdmiaaaGreatDoorWNEv
import Derived.Test.YtifhhejohdmiaaaGreatDoorWMore
namespace Go.Proofs.YtifhhejohdmiaaaGreatDoor.Q
open Go.RowKit Go.Proofs.YtifhhejohdmiaaaGreatDoorW.PrintWords Go.Proofs.YtifhhejohdmiaaaGreatDoorW.PrintLast Go.Proofs.YtifhhejohdmiaaaGreatDoorW.PrintMore
attribute [local go_sem] max2_int min2_int max_two min_two max_three min_three max_four min_four   -- for this text's walks alone
set_option linter.unusedVariables false
set_option linter.unusedSimpArgs false



def errW : Option Int → Value
  | none => .nilIface
  | some c => .iface 0 (.int .i64 c)
theorem errW_none : errW none = .nilIface := rfl
theorem errW_some (c : Int) : errW (some c) = .iface 0 (.int .i64 c) := rfl

theorem info5 : (Tryz.prog.info? 5).map (fun i => (i.zero, i.size, i.bytes)) = some (some (.int .u8 0), 1, 1) := by kernel_rfl
-- the values' own types

end Go.Proofs.YtifhhejohdmiaaaGreatDoor.Q
