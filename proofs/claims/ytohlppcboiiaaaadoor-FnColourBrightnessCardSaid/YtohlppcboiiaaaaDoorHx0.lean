-- WRITTEN BY OUR myprint.py, a program of this session's over the kit's printer
import Derived.Test.YtohlppcboiiaaaaDoorProg
import Derived.Below
import Derived.Deep.Draws
import Derived.Deep.AppendLies
import Derived.Maps.AppendAt
import Derived.OwnWalk
import Derived.Laws.BytesArg
import Derived.Laws.MakeOwn
import Derived.Laws.OwnMore
import Derived.Deep.OwnRows
import Derived.Tactics
import Derived.Lib.ConvBytes
import Derived.Laws.Slices
import Derived.WalkKit
import Derived.KernelRfl
import Derived.RowKit3
import Derived.Deep.LoopGhost
import Derived.Deep.QuietTactic
import Derived.BigQuiet
import Derived.WideLaws
import Derived.Deep.DeepCutAuto
import Derived.Deep.CutBlock
import Derived.Deep.RegionHeld3
import Derived.Laws.Rows
import Derived.Lib.AppendStr
import Derived.ArgAppend
import Derived.Laws.IdiomCopy
import Derived.OrdersHeld
import Derived.Laws.BitsLemmas
import Derived.RowKit
import Derived.Test.YtohlppcboiiaaaaDoorFlt6
import Derived.Test.YtohlppcboiiaaaaDoorWWords
import Derived.Test.YtohlppcboiiaaaaDoorWLast
import Derived.Test.YtohlppcboiiaaaaDoorWTab
import Derived.Test.YtohlppcboiiaaaaDoorWFour
import Derived.Test.YtohlppcboiiaaaaDoorWQPut
import Derived.Test.YtohlppcboiiaaaaDoorWApart
import Derived.Test.YtohlppcboiiaaaaDoorWArr
import Derived.Test.YtohlppcboiiaaaaDoorWZeros
import Derived.Test.YtohlppcboiiaaaaDoorWFoot
import Derived.Test.YtohlppcboiiaaaaDoorWKept
import Derived.Test.YtohlppcboiiaaaaDoorWShare
import Derived.Test.YtohlppcboiiaaaaDoorWN
import Derived.Test.YtohlppcboiiaaaaDoorWFootNe
import Derived.Test.YtohlppcboiiaaaaDoorWAt
import Derived.Test.YtohlppcboiiaaaaDoorWEqStruct
import Derived.Test.YtohlppcboiiaaaaDoorWRepsOne
import Derived.Test.YtohlppcboiiaaaaDoorWInv
import Derived.Test.YtohlppcboiiaaaaDoorWInvWords
import Derived.Test.YtohlppcboiiaaaaDoorWGuard
import Derived.Test.YtohlppcboiiaaaaDoorWNEv
import Derived.Test.YtohlppcboiiaaaaDoorWMore
namespace Go.Proofs.YtohlppcboiiaaaaDoor.H
open Go.RowKit Go.Proofs.YtohlppcboiiaaaaDoorW.PrintWords Go.Proofs.YtohlppcboiiaaaaDoorW.PrintLast Go.Proofs.YtohlppcboiiaaaaDoorW.PrintMore
attribute [local go_sem] max2_int min2_int max_two min_two max_three min_three max_four min_four   -- for this text's walks alone
set_option linter.unusedVariables false
set_option linter.unusedSimpArgs false



def errW : Option Int → Value
  | none => .nilIface
  | some c => .iface 0 (.int .i64 c)
theorem errW_none : errW none = .nilIface := rfl
theorem errW_some (c : Int) : errW (some c) = .iface 0 (.int .i64 c) := rfl

-- the values' own types

end Go.Proofs.YtohlppcboiiaaaaDoor.H
