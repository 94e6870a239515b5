-- WRITTEN BY OUR myprint.py, a program of this session's over the kit's printer
import Derived.Test.YtifhhejohdmiaaaDoorProg
import Derived.Below
import Derived.Deep.Draws
import Derived.Deep.AppendLies
import Derived.Maps.AppendAt
import Derived.OwnWalk
import Derived.Laws.BytesArg
import Derived.Laws.MakeOwn
import Derived.Laws.OwnMore
import Derived.Deep.OwnRows
import Derived.Tactics
import Derived.Lib.ConvBytes
import Derived.Laws.Slices
import Derived.WalkKit
import Derived.KernelRfl
import Derived.RowKit3
import Derived.Deep.LoopGhost
import Derived.Deep.QuietTactic
import Derived.BigQuiet
import Derived.WideLaws
import Derived.Deep.DeepCutAuto
import Derived.Deep.CutBlock
import Derived.Deep.RegionHeld3
import Derived.Laws.Rows
import Derived.Lib.AppendStr
import Derived.ArgAppend
import Derived.Laws.IdiomCopy
import Derived.OrdersHeld
import Derived.Laws.BitsLemmas
import Derived.RowKit
import Derived.Test.YtifhhejohdmiaaaDoorLawP
import Derived.Test.YtifhhejohdmiaaaDoorWWords
import Derived.Test.YtifhhejohdmiaaaDoorWLast
import Derived.Test.YtifhhejohdmiaaaDoorWTab
import Derived.Test.YtifhhejohdmiaaaDoorWFour
import Derived.Test.YtifhhejohdmiaaaDoorWQPut
import Derived.Test.YtifhhejohdmiaaaDoorWApart
import Derived.Test.YtifhhejohdmiaaaDoorWArr
import Derived.Test.YtifhhejohdmiaaaDoorWZeros
import Derived.Test.YtifhhejohdmiaaaDoorWFoot
import Derived.Test.YtifhhejohdmiaaaDoorWKept
import Derived.Test.YtifhhejohdmiaaaDoorWShare
import Derived.Test.YtifhhejohdmiaaaDoorWN
import Derived.Test.YtifhhejohdmiaaaDoorWFootNe
import Derived.Test.YtifhhejohdmiaaaDoorWAt
import Derived.Test.YtifhhejohdmiaaaDoorWEqStruct
import Derived.Test.YtifhhejohdmiaaaDoorWRepsOne
import Derived.Test.YtifhhejohdmiaaaDoorWInv
import Derived.Test.YtifhhejohdmiaaaDoorWInvWords
import Derived.Test.YtifhhejohdmiaaaDoorWGuard
import Derived.Test.YtifhhejohdmiaaaDoorWNEv
import Derived.Test.YtifhhejohdmiaaaDoorWMore
namespace Go.Proofs.YtifhhejohdmiaaaDoor.MPa
open Go.RowKit Go.Proofs.YtifhhejohdmiaaaDoorW.PrintWords Go.Proofs.YtifhhejohdmiaaaDoorW.PrintLast Go.Proofs.YtifhhejohdmiaaaDoorW.PrintMore
attribute [local go_sem] max2_int min2_int max_two min_two max_three min_three max_four min_four   -- for this text's walks alone
set_option linter.unusedVariables false
set_option linter.unusedSimpArgs false



def errW : Option Int → Value
  | none => .nilIface
  | some c => .iface 0 (.int .i64 c)
theorem errW_none : errW none = .nilIface := rfl
theorem errW_some (c : Int) : errW (some c) = .iface 0 (.int .i64 c) := rfl

-- the values' own types

end Go.Proofs.YtifhhejohdmiaaaDoor.MPa
