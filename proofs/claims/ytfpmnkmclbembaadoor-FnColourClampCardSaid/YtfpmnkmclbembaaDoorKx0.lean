-- WRITTEN BY OUR myprint.py, a program of this session's over the kit's printer
import Derived.Test.YtfpmnkmclbembaaDoorProg
import Derived.Below
import Derived.Deep.Draws
import Derived.Deep.AppendLies
import Derived.Maps.AppendAt
import Derived.OwnWalk
import Derived.Laws.BytesArg
import Derived.Laws.MakeOwn
import Derived.Laws.OwnMore
import Derived.Deep.OwnRows
import Derived.Tactics
import Derived.Lib.ConvBytes
import Derived.Laws.Slices
import Derived.WalkKit
import Derived.KernelRfl
import Derived.RowKit3
import Derived.Deep.LoopGhost
import Derived.Deep.QuietTactic
import Derived.BigQuiet
import Derived.WideLaws
import Derived.Deep.DeepCutAuto
import Derived.Deep.CutBlock
import Derived.Deep.RegionHeld3
import Derived.Laws.Rows
import Derived.Lib.AppendStr
import Derived.ArgAppend
import Derived.Laws.IdiomCopy
import Derived.OrdersHeld
import Derived.Laws.BitsLemmas
import Derived.RowKit
import Derived.Test.YtfpmnkmclbembaaDoorFltC
import Derived.Test.YtfpmnkmclbembaaDoorWWords
import Derived.Test.YtfpmnkmclbembaaDoorWLast
import Derived.Test.YtfpmnkmclbembaaDoorWTab
import Derived.Test.YtfpmnkmclbembaaDoorWFour
import Derived.Test.YtfpmnkmclbembaaDoorWQPut
import Derived.Test.YtfpmnkmclbembaaDoorWApart
import Derived.Test.YtfpmnkmclbembaaDoorWArr
import Derived.Test.YtfpmnkmclbembaaDoorWZeros
import Derived.Test.YtfpmnkmclbembaaDoorWFoot
import Derived.Test.YtfpmnkmclbembaaDoorWKept
import Derived.Test.YtfpmnkmclbembaaDoorWShare
import Derived.Test.YtfpmnkmclbembaaDoorWN
import Derived.Test.YtfpmnkmclbembaaDoorWFootNe
import Derived.Test.YtfpmnkmclbembaaDoorWAt
import Derived.Test.YtfpmnkmclbembaaDoorWEqStruct
import Derived.Test.YtfpmnkmclbembaaDoorWRepsOne
import Derived.Test.YtfpmnkmclbembaaDoorWInv
import Derived.Test.YtfpmnkmclbembaaDoorWInvWords
import Derived.Test.YtfpmnkmclbembaaDoorWGuard
import Derived.Test.YtfpmnkmclbembaaDoorWNEv
import Derived.Test.YtfpmnkmclbembaaDoorWMore
namespace Go.Proofs.YtfpmnkmclbembaaDoor.K
open Go.RowKit Go.Proofs.YtfpmnkmclbembaaDoorW.PrintWords Go.Proofs.YtfpmnkmclbembaaDoorW.PrintLast Go.Proofs.YtfpmnkmclbembaaDoorW.PrintMore
attribute [local go_sem] max2_int min2_int max_two min_two max_three min_three max_four min_four   -- for this text's walks alone
set_option linter.unusedVariables false
set_option linter.unusedSimpArgs false



def errW : Option Int → Value
  | none => .nilIface
  | some c => .iface 0 (.int .i64 c)
theorem errW_none : errW none = .nilIface := rfl
theorem errW_some (c : Int) : errW (some c) = .iface 0 (.int .i64 c) := rfl

-- the values' own types

end Go.Proofs.YtfpmnkmclbembaaDoor.K
