/- An entry's text is read as the reference reads it: the law's contract is proved by hand (LawP). -/
import Derived.Test.YtifhhejohdmiaaaDoorMPax1
set_option linter.unusedVariables false
namespace Go.Proofs.YtifhhejohdmiaaaDoor.Pure
open Go.RowKit Go.Proofs.YtifhhejohdmiaaaDoorW.PrintWords Go.Proofs.YtifhhejohdmiaaaDoor.MPa
theorem FnEntryParse : laws_FnEntryParse.Pure := by
  intro a0 h
  unfold laws_FnEntryParse.f
  rw [if_pos h]
end Go.Proofs.YtifhhejohdmiaaaDoor.Pure
