/- An entry is zero just if it says nothing: the printed law's statement. No conditions. -/
import Derived.Test.YtifhhejohdmiaaaDoorMx2
set_option linter.unusedVariables false
set_option linter.unusedSimpArgs false
namespace Go.Proofs.YtifhhejohdmiaaaDoor.Pure
open Go.RowKit Go.Proofs.YtifhhejohdmiaaaDoorW.PrintWords Go.Proofs.YtifhhejohdmiaaaDoor.M
theorem FnEntryZero : laws_FnEntryZero.Pure := by
  intro c b o bo it un ni _
  have h : impl_EntryIsZero.f c b o bo it un ni = some (c == 0 && (b == 0 && (o == 0 && (bo == 0 && (it == 0 && (un == 0 && (!ni))))))) := by
    unfold impl_EntryIsZero.f impl_entered.f chroma_StyleEntry_IsZero.f
    by_cases h1 : c = 0 <;> by_cases h2 : b = 0 <;> by_cases h3 : o = 0 <;> by_cases h4 : bo = 0 <;> by_cases h5 : it = 0 <;> by_cases h6 : un = 0 <;> simp [h1, h2, h3, h4, h5, h6]
  unfold laws_FnEntryZero.f laws_styled.f
  rw [h, Option.bind_some, if_pos (by simp)]
  rfl
end Go.Proofs.YtifhhejohdmiaaaDoor.Pure
