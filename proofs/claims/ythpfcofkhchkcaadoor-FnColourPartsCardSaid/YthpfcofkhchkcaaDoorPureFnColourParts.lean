import Derived.Test.YthpfcofkhchkcaaDoorColPure
set_option linter.unusedVariables false
namespace Go.Proofs.YthpfcofkhchkcaaDoor.Pure
open Go.RowKit Go.Proofs.YthpfcofkhchkcaaDoorW.PrintWords Go.Proofs.YthpfcofkhchkcaaDoor.M Go.Proofs.YthpfcofkhchkcaaDoorFmt Go.Proofs.YthpfcofkhchkcaaDoor.ColPure
theorem FnColourParts : laws_FnColourParts.Pure := by
  intro a0 a1 a2 w0 w1 w2
  obtain ⟨r, rfl, hr⟩ := wf_u8 w0
  obtain ⟨g, rfl, hg⟩ := wf_u8 w1
  obtain ⟨b, rfl, hb⟩ := wf_u8 w2
  unfold laws_FnColourParts.f
  rw [new_f r g b hr hg hb, Option.bind_some, rgb_f _ (by omega), Option.bind_some]
  simp only
  rw [if_pos (by omega), if_pos (by omega), if_pos (by omega), isSet_f, Option.bind_some, coloured_f]
  rw [if_pos (by simp; omega)]
  rfl
end Go.Proofs.YthpfcofkhchkcaaDoor.Pure
