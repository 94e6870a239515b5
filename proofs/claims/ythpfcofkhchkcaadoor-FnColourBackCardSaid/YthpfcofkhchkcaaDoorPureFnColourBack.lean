import Derived.Test.YthpfcofkhchkcaaDoorColPure
set_option linter.unusedVariables false
namespace Go.Proofs.YthpfcofkhchkcaaDoor.Pure
open Go.RowKit Go.Proofs.YthpfcofkhchkcaaDoorW.PrintWords Go.Proofs.YthpfcofkhchkcaaDoor.M Go.Proofs.YthpfcofkhchkcaaDoorFmt Go.Proofs.YthpfcofkhchkcaaDoor.ColPure
theorem FnColourBack : laws_FnColourBack.Pure := by
  intro a0 a1 a2 w0 w1 w2
  obtain ⟨r, rfl, hr⟩ := wf_u8 w0
  obtain ⟨g, rfl, hg⟩ := wf_u8 w1
  obtain ⟨b, rfl, hb⟩ := wf_u8 w2
  have hn : r * 65536 + g * 256 + b < 16777216 := by omega
  have hsz : (⟨(35 :: digs 6 (r * 65536 + g * 256 + b)).toArray⟩ : ByteArray).size = 7 := by rw [← data_length]; show (35 :: digs 6 _).length = 7; rw [List.length_cons, digs_len]
  unfold laws_FnColourBack.f
  rw [new_f r g b hr hg hb, Option.bind_some, string_f _ hn, Option.bind_some, hsz, if_pos (by decide), if_pos (by decide)]
  have hb0 : bt ⟨(35 :: digs 6 (r * 65536 + g * 256 + b)).toArray⟩ 0 = 35 := by rw [← rd_bytesOf]; rfl
  rw [if_pos hb0, parse_f _ (by rw [hsz]; decide), Option.bind_some, pcol_digs _ hn, if_pos rfl, coloured_f]
  rfl
end Go.Proofs.YthpfcofkhchkcaaDoor.Pure
