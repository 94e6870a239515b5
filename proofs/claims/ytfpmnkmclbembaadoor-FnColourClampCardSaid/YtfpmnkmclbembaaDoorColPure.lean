/- What the printed functions on colours come to, in plain words. -/
import Derived.Test.YtfpmnkmclbembaaDoorColMath
import Derived.Test.YtfpmnkmclbembaaDoorMx1
set_option linter.unusedVariables false
set_option linter.unusedSimpArgs false
namespace Go.Proofs.YtfpmnkmclbembaaDoor.ColPure
open Go.RowKit Go.Proofs.YtfpmnkmclbembaaDoorW.PrintWords Go.Proofs.YtfpmnkmclbembaaDoor.M Go.Proofs.YtfpmnkmclbembaaDoorFmt

theorem parse_f (s : ByteArray) (h : s.size ≤ 140737488351232) : impl_ColourParse.f s = some (pcol s) := by
  unfold impl_ColourParse.f chroma_ParseColour.f
  rw [if_pos h]; rfl
theorem string_f (n : Nat) (hn : n < 16777216) : impl_ColourString.f ((n : Int) + 1) = some ⟨(35 :: digs 6 n).toArray⟩ := by
  have e : wrap64 (wrap32 ((n : Int) + 1 - 1)) = (n : Int) := by unfold wrap64 wrap32; omega
  unfold impl_ColourString.f chroma_Colour_String.f chroma_zzHex6.f
  rw [e, if_pos (by omega), if_pos (by omega), hex6_eq n hn, Option.bind_some]
  have hs : (⟨(digs 6 n).toArray⟩ : ByteArray).size = 6 := by rw [← data_length]; exact digs_len 6 n
  rw [hs, if_pos (by decide), Option.bind_some]
  exact congrArg some (bytes_eq (by simp))
theorem isSet_f (c : Int) : impl_ColourIsSet.f c = some (c != 0) := rfl
theorem digs_ff8000 : digs 6 16744448 = [102, 102, 56, 48, 48, 48] := by decide +kernel
theorem pcol_red : pcol ⟨#[114, 101, 100]⟩ = 0 := by decide +kernel
theorem toList_eq {s : ByteArray} {l : List UInt8} (h : s.data.toList = l) : s.toList = l := by
  obtain rfl : s = ⟨l.toArray⟩ := bytes_eq h
  rw [← h]; exact ByteArray.toList_eq _
theorem coloured_f : laws_coloured.f = some true := by
  unfold laws_coloured.f
  rw [parse_f _ (by decide), Option.bind_some]
  have h1 : pcol ⟨#[35, 102, 102, 56, 48, 48, 48]⟩ = ((16744448 : Nat) : Int) + 1 := by
    have := pcol_digs 16744448 (by decide)
    rw [digs_ff8000] at this; exact this
  rw [h1, string_f _ (by decide), Option.bind_some, digs_ff8000]
  rw [if_pos (toList_eq rfl)]
  rw [parse_f _ (by decide), Option.bind_some, pcol_red, isSet_f]
  rfl
end Go.Proofs.YtfpmnkmclbembaaDoor.ColPure
