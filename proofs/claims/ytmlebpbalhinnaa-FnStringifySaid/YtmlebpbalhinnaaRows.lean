/-
  No cell of these rows narrows 'for every input' (looked for: loops, veiled, ifaces, maps, wideKeys, modest, calm, conditions, laid).
  DERIVED. THE GIVEN ROWS OF THIS SEAT. 4 by the template 'for every input the law returns true; each argument reads behind the call as it read before'; 0 by the template 'total and deterministic' (their statements: YtmlebpbalhinnaaTotals.lean).
  GIVEN WITH THE SEED: the statements are not yours to turn. If you find one false, say at which input.
  Laid BY PROGRAM, IN A SANDBOX (cutbox-rows.mjs): the forced cells as the released guide's own fill.sh prints them over the translation 6b04486685f39509… (all of the seat's roots in one cut). By AI agents, Wed Nov 11 2026. No macro, syntax, notation, axiom, sorry.
-/
import Derived.Test.YtmlebpbalhinnaaChecked
import GoSem.Claim
import GoSem.ClaimJoined
import GoSem.ClaimMapViews
import Derived.JoinedTies
import Derived.KernelRfl
namespace Go.Proofs.Ytmlebpbalhinnaa
/- THE CELL 'sum', in the pinned program and in every row, IS THE sha256 OF THE DUMP (.gsa) THAT YtmlebpbalhinnaaProg.lean LOADS. Nothing in Lean hashes anything: it is a label: what it is worth is what the hold of that sum in a sandbox is worth. -/
noncomputable def Try.pinned : Pinned := { name := "ytmlebpbalhinnaa", sum := "6b04486685f39509ccaba3ed31cf082398c66b97707bc73c3def7a401c53c163", checked := Try.checked }
namespace Rows
def none {H : Type} : Left H := { results := [], args := [] }

/-- 'laws.FnSplitAgain': WHATEVER THE INPUT: true; the input reads as it did. -/
def fnSplitAgainSpec : ChangeSpec := { name := "fnSplitAgain", fn := fun _ => fun
  | [d] => { results := [.lit (.bool true)], args := [d] }
  | _ => none }
def fnSplitAgainRow : OpenClaim := { program := "ytmlebpbalhinnaa", sum := "6b04486685f39509ccaba3ed31cf082398c66b97707bc73c3def7a401c53c163", func := "pub-rubrication/laws.FnSplitAgain", spec := "fnSplitAgain", apart := false }
def FnSplitAgainSaid : Prop := fnSplitAgainRow.holds Try.pinned (OpenSpec.ofChange fnSplitAgainSpec)

/-- ITS FALSE NEIGHBOUR: 'it returns false'. Refute it at one input. -/
def fnSplitAgainWrong : ChangeSpec := { name := "fnSplitAgain", fn := fun _ => fun
  | [d] => { results := [.lit (.bool false)], args := [d] }
  | _ => none }
def FnSplitAgainWrongFalsely : Prop := fnSplitAgainRow.holds Try.pinned (OpenSpec.ofChange fnSplitAgainWrong)

/-- 'laws.FnSplitLines': WHATEVER THE INPUT: true; the input reads as it did. -/
def fnSplitLinesSpec : ChangeSpec := { name := "fnSplitLines", fn := fun _ => fun
  | [d] => { results := [.lit (.bool true)], args := [d] }
  | _ => none }
def fnSplitLinesRow : OpenClaim := { program := "ytmlebpbalhinnaa", sum := "6b04486685f39509ccaba3ed31cf082398c66b97707bc73c3def7a401c53c163", func := "pub-rubrication/laws.FnSplitLines", spec := "fnSplitLines", apart := false }
def FnSplitLinesSaid : Prop := fnSplitLinesRow.holds Try.pinned (OpenSpec.ofChange fnSplitLinesSpec)

/-- ITS FALSE NEIGHBOUR: 'it returns false'. Refute it at one input. -/
def fnSplitLinesWrong : ChangeSpec := { name := "fnSplitLines", fn := fun _ => fun
  | [d] => { results := [.lit (.bool false)], args := [d] }
  | _ => none }
def FnSplitLinesWrongFalsely : Prop := fnSplitLinesRow.holds Try.pinned (OpenSpec.ofChange fnSplitLinesWrong)

/-- 'laws.FnSplitText': WHATEVER THE INPUT: true; the input reads as it did. -/
def fnSplitTextSpec : ChangeSpec := { name := "fnSplitText", fn := fun _ => fun
  | [d] => { results := [.lit (.bool true)], args := [d] }
  | _ => none }
def fnSplitTextRow : OpenClaim := { program := "ytmlebpbalhinnaa", sum := "6b04486685f39509ccaba3ed31cf082398c66b97707bc73c3def7a401c53c163", func := "pub-rubrication/laws.FnSplitText", spec := "fnSplitText", apart := false }
def FnSplitTextSaid : Prop := fnSplitTextRow.holds Try.pinned (OpenSpec.ofChange fnSplitTextSpec)

/-- ITS FALSE NEIGHBOUR: 'it returns false'. Refute it at one input. -/
def fnSplitTextWrong : ChangeSpec := { name := "fnSplitText", fn := fun _ => fun
  | [d] => { results := [.lit (.bool false)], args := [d] }
  | _ => none }
def FnSplitTextWrongFalsely : Prop := fnSplitTextRow.holds Try.pinned (OpenSpec.ofChange fnSplitTextWrong)

/-- 'laws.FnStringify': WHATEVER THE INPUT: true; the input reads as it did. -/
def fnStringifySpec : ChangeSpec := { name := "fnStringify", fn := fun _ => fun
  | [d] => { results := [.lit (.bool true)], args := [d] }
  | _ => none }
def fnStringifyRow : OpenClaim := { program := "ytmlebpbalhinnaa", sum := "6b04486685f39509ccaba3ed31cf082398c66b97707bc73c3def7a401c53c163", func := "pub-rubrication/laws.FnStringify", spec := "fnStringify", inPlace := ["internal/abi.NoEscape", "internal/bytealg.MakeNoZero"], apart := false }
def FnStringifySaid : Prop := fnStringifyRow.holds Try.pinned (OpenSpec.ofChange fnStringifySpec)

/-- ITS FALSE NEIGHBOUR: 'it returns false'. Refute it at one input. -/
def fnStringifyWrong : ChangeSpec := { name := "fnStringify", fn := fun _ => fun
  | [d] => { results := [.lit (.bool false)], args := [d] }
  | _ => none }
def FnStringifyWrongFalsely : Prop := fnStringifyRow.holds Try.pinned (OpenSpec.ofChange fnStringifyWrong)

/- THE SECOND FORM. 'bulk': how many values and letters a reading holds, each counted each time it is reached (what is shared counts as often as it is met; a slice's spare places count too). A statement '..UptoSaid' is the law's where the arguments, and the package variables that the reading takes, are together of bulk at most 1048576: NARROWER than '..Said'. Prove '..Said' where nothing that the law and all that it calls make is longer than what came in: it says more and counts as full. Else prove '..UptoSaid'. A law counts once. -/
mutual
def uptoBulk {H : Type} : DataW H → Nat
  | .lit (.string bytes) => bytes.length + 1
  | .lit _ => 1
  | .nil => 1
  | .ptr d => uptoBulk d + 1
  | .slice elems spare => uptoBulkAll elems + uptoBulkAll spare + 1
  | .agg parts => uptoBulkAll parts + 1
  | .iface _ d => uptoBulk d + 1
  | .map entries => uptoBulkEntries entries + 1
  | .held _ => 1
def uptoBulkAll {H : Type} : List (DataW H) → Nat
  | [] => 0
  | d :: r => uptoBulk d + uptoBulkAll r
def uptoBulkEntries {H : Type} : List (Lit × DataW H) → Nat
  | [] => 0
  | x :: r => uptoBulkEntry x + uptoBulkEntries r
def uptoBulkEntry {H : Type} : Lit × DataW H → Nat
  | (.string bytes, d) => bytes.length + uptoBulk d + 1
  | (_, d) => uptoBulk d + 1
 end
def uptoSmall : (H : Type) → List (DataW H) → Bool := fun _ ds => decide (uptoBulkAll ds ≤ 1048576)
def OpenSpec.upto (s : _root_.Go.ChangeSpec) : _root_.Go.OpenSpec := { _root_.Go.OpenSpec.ofChange s with cond := some uptoSmall }

/-- 'laws.FnSplitAgain', WHERE WHAT IT READS IS OF BULK AT MOST 1048576: true; the input reads as it did. -/
def fnSplitAgainUptoRow : OpenClaim := { program := "ytmlebpbalhinnaa", sum := "6b04486685f39509ccaba3ed31cf082398c66b97707bc73c3def7a401c53c163", func := "pub-rubrication/laws.FnSplitAgain", spec := "fnSplitAgain", apart := false, narrowed := true }
def FnSplitAgainUptoSaid : Prop := fnSplitAgainUptoRow.holds Try.pinned (OpenSpec.upto fnSplitAgainSpec)

/-- 'laws.FnSplitLines', WHERE WHAT IT READS IS OF BULK AT MOST 1048576: true; the input reads as it did. -/
def fnSplitLinesUptoRow : OpenClaim := { program := "ytmlebpbalhinnaa", sum := "6b04486685f39509ccaba3ed31cf082398c66b97707bc73c3def7a401c53c163", func := "pub-rubrication/laws.FnSplitLines", spec := "fnSplitLines", apart := false, narrowed := true }
def FnSplitLinesUptoSaid : Prop := fnSplitLinesUptoRow.holds Try.pinned (OpenSpec.upto fnSplitLinesSpec)

/-- 'laws.FnSplitText', WHERE WHAT IT READS IS OF BULK AT MOST 1048576: true; the input reads as it did. -/
def fnSplitTextUptoRow : OpenClaim := { program := "ytmlebpbalhinnaa", sum := "6b04486685f39509ccaba3ed31cf082398c66b97707bc73c3def7a401c53c163", func := "pub-rubrication/laws.FnSplitText", spec := "fnSplitText", apart := false, narrowed := true }
def FnSplitTextUptoSaid : Prop := fnSplitTextUptoRow.holds Try.pinned (OpenSpec.upto fnSplitTextSpec)

/-- 'laws.FnStringify', WHERE WHAT IT READS IS OF BULK AT MOST 1048576: true; the input reads as it did. -/
def fnStringifyUptoRow : OpenClaim := { program := "ytmlebpbalhinnaa", sum := "6b04486685f39509ccaba3ed31cf082398c66b97707bc73c3def7a401c53c163", func := "pub-rubrication/laws.FnStringify", spec := "fnStringify", inPlace := ["internal/abi.NoEscape", "internal/bytealg.MakeNoZero"], apart := false, narrowed := true }
def FnStringifyUptoSaid : Prop := fnStringifyUptoRow.holds Try.pinned (OpenSpec.upto fnStringifySpec)

end Rows
end Go.Proofs.Ytmlebpbalhinnaa
