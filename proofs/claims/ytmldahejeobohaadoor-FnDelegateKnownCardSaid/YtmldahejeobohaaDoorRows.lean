/-
  NARROWER THAN 'FOR EVERY INPUT', by the rows' own cells (each row's printed sentence says how): FnDelegateKnown: laid · FnDelegateText: laid · FnDelegateTypes: laid.
  DERIVED. THE GIVEN ROWS OF THIS SEAT. 3 by the template 'for every input the law returns true; each argument reads behind the call as it read before'; 0 by the template 'total and deterministic' (their statements: YtmldahejeobohaaDoorTotals.lean).
  GIVEN WITH THE SEED: the statements are not yours to turn. If you find one false, say at which input.
  Laid BY PROGRAM, IN A SANDBOX (cutbox-rows.mjs): the forced cells as the released guide's own fill.sh prints them over the translation 4cd186a1a9d3c299… (all of the seat's roots in one cut). By AI agents, Wed Nov 11 2026. No macro, syntax, notation, axiom, sorry.
-/
import Derived.Test.YtmldahejeobohaaDoorChecked
import GoSem.Claim
import GoSem.ClaimJoined
import GoSem.ClaimMapViews
import Derived.JoinedTies
import Derived.KernelRfl
namespace Go.Proofs.YtmldahejeobohaaDoor
/- THE CELL 'sum', in the pinned program and in every row, IS THE sha256 OF THE DUMP (.gsa) THAT YtmldahejeobohaaDoorProg.lean LOADS. Nothing in Lean hashes anything: it is a label: what it is worth is what the hold of that sum in a sandbox is worth. -/
noncomputable def Tryd.pinned : Pinned := { name := "ytmldahejeobohaadoor", sum := "4cd186a1a9d3c299d354087848deda7f66c3eab66ac3b85815107d8017ac8b60", checked := Tryd.checked }
namespace Rows
def none {H : Type} : Left H := { results := [], args := [] }

/- WHAT THE LISTED PACKAGE-LEVEL VARIABLES READ AS WHEN THE CALL BEGINS. Each datum BY PROGRAM (the guide's laid-datum.mjs) off the statement by which the dump's own 'gosem.cut.vars' lays the variable. In a bare row this is a premise. The card (YtmldahejeobohaaDoorCards.lean) ties it to the program's text. -/
def laid_pub_rubrication_pub_chroma_EOF {H : Type} : DataW H := .agg [.lit (.int .i64 0), .lit (.string [])]

/-- 'laws.FnDelegateKnown': WHATEVER THE INPUT: true; the input reads as it did. -/
def fnDelegateKnownSpec : ChangeSpec := { name := "fnDelegateKnown", fn := fun _ => fun
  | [d1, d2] => { results := [.lit (.bool true)], args := [d1, d2] }
  | _ => none }
def fnDelegateKnownRow : OpenClaim := { program := "ytmldahejeobohaadoor", sum := "4cd186a1a9d3c299d354087848deda7f66c3eab66ac3b85815107d8017ac8b60", func := "pub-rubrication/laws.FnDelegateKnown", spec := "fnDelegateKnown", inPlace := ["internal/abi.NoEscape", "internal/bytealg.MakeNoZero"], unfollowed := true, recurses := true, named := ["pub-rubrication/pub/chroma.EOF"], apart := false, laid := [("pub-rubrication/pub/chroma.EOF", laid_pub_rubrication_pub_chroma_EOF)] }
def FnDelegateKnownSaid : Prop := fnDelegateKnownRow.holds Tryd.pinned (OpenSpec.ofChange fnDelegateKnownSpec)

/-- ITS FALSE NEIGHBOUR: 'it returns false'. Refute it at one input. -/
def fnDelegateKnownWrong : ChangeSpec := { name := "fnDelegateKnown", fn := fun _ => fun
  | [d1, d2] => { results := [.lit (.bool false)], args := [d1, d2] }
  | _ => none }
def FnDelegateKnownWrongFalsely : Prop := fnDelegateKnownRow.holds Tryd.pinned (OpenSpec.ofChange fnDelegateKnownWrong)

/-- 'laws.FnDelegateText': WHATEVER THE INPUT: true; the input reads as it did. -/
def fnDelegateTextSpec : ChangeSpec := { name := "fnDelegateText", fn := fun _ => fun
  | [d1, d2] => { results := [.lit (.bool true)], args := [d1, d2] }
  | _ => none }
def fnDelegateTextRow : OpenClaim := { program := "ytmldahejeobohaadoor", sum := "4cd186a1a9d3c299d354087848deda7f66c3eab66ac3b85815107d8017ac8b60", func := "pub-rubrication/laws.FnDelegateText", spec := "fnDelegateText", inPlace := ["internal/abi.NoEscape", "internal/bytealg.MakeNoZero"], unfollowed := true, recurses := true, named := ["pub-rubrication/pub/chroma.EOF"], apart := false, laid := [("pub-rubrication/pub/chroma.EOF", laid_pub_rubrication_pub_chroma_EOF)] }
def FnDelegateTextSaid : Prop := fnDelegateTextRow.holds Tryd.pinned (OpenSpec.ofChange fnDelegateTextSpec)

/-- ITS FALSE NEIGHBOUR: 'it returns false'. Refute it at one input. -/
def fnDelegateTextWrong : ChangeSpec := { name := "fnDelegateText", fn := fun _ => fun
  | [d1, d2] => { results := [.lit (.bool false)], args := [d1, d2] }
  | _ => none }
def FnDelegateTextWrongFalsely : Prop := fnDelegateTextRow.holds Tryd.pinned (OpenSpec.ofChange fnDelegateTextWrong)

/-- 'laws.FnDelegateTypes': WHATEVER THE INPUT: true; the input reads as it did. -/
def fnDelegateTypesSpec : ChangeSpec := { name := "fnDelegateTypes", fn := fun _ => fun
  | [d1, d2] => { results := [.lit (.bool true)], args := [d1, d2] }
  | _ => none }
def fnDelegateTypesRow : OpenClaim := { program := "ytmldahejeobohaadoor", sum := "4cd186a1a9d3c299d354087848deda7f66c3eab66ac3b85815107d8017ac8b60", func := "pub-rubrication/laws.FnDelegateTypes", spec := "fnDelegateTypes", inPlace := ["internal/abi.NoEscape", "internal/bytealg.MakeNoZero"], unfollowed := true, recurses := true, named := ["pub-rubrication/pub/chroma.EOF"], apart := false, laid := [("pub-rubrication/pub/chroma.EOF", laid_pub_rubrication_pub_chroma_EOF)] }
def FnDelegateTypesSaid : Prop := fnDelegateTypesRow.holds Tryd.pinned (OpenSpec.ofChange fnDelegateTypesSpec)

/-- ITS FALSE NEIGHBOUR: 'it returns false'. Refute it at one input. -/
def fnDelegateTypesWrong : ChangeSpec := { name := "fnDelegateTypes", fn := fun _ => fun
  | [d1, d2] => { results := [.lit (.bool false)], args := [d1, d2] }
  | _ => none }
def FnDelegateTypesWrongFalsely : Prop := fnDelegateTypesRow.holds Tryd.pinned (OpenSpec.ofChange fnDelegateTypesWrong)

/- THE SECOND FORM. 'bulk': how many values and letters a reading holds, each counted each time it is reached (what is shared counts as often as it is met; a slice's spare places count too). A statement '..UptoSaid' is the law's where the arguments, and the package variables that the reading takes, are together of bulk at most 1048576: NARROWER than '..Said'. Prove '..Said' where nothing that the law and all that it calls make is longer than what came in: it says more and counts as full. Else prove '..UptoSaid'. A law counts once. -/
mutual
def uptoBulk {H : Type} : DataW H → Nat
  | .lit (.string bytes) => bytes.length + 1
  | .lit _ => 1
  | .nil => 1
  | .ptr d => uptoBulk d + 1
  | .slice elems spare => uptoBulkAll elems + uptoBulkAll spare + 1
  | .agg parts => uptoBulkAll parts + 1
  | .iface _ d => uptoBulk d + 1
  | .map entries => uptoBulkEntries entries + 1
  | .held _ => 1
def uptoBulkAll {H : Type} : List (DataW H) → Nat
  | [] => 0
  | d :: r => uptoBulk d + uptoBulkAll r
def uptoBulkEntries {H : Type} : List (Lit × DataW H) → Nat
  | [] => 0
  | x :: r => uptoBulkEntry x + uptoBulkEntries r
def uptoBulkEntry {H : Type} : Lit × DataW H → Nat
  | (.string bytes, d) => bytes.length + uptoBulk d + 1
  | (_, d) => uptoBulk d + 1
 end
def uptoSmall : (H : Type) → List (DataW H) → Bool := fun _ ds => decide (uptoBulkAll ds ≤ 1048576)
def OpenSpec.upto (s : _root_.Go.ChangeSpec) : _root_.Go.OpenSpec := { _root_.Go.OpenSpec.ofChange s with cond := some uptoSmall }

/-- 'laws.FnDelegateKnown', WHERE WHAT IT READS IS OF BULK AT MOST 1048576: true; the input reads as it did. -/
def fnDelegateKnownUptoRow : OpenClaim := { program := "ytmldahejeobohaadoor", sum := "4cd186a1a9d3c299d354087848deda7f66c3eab66ac3b85815107d8017ac8b60", func := "pub-rubrication/laws.FnDelegateKnown", spec := "fnDelegateKnown", inPlace := ["internal/abi.NoEscape", "internal/bytealg.MakeNoZero"], unfollowed := true, recurses := true, named := ["pub-rubrication/pub/chroma.EOF"], apart := false, laid := [("pub-rubrication/pub/chroma.EOF", laid_pub_rubrication_pub_chroma_EOF)], narrowed := true }
def FnDelegateKnownUptoSaid : Prop := fnDelegateKnownUptoRow.holds Tryd.pinned (OpenSpec.upto fnDelegateKnownSpec)

/-- 'laws.FnDelegateText', WHERE WHAT IT READS IS OF BULK AT MOST 1048576: true; the input reads as it did. -/
def fnDelegateTextUptoRow : OpenClaim := { program := "ytmldahejeobohaadoor", sum := "4cd186a1a9d3c299d354087848deda7f66c3eab66ac3b85815107d8017ac8b60", func := "pub-rubrication/laws.FnDelegateText", spec := "fnDelegateText", inPlace := ["internal/abi.NoEscape", "internal/bytealg.MakeNoZero"], unfollowed := true, recurses := true, named := ["pub-rubrication/pub/chroma.EOF"], apart := false, laid := [("pub-rubrication/pub/chroma.EOF", laid_pub_rubrication_pub_chroma_EOF)], narrowed := true }
def FnDelegateTextUptoSaid : Prop := fnDelegateTextUptoRow.holds Tryd.pinned (OpenSpec.upto fnDelegateTextSpec)

/-- 'laws.FnDelegateTypes', WHERE WHAT IT READS IS OF BULK AT MOST 1048576: true; the input reads as it did. -/
def fnDelegateTypesUptoRow : OpenClaim := { program := "ytmldahejeobohaadoor", sum := "4cd186a1a9d3c299d354087848deda7f66c3eab66ac3b85815107d8017ac8b60", func := "pub-rubrication/laws.FnDelegateTypes", spec := "fnDelegateTypes", inPlace := ["internal/abi.NoEscape", "internal/bytealg.MakeNoZero"], unfollowed := true, recurses := true, named := ["pub-rubrication/pub/chroma.EOF"], apart := false, laid := [("pub-rubrication/pub/chroma.EOF", laid_pub_rubrication_pub_chroma_EOF)], narrowed := true }
def FnDelegateTypesUptoSaid : Prop := fnDelegateTypesUptoRow.holds Tryd.pinned (OpenSpec.upto fnDelegateTypesSpec)

end Rows
end Go.Proofs.YtmldahejeobohaaDoor
