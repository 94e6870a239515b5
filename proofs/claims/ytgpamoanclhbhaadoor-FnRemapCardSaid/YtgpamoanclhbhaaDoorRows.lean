/-
  NARROWER THAN 'FOR EVERY INPUT', by the rows' own cells (each row's printed sentence says how): FnCoalesce: laid · FnCoalesceParts: laid · FnRemap: laid.
  DERIVED. THE GIVEN ROWS OF THIS SEAT. 3 by the template 'for every input the law returns true; each argument reads behind the call as it read before'; 0 by the template 'total and deterministic' (their statements: YtgpamoanclhbhaaDoorTotals.lean).
  GIVEN WITH THE SEED: the statements are not yours to turn. If you find one false, say at which input.
  Laid BY PROGRAM, IN A SANDBOX (cutbox-rows.mjs): the forced cells as the released guide's own fill.sh prints them over the translation 9a4eac0ccf40d380… (all of the seat's roots in one cut). By AI agents, Wed Nov 11 2026. No macro, syntax, notation, axiom, sorry.
-/
import Derived.Test.YtgpamoanclhbhaaDoorChecked
import GoSem.Claim
import GoSem.ClaimJoined
import GoSem.ClaimMapViews
import Derived.JoinedTies
import Derived.KernelRfl
namespace Go.Proofs.YtgpamoanclhbhaaDoor
/- THE CELL 'sum', in the pinned program and in every row, IS THE sha256 OF THE DUMP (.gsa) THAT YtgpamoanclhbhaaDoorProg.lean LOADS. Nothing in Lean hashes anything: it is a label: what it is worth is what the hold of that sum in a sandbox is worth. -/
noncomputable def Tryd.pinned : Pinned := { name := "ytgpamoanclhbhaadoor", sum := "9a4eac0ccf40d3806ef30288b3309492339f8354f4371fd3acc14e468e2ef624", checked := Tryd.checked }
namespace Rows
def none {H : Type} : Left H := { results := [], args := [] }

/- WHAT THE LISTED PACKAGE-LEVEL VARIABLES READ AS WHEN THE CALL BEGINS. Each datum BY PROGRAM (the guide's laid-datum.mjs) off the statement by which the dump's own 'gosem.cut.vars' lays the variable. In a bare row this is a premise. The card (YtgpamoanclhbhaaDoorCards.lean) ties it to the program's text. -/
def laid_pub_rubrication_pub_chroma_EOF {H : Type} : DataW H := .agg [.lit (.int .i64 0), .lit (.string [])]

/-- 'laws.FnCoalesce': WHATEVER THE INPUT: true; the input reads as it did. -/
def fnCoalesceSpec : ChangeSpec := { name := "fnCoalesce", fn := fun _ => fun
  | [d] => { results := [.lit (.bool true)], args := [d] }
  | _ => none }
def fnCoalesceRow : OpenClaim := { program := "ytgpamoanclhbhaadoor", sum := "9a4eac0ccf40d3806ef30288b3309492339f8354f4371fd3acc14e468e2ef624", func := "pub-rubrication/laws.FnCoalesce", spec := "fnCoalesce", unfollowed := true, recurses := true, named := ["pub-rubrication/pub/chroma.EOF"], apart := false, laid := [("pub-rubrication/pub/chroma.EOF", laid_pub_rubrication_pub_chroma_EOF)] }
def FnCoalesceSaid : Prop := fnCoalesceRow.holds Tryd.pinned (OpenSpec.ofChange fnCoalesceSpec)

/-- ITS FALSE NEIGHBOUR: 'it returns false'. Refute it at one input. -/
def fnCoalesceWrong : ChangeSpec := { name := "fnCoalesce", fn := fun _ => fun
  | [d] => { results := [.lit (.bool false)], args := [d] }
  | _ => none }
def FnCoalesceWrongFalsely : Prop := fnCoalesceRow.holds Tryd.pinned (OpenSpec.ofChange fnCoalesceWrong)

/-- 'laws.FnCoalesceParts': WHATEVER THE INPUT: true; the input reads as it did. -/
def fnCoalescePartsSpec : ChangeSpec := { name := "fnCoalesceParts", fn := fun _ => fun
  | [d1, d2] => { results := [.lit (.bool true)], args := [d1, d2] }
  | _ => none }
def fnCoalescePartsRow : OpenClaim := { program := "ytgpamoanclhbhaadoor", sum := "9a4eac0ccf40d3806ef30288b3309492339f8354f4371fd3acc14e468e2ef624", func := "pub-rubrication/laws.FnCoalesceParts", spec := "fnCoalesceParts", unfollowed := true, recurses := true, named := ["pub-rubrication/pub/chroma.EOF"], apart := false, laid := [("pub-rubrication/pub/chroma.EOF", laid_pub_rubrication_pub_chroma_EOF)] }
def FnCoalescePartsSaid : Prop := fnCoalescePartsRow.holds Tryd.pinned (OpenSpec.ofChange fnCoalescePartsSpec)

/-- ITS FALSE NEIGHBOUR: 'it returns false'. Refute it at one input. -/
def fnCoalescePartsWrong : ChangeSpec := { name := "fnCoalesceParts", fn := fun _ => fun
  | [d1, d2] => { results := [.lit (.bool false)], args := [d1, d2] }
  | _ => none }
def FnCoalescePartsWrongFalsely : Prop := fnCoalescePartsRow.holds Tryd.pinned (OpenSpec.ofChange fnCoalescePartsWrong)

/-- 'laws.FnRemap': WHATEVER THE INPUT: true; the input reads as it did. -/
def fnRemapSpec : ChangeSpec := { name := "fnRemap", fn := fun _ => fun
  | [d1, d2] => { results := [.lit (.bool true)], args := [d1, d2] }
  | _ => none }
def fnRemapRow : OpenClaim := { program := "ytgpamoanclhbhaadoor", sum := "9a4eac0ccf40d3806ef30288b3309492339f8354f4371fd3acc14e468e2ef624", func := "pub-rubrication/laws.FnRemap", spec := "fnRemap", unfollowed := true, recurses := true, named := ["pub-rubrication/pub/chroma.EOF"], apart := false, laid := [("pub-rubrication/pub/chroma.EOF", laid_pub_rubrication_pub_chroma_EOF)] }
def FnRemapSaid : Prop := fnRemapRow.holds Tryd.pinned (OpenSpec.ofChange fnRemapSpec)

/-- ITS FALSE NEIGHBOUR: 'it returns false'. Refute it at one input. -/
def fnRemapWrong : ChangeSpec := { name := "fnRemap", fn := fun _ => fun
  | [d1, d2] => { results := [.lit (.bool false)], args := [d1, d2] }
  | _ => none }
def FnRemapWrongFalsely : Prop := fnRemapRow.holds Tryd.pinned (OpenSpec.ofChange fnRemapWrong)

/- THE SECOND FORM. 'bulk': how many values and letters a reading holds, each counted each time it is reached (what is shared counts as often as it is met; a slice's spare places count too). A statement '..UptoSaid' is the law's where the arguments, and the package variables that the reading takes, are together of bulk at most 1048576: NARROWER than '..Said'. Prove '..Said' where nothing that the law and all that it calls make is longer than what came in: it says more and counts as full. Else prove '..UptoSaid'. A law counts once. -/
mutual
def uptoBulk {H : Type} : DataW H → Nat
  | .lit (.string bytes) => bytes.length + 1
  | .lit _ => 1
  | .nil => 1
  | .ptr d => uptoBulk d + 1
  | .slice elems spare => uptoBulkAll elems + uptoBulkAll spare + 1
  | .agg parts => uptoBulkAll parts + 1
  | .iface _ d => uptoBulk d + 1
  | .map entries => uptoBulkEntries entries + 1
  | .held _ => 1
def uptoBulkAll {H : Type} : List (DataW H) → Nat
  | [] => 0
  | d :: r => uptoBulk d + uptoBulkAll r
def uptoBulkEntries {H : Type} : List (Lit × DataW H) → Nat
  | [] => 0
  | x :: r => uptoBulkEntry x + uptoBulkEntries r
def uptoBulkEntry {H : Type} : Lit × DataW H → Nat
  | (.string bytes, d) => bytes.length + uptoBulk d + 1
  | (_, d) => uptoBulk d + 1
 end
def uptoSmall : (H : Type) → List (DataW H) → Bool := fun _ ds => decide (uptoBulkAll ds ≤ 1048576)
def OpenSpec.upto (s : _root_.Go.ChangeSpec) : _root_.Go.OpenSpec := { _root_.Go.OpenSpec.ofChange s with cond := some uptoSmall }

/-- 'laws.FnCoalesce', WHERE WHAT IT READS IS OF BULK AT MOST 1048576: true; the input reads as it did. -/
def fnCoalesceUptoRow : OpenClaim := { program := "ytgpamoanclhbhaadoor", sum := "9a4eac0ccf40d3806ef30288b3309492339f8354f4371fd3acc14e468e2ef624", func := "pub-rubrication/laws.FnCoalesce", spec := "fnCoalesce", unfollowed := true, recurses := true, named := ["pub-rubrication/pub/chroma.EOF"], apart := false, laid := [("pub-rubrication/pub/chroma.EOF", laid_pub_rubrication_pub_chroma_EOF)], narrowed := true }
def FnCoalesceUptoSaid : Prop := fnCoalesceUptoRow.holds Tryd.pinned (OpenSpec.upto fnCoalesceSpec)

/-- 'laws.FnCoalesceParts', WHERE WHAT IT READS IS OF BULK AT MOST 1048576: true; the input reads as it did. -/
def fnCoalescePartsUptoRow : OpenClaim := { program := "ytgpamoanclhbhaadoor", sum := "9a4eac0ccf40d3806ef30288b3309492339f8354f4371fd3acc14e468e2ef624", func := "pub-rubrication/laws.FnCoalesceParts", spec := "fnCoalesceParts", unfollowed := true, recurses := true, named := ["pub-rubrication/pub/chroma.EOF"], apart := false, laid := [("pub-rubrication/pub/chroma.EOF", laid_pub_rubrication_pub_chroma_EOF)], narrowed := true }
def FnCoalescePartsUptoSaid : Prop := fnCoalescePartsUptoRow.holds Tryd.pinned (OpenSpec.upto fnCoalescePartsSpec)

/-- 'laws.FnRemap', WHERE WHAT IT READS IS OF BULK AT MOST 1048576: true; the input reads as it did. -/
def fnRemapUptoRow : OpenClaim := { program := "ytgpamoanclhbhaadoor", sum := "9a4eac0ccf40d3806ef30288b3309492339f8354f4371fd3acc14e468e2ef624", func := "pub-rubrication/laws.FnRemap", spec := "fnRemap", unfollowed := true, recurses := true, named := ["pub-rubrication/pub/chroma.EOF"], apart := false, laid := [("pub-rubrication/pub/chroma.EOF", laid_pub_rubrication_pub_chroma_EOF)], narrowed := true }
def FnRemapUptoSaid : Prop := fnRemapUptoRow.holds Tryd.pinned (OpenSpec.upto fnRemapSpec)

end Rows
end Go.Proofs.YtgpamoanclhbhaaDoor
