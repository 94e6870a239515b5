/-
  DERIVED. GIVEN WITH THE SEED: THE CARDS: each row of YtfpmnkmclbembaaDoorRows.lean that lists a variable, with what it lists TIED to the program's text (the seventh form; the later family's looks); each row that meets fmt, with fmt's text TOLD by the authors' own Lean function (tested against real Go, not proved from fmt's source: count such statements apart). THE CARD IS WHAT COUNTS. Prove the row's statement (the work); the ties are given (YtfpmnkmclbembaaDoorTie.lean); close each card by the builder's one call (the guide's Derived/Test/ToyasCard.lean, 'card_holds'). Laid BY PROGRAM, IN A SANDBOX (cutbox-door.mjs). By AI agents, Wed Nov 11 2026. No macro, syntax, notation, axiom, sorry.
-/
import Derived.Test.YtfpmnkmclbembaaDoorRows
import GoSem.ClaimSeven
namespace Go.Proofs.YtfpmnkmclbembaaDoor
namespace Rows

/-- THE TIED CARD OF 'laws.FnColourClamp'. -/
def fnColourClampCard : Claim7 := { stood := { row := fnColourClampRow, standIns := [], harness := (true, "c9396d420db44523a67ac0248c1b6b538eed90ad75948604f856bad7668165e7"), looks := true }, kinds := [], alts := [], laidByText := true, laidKinds := [.data, .data, .data, .sentinel, .sentinel], laidTests := true, laidLooks := .later }
def FnColourClampCardSaid : Prop := Claim7.holds Tryd.pinned (.plain (OpenSpec.ofChange fnColourClampSpec)) fnColourClampCard

/-- THE SECOND FORM's CARD OF 'laws.FnColourClamp'. -/
def fnColourClampUptoCard : Claim7 := { stood := { row := fnColourClampUptoRow, standIns := [], harness := (true, "c9396d420db44523a67ac0248c1b6b538eed90ad75948604f856bad7668165e7"), looks := true }, kinds := [], alts := [], laidByText := true, laidKinds := [.data, .data, .data, .sentinel, .sentinel], laidTests := true, laidLooks := .later }
def FnColourClampUptoCardSaid : Prop := Claim7.holds Tryd.pinned (.plain (OpenSpec.upto fnColourClampSpec)) fnColourClampUptoCard
end Rows
end Go.Proofs.YtfpmnkmclbembaaDoor
