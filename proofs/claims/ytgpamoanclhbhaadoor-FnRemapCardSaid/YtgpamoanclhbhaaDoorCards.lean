/-
  DERIVED. GIVEN WITH THE SEED: THE CARDS: each row of YtgpamoanclhbhaaDoorRows.lean that lists a variable, with what it lists TIED to the program's text (the seventh form; the later family's looks); each row that meets fmt, with fmt's text TOLD by the authors' own Lean function (tested against real Go, not proved from fmt's source: count such statements apart). THE CARD IS WHAT COUNTS. Prove the row's statement (the work); the ties are given (YtgpamoanclhbhaaDoorTie.lean); close each card by the builder's one call (the guide's Derived/Test/ToyasCard.lean, 'card_holds'). Laid BY PROGRAM, IN A SANDBOX (cutbox-door.mjs). By AI agents, Wed Nov 11 2026. No macro, syntax, notation, axiom, sorry.
-/
import Derived.Test.YtgpamoanclhbhaaDoorRows
import GoSem.ClaimSeven
namespace Go.Proofs.YtgpamoanclhbhaaDoor
namespace Rows

/-- THE TIED CARD OF 'laws.FnCoalesce'. -/
def fnCoalesceCard : Claim7 := { stood := { row := fnCoalesceRow, standIns := [], harness := (true, "db97637a0fd76ff5e61b3a9e189eeed5a0865572800537f0eda6083d611fde24"), looks := false }, kinds := [], alts := [], laidByText := true, laidKinds := [.data], laidTests := true, laidLooks := .later }
def FnCoalesceCardSaid : Prop := Claim7.holds Tryd.pinned (.plain (OpenSpec.ofChange fnCoalesceSpec)) fnCoalesceCard

/-- THE TIED CARD OF 'laws.FnCoalesceParts'. -/
def fnCoalescePartsCard : Claim7 := { stood := { row := fnCoalescePartsRow, standIns := [], harness := (true, "db97637a0fd76ff5e61b3a9e189eeed5a0865572800537f0eda6083d611fde24"), looks := false }, kinds := [], alts := [], laidByText := true, laidKinds := [.data], laidTests := true, laidLooks := .later }
def FnCoalescePartsCardSaid : Prop := Claim7.holds Tryd.pinned (.plain (OpenSpec.ofChange fnCoalescePartsSpec)) fnCoalescePartsCard

/-- THE TIED CARD OF 'laws.FnRemap'. -/
def fnRemapCard : Claim7 := { stood := { row := fnRemapRow, standIns := [], harness := (true, "db97637a0fd76ff5e61b3a9e189eeed5a0865572800537f0eda6083d611fde24"), looks := false }, kinds := [], alts := [], laidByText := true, laidKinds := [.data], laidTests := true, laidLooks := .later }
def FnRemapCardSaid : Prop := Claim7.holds Tryd.pinned (.plain (OpenSpec.ofChange fnRemapSpec)) fnRemapCard

/-- THE SECOND FORM's CARD OF 'laws.FnCoalesce'. -/
def fnCoalesceUptoCard : Claim7 := { stood := { row := fnCoalesceUptoRow, standIns := [], harness := (true, "db97637a0fd76ff5e61b3a9e189eeed5a0865572800537f0eda6083d611fde24"), looks := false }, kinds := [], alts := [], laidByText := true, laidKinds := [.data], laidTests := true, laidLooks := .later }
def FnCoalesceUptoCardSaid : Prop := Claim7.holds Tryd.pinned (.plain (OpenSpec.upto fnCoalesceSpec)) fnCoalesceUptoCard

/-- THE SECOND FORM's CARD OF 'laws.FnCoalesceParts'. -/
def fnCoalescePartsUptoCard : Claim7 := { stood := { row := fnCoalescePartsUptoRow, standIns := [], harness := (true, "db97637a0fd76ff5e61b3a9e189eeed5a0865572800537f0eda6083d611fde24"), looks := false }, kinds := [], alts := [], laidByText := true, laidKinds := [.data], laidTests := true, laidLooks := .later }
def FnCoalescePartsUptoCardSaid : Prop := Claim7.holds Tryd.pinned (.plain (OpenSpec.upto fnCoalescePartsSpec)) fnCoalescePartsUptoCard

/-- THE SECOND FORM's CARD OF 'laws.FnRemap'. -/
def fnRemapUptoCard : Claim7 := { stood := { row := fnRemapUptoRow, standIns := [], harness := (true, "db97637a0fd76ff5e61b3a9e189eeed5a0865572800537f0eda6083d611fde24"), looks := false }, kinds := [], alts := [], laidByText := true, laidKinds := [.data], laidTests := true, laidLooks := .later }
def FnRemapUptoCardSaid : Prop := Claim7.holds Tryd.pinned (.plain (OpenSpec.upto fnRemapSpec)) fnRemapUptoCard
end Rows
end Go.Proofs.YtgpamoanclhbhaaDoor
