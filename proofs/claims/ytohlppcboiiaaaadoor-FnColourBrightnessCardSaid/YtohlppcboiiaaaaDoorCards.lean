/-
  DERIVED. GIVEN WITH THE SEED: THE CARDS: each row of YtohlppcboiiaaaaDoorRows.lean that lists a variable, with what it lists TIED to the program's text (the seventh form; the later family's looks); each row that meets fmt, with fmt's text TOLD by the authors' own Lean function (tested against real Go, not proved from fmt's source: count such statements apart). THE CARD IS WHAT COUNTS. Prove the row's statement (the work); the ties are given (YtohlppcboiiaaaaDoorTie.lean); close each card by the builder's one call (the guide's Derived/Test/ToyasCard.lean, 'card_holds'). Laid BY PROGRAM, IN A SANDBOX (cutbox-door.mjs). By AI agents, Wed Nov 11 2026. No macro, syntax, notation, axiom, sorry.
-/
import Derived.Test.YtohlppcboiiaaaaDoorRows
import GoSem.ClaimSeven
namespace Go.Proofs.YtohlppcboiiaaaaDoor
namespace Rows

/-- THE TIED CARD OF 'laws.FnColourBrightness'. -/
def fnColourBrightnessCard : Claim7 := { stood := { row := fnColourBrightnessRow, standIns := [], harness := (true, "e3be92fd71c4db00c0cab84c8a0e2471489f431badbd4f6a0c6df9af2f86b4ab"), looks := true }, kinds := [], alts := [], laidByText := true, laidKinds := [.data, .data, .data, .sentinel, .sentinel], laidTests := true, laidLooks := .later }
def FnColourBrightnessCardSaid : Prop := Claim7.holds Tryd.pinned (.plain (OpenSpec.ofChange fnColourBrightnessSpec)) fnColourBrightnessCard

/-- THE TIED CARD OF 'laws.FnColourClamp'. -/
def fnColourClampCard : Claim7 := { stood := { row := fnColourClampRow, standIns := [], harness := (true, "e3be92fd71c4db00c0cab84c8a0e2471489f431badbd4f6a0c6df9af2f86b4ab"), looks := true }, kinds := [], alts := [], laidByText := true, laidKinds := [.data, .data, .data, .sentinel, .sentinel], laidTests := true, laidLooks := .later }
def FnColourClampCardSaid : Prop := Claim7.holds Tryd.pinned (.plain (OpenSpec.ofChange fnColourClampSpec)) fnColourClampCard

/-- THE SECOND FORM's CARD OF 'laws.FnColourBrightness'. -/
def fnColourBrightnessUptoCard : Claim7 := { stood := { row := fnColourBrightnessUptoRow, standIns := [], harness := (true, "e3be92fd71c4db00c0cab84c8a0e2471489f431badbd4f6a0c6df9af2f86b4ab"), looks := true }, kinds := [], alts := [], laidByText := true, laidKinds := [.data, .data, .data, .sentinel, .sentinel], laidTests := true, laidLooks := .later }
def FnColourBrightnessUptoCardSaid : Prop := Claim7.holds Tryd.pinned (.plain (OpenSpec.upto fnColourBrightnessSpec)) fnColourBrightnessUptoCard

/-- THE SECOND FORM's CARD OF 'laws.FnColourClamp'. -/
def fnColourClampUptoCard : Claim7 := { stood := { row := fnColourClampUptoRow, standIns := [], harness := (true, "e3be92fd71c4db00c0cab84c8a0e2471489f431badbd4f6a0c6df9af2f86b4ab"), looks := true }, kinds := [], alts := [], laidByText := true, laidKinds := [.data, .data, .data, .sentinel, .sentinel], laidTests := true, laidLooks := .later }
def FnColourClampUptoCardSaid : Prop := Claim7.holds Tryd.pinned (.plain (OpenSpec.upto fnColourClampSpec)) fnColourClampUptoCard
end Rows
end Go.Proofs.YtohlppcboiiaaaaDoor
