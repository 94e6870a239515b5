/-
  DERIVED. GIVEN WITH THE SEED: THE CARDS: each row of YthpfcofkhchkcaaDoorRows.lean that lists a variable, with what it lists TIED to the program's text (the seventh form; the later family's looks); each row that meets fmt, with fmt's text TOLD by the authors' own Lean function (tested against real Go, not proved from fmt's source: count such statements apart). THE CARD IS WHAT COUNTS. Prove the row's statement (the work); the ties are given (YthpfcofkhchkcaaDoorTie.lean); close each card by the builder's one call (the guide's Derived/Test/ToyasCard.lean, 'card_holds'). Laid BY PROGRAM, IN A SANDBOX (cutbox-door.mjs). By AI agents, Wed Nov 11 2026. No macro, syntax, notation, axiom, sorry.
-/
import Derived.Test.YthpfcofkhchkcaaDoorRows
import GoSem.ClaimSeven
namespace Go.Proofs.YthpfcofkhchkcaaDoor
namespace Rows

/-- THE TIED CARD OF 'laws.FnColourParse'. -/
def fnColourParseCard : Claim7 := { stood := { row := fnColourParseRow, standIns := [], harness := (true, "52e6e299fdf4884a8c55b18173a329432cb14a0d7d42115a65e09c0705379f22"), looks := true }, kinds := [], alts := [], laidByText := true, laidKinds := [.data, .data, .data, .sentinel, .sentinel], laidTests := true, laidLooks := .later }
def FnColourParseCardSaid : Prop := Claim7.holds Tryd.pinned (.plain (OpenSpec.ofChange fnColourParseSpec)) fnColourParseCard

/-- THE TIED CARD OF 'laws.FnColourText'. -/
def fnColourTextCard : Claim7 := { stood := { row := fnColourTextRow, standIns := [], harness := (true, "52e6e299fdf4884a8c55b18173a329432cb14a0d7d42115a65e09c0705379f22"), looks := true }, kinds := [], alts := [], laidByText := true, laidKinds := [.data, .data, .data, .sentinel, .sentinel], laidTests := true, laidLooks := .later }
def FnColourTextCardSaid : Prop := Claim7.holds Tryd.pinned (.plain (OpenSpec.ofChange fnColourTextSpec)) fnColourTextCard

/-- THE TIED CARD OF 'laws.FnColourBack'. -/
def fnColourBackCard : Claim7 := { stood := { row := fnColourBackRow, standIns := [], harness := (true, "52e6e299fdf4884a8c55b18173a329432cb14a0d7d42115a65e09c0705379f22"), looks := true }, kinds := [], alts := [], laidByText := true, laidKinds := [.data, .data, .data, .sentinel, .sentinel], laidTests := true, laidLooks := .later }
def FnColourBackCardSaid : Prop := Claim7.holds Tryd.pinned (.plain (OpenSpec.ofChange fnColourBackSpec)) fnColourBackCard

/-- THE TIED CARD OF 'laws.FnColourShort'. -/
def fnColourShortCard : Claim7 := { stood := { row := fnColourShortRow, standIns := [], harness := (true, "52e6e299fdf4884a8c55b18173a329432cb14a0d7d42115a65e09c0705379f22"), looks := true }, kinds := [], alts := [], laidByText := true, laidKinds := [.data, .data, .data, .sentinel, .sentinel], laidTests := true, laidLooks := .later }
def FnColourShortCardSaid : Prop := Claim7.holds Tryd.pinned (.plain (OpenSpec.ofChange fnColourShortSpec)) fnColourShortCard

/-- THE TIED CARD OF 'laws.FnColourParts'. -/
def fnColourPartsCard : Claim7 := { stood := { row := fnColourPartsRow, standIns := [], harness := (true, "52e6e299fdf4884a8c55b18173a329432cb14a0d7d42115a65e09c0705379f22"), looks := true }, kinds := [], alts := [], laidByText := true, laidKinds := [.data, .data, .data, .sentinel, .sentinel], laidTests := true, laidLooks := .later }
def FnColourPartsCardSaid : Prop := Claim7.holds Tryd.pinned (.plain (OpenSpec.ofChange fnColourPartsSpec)) fnColourPartsCard

/-- THE TIED CARD OF 'laws.FnColourBrightness'. -/
def fnColourBrightnessCard : Claim7 := { stood := { row := fnColourBrightnessRow, standIns := [], harness := (true, "52e6e299fdf4884a8c55b18173a329432cb14a0d7d42115a65e09c0705379f22"), looks := true }, kinds := [], alts := [], laidByText := true, laidKinds := [.data, .data, .data, .sentinel, .sentinel], laidTests := true, laidLooks := .later }
def FnColourBrightnessCardSaid : Prop := Claim7.holds Tryd.pinned (.plain (OpenSpec.ofChange fnColourBrightnessSpec)) fnColourBrightnessCard

/-- THE TIED CARD OF 'laws.FnColourBrighten'. -/
def fnColourBrightenCard : Claim7 := { stood := { row := fnColourBrightenRow, standIns := [], harness := (true, "52e6e299fdf4884a8c55b18173a329432cb14a0d7d42115a65e09c0705379f22"), looks := true }, kinds := [], alts := [], laidByText := true, laidKinds := [.data, .data, .data, .sentinel, .sentinel], laidTests := true, laidLooks := .later }
def FnColourBrightenCardSaid : Prop := Claim7.holds Tryd.pinned (.plain (OpenSpec.ofChange fnColourBrightenSpec)) fnColourBrightenCard

/-- THE TIED CARD OF 'laws.FnColourLighter'. -/
def fnColourLighterCard : Claim7 := { stood := { row := fnColourLighterRow, standIns := [], harness := (true, "52e6e299fdf4884a8c55b18173a329432cb14a0d7d42115a65e09c0705379f22"), looks := true }, kinds := [], alts := [], laidByText := true, laidKinds := [.data, .data, .data, .sentinel, .sentinel], laidTests := true, laidLooks := .later }
def FnColourLighterCardSaid : Prop := Claim7.holds Tryd.pinned (.plain (OpenSpec.ofChange fnColourLighterSpec)) fnColourLighterCard

/-- THE TIED CARD OF 'laws.FnColourTurn'. -/
def fnColourTurnCard : Claim7 := { stood := { row := fnColourTurnRow, standIns := [], harness := (true, "52e6e299fdf4884a8c55b18173a329432cb14a0d7d42115a65e09c0705379f22"), looks := true }, kinds := [], alts := [], laidByText := true, laidKinds := [.data, .data, .data, .sentinel, .sentinel], laidTests := true, laidLooks := .later }
def FnColourTurnCardSaid : Prop := Claim7.holds Tryd.pinned (.plain (OpenSpec.ofChange fnColourTurnSpec)) fnColourTurnCard

/-- THE TIED CARD OF 'laws.FnColourDistance'. -/
def fnColourDistanceCard : Claim7 := { stood := { row := fnColourDistanceRow, standIns := [], harness := (true, "52e6e299fdf4884a8c55b18173a329432cb14a0d7d42115a65e09c0705379f22"), looks := true }, kinds := [], alts := [], laidByText := true, laidKinds := [.data, .data, .data, .sentinel, .sentinel], laidTests := true, laidLooks := .later }
def FnColourDistanceCardSaid : Prop := Claim7.holds Tryd.pinned (.plain (OpenSpec.ofChange fnColourDistanceSpec)) fnColourDistanceCard

/-- THE TIED CARD OF 'laws.FnColourClamp'. -/
def fnColourClampCard : Claim7 := { stood := { row := fnColourClampRow, standIns := [], harness := (true, "52e6e299fdf4884a8c55b18173a329432cb14a0d7d42115a65e09c0705379f22"), looks := true }, kinds := [], alts := [], laidByText := true, laidKinds := [.data, .data, .data, .sentinel, .sentinel], laidTests := true, laidLooks := .later }
def FnColourClampCardSaid : Prop := Claim7.holds Tryd.pinned (.plain (OpenSpec.ofChange fnColourClampSpec)) fnColourClampCard

/-- THE SECOND FORM's CARD OF 'laws.FnColourParse'. -/
def fnColourParseUptoCard : Claim7 := { stood := { row := fnColourParseUptoRow, standIns := [], harness := (true, "52e6e299fdf4884a8c55b18173a329432cb14a0d7d42115a65e09c0705379f22"), looks := true }, kinds := [], alts := [], laidByText := true, laidKinds := [.data, .data, .data, .sentinel, .sentinel], laidTests := true, laidLooks := .later }
def FnColourParseUptoCardSaid : Prop := Claim7.holds Tryd.pinned (.plain (OpenSpec.upto fnColourParseSpec)) fnColourParseUptoCard

/-- THE SECOND FORM's CARD OF 'laws.FnColourText'. -/
def fnColourTextUptoCard : Claim7 := { stood := { row := fnColourTextUptoRow, standIns := [], harness := (true, "52e6e299fdf4884a8c55b18173a329432cb14a0d7d42115a65e09c0705379f22"), looks := true }, kinds := [], alts := [], laidByText := true, laidKinds := [.data, .data, .data, .sentinel, .sentinel], laidTests := true, laidLooks := .later }
def FnColourTextUptoCardSaid : Prop := Claim7.holds Tryd.pinned (.plain (OpenSpec.upto fnColourTextSpec)) fnColourTextUptoCard

/-- THE SECOND FORM's CARD OF 'laws.FnColourBack'. -/
def fnColourBackUptoCard : Claim7 := { stood := { row := fnColourBackUptoRow, standIns := [], harness := (true, "52e6e299fdf4884a8c55b18173a329432cb14a0d7d42115a65e09c0705379f22"), looks := true }, kinds := [], alts := [], laidByText := true, laidKinds := [.data, .data, .data, .sentinel, .sentinel], laidTests := true, laidLooks := .later }
def FnColourBackUptoCardSaid : Prop := Claim7.holds Tryd.pinned (.plain (OpenSpec.upto fnColourBackSpec)) fnColourBackUptoCard

/-- THE SECOND FORM's CARD OF 'laws.FnColourShort'. -/
def fnColourShortUptoCard : Claim7 := { stood := { row := fnColourShortUptoRow, standIns := [], harness := (true, "52e6e299fdf4884a8c55b18173a329432cb14a0d7d42115a65e09c0705379f22"), looks := true }, kinds := [], alts := [], laidByText := true, laidKinds := [.data, .data, .data, .sentinel, .sentinel], laidTests := true, laidLooks := .later }
def FnColourShortUptoCardSaid : Prop := Claim7.holds Tryd.pinned (.plain (OpenSpec.upto fnColourShortSpec)) fnColourShortUptoCard

/-- THE SECOND FORM's CARD OF 'laws.FnColourParts'. -/
def fnColourPartsUptoCard : Claim7 := { stood := { row := fnColourPartsUptoRow, standIns := [], harness := (true, "52e6e299fdf4884a8c55b18173a329432cb14a0d7d42115a65e09c0705379f22"), looks := true }, kinds := [], alts := [], laidByText := true, laidKinds := [.data, .data, .data, .sentinel, .sentinel], laidTests := true, laidLooks := .later }
def FnColourPartsUptoCardSaid : Prop := Claim7.holds Tryd.pinned (.plain (OpenSpec.upto fnColourPartsSpec)) fnColourPartsUptoCard

/-- THE SECOND FORM's CARD OF 'laws.FnColourBrightness'. -/
def fnColourBrightnessUptoCard : Claim7 := { stood := { row := fnColourBrightnessUptoRow, standIns := [], harness := (true, "52e6e299fdf4884a8c55b18173a329432cb14a0d7d42115a65e09c0705379f22"), looks := true }, kinds := [], alts := [], laidByText := true, laidKinds := [.data, .data, .data, .sentinel, .sentinel], laidTests := true, laidLooks := .later }
def FnColourBrightnessUptoCardSaid : Prop := Claim7.holds Tryd.pinned (.plain (OpenSpec.upto fnColourBrightnessSpec)) fnColourBrightnessUptoCard

/-- THE SECOND FORM's CARD OF 'laws.FnColourBrighten'. -/
def fnColourBrightenUptoCard : Claim7 := { stood := { row := fnColourBrightenUptoRow, standIns := [], harness := (true, "52e6e299fdf4884a8c55b18173a329432cb14a0d7d42115a65e09c0705379f22"), looks := true }, kinds := [], alts := [], laidByText := true, laidKinds := [.data, .data, .data, .sentinel, .sentinel], laidTests := true, laidLooks := .later }
def FnColourBrightenUptoCardSaid : Prop := Claim7.holds Tryd.pinned (.plain (OpenSpec.upto fnColourBrightenSpec)) fnColourBrightenUptoCard

/-- THE SECOND FORM's CARD OF 'laws.FnColourLighter'. -/
def fnColourLighterUptoCard : Claim7 := { stood := { row := fnColourLighterUptoRow, standIns := [], harness := (true, "52e6e299fdf4884a8c55b18173a329432cb14a0d7d42115a65e09c0705379f22"), looks := true }, kinds := [], alts := [], laidByText := true, laidKinds := [.data, .data, .data, .sentinel, .sentinel], laidTests := true, laidLooks := .later }
def FnColourLighterUptoCardSaid : Prop := Claim7.holds Tryd.pinned (.plain (OpenSpec.upto fnColourLighterSpec)) fnColourLighterUptoCard

/-- THE SECOND FORM's CARD OF 'laws.FnColourTurn'. -/
def fnColourTurnUptoCard : Claim7 := { stood := { row := fnColourTurnUptoRow, standIns := [], harness := (true, "52e6e299fdf4884a8c55b18173a329432cb14a0d7d42115a65e09c0705379f22"), looks := true }, kinds := [], alts := [], laidByText := true, laidKinds := [.data, .data, .data, .sentinel, .sentinel], laidTests := true, laidLooks := .later }
def FnColourTurnUptoCardSaid : Prop := Claim7.holds Tryd.pinned (.plain (OpenSpec.upto fnColourTurnSpec)) fnColourTurnUptoCard

/-- THE SECOND FORM's CARD OF 'laws.FnColourDistance'. -/
def fnColourDistanceUptoCard : Claim7 := { stood := { row := fnColourDistanceUptoRow, standIns := [], harness := (true, "52e6e299fdf4884a8c55b18173a329432cb14a0d7d42115a65e09c0705379f22"), looks := true }, kinds := [], alts := [], laidByText := true, laidKinds := [.data, .data, .data, .sentinel, .sentinel], laidTests := true, laidLooks := .later }
def FnColourDistanceUptoCardSaid : Prop := Claim7.holds Tryd.pinned (.plain (OpenSpec.upto fnColourDistanceSpec)) fnColourDistanceUptoCard

/-- THE SECOND FORM's CARD OF 'laws.FnColourClamp'. -/
def fnColourClampUptoCard : Claim7 := { stood := { row := fnColourClampUptoRow, standIns := [], harness := (true, "52e6e299fdf4884a8c55b18173a329432cb14a0d7d42115a65e09c0705379f22"), looks := true }, kinds := [], alts := [], laidByText := true, laidKinds := [.data, .data, .data, .sentinel, .sentinel], laidTests := true, laidLooks := .later }
def FnColourClampUptoCardSaid : Prop := Claim7.holds Tryd.pinned (.plain (OpenSpec.upto fnColourClampSpec)) fnColourClampUptoCard
end Rows
end Go.Proofs.YthpfcofkhchkcaaDoor
