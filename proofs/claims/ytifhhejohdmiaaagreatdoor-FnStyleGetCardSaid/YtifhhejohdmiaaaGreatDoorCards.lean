/-
  DERIVED. GIVEN WITH THE SEED: THE CARDS: each row of YtifhhejohdmiaaaGreatDoorRows.lean that lists a variable, with what it lists TIED to the program's text (the seventh form; the later family's looks); each row that meets fmt, with fmt's text TOLD by the authors' own Lean function (tested against real Go, not proved from fmt's source: count such statements apart). THE CARD IS WHAT COUNTS. Prove the row's statement (the work); the ties are given (YtifhhejohdmiaaaGreatDoorTie.lean); close each card by the builder's one call (the guide's Derived/Test/ToyasCard.lean, 'card_holds'). Laid BY PROGRAM, IN A SANDBOX (cutbox-door.mjs). By AI agents, Wed Nov 11 2026. No macro, syntax, notation, axiom, sorry.
-/
import Derived.Test.YtifhhejohdmiaaaGreatDoorRows
import GoSem.ClaimSeven
namespace Go.Proofs.YtifhhejohdmiaaaGreatDoor
namespace Rows

/-- THE TIED CARD OF 'laws.FnEntryText'. -/
def fnEntryTextCard : Claim7 := { stood := { row := fnEntryTextRow, standIns := [], harness := (true, "3b07c4903e3031f98005e7903d5b4e1704169167e48446fd4e0c2c521cb0ae37"), looks := true }, kinds := [], alts := [], laidByText := true, laidKinds := [.data, .data, .data, .data, .sentinel, .sentinel, .listed, .data, .pinned], laidTests := true, laidLooks := .later }
def FnEntryTextCardSaid : Prop := Claim7.holds Tryz.pinned (.plain (OpenSpec.ofChange fnEntryTextSpec)) fnEntryTextCard

/-- THE TIED CARD OF 'laws.FnStyleGet'. -/
def fnStyleGetCard : Claim7 := { stood := { row := fnStyleGetRow, standIns := [], harness := (true, "3b07c4903e3031f98005e7903d5b4e1704169167e48446fd4e0c2c521cb0ae37"), looks := true }, kinds := [], alts := [], laidByText := true, laidKinds := [.data, .data, .data, .data, .sentinel, .sentinel, .listed, .data, .pinned], laidTests := true, laidLooks := .later }
def FnStyleGetCardSaid : Prop := Claim7.holds Tryz.pinned (.plain (OpenSpec.ofChange fnStyleGetSpec)) fnStyleGetCard

/-- THE TIED CARD OF 'laws.FnStyleHas'. -/
def fnStyleHasCard : Claim7 := { stood := { row := fnStyleHasRow, standIns := [], harness := (true, "3b07c4903e3031f98005e7903d5b4e1704169167e48446fd4e0c2c521cb0ae37"), looks := true }, kinds := [], alts := [], laidByText := true, laidKinds := [.data, .data, .data, .data, .sentinel, .sentinel, .listed, .data, .pinned], laidTests := true, laidLooks := .later }
def FnStyleHasCardSaid : Prop := Claim7.holds Tryz.pinned (.plain (OpenSpec.ofChange fnStyleHasSpec)) fnStyleHasCard

/-- THE TIED CARD OF 'laws.FnStyleAgain'. -/
def fnStyleAgainCard : Claim7 := { stood := { row := fnStyleAgainRow, standIns := [], harness := (true, "3b07c4903e3031f98005e7903d5b4e1704169167e48446fd4e0c2c521cb0ae37"), looks := true }, kinds := [], alts := [], laidByText := true, laidKinds := [.data, .data, .data, .data, .sentinel, .sentinel, .listed, .data, .pinned], laidTests := true, laidLooks := .later }
def FnStyleAgainCardSaid : Prop := Claim7.holds Tryz.pinned (.plain (OpenSpec.ofChange fnStyleAgainSpec)) fnStyleAgainCard

/-- THE TIED CARD OF 'laws.FnStyleBuild'. -/
def fnStyleBuildCard : Claim7 := { stood := { row := fnStyleBuildRow, standIns := [], harness := (true, "3b07c4903e3031f98005e7903d5b4e1704169167e48446fd4e0c2c521cb0ae37"), looks := true }, kinds := [], alts := [], laidByText := true, laidKinds := [.data, .data, .data, .data, .sentinel, .sentinel, .listed, .data, .pinned], laidTests := true, laidLooks := .later }
def FnStyleBuildCardSaid : Prop := Claim7.holds Tryz.pinned (.plain (OpenSpec.ofChange fnStyleBuildSpec)) fnStyleBuildCard

/-- THE TIED CARD OF 'laws.FnStyleTypes'. -/
def fnStyleTypesCard : Claim7 := { stood := { row := fnStyleTypesRow, standIns := [], harness := (true, "3b07c4903e3031f98005e7903d5b4e1704169167e48446fd4e0c2c521cb0ae37"), looks := true }, kinds := [], alts := [], laidByText := true, laidKinds := [.data, .data, .data, .data, .sentinel, .sentinel, .listed, .data, .pinned], laidTests := true, laidLooks := .later }
def FnStyleTypesCardSaid : Prop := Claim7.holds Tryz.pinned (.plain (OpenSpec.ofChange fnStyleTypesSpec)) fnStyleTypesCard

/-- THE SECOND FORM's CARD OF 'laws.FnEntryText'. -/
def fnEntryTextUptoCard : Claim7 := { stood := { row := fnEntryTextUptoRow, standIns := [], harness := (true, "3b07c4903e3031f98005e7903d5b4e1704169167e48446fd4e0c2c521cb0ae37"), looks := true }, kinds := [], alts := [], laidByText := true, laidKinds := [.data, .data, .data, .data, .sentinel, .sentinel, .listed, .data, .pinned], laidTests := true, laidLooks := .later }
def FnEntryTextUptoCardSaid : Prop := Claim7.holds Tryz.pinned (.plain (OpenSpec.upto fnEntryTextSpec)) fnEntryTextUptoCard

/-- THE SECOND FORM's CARD OF 'laws.FnStyleGet'. -/
def fnStyleGetUptoCard : Claim7 := { stood := { row := fnStyleGetUptoRow, standIns := [], harness := (true, "3b07c4903e3031f98005e7903d5b4e1704169167e48446fd4e0c2c521cb0ae37"), looks := true }, kinds := [], alts := [], laidByText := true, laidKinds := [.data, .data, .data, .data, .sentinel, .sentinel, .listed, .data, .pinned], laidTests := true, laidLooks := .later }
def FnStyleGetUptoCardSaid : Prop := Claim7.holds Tryz.pinned (.plain (OpenSpec.upto fnStyleGetSpec)) fnStyleGetUptoCard

/-- THE SECOND FORM's CARD OF 'laws.FnStyleHas'. -/
def fnStyleHasUptoCard : Claim7 := { stood := { row := fnStyleHasUptoRow, standIns := [], harness := (true, "3b07c4903e3031f98005e7903d5b4e1704169167e48446fd4e0c2c521cb0ae37"), looks := true }, kinds := [], alts := [], laidByText := true, laidKinds := [.data, .data, .data, .data, .sentinel, .sentinel, .listed, .data, .pinned], laidTests := true, laidLooks := .later }
def FnStyleHasUptoCardSaid : Prop := Claim7.holds Tryz.pinned (.plain (OpenSpec.upto fnStyleHasSpec)) fnStyleHasUptoCard

/-- THE SECOND FORM's CARD OF 'laws.FnStyleAgain'. -/
def fnStyleAgainUptoCard : Claim7 := { stood := { row := fnStyleAgainUptoRow, standIns := [], harness := (true, "3b07c4903e3031f98005e7903d5b4e1704169167e48446fd4e0c2c521cb0ae37"), looks := true }, kinds := [], alts := [], laidByText := true, laidKinds := [.data, .data, .data, .data, .sentinel, .sentinel, .listed, .data, .pinned], laidTests := true, laidLooks := .later }
def FnStyleAgainUptoCardSaid : Prop := Claim7.holds Tryz.pinned (.plain (OpenSpec.upto fnStyleAgainSpec)) fnStyleAgainUptoCard

/-- THE SECOND FORM's CARD OF 'laws.FnStyleBuild'. -/
def fnStyleBuildUptoCard : Claim7 := { stood := { row := fnStyleBuildUptoRow, standIns := [], harness := (true, "3b07c4903e3031f98005e7903d5b4e1704169167e48446fd4e0c2c521cb0ae37"), looks := true }, kinds := [], alts := [], laidByText := true, laidKinds := [.data, .data, .data, .data, .sentinel, .sentinel, .listed, .data, .pinned], laidTests := true, laidLooks := .later }
def FnStyleBuildUptoCardSaid : Prop := Claim7.holds Tryz.pinned (.plain (OpenSpec.upto fnStyleBuildSpec)) fnStyleBuildUptoCard

/-- THE SECOND FORM's CARD OF 'laws.FnStyleTypes'. -/
def fnStyleTypesUptoCard : Claim7 := { stood := { row := fnStyleTypesUptoRow, standIns := [], harness := (true, "3b07c4903e3031f98005e7903d5b4e1704169167e48446fd4e0c2c521cb0ae37"), looks := true }, kinds := [], alts := [], laidByText := true, laidKinds := [.data, .data, .data, .data, .sentinel, .sentinel, .listed, .data, .pinned], laidTests := true, laidLooks := .later }
def FnStyleTypesUptoCardSaid : Prop := Claim7.holds Tryz.pinned (.plain (OpenSpec.upto fnStyleTypesSpec)) fnStyleTypesUptoCard
end Rows
end Go.Proofs.YtifhhejohdmiaaaGreatDoor
