/-
  DERIVED. GIVEN WITH THE SEED: THE CARDS: each row of YtjemdgmihbmgeaaGreatDoorRows.lean that lists a variable, with what it lists TIED to the program's text (the seventh form; the later family's looks); each row that meets fmt, with fmt's text TOLD by the authors' own Lean function (tested against real Go, not proved from fmt's source: count such statements apart). THE CARD IS WHAT COUNTS. Prove the row's statement (the work); the ties are given (YtjemdgmihbmgeaaGreatDoorTie.lean); close each card by the builder's one call (the guide's Derived/Test/ToyasCard.lean, 'card_holds'). Laid BY PROGRAM, IN A SANDBOX (cutbox-door.mjs). By AI agents, Wed Nov 11 2026. No macro, syntax, notation, axiom, sorry.
-/
import Derived.Test.YtjemdgmihbmgeaaGreatDoorRows
import GoSem.ClaimSeven
namespace Go.Proofs.YtjemdgmihbmgeaaGreatDoor
namespace Rows

/-- THE TIED CARD OF 'laws.FnStyleHas'. -/
def fnStyleHasCard : Claim7 := { stood := { row := fnStyleHasRow, standIns := [], harness := (true, "510c9b3d8a9f5ac9d301d8d7d2225eaf3603933316dd6da89b2f683ee9c120a0"), looks := true }, kinds := [], alts := [], laidByText := true, laidKinds := [.data, .data, .data, .data, .sentinel, .sentinel, .listed, .data, .pinned], laidTests := true, laidLooks := .later }
def FnStyleHasCardSaid : Prop := Claim7.holds Tryz.pinned (.plain (OpenSpec.ofChange fnStyleHasSpec)) fnStyleHasCard

/-- THE TIED CARD OF 'laws.FnStyleBuild'. -/
def fnStyleBuildCard : Claim7 := { stood := { row := fnStyleBuildRow, standIns := [], harness := (true, "510c9b3d8a9f5ac9d301d8d7d2225eaf3603933316dd6da89b2f683ee9c120a0"), looks := true }, kinds := [], alts := [], laidByText := true, laidKinds := [.data, .data, .data, .data, .sentinel, .sentinel, .listed, .data, .pinned], laidTests := true, laidLooks := .later }
def FnStyleBuildCardSaid : Prop := Claim7.holds Tryz.pinned (.plain (OpenSpec.ofChange fnStyleBuildSpec)) fnStyleBuildCard

/-- THE TIED CARD OF 'laws.FnStyleTypes'. -/
def fnStyleTypesCard : Claim7 := { stood := { row := fnStyleTypesRow, standIns := [], harness := (true, "510c9b3d8a9f5ac9d301d8d7d2225eaf3603933316dd6da89b2f683ee9c120a0"), looks := true }, kinds := [], alts := [], laidByText := true, laidKinds := [.data, .data, .data, .data, .sentinel, .sentinel, .listed, .data, .pinned], laidTests := true, laidLooks := .later }
def FnStyleTypesCardSaid : Prop := Claim7.holds Tryz.pinned (.plain (OpenSpec.ofChange fnStyleTypesSpec)) fnStyleTypesCard

/-- THE SECOND FORM's CARD OF 'laws.FnStyleHas'. -/
def fnStyleHasUptoCard : Claim7 := { stood := { row := fnStyleHasUptoRow, standIns := [], harness := (true, "510c9b3d8a9f5ac9d301d8d7d2225eaf3603933316dd6da89b2f683ee9c120a0"), looks := true }, kinds := [], alts := [], laidByText := true, laidKinds := [.data, .data, .data, .data, .sentinel, .sentinel, .listed, .data, .pinned], laidTests := true, laidLooks := .later }
def FnStyleHasUptoCardSaid : Prop := Claim7.holds Tryz.pinned (.plain (OpenSpec.upto fnStyleHasSpec)) fnStyleHasUptoCard

/-- THE SECOND FORM's CARD OF 'laws.FnStyleBuild'. -/
def fnStyleBuildUptoCard : Claim7 := { stood := { row := fnStyleBuildUptoRow, standIns := [], harness := (true, "510c9b3d8a9f5ac9d301d8d7d2225eaf3603933316dd6da89b2f683ee9c120a0"), looks := true }, kinds := [], alts := [], laidByText := true, laidKinds := [.data, .data, .data, .data, .sentinel, .sentinel, .listed, .data, .pinned], laidTests := true, laidLooks := .later }
def FnStyleBuildUptoCardSaid : Prop := Claim7.holds Tryz.pinned (.plain (OpenSpec.upto fnStyleBuildSpec)) fnStyleBuildUptoCard

/-- THE SECOND FORM's CARD OF 'laws.FnStyleTypes'. -/
def fnStyleTypesUptoCard : Claim7 := { stood := { row := fnStyleTypesUptoRow, standIns := [], harness := (true, "510c9b3d8a9f5ac9d301d8d7d2225eaf3603933316dd6da89b2f683ee9c120a0"), looks := true }, kinds := [], alts := [], laidByText := true, laidKinds := [.data, .data, .data, .data, .sentinel, .sentinel, .listed, .data, .pinned], laidTests := true, laidLooks := .later }
def FnStyleTypesUptoCardSaid : Prop := Claim7.holds Tryz.pinned (.plain (OpenSpec.upto fnStyleTypesSpec)) fnStyleTypesUptoCard
end Rows
end Go.Proofs.YtjemdgmihbmgeaaGreatDoor
