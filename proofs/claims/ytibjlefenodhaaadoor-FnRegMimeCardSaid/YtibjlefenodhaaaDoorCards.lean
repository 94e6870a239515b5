/-
  DERIVED. GIVEN WITH THE SEED: THE CARDS: each row of YtibjlefenodhaaaDoorRows.lean that lists a variable, with what it lists TIED to the program's text (the seventh form; the later family's looks); each row that meets fmt, with fmt's text TOLD by the authors' own Lean function (tested against real Go, not proved from fmt's source: count such statements apart). THE CARD IS WHAT COUNTS. Prove the row's statement (the work); the ties are given (YtibjlefenodhaaaDoorTie.lean); close each card by the builder's one call (the guide's Derived/Test/ToyasCard.lean, 'card_holds'). Laid BY PROGRAM, IN A SANDBOX (cutbox-door.mjs). By AI agents, Wed Nov 11 2026. No macro, syntax, notation, axiom, sorry.
-/
import Derived.Test.YtibjlefenodhaaaDoorRows
import GoSem.ClaimSeven
namespace Go.Proofs.YtibjlefenodhaaaDoor
namespace Rows

/-- THE TIED CARD OF 'laws.FnRegGet'. -/
def fnRegGetCard : Claim7 := { stood := { row := fnRegGetRow, standIns := [], harness := (true, "7a0122cdfe69ef54580d03d7a6ce572094e9d65076cc4a7af8cfb0dc81c5243c"), looks := false }, kinds := [], alts := [], laidByText := true, laidKinds := [.data, .pinned, .pinned], laidTests := true, laidLooks := .later }
def FnRegGetCardSaid : Prop := Claim7.holds Tryd.pinned (.plain (OpenSpec.ofChange fnRegGetSpec)) fnRegGetCard

/-- THE TIED CARD OF 'laws.FnRegNames'. -/
def fnRegNamesCard : Claim7 := { stood := { row := fnRegNamesRow, standIns := [], harness := (true, "7a0122cdfe69ef54580d03d7a6ce572094e9d65076cc4a7af8cfb0dc81c5243c"), looks := false }, kinds := [], alts := [], laidByText := true, laidKinds := [.data, .pinned, .pinned], laidTests := true, laidLooks := .later }
def FnRegNamesCardSaid : Prop := Claim7.holds Tryd.pinned (.plain (OpenSpec.ofChange fnRegNamesSpec)) fnRegNamesCard

/-- THE TIED CARD OF 'laws.FnRegMime'. -/
def fnRegMimeCard : Claim7 := { stood := { row := fnRegMimeRow, standIns := [], harness := (true, "7a0122cdfe69ef54580d03d7a6ce572094e9d65076cc4a7af8cfb0dc81c5243c"), looks := false }, kinds := [], alts := [], laidByText := true, laidKinds := [.data, .pinned, .pinned], laidTests := true, laidLooks := .later }
def FnRegMimeCardSaid : Prop := Claim7.holds Tryd.pinned (.plain (OpenSpec.ofChange fnRegMimeSpec)) fnRegMimeCard

/-- THE SECOND FORM's CARD OF 'laws.FnRegGet'. -/
def fnRegGetUptoCard : Claim7 := { stood := { row := fnRegGetUptoRow, standIns := [], harness := (true, "7a0122cdfe69ef54580d03d7a6ce572094e9d65076cc4a7af8cfb0dc81c5243c"), looks := false }, kinds := [], alts := [], laidByText := true, laidKinds := [.data, .pinned, .pinned], laidTests := true, laidLooks := .later }
def FnRegGetUptoCardSaid : Prop := Claim7.holds Tryd.pinned (.plain (OpenSpec.upto fnRegGetSpec)) fnRegGetUptoCard

/-- THE SECOND FORM's CARD OF 'laws.FnRegNames'. -/
def fnRegNamesUptoCard : Claim7 := { stood := { row := fnRegNamesUptoRow, standIns := [], harness := (true, "7a0122cdfe69ef54580d03d7a6ce572094e9d65076cc4a7af8cfb0dc81c5243c"), looks := false }, kinds := [], alts := [], laidByText := true, laidKinds := [.data, .pinned, .pinned], laidTests := true, laidLooks := .later }
def FnRegNamesUptoCardSaid : Prop := Claim7.holds Tryd.pinned (.plain (OpenSpec.upto fnRegNamesSpec)) fnRegNamesUptoCard

/-- THE SECOND FORM's CARD OF 'laws.FnRegMime'. -/
def fnRegMimeUptoCard : Claim7 := { stood := { row := fnRegMimeUptoRow, standIns := [], harness := (true, "7a0122cdfe69ef54580d03d7a6ce572094e9d65076cc4a7af8cfb0dc81c5243c"), looks := false }, kinds := [], alts := [], laidByText := true, laidKinds := [.data, .pinned, .pinned], laidTests := true, laidLooks := .later }
def FnRegMimeUptoCardSaid : Prop := Claim7.holds Tryd.pinned (.plain (OpenSpec.upto fnRegMimeSpec)) fnRegMimeUptoCard
end Rows
end Go.Proofs.YtibjlefenodhaaaDoor
