/-
  DERIVED. GIVEN WITH THE SEED: THE CARDS: each row of YtmldahejeobohaaDoorRows.lean that lists a variable, with what it lists TIED to the program's text (the seventh form; the later family's looks); each row that meets fmt, with fmt's text TOLD by the authors' own Lean function (tested against real Go, not proved from fmt's source: count such statements apart). THE CARD IS WHAT COUNTS. Prove the row's statement (the work); the ties are given (YtmldahejeobohaaDoorTie.lean); close each card by the builder's one call (the guide's Derived/Test/ToyasCard.lean, 'card_holds'). Laid BY PROGRAM, IN A SANDBOX (cutbox-door.mjs). By AI agents, Wed Nov 11 2026. No macro, syntax, notation, axiom, sorry.
-/
import Derived.Test.YtmldahejeobohaaDoorRows
import GoSem.ClaimSeven
namespace Go.Proofs.YtmldahejeobohaaDoor
namespace Rows

/-- THE TIED CARD OF 'laws.FnDelegateKnown'. -/
def fnDelegateKnownCard : Claim7 := { stood := { row := fnDelegateKnownRow, standIns := [], harness := (true, "631d78c846c16e000c8597c4a2b95e8f426f8b4b3d4d6cde9e90565367564cc2"), looks := false }, kinds := [], alts := [], laidByText := true, laidKinds := [.data], laidTests := true, laidLooks := .later }
def FnDelegateKnownCardSaid : Prop := Claim7.holds Tryd.pinned (.plain (OpenSpec.ofChange fnDelegateKnownSpec)) fnDelegateKnownCard

/-- THE TIED CARD OF 'laws.FnDelegateText'. -/
def fnDelegateTextCard : Claim7 := { stood := { row := fnDelegateTextRow, standIns := [], harness := (true, "631d78c846c16e000c8597c4a2b95e8f426f8b4b3d4d6cde9e90565367564cc2"), looks := false }, kinds := [], alts := [], laidByText := true, laidKinds := [.data], laidTests := true, laidLooks := .later }
def FnDelegateTextCardSaid : Prop := Claim7.holds Tryd.pinned (.plain (OpenSpec.ofChange fnDelegateTextSpec)) fnDelegateTextCard

/-- THE TIED CARD OF 'laws.FnDelegateTypes'. -/
def fnDelegateTypesCard : Claim7 := { stood := { row := fnDelegateTypesRow, standIns := [], harness := (true, "631d78c846c16e000c8597c4a2b95e8f426f8b4b3d4d6cde9e90565367564cc2"), looks := false }, kinds := [], alts := [], laidByText := true, laidKinds := [.data], laidTests := true, laidLooks := .later }
def FnDelegateTypesCardSaid : Prop := Claim7.holds Tryd.pinned (.plain (OpenSpec.ofChange fnDelegateTypesSpec)) fnDelegateTypesCard

/-- THE SECOND FORM's CARD OF 'laws.FnDelegateKnown'. -/
def fnDelegateKnownUptoCard : Claim7 := { stood := { row := fnDelegateKnownUptoRow, standIns := [], harness := (true, "631d78c846c16e000c8597c4a2b95e8f426f8b4b3d4d6cde9e90565367564cc2"), looks := false }, kinds := [], alts := [], laidByText := true, laidKinds := [.data], laidTests := true, laidLooks := .later }
def FnDelegateKnownUptoCardSaid : Prop := Claim7.holds Tryd.pinned (.plain (OpenSpec.upto fnDelegateKnownSpec)) fnDelegateKnownUptoCard

/-- THE SECOND FORM's CARD OF 'laws.FnDelegateText'. -/
def fnDelegateTextUptoCard : Claim7 := { stood := { row := fnDelegateTextUptoRow, standIns := [], harness := (true, "631d78c846c16e000c8597c4a2b95e8f426f8b4b3d4d6cde9e90565367564cc2"), looks := false }, kinds := [], alts := [], laidByText := true, laidKinds := [.data], laidTests := true, laidLooks := .later }
def FnDelegateTextUptoCardSaid : Prop := Claim7.holds Tryd.pinned (.plain (OpenSpec.upto fnDelegateTextSpec)) fnDelegateTextUptoCard

/-- THE SECOND FORM's CARD OF 'laws.FnDelegateTypes'. -/
def fnDelegateTypesUptoCard : Claim7 := { stood := { row := fnDelegateTypesUptoRow, standIns := [], harness := (true, "631d78c846c16e000c8597c4a2b95e8f426f8b4b3d4d6cde9e90565367564cc2"), looks := false }, kinds := [], alts := [], laidByText := true, laidKinds := [.data], laidTests := true, laidLooks := .later }
def FnDelegateTypesUptoCardSaid : Prop := Claim7.holds Tryd.pinned (.plain (OpenSpec.upto fnDelegateTypesSpec)) fnDelegateTypesUptoCard
end Rows
end Go.Proofs.YtmldahejeobohaaDoor
