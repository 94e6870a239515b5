/-
  DERIVED. GIVEN WITH THE SEED: THE CARDS: each row of YtchkijfnhhldfaaDoorRows.lean that lists a variable, with what it lists TIED to the program's text (the seventh form; the later family's looks); each row that meets fmt, with fmt's text TOLD by the authors' own Lean function (tested against real Go, not proved from fmt's source: count such statements apart). THE CARD IS WHAT COUNTS. Prove the row's statement (the work); the ties are given (YtchkijfnhhldfaaDoorTie.lean); close each card by the builder's one call (the guide's Derived/Test/ToyasCard.lean, 'card_holds'). Laid BY PROGRAM, IN A SANDBOX (cutbox-door.mjs). By AI agents, Wed Nov 11 2026. No macro, syntax, notation, axiom, sorry.
-/
import Derived.Test.YtchkijfnhhldfaaDoorRows
import GoSem.ClaimSeven
namespace Go.Proofs.YtchkijfnhhldfaaDoor
namespace Rows

/-- THE TIED CARD OF 'laws.FnTypeRemap'. -/
def fnTypeRemapCard : Claim7 := { stood := { row := fnTypeRemapRow, standIns := [], harness := (true, "aa21fde81bca4bac0de9ca6cc6dc6febdc4029006b179241806a957238097fcc"), looks := false }, kinds := [], alts := [], laidByText := true, laidKinds := [.data], laidTests := true, laidLooks := .later }
def FnTypeRemapCardSaid : Prop := Claim7.holds Tryd.pinned (.plain (OpenSpec.ofChange fnTypeRemapSpec)) fnTypeRemapCard

/-- THE SECOND FORM's CARD OF 'laws.FnTypeRemap'. -/
def fnTypeRemapUptoCard : Claim7 := { stood := { row := fnTypeRemapUptoRow, standIns := [], harness := (true, "aa21fde81bca4bac0de9ca6cc6dc6febdc4029006b179241806a957238097fcc"), looks := false }, kinds := [], alts := [], laidByText := true, laidKinds := [.data], laidTests := true, laidLooks := .later }
def FnTypeRemapUptoCardSaid : Prop := Claim7.holds Tryd.pinned (.plain (OpenSpec.upto fnTypeRemapSpec)) fnTypeRemapUptoCard
end Rows
end Go.Proofs.YtchkijfnhhldfaaDoor
