/-
  DERIVED. GIVEN WITH THE SEED: THE CARDS: each row of YtkdkkbadmjpkfaaDoorRows.lean that lists a variable, with what it lists TIED to the program's text (the seventh form; the later family's looks); each row that meets fmt, with fmt's text TOLD by the authors' own Lean function (tested against real Go, not proved from fmt's source: count such statements apart). THE CARD IS WHAT COUNTS. Prove the row's statement (the work); the ties are given (YtkdkkbadmjpkfaaDoorTie.lean); close each card by the builder's one call (the guide's Derived/Test/ToyasCard.lean, 'card_holds'). Laid BY PROGRAM, IN A SANDBOX (cutbox-door.mjs). By AI agents, Wed Nov 11 2026. No macro, syntax, notation, axiom, sorry.
-/
import Derived.Test.YtkdkkbadmjpkfaaDoorRows
import GoSem.ClaimSeven
namespace Go.Proofs.YtkdkkbadmjpkfaaDoor
namespace Rows

/-- THE TIED CARD OF 'laws.FnTake'. -/
def fnTakeCard : Claim7 := { stood := { row := fnTakeRow, standIns := [], harness := (true, "7701453777fa446bcf576e0df953f804daa7b3f80e98c463ce7e0c3eeeae23af"), looks := false }, kinds := [], alts := [], laidByText := true, laidKinds := [.data], laidTests := true, laidLooks := .later }
def FnTakeCardSaid : Prop := Claim7.holds Tryd.pinned (.plain (OpenSpec.ofChange fnTakeSpec)) fnTakeCard

/-- THE TIED CARD OF 'laws.FnConcat'. -/
def fnConcatCard : Claim7 := { stood := { row := fnConcatRow, standIns := [], harness := (true, "7701453777fa446bcf576e0df953f804daa7b3f80e98c463ce7e0c3eeeae23af"), looks := false }, kinds := [], alts := [], laidByText := true, laidKinds := [.data], laidTests := true, laidLooks := .later }
def FnConcatCardSaid : Prop := Claim7.holds Tryd.pinned (.plain (OpenSpec.ofChange fnConcatSpec)) fnConcatCard

/-- THE SECOND FORM's CARD OF 'laws.FnTake'. -/
def fnTakeUptoCard : Claim7 := { stood := { row := fnTakeUptoRow, standIns := [], harness := (true, "7701453777fa446bcf576e0df953f804daa7b3f80e98c463ce7e0c3eeeae23af"), looks := false }, kinds := [], alts := [], laidByText := true, laidKinds := [.data], laidTests := true, laidLooks := .later }
def FnTakeUptoCardSaid : Prop := Claim7.holds Tryd.pinned (.plain (OpenSpec.upto fnTakeSpec)) fnTakeUptoCard

/-- THE SECOND FORM's CARD OF 'laws.FnConcat'. -/
def fnConcatUptoCard : Claim7 := { stood := { row := fnConcatUptoRow, standIns := [], harness := (true, "7701453777fa446bcf576e0df953f804daa7b3f80e98c463ce7e0c3eeeae23af"), looks := false }, kinds := [], alts := [], laidByText := true, laidKinds := [.data], laidTests := true, laidLooks := .later }
def FnConcatUptoCardSaid : Prop := Claim7.holds Tryd.pinned (.plain (OpenSpec.upto fnConcatSpec)) fnConcatUptoCard
end Rows
end Go.Proofs.YtkdkkbadmjpkfaaDoor
