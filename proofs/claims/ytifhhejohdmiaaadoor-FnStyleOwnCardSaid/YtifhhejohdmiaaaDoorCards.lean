/-
  DERIVED. GIVEN WITH THE SEED: THE CARDS: each row of YtifhhejohdmiaaaDoorRows.lean that lists a variable, with what it lists TIED to the program's text (the seventh form; the later family's looks); each row that meets fmt, with fmt's text TOLD by the authors' own Lean function (tested against real Go, not proved from fmt's source: count such statements apart). THE CARD IS WHAT COUNTS. Prove the row's statement (the work); the ties are given (YtifhhejohdmiaaaDoorTie.lean); close each card by the builder's one call (the guide's Derived/Test/ToyasCard.lean, 'card_holds'). Laid BY PROGRAM, IN A SANDBOX (cutbox-door.mjs). By AI agents, Wed Nov 11 2026. No macro, syntax, notation, axiom, sorry.
-/
import Derived.Test.YtifhhejohdmiaaaDoorRows
import GoSem.ClaimSeven
namespace Go.Proofs.YtifhhejohdmiaaaDoor
namespace Rows

/-- THE TIED CARD OF 'laws.FnEntryZero'. -/
def fnEntryZeroCard : Claim7 := { stood := { row := fnEntryZeroRow, standIns := [], harness := (true, "89451939ff68ecdaf1b1042909db93d62f08893d89a82c91788970613b602f6f"), looks := true }, kinds := [], alts := [], laidByText := true, laidKinds := [.data, .data, .data, .data, .sentinel, .sentinel, .listed, .data, .pinned], laidTests := true, laidLooks := .later }
def FnEntryZeroCardSaid : Prop := Claim7.holds Tryd.pinned (.plain (OpenSpec.ofChange fnEntryZeroSpec)) fnEntryZeroCard

/-- THE TIED CARD OF 'laws.FnEntryParse'. -/
def fnEntryParseCard : Claim7 := { stood := { row := fnEntryParseRow, standIns := [], harness := (true, "89451939ff68ecdaf1b1042909db93d62f08893d89a82c91788970613b602f6f"), looks := true }, kinds := [], alts := [], laidByText := true, laidKinds := [.data, .data, .data, .data, .sentinel, .sentinel, .listed, .data, .pinned], laidTests := true, laidLooks := .later }
def FnEntryParseCardSaid : Prop := Claim7.holds Tryd.pinned (.plain (OpenSpec.ofChange fnEntryParseSpec)) fnEntryParseCard

/-- THE TIED CARD OF 'laws.FnEntryChain'. -/
def fnEntryChainCard : Claim7 := { stood := { row := fnEntryChainRow, standIns := [], harness := (true, "89451939ff68ecdaf1b1042909db93d62f08893d89a82c91788970613b602f6f"), looks := true }, kinds := [], alts := [], laidByText := true, laidKinds := [.data, .data, .data, .data, .sentinel, .sentinel, .listed, .data, .pinned], laidTests := true, laidLooks := .later }
def FnEntryChainCardSaid : Prop := Claim7.holds Tryd.pinned (.plain (OpenSpec.ofChange fnEntryChainSpec)) fnEntryChainCard

/-- THE TIED CARD OF 'laws.FnEntryInherit'. -/
def fnEntryInheritCard : Claim7 := { stood := { row := fnEntryInheritRow, standIns := [], harness := (true, "89451939ff68ecdaf1b1042909db93d62f08893d89a82c91788970613b602f6f"), looks := true }, kinds := [], alts := [], laidByText := true, laidKinds := [.data, .data, .data, .data, .sentinel, .sentinel, .listed, .data, .pinned], laidTests := true, laidLooks := .later }
def FnEntryInheritCardSaid : Prop := Claim7.holds Tryd.pinned (.plain (OpenSpec.ofChange fnEntryInheritSpec)) fnEntryInheritCard

/-- THE TIED CARD OF 'laws.FnEntrySub'. -/
def fnEntrySubCard : Claim7 := { stood := { row := fnEntrySubRow, standIns := [], harness := (true, "89451939ff68ecdaf1b1042909db93d62f08893d89a82c91788970613b602f6f"), looks := true }, kinds := [], alts := [], laidByText := true, laidKinds := [.data, .data, .data, .data, .sentinel, .sentinel, .listed, .data, .pinned], laidTests := true, laidLooks := .later }
def FnEntrySubCardSaid : Prop := Claim7.holds Tryd.pinned (.plain (OpenSpec.ofChange fnEntrySubSpec)) fnEntrySubCard

/-- THE TIED CARD OF 'laws.FnEntryBack'. -/
def fnEntryBackCard : Claim7 := { stood := { row := fnEntryBackRow, standIns := [], harness := (true, "89451939ff68ecdaf1b1042909db93d62f08893d89a82c91788970613b602f6f"), looks := true }, kinds := [], alts := [], laidByText := true, laidKinds := [.data, .data, .data, .data, .sentinel, .sentinel, .listed, .data, .pinned], laidTests := true, laidLooks := .later }
def FnEntryBackCardSaid : Prop := Claim7.holds Tryd.pinned (.plain (OpenSpec.ofChange fnEntryBackSpec)) fnEntryBackCard

/-- THE TIED CARD OF 'laws.FnEntryTwice'. -/
def fnEntryTwiceCard : Claim7 := { stood := { row := fnEntryTwiceRow, standIns := [], harness := (true, "89451939ff68ecdaf1b1042909db93d62f08893d89a82c91788970613b602f6f"), looks := true }, kinds := [], alts := [], laidByText := true, laidKinds := [.data, .data, .data, .data, .sentinel, .sentinel, .listed, .data, .pinned], laidTests := true, laidLooks := .later }
def FnEntryTwiceCardSaid : Prop := Claim7.holds Tryd.pinned (.plain (OpenSpec.ofChange fnEntryTwiceSpec)) fnEntryTwiceCard

/-- THE TIED CARD OF 'laws.FnStyleOrder'. -/
def fnStyleOrderCard : Claim7 := { stood := { row := fnStyleOrderRow, standIns := [], harness := (true, "89451939ff68ecdaf1b1042909db93d62f08893d89a82c91788970613b602f6f"), looks := true }, kinds := [], alts := [], laidByText := true, laidKinds := [.data, .data, .data, .data, .sentinel, .sentinel, .listed, .data, .pinned], laidTests := true, laidLooks := .later }
def FnStyleOrderCardSaid : Prop := Claim7.holds Tryd.pinned (.plain (OpenSpec.ofChange fnStyleOrderSpec)) fnStyleOrderCard

/-- THE TIED CARD OF 'laws.FnStyleOwn'. -/
def fnStyleOwnCard : Claim7 := { stood := { row := fnStyleOwnRow, standIns := [], harness := (true, "89451939ff68ecdaf1b1042909db93d62f08893d89a82c91788970613b602f6f"), looks := true }, kinds := [], alts := [], laidByText := true, laidKinds := [.data, .data, .data, .data, .sentinel, .sentinel, .listed, .data, .pinned], laidTests := true, laidLooks := .later }
def FnStyleOwnCardSaid : Prop := Claim7.holds Tryd.pinned (.plain (OpenSpec.ofChange fnStyleOwnSpec)) fnStyleOwnCard

/-- THE SECOND FORM's CARD OF 'laws.FnEntryZero'. -/
def fnEntryZeroUptoCard : Claim7 := { stood := { row := fnEntryZeroUptoRow, standIns := [], harness := (true, "89451939ff68ecdaf1b1042909db93d62f08893d89a82c91788970613b602f6f"), looks := true }, kinds := [], alts := [], laidByText := true, laidKinds := [.data, .data, .data, .data, .sentinel, .sentinel, .listed, .data, .pinned], laidTests := true, laidLooks := .later }
def FnEntryZeroUptoCardSaid : Prop := Claim7.holds Tryd.pinned (.plain (OpenSpec.upto fnEntryZeroSpec)) fnEntryZeroUptoCard

/-- THE SECOND FORM's CARD OF 'laws.FnEntryParse'. -/
def fnEntryParseUptoCard : Claim7 := { stood := { row := fnEntryParseUptoRow, standIns := [], harness := (true, "89451939ff68ecdaf1b1042909db93d62f08893d89a82c91788970613b602f6f"), looks := true }, kinds := [], alts := [], laidByText := true, laidKinds := [.data, .data, .data, .data, .sentinel, .sentinel, .listed, .data, .pinned], laidTests := true, laidLooks := .later }
def FnEntryParseUptoCardSaid : Prop := Claim7.holds Tryd.pinned (.plain (OpenSpec.upto fnEntryParseSpec)) fnEntryParseUptoCard

/-- THE SECOND FORM's CARD OF 'laws.FnEntryChain'. -/
def fnEntryChainUptoCard : Claim7 := { stood := { row := fnEntryChainUptoRow, standIns := [], harness := (true, "89451939ff68ecdaf1b1042909db93d62f08893d89a82c91788970613b602f6f"), looks := true }, kinds := [], alts := [], laidByText := true, laidKinds := [.data, .data, .data, .data, .sentinel, .sentinel, .listed, .data, .pinned], laidTests := true, laidLooks := .later }
def FnEntryChainUptoCardSaid : Prop := Claim7.holds Tryd.pinned (.plain (OpenSpec.upto fnEntryChainSpec)) fnEntryChainUptoCard

/-- THE SECOND FORM's CARD OF 'laws.FnEntryInherit'. -/
def fnEntryInheritUptoCard : Claim7 := { stood := { row := fnEntryInheritUptoRow, standIns := [], harness := (true, "89451939ff68ecdaf1b1042909db93d62f08893d89a82c91788970613b602f6f"), looks := true }, kinds := [], alts := [], laidByText := true, laidKinds := [.data, .data, .data, .data, .sentinel, .sentinel, .listed, .data, .pinned], laidTests := true, laidLooks := .later }
def FnEntryInheritUptoCardSaid : Prop := Claim7.holds Tryd.pinned (.plain (OpenSpec.upto fnEntryInheritSpec)) fnEntryInheritUptoCard

/-- THE SECOND FORM's CARD OF 'laws.FnEntrySub'. -/
def fnEntrySubUptoCard : Claim7 := { stood := { row := fnEntrySubUptoRow, standIns := [], harness := (true, "89451939ff68ecdaf1b1042909db93d62f08893d89a82c91788970613b602f6f"), looks := true }, kinds := [], alts := [], laidByText := true, laidKinds := [.data, .data, .data, .data, .sentinel, .sentinel, .listed, .data, .pinned], laidTests := true, laidLooks := .later }
def FnEntrySubUptoCardSaid : Prop := Claim7.holds Tryd.pinned (.plain (OpenSpec.upto fnEntrySubSpec)) fnEntrySubUptoCard

/-- THE SECOND FORM's CARD OF 'laws.FnEntryBack'. -/
def fnEntryBackUptoCard : Claim7 := { stood := { row := fnEntryBackUptoRow, standIns := [], harness := (true, "89451939ff68ecdaf1b1042909db93d62f08893d89a82c91788970613b602f6f"), looks := true }, kinds := [], alts := [], laidByText := true, laidKinds := [.data, .data, .data, .data, .sentinel, .sentinel, .listed, .data, .pinned], laidTests := true, laidLooks := .later }
def FnEntryBackUptoCardSaid : Prop := Claim7.holds Tryd.pinned (.plain (OpenSpec.upto fnEntryBackSpec)) fnEntryBackUptoCard

/-- THE SECOND FORM's CARD OF 'laws.FnEntryTwice'. -/
def fnEntryTwiceUptoCard : Claim7 := { stood := { row := fnEntryTwiceUptoRow, standIns := [], harness := (true, "89451939ff68ecdaf1b1042909db93d62f08893d89a82c91788970613b602f6f"), looks := true }, kinds := [], alts := [], laidByText := true, laidKinds := [.data, .data, .data, .data, .sentinel, .sentinel, .listed, .data, .pinned], laidTests := true, laidLooks := .later }
def FnEntryTwiceUptoCardSaid : Prop := Claim7.holds Tryd.pinned (.plain (OpenSpec.upto fnEntryTwiceSpec)) fnEntryTwiceUptoCard

/-- THE SECOND FORM's CARD OF 'laws.FnStyleOrder'. -/
def fnStyleOrderUptoCard : Claim7 := { stood := { row := fnStyleOrderUptoRow, standIns := [], harness := (true, "89451939ff68ecdaf1b1042909db93d62f08893d89a82c91788970613b602f6f"), looks := true }, kinds := [], alts := [], laidByText := true, laidKinds := [.data, .data, .data, .data, .sentinel, .sentinel, .listed, .data, .pinned], laidTests := true, laidLooks := .later }
def FnStyleOrderUptoCardSaid : Prop := Claim7.holds Tryd.pinned (.plain (OpenSpec.upto fnStyleOrderSpec)) fnStyleOrderUptoCard

/-- THE SECOND FORM's CARD OF 'laws.FnStyleOwn'. -/
def fnStyleOwnUptoCard : Claim7 := { stood := { row := fnStyleOwnUptoRow, standIns := [], harness := (true, "89451939ff68ecdaf1b1042909db93d62f08893d89a82c91788970613b602f6f"), looks := true }, kinds := [], alts := [], laidByText := true, laidKinds := [.data, .data, .data, .data, .sentinel, .sentinel, .listed, .data, .pinned], laidTests := true, laidLooks := .later }
def FnStyleOwnUptoCardSaid : Prop := Claim7.holds Tryd.pinned (.plain (OpenSpec.upto fnStyleOwnSpec)) fnStyleOwnUptoCard
end Rows
end Go.Proofs.YtifhhejohdmiaaaDoor
