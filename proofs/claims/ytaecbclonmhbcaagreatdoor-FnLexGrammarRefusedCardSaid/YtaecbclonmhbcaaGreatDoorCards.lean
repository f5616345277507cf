/-
  DERIVED. GIVEN WITH THE SEED: THE CARDS: each row of YtaecbclonmhbcaaGreatDoorRows.lean that lists a variable, with what it lists TIED to the program's text (the seventh form; the later family's looks); each row that meets fmt, with fmt's text TOLD by the authors' own Lean function (tested against real Go, not proved from fmt's source: count such statements apart). THE CARD IS WHAT COUNTS. Prove the row's statement (the work); the ties are given (YtaecbclonmhbcaaGreatDoorTie.lean); close each card by the builder's one call (the guide's Derived/Test/ToyasCard.lean, 'card_holds'). Laid BY PROGRAM, IN A SANDBOX (cutbox-door.mjs). By AI agents, Wed Nov 11 2026. No macro, syntax, notation, axiom, sorry.
-/
import Derived.Test.YtaecbclonmhbcaaGreatDoorRows
import GoSem.ClaimSeven
namespace Go.Proofs.YtaecbclonmhbcaaGreatDoor
namespace Rows

/-- THE TIED CARD OF 'laws.FnLexAdded'. -/
def fnLexAddedCard : Claim7 := { stood := { row := fnLexAddedRow, standIns := [], harness := (true, "a92ab8874570623de4eb9d62b68edb57ef9df8d28f15adf846105b3b3606f6f9"), looks := true }, kinds := [], alts := [], laidByText := true, laidKinds := [.data, .data, .widerDeep, .widerDeep, .data, .data, .data, .data, .data, .data, .sentinel, .sentinel, .sentinel, .sentinel, .pinned, .pinned, .pinned, .pinned, .pinned, .pinned, .pinned, .pinned], laidTests := true, laidLooks := .later }
def FnLexAddedCardSaid : Prop := Claim7.holds Tryz.pinned (.plain (OpenSpec.ofChange fnLexAddedSpec)) fnLexAddedCard

/-- THE TIED CARD OF 'laws.FnLexDelims'. -/
def fnLexDelimsCard : Claim7 := { stood := { row := fnLexDelimsRow, standIns := [], harness := (true, "a92ab8874570623de4eb9d62b68edb57ef9df8d28f15adf846105b3b3606f6f9"), looks := true }, kinds := [], alts := [], laidByText := true, laidKinds := [.data, .data, .widerDeep, .widerDeep, .data, .data, .data, .data, .data, .data, .sentinel, .sentinel, .sentinel, .sentinel, .pinned, .pinned, .pinned, .pinned, .pinned, .pinned, .pinned, .pinned], laidTests := true, laidLooks := .later }
def FnLexDelimsCardSaid : Prop := Claim7.holds Tryz.pinned (.plain (OpenSpec.ofChange fnLexDelimsSpec)) fnLexDelimsCard

/-- THE TIED CARD OF 'laws.FnLexMultiSame'. -/
def fnLexMultiSameCard : Claim7 := { stood := { row := fnLexMultiSameRow, standIns := [], harness := (true, "a92ab8874570623de4eb9d62b68edb57ef9df8d28f15adf846105b3b3606f6f9"), looks := true }, kinds := [], alts := [], laidByText := true, laidKinds := [.data, .data, .widerDeep, .widerDeep, .data, .data, .data, .data, .data, .data, .sentinel, .sentinel, .sentinel, .sentinel, .pinned, .pinned, .pinned, .pinned, .pinned, .pinned, .pinned, .pinned], laidTests := true, laidLooks := .later }
def FnLexMultiSameCardSaid : Prop := Claim7.holds Tryz.pinned (.plain (OpenSpec.ofChange fnLexMultiSameSpec)) fnLexMultiSameCard

/-- THE TIED CARD OF 'laws.FnLexPos'. -/
def fnLexPosCard : Claim7 := { stood := { row := fnLexPosRow, standIns := [], harness := (true, "a92ab8874570623de4eb9d62b68edb57ef9df8d28f15adf846105b3b3606f6f9"), looks := true }, kinds := [], alts := [], laidByText := true, laidKinds := [.data, .data, .widerDeep, .widerDeep, .data, .data, .data, .data, .data, .data, .sentinel, .sentinel, .sentinel, .sentinel, .pinned, .pinned, .pinned, .pinned, .pinned, .pinned, .pinned, .pinned], laidTests := true, laidLooks := .later }
def FnLexPosCardSaid : Prop := Claim7.holds Tryz.pinned (.plain (OpenSpec.ofChange fnLexPosSpec)) fnLexPosCard

/-- THE TIED CARD OF 'laws.FnLexSplit'. -/
def fnLexSplitCard : Claim7 := { stood := { row := fnLexSplitRow, standIns := [], harness := (true, "a92ab8874570623de4eb9d62b68edb57ef9df8d28f15adf846105b3b3606f6f9"), looks := true }, kinds := [], alts := [], laidByText := true, laidKinds := [.data, .data, .widerDeep, .widerDeep, .data, .data, .data, .data, .data, .data, .sentinel, .sentinel, .sentinel, .sentinel, .pinned, .pinned, .pinned, .pinned, .pinned, .pinned, .pinned, .pinned], laidTests := true, laidLooks := .later }
def FnLexSplitCardSaid : Prop := Claim7.holds Tryz.pinned (.plain (OpenSpec.ofChange fnLexSplitSpec)) fnLexSplitCard

/-- THE TIED CARD OF 'laws.FnLexStops'. -/
def fnLexStopsCard : Claim7 := { stood := { row := fnLexStopsRow, standIns := [], harness := (true, "a92ab8874570623de4eb9d62b68edb57ef9df8d28f15adf846105b3b3606f6f9"), looks := true }, kinds := [], alts := [], laidByText := true, laidKinds := [.data, .data, .widerDeep, .widerDeep, .data, .data, .data, .data, .data, .data, .sentinel, .sentinel, .sentinel, .sentinel, .pinned, .pinned, .pinned, .pinned, .pinned, .pinned, .pinned, .pinned], laidTests := true, laidLooks := .later }
def FnLexStopsCardSaid : Prop := Claim7.holds Tryz.pinned (.plain (OpenSpec.ofChange fnLexStopsSpec)) fnLexStopsCard

/-- THE TIED CARD OF 'laws.FnLexWords'. -/
def fnLexWordsCard : Claim7 := { stood := { row := fnLexWordsRow, standIns := [], harness := (true, "a92ab8874570623de4eb9d62b68edb57ef9df8d28f15adf846105b3b3606f6f9"), looks := true }, kinds := [], alts := [], laidByText := true, laidKinds := [.data, .data, .widerDeep, .widerDeep, .data, .data, .data, .data, .data, .data, .sentinel, .sentinel, .sentinel, .sentinel, .pinned, .pinned, .pinned, .pinned, .pinned, .pinned, .pinned, .pinned], laidTests := true, laidLooks := .later }
def FnLexWordsCardSaid : Prop := Claim7.holds Tryz.pinned (.plain (OpenSpec.ofChange fnLexWordsSpec)) fnLexWordsCard

/-- THE TIED CARD OF 'laws.FnLexOffset'. -/
def fnLexOffsetCard : Claim7 := { stood := { row := fnLexOffsetRow, standIns := [], harness := (true, "a92ab8874570623de4eb9d62b68edb57ef9df8d28f15adf846105b3b3606f6f9"), looks := true }, kinds := [], alts := [], laidByText := true, laidKinds := [.data, .data, .widerDeep, .widerDeep, .data, .data, .data, .data, .data, .data, .sentinel, .sentinel, .sentinel, .sentinel, .pinned, .pinned, .pinned, .pinned, .pinned, .pinned, .pinned, .pinned], laidTests := true, laidLooks := .later }
def FnLexOffsetCardSaid : Prop := Claim7.holds Tryz.pinned (.plain (OpenSpec.ofChange fnLexOffsetSpec)) fnLexOffsetCard

/-- THE TIED CARD OF 'laws.FnLexGrammarRefused'. -/
def fnLexGrammarRefusedCard : Claim7 := { stood := { row := fnLexGrammarRefusedRow, standIns := [], harness := (true, "a92ab8874570623de4eb9d62b68edb57ef9df8d28f15adf846105b3b3606f6f9"), looks := true }, kinds := [], alts := [], laidByText := true, laidKinds := [.data, .data, .widerDeep, .widerDeep, .data, .data, .data, .data, .data, .data, .sentinel, .sentinel, .sentinel, .sentinel, .pinned, .pinned, .pinned, .pinned, .pinned, .pinned, .pinned, .pinned], laidTests := true, laidLooks := .later }
def FnLexGrammarRefusedCardSaid : Prop := Claim7.holds Tryz.pinned (.plain (OpenSpec.ofChange fnLexGrammarRefusedSpec)) fnLexGrammarRefusedCard

/-- THE SECOND FORM's CARD OF 'laws.FnLexAdded'. -/
def fnLexAddedUptoCard : Claim7 := { stood := { row := fnLexAddedUptoRow, standIns := [], harness := (true, "a92ab8874570623de4eb9d62b68edb57ef9df8d28f15adf846105b3b3606f6f9"), looks := true }, kinds := [], alts := [], laidByText := true, laidKinds := [.data, .data, .widerDeep, .widerDeep, .data, .data, .data, .data, .data, .data, .sentinel, .sentinel, .sentinel, .sentinel, .pinned, .pinned, .pinned, .pinned, .pinned, .pinned, .pinned, .pinned], laidTests := true, laidLooks := .later }
def FnLexAddedUptoCardSaid : Prop := Claim7.holds Tryz.pinned (.plain (OpenSpec.upto fnLexAddedSpec)) fnLexAddedUptoCard

/-- THE SECOND FORM's CARD OF 'laws.FnLexDelims'. -/
def fnLexDelimsUptoCard : Claim7 := { stood := { row := fnLexDelimsUptoRow, standIns := [], harness := (true, "a92ab8874570623de4eb9d62b68edb57ef9df8d28f15adf846105b3b3606f6f9"), looks := true }, kinds := [], alts := [], laidByText := true, laidKinds := [.data, .data, .widerDeep, .widerDeep, .data, .data, .data, .data, .data, .data, .sentinel, .sentinel, .sentinel, .sentinel, .pinned, .pinned, .pinned, .pinned, .pinned, .pinned, .pinned, .pinned], laidTests := true, laidLooks := .later }
def FnLexDelimsUptoCardSaid : Prop := Claim7.holds Tryz.pinned (.plain (OpenSpec.upto fnLexDelimsSpec)) fnLexDelimsUptoCard

/-- THE SECOND FORM's CARD OF 'laws.FnLexMultiSame'. -/
def fnLexMultiSameUptoCard : Claim7 := { stood := { row := fnLexMultiSameUptoRow, standIns := [], harness := (true, "a92ab8874570623de4eb9d62b68edb57ef9df8d28f15adf846105b3b3606f6f9"), looks := true }, kinds := [], alts := [], laidByText := true, laidKinds := [.data, .data, .widerDeep, .widerDeep, .data, .data, .data, .data, .data, .data, .sentinel, .sentinel, .sentinel, .sentinel, .pinned, .pinned, .pinned, .pinned, .pinned, .pinned, .pinned, .pinned], laidTests := true, laidLooks := .later }
def FnLexMultiSameUptoCardSaid : Prop := Claim7.holds Tryz.pinned (.plain (OpenSpec.upto fnLexMultiSameSpec)) fnLexMultiSameUptoCard

/-- THE SECOND FORM's CARD OF 'laws.FnLexPos'. -/
def fnLexPosUptoCard : Claim7 := { stood := { row := fnLexPosUptoRow, standIns := [], harness := (true, "a92ab8874570623de4eb9d62b68edb57ef9df8d28f15adf846105b3b3606f6f9"), looks := true }, kinds := [], alts := [], laidByText := true, laidKinds := [.data, .data, .widerDeep, .widerDeep, .data, .data, .data, .data, .data, .data, .sentinel, .sentinel, .sentinel, .sentinel, .pinned, .pinned, .pinned, .pinned, .pinned, .pinned, .pinned, .pinned], laidTests := true, laidLooks := .later }
def FnLexPosUptoCardSaid : Prop := Claim7.holds Tryz.pinned (.plain (OpenSpec.upto fnLexPosSpec)) fnLexPosUptoCard

/-- THE SECOND FORM's CARD OF 'laws.FnLexSplit'. -/
def fnLexSplitUptoCard : Claim7 := { stood := { row := fnLexSplitUptoRow, standIns := [], harness := (true, "a92ab8874570623de4eb9d62b68edb57ef9df8d28f15adf846105b3b3606f6f9"), looks := true }, kinds := [], alts := [], laidByText := true, laidKinds := [.data, .data, .widerDeep, .widerDeep, .data, .data, .data, .data, .data, .data, .sentinel, .sentinel, .sentinel, .sentinel, .pinned, .pinned, .pinned, .pinned, .pinned, .pinned, .pinned, .pinned], laidTests := true, laidLooks := .later }
def FnLexSplitUptoCardSaid : Prop := Claim7.holds Tryz.pinned (.plain (OpenSpec.upto fnLexSplitSpec)) fnLexSplitUptoCard

/-- THE SECOND FORM's CARD OF 'laws.FnLexStops'. -/
def fnLexStopsUptoCard : Claim7 := { stood := { row := fnLexStopsUptoRow, standIns := [], harness := (true, "a92ab8874570623de4eb9d62b68edb57ef9df8d28f15adf846105b3b3606f6f9"), looks := true }, kinds := [], alts := [], laidByText := true, laidKinds := [.data, .data, .widerDeep, .widerDeep, .data, .data, .data, .data, .data, .data, .sentinel, .sentinel, .sentinel, .sentinel, .pinned, .pinned, .pinned, .pinned, .pinned, .pinned, .pinned, .pinned], laidTests := true, laidLooks := .later }
def FnLexStopsUptoCardSaid : Prop := Claim7.holds Tryz.pinned (.plain (OpenSpec.upto fnLexStopsSpec)) fnLexStopsUptoCard

/-- THE SECOND FORM's CARD OF 'laws.FnLexWords'. -/
def fnLexWordsUptoCard : Claim7 := { stood := { row := fnLexWordsUptoRow, standIns := [], harness := (true, "a92ab8874570623de4eb9d62b68edb57ef9df8d28f15adf846105b3b3606f6f9"), looks := true }, kinds := [], alts := [], laidByText := true, laidKinds := [.data, .data, .widerDeep, .widerDeep, .data, .data, .data, .data, .data, .data, .sentinel, .sentinel, .sentinel, .sentinel, .pinned, .pinned, .pinned, .pinned, .pinned, .pinned, .pinned, .pinned], laidTests := true, laidLooks := .later }
def FnLexWordsUptoCardSaid : Prop := Claim7.holds Tryz.pinned (.plain (OpenSpec.upto fnLexWordsSpec)) fnLexWordsUptoCard

/-- THE SECOND FORM's CARD OF 'laws.FnLexOffset'. -/
def fnLexOffsetUptoCard : Claim7 := { stood := { row := fnLexOffsetUptoRow, standIns := [], harness := (true, "a92ab8874570623de4eb9d62b68edb57ef9df8d28f15adf846105b3b3606f6f9"), looks := true }, kinds := [], alts := [], laidByText := true, laidKinds := [.data, .data, .widerDeep, .widerDeep, .data, .data, .data, .data, .data, .data, .sentinel, .sentinel, .sentinel, .sentinel, .pinned, .pinned, .pinned, .pinned, .pinned, .pinned, .pinned, .pinned], laidTests := true, laidLooks := .later }
def FnLexOffsetUptoCardSaid : Prop := Claim7.holds Tryz.pinned (.plain (OpenSpec.upto fnLexOffsetSpec)) fnLexOffsetUptoCard

/-- THE SECOND FORM's CARD OF 'laws.FnLexGrammarRefused'. -/
def fnLexGrammarRefusedUptoCard : Claim7 := { stood := { row := fnLexGrammarRefusedUptoRow, standIns := [], harness := (true, "a92ab8874570623de4eb9d62b68edb57ef9df8d28f15adf846105b3b3606f6f9"), looks := true }, kinds := [], alts := [], laidByText := true, laidKinds := [.data, .data, .widerDeep, .widerDeep, .data, .data, .data, .data, .data, .data, .sentinel, .sentinel, .sentinel, .sentinel, .pinned, .pinned, .pinned, .pinned, .pinned, .pinned, .pinned, .pinned], laidTests := true, laidLooks := .later }
def FnLexGrammarRefusedUptoCardSaid : Prop := Claim7.holds Tryz.pinned (.plain (OpenSpec.upto fnLexGrammarRefusedSpec)) fnLexGrammarRefusedUptoCard
end Rows
end Go.Proofs.YtaecbclonmhbcaaGreatDoor
