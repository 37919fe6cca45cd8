/-
  DERIVED. GIVEN WITH THE SEED: THE CARDS: each row of YtlallleahgfdkaaGreatDoorRows.lean that lists a variable, with what it lists TIED to the program's text (the seventh form; the later family's looks); each row that meets fmt, with fmt's text TOLD by the authors' own Lean function (tested against real Go, not proved from fmt's source: count such statements apart). THE CARD IS WHAT COUNTS. Prove the row's statement (the work); the ties are given (YtlallleahgfdkaaGreatDoorTie.lean); close each card by the builder's one call (the guide's Derived/Test/ToyasCard.lean, 'card_holds'). Laid BY PROGRAM, IN A SANDBOX (cutbox-door.mjs). By AI agents, Wed Nov 11 2026. No macro, syntax, notation, axiom, sorry.
-/
import Derived.Test.YtlallleahgfdkaaGreatDoorRows
import GoSem.ClaimSeven
namespace Go.Proofs.YtlallleahgfdkaaGreatDoor
namespace Rows

/-- THE TIED CARD OF 'laws.FnContains'. -/
def fnContainsCard : Claim7 := { stood := { row := fnContainsRow, standIns := [], harness := (true, "50f7e90de15ab9fde7f2377b9b9207f5e20078c1967b27e4dc9aeca615b92030"), looks := true }, kinds := [], alts := [], laidByText := true, laidKinds := [.data, .data, .data], laidTests := true, laidLooks := .later }
def FnContainsCardSaid : Prop := Claim7.holds Tryz.pinned (.plain (OpenSpec.ofChange fnContainsSpec)) fnContainsCard

/-- THE TIED CARD OF 'laws.FnTrimmedPut'. -/
def fnTrimmedPutCard : Claim7 := { stood := { row := fnTrimmedPutRow, standIns := [], harness := (true, "50f7e90de15ab9fde7f2377b9b9207f5e20078c1967b27e4dc9aeca615b92030"), looks := true }, kinds := [], alts := [], laidByText := true, laidKinds := [.data, .data, .data], laidTests := true, laidLooks := .later }
def FnTrimmedPutCardSaid : Prop := Claim7.holds Tryz.pinned (.plain (OpenSpec.ofChange fnTrimmedPutSpec)) fnTrimmedPutCard

/-- THE TIED CARD OF 'laws.FnDecodeHex'. -/
def fnDecodeHexCard : Claim7 := { stood := { row := fnDecodeHexRow, standIns := [], harness := (true, "50f7e90de15ab9fde7f2377b9b9207f5e20078c1967b27e4dc9aeca615b92030"), looks := true }, kinds := [], alts := [], laidByText := true, laidKinds := [.data, .data, .data, .data, .sentinel, .pinned, .pinned], laidTests := true, laidLooks := .later }
def FnDecodeHexCardSaid : Prop := Claim7.holds Tryz.pinned (.plain (OpenSpec.ofChange fnDecodeHexSpec)) fnDecodeHexCard

/-- THE TIED CARD OF 'laws.FnLetters'. -/
def fnLettersCard : Claim7 := { stood := { row := fnLettersRow, standIns := [], harness := (true, "50f7e90de15ab9fde7f2377b9b9207f5e20078c1967b27e4dc9aeca615b92030"), looks := true }, kinds := [], alts := [], laidByText := true, laidKinds := [.data, .data, .data, .data, .pinned, .pinned], laidTests := true, laidLooks := .later }
def FnLettersCardSaid : Prop := Claim7.holds Tryz.pinned (.plain (OpenSpec.ofChange fnLettersSpec)) fnLettersCard

/-- THE TIED CARD OF 'laws.FnLettersAgree'. -/
def fnLettersAgreeCard : Claim7 := { stood := { row := fnLettersAgreeRow, standIns := [], harness := (true, "50f7e90de15ab9fde7f2377b9b9207f5e20078c1967b27e4dc9aeca615b92030"), looks := true }, kinds := [], alts := [], laidByText := true, laidKinds := [.data, .data, .data, .data, .pinned, .pinned], laidTests := true, laidLooks := .later }
def FnLettersAgreeCardSaid : Prop := Claim7.holds Tryz.pinned (.plain (OpenSpec.ofChange fnLettersAgreeSpec)) fnLettersAgreeCard

/-- THE TIED CARD OF 'laws.FnTrimEnds'. -/
def fnTrimEndsCard : Claim7 := { stood := { row := fnTrimEndsRow, standIns := [], harness := (true, "50f7e90de15ab9fde7f2377b9b9207f5e20078c1967b27e4dc9aeca615b92030"), looks := true }, kinds := [], alts := [], laidByText := true, laidKinds := [.data, .data, .data, .data, .pinned, .pinned], laidTests := true, laidLooks := .later }
def FnTrimEndsCardSaid : Prop := Claim7.holds Tryz.pinned (.plain (OpenSpec.ofChange fnTrimEndsSpec)) fnTrimEndsCard

/-- THE TIED CARD OF 'laws.FnReverse'. -/
def fnReverseCard : Claim7 := { stood := { row := fnReverseRow, standIns := [], harness := (true, "50f7e90de15ab9fde7f2377b9b9207f5e20078c1967b27e4dc9aeca615b92030"), looks := true }, kinds := [], alts := [], laidByText := true, laidKinds := [.data, .data, .data, .data, .pinned, .pinned], laidTests := true, laidLooks := .later }
def FnReverseCardSaid : Prop := Claim7.holds Tryz.pinned (.plain (OpenSpec.ofChange fnReverseSpec)) fnReverseCard

/-- THE TIED CARD OF 'laws.FnTrim'. -/
def fnTrimCard : Claim7 := { stood := { row := fnTrimRow, standIns := [], harness := (true, "50f7e90de15ab9fde7f2377b9b9207f5e20078c1967b27e4dc9aeca615b92030"), looks := true }, kinds := [], alts := [], laidByText := true, laidKinds := [.data, .data, .data, .data, .pinned, .pinned], laidTests := true, laidLooks := .later }
def FnTrimCardSaid : Prop := Claim7.holds Tryz.pinned (.plain (OpenSpec.ofChange fnTrimSpec)) fnTrimCard

/-- THE TIED CARD OF 'laws.FnTrimmedTwice'. -/
def fnTrimmedTwiceCard : Claim7 := { stood := { row := fnTrimmedTwiceRow, standIns := [], harness := (true, "50f7e90de15ab9fde7f2377b9b9207f5e20078c1967b27e4dc9aeca615b92030"), looks := true }, kinds := [], alts := [], laidByText := true, laidKinds := [.data, .data, .data, .data, .pinned, .pinned], laidTests := true, laidLooks := .later }
def FnTrimmedTwiceCardSaid : Prop := Claim7.holds Tryz.pinned (.plain (OpenSpec.ofChange fnTrimmedTwiceSpec)) fnTrimmedTwiceCard

/-- THE TIED CARD OF 'laws.FnCount'. -/
def fnCountCard : Claim7 := { stood := { row := fnCountRow, standIns := [], harness := (true, "50f7e90de15ab9fde7f2377b9b9207f5e20078c1967b27e4dc9aeca615b92030"), looks := true }, kinds := [], alts := [], laidByText := true, laidKinds := [.data, .data, .data, .data, .pinned, .pinned], laidTests := true, laidLooks := .later }
def FnCountCardSaid : Prop := Claim7.holds Tryz.pinned (.plain (OpenSpec.ofChange fnCountSpec)) fnCountCard

/-- THE TIED CARD OF 'laws.FnReversed'. -/
def fnReversedCard : Claim7 := { stood := { row := fnReversedRow, standIns := [], harness := (true, "50f7e90de15ab9fde7f2377b9b9207f5e20078c1967b27e4dc9aeca615b92030"), looks := true }, kinds := [], alts := [], laidByText := true, laidKinds := [.data, .data, .data, .data, .pinned, .pinned], laidTests := true, laidLooks := .later }
def FnReversedCardSaid : Prop := Claim7.holds Tryz.pinned (.plain (OpenSpec.ofChange fnReversedSpec)) fnReversedCard

/-- THE TIED CARD OF 'laws.FnInParts'. -/
def fnInPartsCard : Claim7 := { stood := { row := fnInPartsRow, standIns := [], harness := (true, "50f7e90de15ab9fde7f2377b9b9207f5e20078c1967b27e4dc9aeca615b92030"), looks := true }, kinds := [], alts := [], laidByText := true, laidKinds := [.data, .data, .data, .data, .pinned, .pinned], laidTests := true, laidLooks := .later }
def FnInPartsCardSaid : Prop := Claim7.holds Tryz.pinned (.plain (OpenSpec.ofChange fnInPartsSpec)) fnInPartsCard

/-- THE TIED CARD OF 'laws.FnSubstring'. -/
def fnSubstringCard : Claim7 := { stood := { row := fnSubstringRow, standIns := [], harness := (true, "50f7e90de15ab9fde7f2377b9b9207f5e20078c1967b27e4dc9aeca615b92030"), looks := true }, kinds := [], alts := [], laidByText := true, laidKinds := [.data, .data, .data, .data, .pinned, .pinned], laidTests := true, laidLooks := .later }
def FnSubstringCardSaid : Prop := Claim7.holds Tryz.pinned (.plain (OpenSpec.ofChange fnSubstringSpec)) fnSubstringCard

/-- THE TIED CARD OF 'laws.FnDecodedBack'. -/
def fnDecodedBackCard : Claim7 := { stood := { row := fnDecodedBackRow, standIns := [], harness := (true, "50f7e90de15ab9fde7f2377b9b9207f5e20078c1967b27e4dc9aeca615b92030"), looks := true }, kinds := [], alts := [], laidByText := true, laidKinds := [.data, .data, .data, .sentinel], laidTests := true, laidLooks := .later }
def FnDecodedBackCardSaid : Prop := Claim7.holds Tryz.pinned (.plain (OpenSpec.ofChange fnDecodedBackSpec)) fnDecodedBackCard

/-- THE SECOND FORM's CARD OF 'laws.FnContains'. -/
def fnContainsUptoCard : Claim7 := { stood := { row := fnContainsUptoRow, standIns := [], harness := (true, "50f7e90de15ab9fde7f2377b9b9207f5e20078c1967b27e4dc9aeca615b92030"), looks := true }, kinds := [], alts := [], laidByText := true, laidKinds := [.data, .data, .data], laidTests := true, laidLooks := .later }
def FnContainsUptoCardSaid : Prop := Claim7.holds Tryz.pinned (.plain (OpenSpec.upto fnContainsSpec)) fnContainsUptoCard

/-- THE SECOND FORM's CARD OF 'laws.FnTrimmedPut'. -/
def fnTrimmedPutUptoCard : Claim7 := { stood := { row := fnTrimmedPutUptoRow, standIns := [], harness := (true, "50f7e90de15ab9fde7f2377b9b9207f5e20078c1967b27e4dc9aeca615b92030"), looks := true }, kinds := [], alts := [], laidByText := true, laidKinds := [.data, .data, .data], laidTests := true, laidLooks := .later }
def FnTrimmedPutUptoCardSaid : Prop := Claim7.holds Tryz.pinned (.plain (OpenSpec.upto fnTrimmedPutSpec)) fnTrimmedPutUptoCard

/-- THE SECOND FORM's CARD OF 'laws.FnDecodeHex'. -/
def fnDecodeHexUptoCard : Claim7 := { stood := { row := fnDecodeHexUptoRow, standIns := [], harness := (true, "50f7e90de15ab9fde7f2377b9b9207f5e20078c1967b27e4dc9aeca615b92030"), looks := true }, kinds := [], alts := [], laidByText := true, laidKinds := [.data, .data, .data, .data, .sentinel, .pinned, .pinned], laidTests := true, laidLooks := .later }
def FnDecodeHexUptoCardSaid : Prop := Claim7.holds Tryz.pinned (.plain (OpenSpec.upto fnDecodeHexSpec)) fnDecodeHexUptoCard

/-- THE SECOND FORM's CARD OF 'laws.FnLetters'. -/
def fnLettersUptoCard : Claim7 := { stood := { row := fnLettersUptoRow, standIns := [], harness := (true, "50f7e90de15ab9fde7f2377b9b9207f5e20078c1967b27e4dc9aeca615b92030"), looks := true }, kinds := [], alts := [], laidByText := true, laidKinds := [.data, .data, .data, .data, .pinned, .pinned], laidTests := true, laidLooks := .later }
def FnLettersUptoCardSaid : Prop := Claim7.holds Tryz.pinned (.plain (OpenSpec.upto fnLettersSpec)) fnLettersUptoCard

/-- THE SECOND FORM's CARD OF 'laws.FnLettersAgree'. -/
def fnLettersAgreeUptoCard : Claim7 := { stood := { row := fnLettersAgreeUptoRow, standIns := [], harness := (true, "50f7e90de15ab9fde7f2377b9b9207f5e20078c1967b27e4dc9aeca615b92030"), looks := true }, kinds := [], alts := [], laidByText := true, laidKinds := [.data, .data, .data, .data, .pinned, .pinned], laidTests := true, laidLooks := .later }
def FnLettersAgreeUptoCardSaid : Prop := Claim7.holds Tryz.pinned (.plain (OpenSpec.upto fnLettersAgreeSpec)) fnLettersAgreeUptoCard

/-- THE SECOND FORM's CARD OF 'laws.FnTrimEnds'. -/
def fnTrimEndsUptoCard : Claim7 := { stood := { row := fnTrimEndsUptoRow, standIns := [], harness := (true, "50f7e90de15ab9fde7f2377b9b9207f5e20078c1967b27e4dc9aeca615b92030"), looks := true }, kinds := [], alts := [], laidByText := true, laidKinds := [.data, .data, .data, .data, .pinned, .pinned], laidTests := true, laidLooks := .later }
def FnTrimEndsUptoCardSaid : Prop := Claim7.holds Tryz.pinned (.plain (OpenSpec.upto fnTrimEndsSpec)) fnTrimEndsUptoCard

/-- THE SECOND FORM's CARD OF 'laws.FnReverse'. -/
def fnReverseUptoCard : Claim7 := { stood := { row := fnReverseUptoRow, standIns := [], harness := (true, "50f7e90de15ab9fde7f2377b9b9207f5e20078c1967b27e4dc9aeca615b92030"), looks := true }, kinds := [], alts := [], laidByText := true, laidKinds := [.data, .data, .data, .data, .pinned, .pinned], laidTests := true, laidLooks := .later }
def FnReverseUptoCardSaid : Prop := Claim7.holds Tryz.pinned (.plain (OpenSpec.upto fnReverseSpec)) fnReverseUptoCard

/-- THE SECOND FORM's CARD OF 'laws.FnTrim'. -/
def fnTrimUptoCard : Claim7 := { stood := { row := fnTrimUptoRow, standIns := [], harness := (true, "50f7e90de15ab9fde7f2377b9b9207f5e20078c1967b27e4dc9aeca615b92030"), looks := true }, kinds := [], alts := [], laidByText := true, laidKinds := [.data, .data, .data, .data, .pinned, .pinned], laidTests := true, laidLooks := .later }
def FnTrimUptoCardSaid : Prop := Claim7.holds Tryz.pinned (.plain (OpenSpec.upto fnTrimSpec)) fnTrimUptoCard

/-- THE SECOND FORM's CARD OF 'laws.FnTrimmedTwice'. -/
def fnTrimmedTwiceUptoCard : Claim7 := { stood := { row := fnTrimmedTwiceUptoRow, standIns := [], harness := (true, "50f7e90de15ab9fde7f2377b9b9207f5e20078c1967b27e4dc9aeca615b92030"), looks := true }, kinds := [], alts := [], laidByText := true, laidKinds := [.data, .data, .data, .data, .pinned, .pinned], laidTests := true, laidLooks := .later }
def FnTrimmedTwiceUptoCardSaid : Prop := Claim7.holds Tryz.pinned (.plain (OpenSpec.upto fnTrimmedTwiceSpec)) fnTrimmedTwiceUptoCard

/-- THE SECOND FORM's CARD OF 'laws.FnCount'. -/
def fnCountUptoCard : Claim7 := { stood := { row := fnCountUptoRow, standIns := [], harness := (true, "50f7e90de15ab9fde7f2377b9b9207f5e20078c1967b27e4dc9aeca615b92030"), looks := true }, kinds := [], alts := [], laidByText := true, laidKinds := [.data, .data, .data, .data, .pinned, .pinned], laidTests := true, laidLooks := .later }
def FnCountUptoCardSaid : Prop := Claim7.holds Tryz.pinned (.plain (OpenSpec.upto fnCountSpec)) fnCountUptoCard

/-- THE SECOND FORM's CARD OF 'laws.FnReversed'. -/
def fnReversedUptoCard : Claim7 := { stood := { row := fnReversedUptoRow, standIns := [], harness := (true, "50f7e90de15ab9fde7f2377b9b9207f5e20078c1967b27e4dc9aeca615b92030"), looks := true }, kinds := [], alts := [], laidByText := true, laidKinds := [.data, .data, .data, .data, .pinned, .pinned], laidTests := true, laidLooks := .later }
def FnReversedUptoCardSaid : Prop := Claim7.holds Tryz.pinned (.plain (OpenSpec.upto fnReversedSpec)) fnReversedUptoCard

/-- THE SECOND FORM's CARD OF 'laws.FnInParts'. -/
def fnInPartsUptoCard : Claim7 := { stood := { row := fnInPartsUptoRow, standIns := [], harness := (true, "50f7e90de15ab9fde7f2377b9b9207f5e20078c1967b27e4dc9aeca615b92030"), looks := true }, kinds := [], alts := [], laidByText := true, laidKinds := [.data, .data, .data, .data, .pinned, .pinned], laidTests := true, laidLooks := .later }
def FnInPartsUptoCardSaid : Prop := Claim7.holds Tryz.pinned (.plain (OpenSpec.upto fnInPartsSpec)) fnInPartsUptoCard

/-- THE SECOND FORM's CARD OF 'laws.FnSubstring'. -/
def fnSubstringUptoCard : Claim7 := { stood := { row := fnSubstringUptoRow, standIns := [], harness := (true, "50f7e90de15ab9fde7f2377b9b9207f5e20078c1967b27e4dc9aeca615b92030"), looks := true }, kinds := [], alts := [], laidByText := true, laidKinds := [.data, .data, .data, .data, .pinned, .pinned], laidTests := true, laidLooks := .later }
def FnSubstringUptoCardSaid : Prop := Claim7.holds Tryz.pinned (.plain (OpenSpec.upto fnSubstringSpec)) fnSubstringUptoCard

/-- THE SECOND FORM's CARD OF 'laws.FnDecodedBack'. -/
def fnDecodedBackUptoCard : Claim7 := { stood := { row := fnDecodedBackUptoRow, standIns := [], harness := (true, "50f7e90de15ab9fde7f2377b9b9207f5e20078c1967b27e4dc9aeca615b92030"), looks := true }, kinds := [], alts := [], laidByText := true, laidKinds := [.data, .data, .data, .sentinel], laidTests := true, laidLooks := .later }
def FnDecodedBackUptoCardSaid : Prop := Claim7.holds Tryz.pinned (.plain (OpenSpec.upto fnDecodedBackSpec)) fnDecodedBackUptoCard
end Rows
end Go.Proofs.YtlallleahgfdkaaGreatDoor
