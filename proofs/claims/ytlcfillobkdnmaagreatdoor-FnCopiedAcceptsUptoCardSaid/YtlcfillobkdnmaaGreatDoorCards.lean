/-
  DERIVED. GIVEN WITH THE SEED: THE CARDS: each row of YtlcfillobkdnmaaGreatDoorRows.lean that lists a variable, with what it lists TIED to the program's text (the seventh form; the later family's looks); each row that meets fmt, with fmt's text TOLD by the authors' own Lean function (tested against real Go, not proved from fmt's source: count such statements apart). THE CARD IS WHAT COUNTS. Prove the row's statement (the work); the ties are given (YtlcfillobkdnmaaGreatDoorTie.lean); close each card by the builder's one call (the guide's Derived/Test/ToyasCard.lean, 'card_holds'). Laid BY PROGRAM, IN A SANDBOX (cutbox-door.mjs). By AI agents, Wed Nov 11 2026. No macro, syntax, notation, axiom, sorry.
-/
import Derived.Test.YtlcfillobkdnmaaGreatDoorRows
import GoSem.ClaimSeven
namespace Go.Proofs.YtlcfillobkdnmaaGreatDoor
namespace Rows

/-- THE TIED CARD OF 'laws.FnTexted'. -/
def fnTextedCard : Claim7 := { stood := { row := fnTextedRow, standIns := [], harness := (true, "346520bae4b43cbc78de553922e6c372dabaf0bd005df9aafc629d77d30e4085"), looks := true }, kinds := [], alts := [], laidByText := true, laidKinds := [.data, .data, .widerDeep, .widerDeep, .data, .data, .data, .data, .data, .sentinel, .sentinel, .pinned, .pinned], laidTests := true, laidLooks := .later }
def FnTextedCardSaid : Prop := Claim7.holds Tryz.pinned (.plain (OpenSpec.ofChange fnTextedSpec)) fnTextedCard

/-- THE TIED CARD OF 'laws.FnWritten'. -/
def fnWrittenCard : Claim7 := { stood := { row := fnWrittenRow, standIns := [], harness := (true, "346520bae4b43cbc78de553922e6c372dabaf0bd005df9aafc629d77d30e4085"), looks := true }, kinds := [], alts := [], laidByText := true, laidKinds := [.data, .data, .widerDeep, .widerDeep, .data, .data, .data, .data, .data, .sentinel, .sentinel, .pinned, .pinned], laidTests := true, laidLooks := .later }
def FnWrittenCardSaid : Prop := Claim7.holds Tryz.pinned (.plain (OpenSpec.ofChange fnWrittenSpec)) fnWrittenCard

/-- THE TIED CARD OF 'laws.FnWrittenTwice'. -/
def fnWrittenTwiceCard : Claim7 := { stood := { row := fnWrittenTwiceRow, standIns := [], harness := (true, "346520bae4b43cbc78de553922e6c372dabaf0bd005df9aafc629d77d30e4085"), looks := true }, kinds := [], alts := [], laidByText := true, laidKinds := [.data, .data, .widerDeep, .widerDeep, .data, .data, .data, .data, .data, .sentinel, .sentinel, .pinned, .pinned], laidTests := true, laidLooks := .later }
def FnWrittenTwiceCardSaid : Prop := Claim7.holds Tryz.pinned (.plain (OpenSpec.ofChange fnWrittenTwiceSpec)) fnWrittenTwiceCard

/-- THE TIED CARD OF 'laws.FnAdded'. -/
def fnAddedCard : Claim7 := { stood := { row := fnAddedRow, standIns := [], harness := (true, "346520bae4b43cbc78de553922e6c372dabaf0bd005df9aafc629d77d30e4085"), looks := true }, kinds := [], alts := [], laidByText := true, laidKinds := [.data, .data, .widerDeep, .widerDeep, .data, .data, .data, .data, .data, .sentinel, .sentinel, .pinned, .pinned], laidTests := true, laidLooks := .later }
def FnAddedCardSaid : Prop := Claim7.holds Tryz.pinned (.plain (OpenSpec.ofChange fnAddedSpec)) fnAddedCard

/-- THE TIED CARD OF 'laws.FnFound'. -/
def fnFoundCard : Claim7 := { stood := { row := fnFoundRow, standIns := [], harness := (true, "346520bae4b43cbc78de553922e6c372dabaf0bd005df9aafc629d77d30e4085"), looks := true }, kinds := [], alts := [], laidByText := true, laidKinds := [.data, .data, .widerDeep, .widerDeep, .data, .data, .data, .data, .data, .sentinel, .sentinel, .pinned, .pinned], laidTests := true, laidLooks := .later }
def FnFoundCardSaid : Prop := Claim7.holds Tryz.pinned (.plain (OpenSpec.ofChange fnFoundSpec)) fnFoundCard

/-- THE TIED CARD OF 'laws.FnPointed'. -/
def fnPointedCard : Claim7 := { stood := { row := fnPointedRow, standIns := [], harness := (true, "346520bae4b43cbc78de553922e6c372dabaf0bd005df9aafc629d77d30e4085"), looks := true }, kinds := [], alts := [], laidByText := true, laidKinds := [.data, .data, .widerDeep, .widerDeep, .data, .data, .data, .data, .data, .sentinel, .sentinel, .pinned, .pinned], laidTests := true, laidLooks := .later }
def FnPointedCardSaid : Prop := Claim7.holds Tryz.pinned (.plain (OpenSpec.ofChange fnPointedSpec)) fnPointedCard

/-- THE TIED CARD OF 'laws.FnCopied'. -/
def fnCopiedCard : Claim7 := { stood := { row := fnCopiedRow, standIns := [], harness := (true, "346520bae4b43cbc78de553922e6c372dabaf0bd005df9aafc629d77d30e4085"), looks := true }, kinds := [], alts := [], laidByText := true, laidKinds := [.data, .data, .widerDeep, .widerDeep, .data, .data, .data, .data, .data, .sentinel, .sentinel, .pinned, .pinned], laidTests := true, laidLooks := .later }
def FnCopiedCardSaid : Prop := Claim7.holds Tryz.pinned (.plain (OpenSpec.ofChange fnCopiedSpec)) fnCopiedCard

/-- THE TIED CARD OF 'laws.FnCopiedAccepts'. -/
def fnCopiedAcceptsCard : Claim7 := { stood := { row := fnCopiedAcceptsRow, standIns := [], harness := (true, "346520bae4b43cbc78de553922e6c372dabaf0bd005df9aafc629d77d30e4085"), looks := true }, kinds := [], alts := [], laidByText := true, laidKinds := [.data, .data, .widerDeep, .widerDeep, .data, .data, .data, .data, .data, .sentinel, .sentinel, .pinned, .pinned], laidTests := true, laidLooks := .later }
def FnCopiedAcceptsCardSaid : Prop := Claim7.holds Tryz.pinned (.plain (OpenSpec.ofChange fnCopiedAcceptsSpec)) fnCopiedAcceptsCard

/-- THE TIED CARD OF 'laws.FnAllSteps'. -/
def fnAllStepsCard : Claim7 := { stood := { row := fnAllStepsRow, standIns := [], harness := (true, "346520bae4b43cbc78de553922e6c372dabaf0bd005df9aafc629d77d30e4085"), looks := true }, kinds := [], alts := [], laidByText := true, laidKinds := [.data, .data, .widerDeep, .widerDeep, .data, .data, .data, .data, .data, .sentinel, .sentinel, .pinned, .pinned], laidTests := true, laidLooks := .later }
def FnAllStepsCardSaid : Prop := Claim7.holds Tryz.pinned (.plain (OpenSpec.ofChange fnAllStepsSpec)) fnAllStepsCard

/-- THE TIED CARD OF 'laws.FnChosen'. -/
def fnChosenCard : Claim7 := { stood := { row := fnChosenRow, standIns := [], harness := (true, "346520bae4b43cbc78de553922e6c372dabaf0bd005df9aafc629d77d30e4085"), looks := true }, kinds := [], alts := [], laidByText := true, laidKinds := [.data, .data, .widerDeep, .widerDeep, .data, .data, .data, .data, .data, .sentinel, .sentinel, .pinned, .pinned], laidTests := true, laidLooks := .later }
def FnChosenCardSaid : Prop := Claim7.holds Tryz.pinned (.plain (OpenSpec.ofChange fnChosenSpec)) fnChosenCard

/-- THE TIED CARD OF 'laws.FnChosenNarrows'. -/
def fnChosenNarrowsCard : Claim7 := { stood := { row := fnChosenNarrowsRow, standIns := [], harness := (true, "346520bae4b43cbc78de553922e6c372dabaf0bd005df9aafc629d77d30e4085"), looks := true }, kinds := [], alts := [], laidByText := true, laidKinds := [.data, .data, .widerDeep, .widerDeep, .data, .data, .data, .data, .data, .sentinel, .sentinel, .pinned, .pinned], laidTests := true, laidLooks := .later }
def FnChosenNarrowsCardSaid : Prop := Claim7.holds Tryz.pinned (.plain (OpenSpec.ofChange fnChosenNarrowsSpec)) fnChosenNarrowsCard

/-- THE TIED CARD OF 'laws.FnMerged'. -/
def fnMergedCard : Claim7 := { stood := { row := fnMergedRow, standIns := [], harness := (true, "346520bae4b43cbc78de553922e6c372dabaf0bd005df9aafc629d77d30e4085"), looks := true }, kinds := [], alts := [], laidByText := true, laidKinds := [.data, .data, .widerDeep, .widerDeep, .data, .data, .data, .data, .data, .sentinel, .sentinel, .pinned, .pinned], laidTests := true, laidLooks := .later }
def FnMergedCardSaid : Prop := Claim7.holds Tryz.pinned (.plain (OpenSpec.ofChange fnMergedSpec)) fnMergedCard

/-- THE TIED CARD OF 'laws.FnMergedAccepts'. -/
def fnMergedAcceptsCard : Claim7 := { stood := { row := fnMergedAcceptsRow, standIns := [], harness := (true, "346520bae4b43cbc78de553922e6c372dabaf0bd005df9aafc629d77d30e4085"), looks := true }, kinds := [], alts := [], laidByText := true, laidKinds := [.data, .data, .widerDeep, .widerDeep, .data, .data, .data, .data, .data, .sentinel, .sentinel, .pinned, .pinned], laidTests := true, laidLooks := .later }
def FnMergedAcceptsCardSaid : Prop := Claim7.holds Tryz.pinned (.plain (OpenSpec.ofChange fnMergedAcceptsSpec)) fnMergedAcceptsCard

/-- THE TIED CARD OF 'laws.FnResolved'. -/
def fnResolvedCard : Claim7 := { stood := { row := fnResolvedRow, standIns := [], harness := (true, "346520bae4b43cbc78de553922e6c372dabaf0bd005df9aafc629d77d30e4085"), looks := true }, kinds := [], alts := [], laidByText := true, laidKinds := [.data, .data, .widerDeep, .widerDeep, .data, .data, .data, .data, .data, .sentinel, .sentinel, .pinned, .pinned], laidTests := true, laidLooks := .later }
def FnResolvedCardSaid : Prop := Claim7.holds Tryz.pinned (.plain (OpenSpec.ofChange fnResolvedSpec)) fnResolvedCard

/-- THE TIED CARD OF 'laws.FnResolvedAccepts'. -/
def fnResolvedAcceptsCard : Claim7 := { stood := { row := fnResolvedAcceptsRow, standIns := [], harness := (true, "346520bae4b43cbc78de553922e6c372dabaf0bd005df9aafc629d77d30e4085"), looks := true }, kinds := [], alts := [], laidByText := true, laidKinds := [.data, .data, .widerDeep, .widerDeep, .data, .data, .data, .data, .data, .sentinel, .sentinel, .pinned, .pinned], laidTests := true, laidLooks := .later }
def FnResolvedAcceptsCardSaid : Prop := Claim7.holds Tryz.pinned (.plain (OpenSpec.ofChange fnResolvedAcceptsSpec)) fnResolvedAcceptsCard

/-- THE TIED CARD OF 'laws.FnResolvedTwice'. -/
def fnResolvedTwiceCard : Claim7 := { stood := { row := fnResolvedTwiceRow, standIns := [], harness := (true, "346520bae4b43cbc78de553922e6c372dabaf0bd005df9aafc629d77d30e4085"), looks := true }, kinds := [], alts := [], laidByText := true, laidKinds := [.data, .data, .widerDeep, .widerDeep, .data, .data, .data, .data, .data, .sentinel, .sentinel, .pinned, .pinned], laidTests := true, laidLooks := .later }
def FnResolvedTwiceCardSaid : Prop := Claim7.holds Tryz.pinned (.plain (OpenSpec.ofChange fnResolvedTwiceSpec)) fnResolvedTwiceCard

/-- THE SECOND FORM's CARD OF 'laws.FnTexted'. -/
def fnTextedUptoCard : Claim7 := { stood := { row := fnTextedUptoRow, standIns := [], harness := (true, "346520bae4b43cbc78de553922e6c372dabaf0bd005df9aafc629d77d30e4085"), looks := true }, kinds := [], alts := [], laidByText := true, laidKinds := [.data, .data, .widerDeep, .widerDeep, .data, .data, .data, .data, .data, .sentinel, .sentinel, .pinned, .pinned], laidTests := true, laidLooks := .later }
def FnTextedUptoCardSaid : Prop := Claim7.holds Tryz.pinned (.plain (OpenSpec.upto fnTextedSpec)) fnTextedUptoCard

/-- THE SECOND FORM's CARD OF 'laws.FnWritten'. -/
def fnWrittenUptoCard : Claim7 := { stood := { row := fnWrittenUptoRow, standIns := [], harness := (true, "346520bae4b43cbc78de553922e6c372dabaf0bd005df9aafc629d77d30e4085"), looks := true }, kinds := [], alts := [], laidByText := true, laidKinds := [.data, .data, .widerDeep, .widerDeep, .data, .data, .data, .data, .data, .sentinel, .sentinel, .pinned, .pinned], laidTests := true, laidLooks := .later }
def FnWrittenUptoCardSaid : Prop := Claim7.holds Tryz.pinned (.plain (OpenSpec.upto fnWrittenSpec)) fnWrittenUptoCard

/-- THE SECOND FORM's CARD OF 'laws.FnWrittenTwice'. -/
def fnWrittenTwiceUptoCard : Claim7 := { stood := { row := fnWrittenTwiceUptoRow, standIns := [], harness := (true, "346520bae4b43cbc78de553922e6c372dabaf0bd005df9aafc629d77d30e4085"), looks := true }, kinds := [], alts := [], laidByText := true, laidKinds := [.data, .data, .widerDeep, .widerDeep, .data, .data, .data, .data, .data, .sentinel, .sentinel, .pinned, .pinned], laidTests := true, laidLooks := .later }
def FnWrittenTwiceUptoCardSaid : Prop := Claim7.holds Tryz.pinned (.plain (OpenSpec.upto fnWrittenTwiceSpec)) fnWrittenTwiceUptoCard

/-- THE SECOND FORM's CARD OF 'laws.FnAdded'. -/
def fnAddedUptoCard : Claim7 := { stood := { row := fnAddedUptoRow, standIns := [], harness := (true, "346520bae4b43cbc78de553922e6c372dabaf0bd005df9aafc629d77d30e4085"), looks := true }, kinds := [], alts := [], laidByText := true, laidKinds := [.data, .data, .widerDeep, .widerDeep, .data, .data, .data, .data, .data, .sentinel, .sentinel, .pinned, .pinned], laidTests := true, laidLooks := .later }
def FnAddedUptoCardSaid : Prop := Claim7.holds Tryz.pinned (.plain (OpenSpec.upto fnAddedSpec)) fnAddedUptoCard

/-- THE SECOND FORM's CARD OF 'laws.FnFound'. -/
def fnFoundUptoCard : Claim7 := { stood := { row := fnFoundUptoRow, standIns := [], harness := (true, "346520bae4b43cbc78de553922e6c372dabaf0bd005df9aafc629d77d30e4085"), looks := true }, kinds := [], alts := [], laidByText := true, laidKinds := [.data, .data, .widerDeep, .widerDeep, .data, .data, .data, .data, .data, .sentinel, .sentinel, .pinned, .pinned], laidTests := true, laidLooks := .later }
def FnFoundUptoCardSaid : Prop := Claim7.holds Tryz.pinned (.plain (OpenSpec.upto fnFoundSpec)) fnFoundUptoCard

/-- THE SECOND FORM's CARD OF 'laws.FnPointed'. -/
def fnPointedUptoCard : Claim7 := { stood := { row := fnPointedUptoRow, standIns := [], harness := (true, "346520bae4b43cbc78de553922e6c372dabaf0bd005df9aafc629d77d30e4085"), looks := true }, kinds := [], alts := [], laidByText := true, laidKinds := [.data, .data, .widerDeep, .widerDeep, .data, .data, .data, .data, .data, .sentinel, .sentinel, .pinned, .pinned], laidTests := true, laidLooks := .later }
def FnPointedUptoCardSaid : Prop := Claim7.holds Tryz.pinned (.plain (OpenSpec.upto fnPointedSpec)) fnPointedUptoCard

/-- THE SECOND FORM's CARD OF 'laws.FnCopied'. -/
def fnCopiedUptoCard : Claim7 := { stood := { row := fnCopiedUptoRow, standIns := [], harness := (true, "346520bae4b43cbc78de553922e6c372dabaf0bd005df9aafc629d77d30e4085"), looks := true }, kinds := [], alts := [], laidByText := true, laidKinds := [.data, .data, .widerDeep, .widerDeep, .data, .data, .data, .data, .data, .sentinel, .sentinel, .pinned, .pinned], laidTests := true, laidLooks := .later }
def FnCopiedUptoCardSaid : Prop := Claim7.holds Tryz.pinned (.plain (OpenSpec.upto fnCopiedSpec)) fnCopiedUptoCard

/-- THE SECOND FORM's CARD OF 'laws.FnCopiedAccepts'. -/
def fnCopiedAcceptsUptoCard : Claim7 := { stood := { row := fnCopiedAcceptsUptoRow, standIns := [], harness := (true, "346520bae4b43cbc78de553922e6c372dabaf0bd005df9aafc629d77d30e4085"), looks := true }, kinds := [], alts := [], laidByText := true, laidKinds := [.data, .data, .widerDeep, .widerDeep, .data, .data, .data, .data, .data, .sentinel, .sentinel, .pinned, .pinned], laidTests := true, laidLooks := .later }
def FnCopiedAcceptsUptoCardSaid : Prop := Claim7.holds Tryz.pinned (.plain (OpenSpec.upto fnCopiedAcceptsSpec)) fnCopiedAcceptsUptoCard

/-- THE SECOND FORM's CARD OF 'laws.FnAllSteps'. -/
def fnAllStepsUptoCard : Claim7 := { stood := { row := fnAllStepsUptoRow, standIns := [], harness := (true, "346520bae4b43cbc78de553922e6c372dabaf0bd005df9aafc629d77d30e4085"), looks := true }, kinds := [], alts := [], laidByText := true, laidKinds := [.data, .data, .widerDeep, .widerDeep, .data, .data, .data, .data, .data, .sentinel, .sentinel, .pinned, .pinned], laidTests := true, laidLooks := .later }
def FnAllStepsUptoCardSaid : Prop := Claim7.holds Tryz.pinned (.plain (OpenSpec.upto fnAllStepsSpec)) fnAllStepsUptoCard

/-- THE SECOND FORM's CARD OF 'laws.FnChosen'. -/
def fnChosenUptoCard : Claim7 := { stood := { row := fnChosenUptoRow, standIns := [], harness := (true, "346520bae4b43cbc78de553922e6c372dabaf0bd005df9aafc629d77d30e4085"), looks := true }, kinds := [], alts := [], laidByText := true, laidKinds := [.data, .data, .widerDeep, .widerDeep, .data, .data, .data, .data, .data, .sentinel, .sentinel, .pinned, .pinned], laidTests := true, laidLooks := .later }
def FnChosenUptoCardSaid : Prop := Claim7.holds Tryz.pinned (.plain (OpenSpec.upto fnChosenSpec)) fnChosenUptoCard

/-- THE SECOND FORM's CARD OF 'laws.FnChosenNarrows'. -/
def fnChosenNarrowsUptoCard : Claim7 := { stood := { row := fnChosenNarrowsUptoRow, standIns := [], harness := (true, "346520bae4b43cbc78de553922e6c372dabaf0bd005df9aafc629d77d30e4085"), looks := true }, kinds := [], alts := [], laidByText := true, laidKinds := [.data, .data, .widerDeep, .widerDeep, .data, .data, .data, .data, .data, .sentinel, .sentinel, .pinned, .pinned], laidTests := true, laidLooks := .later }
def FnChosenNarrowsUptoCardSaid : Prop := Claim7.holds Tryz.pinned (.plain (OpenSpec.upto fnChosenNarrowsSpec)) fnChosenNarrowsUptoCard

/-- THE SECOND FORM's CARD OF 'laws.FnMerged'. -/
def fnMergedUptoCard : Claim7 := { stood := { row := fnMergedUptoRow, standIns := [], harness := (true, "346520bae4b43cbc78de553922e6c372dabaf0bd005df9aafc629d77d30e4085"), looks := true }, kinds := [], alts := [], laidByText := true, laidKinds := [.data, .data, .widerDeep, .widerDeep, .data, .data, .data, .data, .data, .sentinel, .sentinel, .pinned, .pinned], laidTests := true, laidLooks := .later }
def FnMergedUptoCardSaid : Prop := Claim7.holds Tryz.pinned (.plain (OpenSpec.upto fnMergedSpec)) fnMergedUptoCard

/-- THE SECOND FORM's CARD OF 'laws.FnMergedAccepts'. -/
def fnMergedAcceptsUptoCard : Claim7 := { stood := { row := fnMergedAcceptsUptoRow, standIns := [], harness := (true, "346520bae4b43cbc78de553922e6c372dabaf0bd005df9aafc629d77d30e4085"), looks := true }, kinds := [], alts := [], laidByText := true, laidKinds := [.data, .data, .widerDeep, .widerDeep, .data, .data, .data, .data, .data, .sentinel, .sentinel, .pinned, .pinned], laidTests := true, laidLooks := .later }
def FnMergedAcceptsUptoCardSaid : Prop := Claim7.holds Tryz.pinned (.plain (OpenSpec.upto fnMergedAcceptsSpec)) fnMergedAcceptsUptoCard

/-- THE SECOND FORM's CARD OF 'laws.FnResolved'. -/
def fnResolvedUptoCard : Claim7 := { stood := { row := fnResolvedUptoRow, standIns := [], harness := (true, "346520bae4b43cbc78de553922e6c372dabaf0bd005df9aafc629d77d30e4085"), looks := true }, kinds := [], alts := [], laidByText := true, laidKinds := [.data, .data, .widerDeep, .widerDeep, .data, .data, .data, .data, .data, .sentinel, .sentinel, .pinned, .pinned], laidTests := true, laidLooks := .later }
def FnResolvedUptoCardSaid : Prop := Claim7.holds Tryz.pinned (.plain (OpenSpec.upto fnResolvedSpec)) fnResolvedUptoCard

/-- THE SECOND FORM's CARD OF 'laws.FnResolvedAccepts'. -/
def fnResolvedAcceptsUptoCard : Claim7 := { stood := { row := fnResolvedAcceptsUptoRow, standIns := [], harness := (true, "346520bae4b43cbc78de553922e6c372dabaf0bd005df9aafc629d77d30e4085"), looks := true }, kinds := [], alts := [], laidByText := true, laidKinds := [.data, .data, .widerDeep, .widerDeep, .data, .data, .data, .data, .data, .sentinel, .sentinel, .pinned, .pinned], laidTests := true, laidLooks := .later }
def FnResolvedAcceptsUptoCardSaid : Prop := Claim7.holds Tryz.pinned (.plain (OpenSpec.upto fnResolvedAcceptsSpec)) fnResolvedAcceptsUptoCard

/-- THE SECOND FORM's CARD OF 'laws.FnResolvedTwice'. -/
def fnResolvedTwiceUptoCard : Claim7 := { stood := { row := fnResolvedTwiceUptoRow, standIns := [], harness := (true, "346520bae4b43cbc78de553922e6c372dabaf0bd005df9aafc629d77d30e4085"), looks := true }, kinds := [], alts := [], laidByText := true, laidKinds := [.data, .data, .widerDeep, .widerDeep, .data, .data, .data, .data, .data, .sentinel, .sentinel, .pinned, .pinned], laidTests := true, laidLooks := .later }
def FnResolvedTwiceUptoCardSaid : Prop := Claim7.holds Tryz.pinned (.plain (OpenSpec.upto fnResolvedTwiceSpec)) fnResolvedTwiceUptoCard
end Rows
end Go.Proofs.YtlcfillobkdnmaaGreatDoor
