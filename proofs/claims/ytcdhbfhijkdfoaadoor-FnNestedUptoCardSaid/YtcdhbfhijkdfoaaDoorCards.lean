/-
  DERIVED. GIVEN WITH THE SEED: THE CARDS: each row of YtcdhbfhijkdfoaaDoorRows.lean that lists a variable, with what it lists TIED to the program's text (the seventh form; the later family's looks); each row that meets fmt, with fmt's text TOLD by the authors' own Lean function (tested against real Go, not proved from fmt's source: count such statements apart). THE CARD IS WHAT COUNTS. Prove the row's statement (the work); the ties are given (YtcdhbfhijkdfoaaDoorTie.lean); close each card by the builder's one call (the guide's Derived/Test/ToyasCard.lean, 'card_holds'). Laid BY PROGRAM, IN A SANDBOX (cutbox-door.mjs). By AI agents, Wed Nov 11 2026. No macro, syntax, notation, axiom, sorry.
-/
import Derived.Test.YtcdhbfhijkdfoaaDoorRows
import GoSem.ClaimSeven
namespace Go.Proofs.YtcdhbfhijkdfoaaDoor
namespace Rows

/-- THE TIED CARD OF 'laws.FnCountFields'. -/
def fnCountFieldsCard : Claim7 := { stood := { row := fnCountFieldsRow, standIns := [], harness := (true, "52f0b06efc8a8b8ebb8431d2bea793d0aa51754b68da7e024cd149915f8bbd5d"), looks := true }, kinds := [], alts := [], laidByText := true, laidKinds := [.data, .sentinel, .sentinel, .listed, .sentinel, .sentinel, .sentinel, .sentinel, .sentinel, .sentinel, .pinned], laidTests := true, laidLooks := .later }
def FnCountFieldsCardSaid : Prop := Claim7.holds Tryd.pinned (.plain (OpenSpec.ofChange fnCountFieldsSpec)) fnCountFieldsCard

/-- THE TIED CARD OF 'laws.FnEmptyRow'. -/
def fnEmptyRowCard : Claim7 := { stood := { row := fnEmptyRowRow, standIns := [], harness := (true, "52f0b06efc8a8b8ebb8431d2bea793d0aa51754b68da7e024cd149915f8bbd5d"), looks := true }, kinds := [], alts := [], laidByText := true, laidKinds := [.data, .sentinel, .sentinel, .listed, .sentinel, .sentinel, .sentinel, .sentinel, .sentinel, .sentinel, .pinned], laidTests := true, laidLooks := .later }
def FnEmptyRowCardSaid : Prop := Claim7.holds Tryd.pinned (.plain (OpenSpec.ofChange fnEmptyRowSpec)) fnEmptyRowCard

/-- THE TIED CARD OF 'laws.FnLazyOpen'. -/
def fnLazyOpenCard : Claim7 := { stood := { row := fnLazyOpenRow, standIns := [], harness := (true, "52f0b06efc8a8b8ebb8431d2bea793d0aa51754b68da7e024cd149915f8bbd5d"), looks := true }, kinds := [], alts := [], laidByText := true, laidKinds := [.data, .sentinel, .sentinel, .listed, .sentinel, .sentinel, .sentinel, .sentinel, .sentinel, .sentinel, .pinned], laidTests := true, laidLooks := .later }
def FnLazyOpenCardSaid : Prop := Claim7.holds Tryd.pinned (.plain (OpenSpec.ofChange fnLazyOpenSpec)) fnLazyOpenCard

/-- THE TIED CARD OF 'laws.FnLinesKept'. -/
def fnLinesKeptCard : Claim7 := { stood := { row := fnLinesKeptRow, standIns := [], harness := (true, "52f0b06efc8a8b8ebb8431d2bea793d0aa51754b68da7e024cd149915f8bbd5d"), looks := true }, kinds := [], alts := [], laidByText := true, laidKinds := [.data, .sentinel, .sentinel, .listed, .sentinel, .sentinel, .sentinel, .sentinel, .sentinel, .sentinel, .pinned], laidTests := true, laidLooks := .later }
def FnLinesKeptCardSaid : Prop := Claim7.holds Tryd.pinned (.plain (OpenSpec.ofChange fnLinesKeptSpec)) fnLinesKeptCard

/-- THE TIED CARD OF 'laws.FnLoose'. -/
def fnLooseCard : Claim7 := { stood := { row := fnLooseRow, standIns := [], harness := (true, "52f0b06efc8a8b8ebb8431d2bea793d0aa51754b68da7e024cd149915f8bbd5d"), looks := true }, kinds := [], alts := [], laidByText := true, laidKinds := [.data, .sentinel, .sentinel, .listed, .sentinel, .sentinel, .sentinel, .sentinel, .sentinel, .sentinel, .pinned], laidTests := true, laidLooks := .later }
def FnLooseCardSaid : Prop := Claim7.holds Tryd.pinned (.plain (OpenSpec.ofChange fnLooseSpec)) fnLooseCard

/-- THE TIED CARD OF 'laws.FnMixed'. -/
def fnMixedCard : Claim7 := { stood := { row := fnMixedRow, standIns := [], harness := (true, "52f0b06efc8a8b8ebb8431d2bea793d0aa51754b68da7e024cd149915f8bbd5d"), looks := true }, kinds := [], alts := [], laidByText := true, laidKinds := [.data, .sentinel, .sentinel, .listed, .sentinel, .sentinel, .sentinel, .sentinel, .sentinel, .sentinel, .pinned], laidTests := true, laidLooks := .later }
def FnMixedCardSaid : Prop := Claim7.holds Tryd.pinned (.plain (OpenSpec.ofChange fnMixedSpec)) fnMixedCard

/-- THE TIED CARD OF 'laws.FnNested'. -/
def fnNestedCard : Claim7 := { stood := { row := fnNestedRow, standIns := [], harness := (true, "52f0b06efc8a8b8ebb8431d2bea793d0aa51754b68da7e024cd149915f8bbd5d"), looks := true }, kinds := [], alts := [], laidByText := true, laidKinds := [.data, .sentinel, .sentinel, .listed, .sentinel, .sentinel, .sentinel, .sentinel, .sentinel, .sentinel, .pinned], laidTests := true, laidLooks := .later }
def FnNestedCardSaid : Prop := Claim7.holds Tryd.pinned (.plain (OpenSpec.ofChange fnNestedSpec)) fnNestedCard

/-- THE TIED CARD OF 'laws.FnQuotes'. -/
def fnQuotesCard : Claim7 := { stood := { row := fnQuotesRow, standIns := [], harness := (true, "52f0b06efc8a8b8ebb8431d2bea793d0aa51754b68da7e024cd149915f8bbd5d"), looks := true }, kinds := [], alts := [], laidByText := true, laidKinds := [.data, .sentinel, .sentinel, .listed, .sentinel, .sentinel, .sentinel, .sentinel, .sentinel, .sentinel, .pinned], laidTests := true, laidLooks := .later }
def FnQuotesCardSaid : Prop := Claim7.holds Tryd.pinned (.plain (OpenSpec.ofChange fnQuotesSpec)) fnQuotesCard

/-- THE TIED CARD OF 'laws.FnReadWritten'. -/
def fnReadWrittenCard : Claim7 := { stood := { row := fnReadWrittenRow, standIns := [], harness := (true, "52f0b06efc8a8b8ebb8431d2bea793d0aa51754b68da7e024cd149915f8bbd5d"), looks := true }, kinds := [], alts := [], laidByText := true, laidKinds := [.data, .sentinel, .sentinel, .listed, .sentinel, .sentinel, .sentinel, .sentinel, .sentinel, .sentinel, .pinned], laidTests := true, laidLooks := .later }
def FnReadWrittenCardSaid : Prop := Claim7.holds Tryd.pinned (.plain (OpenSpec.ofChange fnReadWrittenSpec)) fnReadWrittenCard

/-- THE TIED CARD OF 'laws.FnRowsJoined'. -/
def fnRowsJoinedCard : Claim7 := { stood := { row := fnRowsJoinedRow, standIns := [], harness := (true, "52f0b06efc8a8b8ebb8431d2bea793d0aa51754b68da7e024cd149915f8bbd5d"), looks := true }, kinds := [], alts := [], laidByText := true, laidKinds := [.data, .sentinel, .sentinel, .listed, .sentinel, .sentinel, .sentinel, .sentinel, .sentinel, .sentinel, .pinned], laidTests := true, laidLooks := .later }
def FnRowsJoinedCardSaid : Prop := Claim7.holds Tryd.pinned (.plain (OpenSpec.ofChange fnRowsJoinedSpec)) fnRowsJoinedCard

/-- THE TIED CARD OF 'laws.FnTrimmed'. -/
def fnTrimmedCard : Claim7 := { stood := { row := fnTrimmedRow, standIns := [], harness := (true, "52f0b06efc8a8b8ebb8431d2bea793d0aa51754b68da7e024cd149915f8bbd5d"), looks := true }, kinds := [], alts := [], laidByText := true, laidKinds := [.data, .sentinel, .sentinel, .listed, .sentinel, .sentinel, .sentinel, .sentinel, .sentinel, .sentinel, .pinned], laidTests := true, laidLooks := .later }
def FnTrimmedCardSaid : Prop := Claim7.holds Tryd.pinned (.plain (OpenSpec.ofChange fnTrimmedSpec)) fnTrimmedCard

/-- THE TIED CARD OF 'laws.FnCut'. -/
def fnCutCard : Claim7 := { stood := { row := fnCutRow, standIns := [], harness := (true, "52f0b06efc8a8b8ebb8431d2bea793d0aa51754b68da7e024cd149915f8bbd5d"), looks := true }, kinds := [], alts := [], laidByText := true, laidKinds := [.data, .sentinel, .sentinel, .listed, .sentinel, .sentinel, .sentinel, .sentinel, .sentinel, .sentinel, .pinned], laidTests := true, laidLooks := .later }
def FnCutCardSaid : Prop := Claim7.holds Tryd.pinned (.plain (OpenSpec.ofChange fnCutSpec)) fnCutCard

/-- THE TIED CARD OF 'laws.FnWrongOptions'. -/
def fnWrongOptionsCard : Claim7 := { stood := { row := fnWrongOptionsRow, standIns := [], harness := (true, "52f0b06efc8a8b8ebb8431d2bea793d0aa51754b68da7e024cd149915f8bbd5d"), looks := true }, kinds := [], alts := [], laidByText := true, laidKinds := [.data, .sentinel, .sentinel, .listed, .sentinel, .sentinel, .sentinel, .sentinel, .sentinel, .sentinel, .pinned], laidTests := true, laidLooks := .later }
def FnWrongOptionsCardSaid : Prop := Claim7.holds Tryd.pinned (.plain (OpenSpec.ofChange fnWrongOptionsSpec)) fnWrongOptionsCard

/-- THE SECOND FORM's CARD OF 'laws.FnCountFields'. -/
def fnCountFieldsUptoCard : Claim7 := { stood := { row := fnCountFieldsUptoRow, standIns := [], harness := (true, "52f0b06efc8a8b8ebb8431d2bea793d0aa51754b68da7e024cd149915f8bbd5d"), looks := true }, kinds := [], alts := [], laidByText := true, laidKinds := [.data, .sentinel, .sentinel, .listed, .sentinel, .sentinel, .sentinel, .sentinel, .sentinel, .sentinel, .pinned], laidTests := true, laidLooks := .later }
def FnCountFieldsUptoCardSaid : Prop := Claim7.holds Tryd.pinned (.plain (OpenSpec.upto fnCountFieldsSpec)) fnCountFieldsUptoCard

/-- THE SECOND FORM's CARD OF 'laws.FnEmptyRow'. -/
def fnEmptyRowUptoCard : Claim7 := { stood := { row := fnEmptyRowUptoRow, standIns := [], harness := (true, "52f0b06efc8a8b8ebb8431d2bea793d0aa51754b68da7e024cd149915f8bbd5d"), looks := true }, kinds := [], alts := [], laidByText := true, laidKinds := [.data, .sentinel, .sentinel, .listed, .sentinel, .sentinel, .sentinel, .sentinel, .sentinel, .sentinel, .pinned], laidTests := true, laidLooks := .later }
def FnEmptyRowUptoCardSaid : Prop := Claim7.holds Tryd.pinned (.plain (OpenSpec.upto fnEmptyRowSpec)) fnEmptyRowUptoCard

/-- THE SECOND FORM's CARD OF 'laws.FnLazyOpen'. -/
def fnLazyOpenUptoCard : Claim7 := { stood := { row := fnLazyOpenUptoRow, standIns := [], harness := (true, "52f0b06efc8a8b8ebb8431d2bea793d0aa51754b68da7e024cd149915f8bbd5d"), looks := true }, kinds := [], alts := [], laidByText := true, laidKinds := [.data, .sentinel, .sentinel, .listed, .sentinel, .sentinel, .sentinel, .sentinel, .sentinel, .sentinel, .pinned], laidTests := true, laidLooks := .later }
def FnLazyOpenUptoCardSaid : Prop := Claim7.holds Tryd.pinned (.plain (OpenSpec.upto fnLazyOpenSpec)) fnLazyOpenUptoCard

/-- THE SECOND FORM's CARD OF 'laws.FnLinesKept'. -/
def fnLinesKeptUptoCard : Claim7 := { stood := { row := fnLinesKeptUptoRow, standIns := [], harness := (true, "52f0b06efc8a8b8ebb8431d2bea793d0aa51754b68da7e024cd149915f8bbd5d"), looks := true }, kinds := [], alts := [], laidByText := true, laidKinds := [.data, .sentinel, .sentinel, .listed, .sentinel, .sentinel, .sentinel, .sentinel, .sentinel, .sentinel, .pinned], laidTests := true, laidLooks := .later }
def FnLinesKeptUptoCardSaid : Prop := Claim7.holds Tryd.pinned (.plain (OpenSpec.upto fnLinesKeptSpec)) fnLinesKeptUptoCard

/-- THE SECOND FORM's CARD OF 'laws.FnLoose'. -/
def fnLooseUptoCard : Claim7 := { stood := { row := fnLooseUptoRow, standIns := [], harness := (true, "52f0b06efc8a8b8ebb8431d2bea793d0aa51754b68da7e024cd149915f8bbd5d"), looks := true }, kinds := [], alts := [], laidByText := true, laidKinds := [.data, .sentinel, .sentinel, .listed, .sentinel, .sentinel, .sentinel, .sentinel, .sentinel, .sentinel, .pinned], laidTests := true, laidLooks := .later }
def FnLooseUptoCardSaid : Prop := Claim7.holds Tryd.pinned (.plain (OpenSpec.upto fnLooseSpec)) fnLooseUptoCard

/-- THE SECOND FORM's CARD OF 'laws.FnMixed'. -/
def fnMixedUptoCard : Claim7 := { stood := { row := fnMixedUptoRow, standIns := [], harness := (true, "52f0b06efc8a8b8ebb8431d2bea793d0aa51754b68da7e024cd149915f8bbd5d"), looks := true }, kinds := [], alts := [], laidByText := true, laidKinds := [.data, .sentinel, .sentinel, .listed, .sentinel, .sentinel, .sentinel, .sentinel, .sentinel, .sentinel, .pinned], laidTests := true, laidLooks := .later }
def FnMixedUptoCardSaid : Prop := Claim7.holds Tryd.pinned (.plain (OpenSpec.upto fnMixedSpec)) fnMixedUptoCard

/-- THE SECOND FORM's CARD OF 'laws.FnNested'. -/
def fnNestedUptoCard : Claim7 := { stood := { row := fnNestedUptoRow, standIns := [], harness := (true, "52f0b06efc8a8b8ebb8431d2bea793d0aa51754b68da7e024cd149915f8bbd5d"), looks := true }, kinds := [], alts := [], laidByText := true, laidKinds := [.data, .sentinel, .sentinel, .listed, .sentinel, .sentinel, .sentinel, .sentinel, .sentinel, .sentinel, .pinned], laidTests := true, laidLooks := .later }
def FnNestedUptoCardSaid : Prop := Claim7.holds Tryd.pinned (.plain (OpenSpec.upto fnNestedSpec)) fnNestedUptoCard

/-- THE SECOND FORM's CARD OF 'laws.FnQuotes'. -/
def fnQuotesUptoCard : Claim7 := { stood := { row := fnQuotesUptoRow, standIns := [], harness := (true, "52f0b06efc8a8b8ebb8431d2bea793d0aa51754b68da7e024cd149915f8bbd5d"), looks := true }, kinds := [], alts := [], laidByText := true, laidKinds := [.data, .sentinel, .sentinel, .listed, .sentinel, .sentinel, .sentinel, .sentinel, .sentinel, .sentinel, .pinned], laidTests := true, laidLooks := .later }
def FnQuotesUptoCardSaid : Prop := Claim7.holds Tryd.pinned (.plain (OpenSpec.upto fnQuotesSpec)) fnQuotesUptoCard

/-- THE SECOND FORM's CARD OF 'laws.FnReadWritten'. -/
def fnReadWrittenUptoCard : Claim7 := { stood := { row := fnReadWrittenUptoRow, standIns := [], harness := (true, "52f0b06efc8a8b8ebb8431d2bea793d0aa51754b68da7e024cd149915f8bbd5d"), looks := true }, kinds := [], alts := [], laidByText := true, laidKinds := [.data, .sentinel, .sentinel, .listed, .sentinel, .sentinel, .sentinel, .sentinel, .sentinel, .sentinel, .pinned], laidTests := true, laidLooks := .later }
def FnReadWrittenUptoCardSaid : Prop := Claim7.holds Tryd.pinned (.plain (OpenSpec.upto fnReadWrittenSpec)) fnReadWrittenUptoCard

/-- THE SECOND FORM's CARD OF 'laws.FnRowsJoined'. -/
def fnRowsJoinedUptoCard : Claim7 := { stood := { row := fnRowsJoinedUptoRow, standIns := [], harness := (true, "52f0b06efc8a8b8ebb8431d2bea793d0aa51754b68da7e024cd149915f8bbd5d"), looks := true }, kinds := [], alts := [], laidByText := true, laidKinds := [.data, .sentinel, .sentinel, .listed, .sentinel, .sentinel, .sentinel, .sentinel, .sentinel, .sentinel, .pinned], laidTests := true, laidLooks := .later }
def FnRowsJoinedUptoCardSaid : Prop := Claim7.holds Tryd.pinned (.plain (OpenSpec.upto fnRowsJoinedSpec)) fnRowsJoinedUptoCard

/-- THE SECOND FORM's CARD OF 'laws.FnTrimmed'. -/
def fnTrimmedUptoCard : Claim7 := { stood := { row := fnTrimmedUptoRow, standIns := [], harness := (true, "52f0b06efc8a8b8ebb8431d2bea793d0aa51754b68da7e024cd149915f8bbd5d"), looks := true }, kinds := [], alts := [], laidByText := true, laidKinds := [.data, .sentinel, .sentinel, .listed, .sentinel, .sentinel, .sentinel, .sentinel, .sentinel, .sentinel, .pinned], laidTests := true, laidLooks := .later }
def FnTrimmedUptoCardSaid : Prop := Claim7.holds Tryd.pinned (.plain (OpenSpec.upto fnTrimmedSpec)) fnTrimmedUptoCard

/-- THE SECOND FORM's CARD OF 'laws.FnCut'. -/
def fnCutUptoCard : Claim7 := { stood := { row := fnCutUptoRow, standIns := [], harness := (true, "52f0b06efc8a8b8ebb8431d2bea793d0aa51754b68da7e024cd149915f8bbd5d"), looks := true }, kinds := [], alts := [], laidByText := true, laidKinds := [.data, .sentinel, .sentinel, .listed, .sentinel, .sentinel, .sentinel, .sentinel, .sentinel, .sentinel, .pinned], laidTests := true, laidLooks := .later }
def FnCutUptoCardSaid : Prop := Claim7.holds Tryd.pinned (.plain (OpenSpec.upto fnCutSpec)) fnCutUptoCard

/-- THE SECOND FORM's CARD OF 'laws.FnWrongOptions'. -/
def fnWrongOptionsUptoCard : Claim7 := { stood := { row := fnWrongOptionsUptoRow, standIns := [], harness := (true, "52f0b06efc8a8b8ebb8431d2bea793d0aa51754b68da7e024cd149915f8bbd5d"), looks := true }, kinds := [], alts := [], laidByText := true, laidKinds := [.data, .sentinel, .sentinel, .listed, .sentinel, .sentinel, .sentinel, .sentinel, .sentinel, .sentinel, .pinned], laidTests := true, laidLooks := .later }
def FnWrongOptionsUptoCardSaid : Prop := Claim7.holds Tryd.pinned (.plain (OpenSpec.upto fnWrongOptionsSpec)) fnWrongOptionsUptoCard
end Rows
end Go.Proofs.YtcdhbfhijkdfoaaDoor
