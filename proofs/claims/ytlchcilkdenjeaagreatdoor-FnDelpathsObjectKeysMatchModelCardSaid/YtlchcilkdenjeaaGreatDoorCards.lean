/-
  DERIVED. GIVEN WITH THE SEED: THE CARDS: each row of YtlchcilkdenjeaaGreatDoorRows.lean that lists a variable, with what it lists TIED to the program's text (the seventh form; the later family's looks); each row that meets fmt, with fmt's text TOLD by the authors' own Lean function (tested against real Go, not proved from fmt's source: count such statements apart). THE CARD IS WHAT COUNTS. Prove the row's statement (the work); the ties are given (YtlchcilkdenjeaaGreatDoorTie.lean); close each card by the builder's one call (the guide's Derived/Test/ToyasCard.lean, 'card_holds'). Laid BY PROGRAM, IN A SANDBOX (cutbox-door.mjs). By AI agents, Wed Nov 11 2026. No macro, syntax, notation, axiom, sorry.
-/
import Derived.Test.YtlchcilkdenjeaaGreatDoorRows
import GoSem.ClaimSeven
namespace Go.Proofs.YtlchcilkdenjeaaGreatDoor
namespace Rows

/-- THE TIED CARD OF 'n001_80.FnDelpathsArrayIndicesMatchMarkModel'. -/
def fnDelpathsArrayIndicesMatchMarkModelCard : Claim7 := { stood := { row := fnDelpathsArrayIndicesMatchMarkModelRow, standIns := [], harness := (true, "aac7427c292e1efe1822a28a2109598b3eb365c2b2576ae770689ddd002d9b2f"), looks := true }, kinds := [], alts := [], laidByText := true, laidKinds := [.data, .data, .widerDeep, .widerDeep, .data, .data, .data, .data, .data, .sentinel, .sentinel, .sentinel, .sentinel, .sentinel, .pinned, .pinned], laidTests := true, laidLooks := .later }
def FnDelpathsArrayIndicesMatchMarkModelCardSaid : Prop := Claim7.holds Tryz.pinned (.plain (OpenSpec.ofChange fnDelpathsArrayIndicesMatchMarkModelSpec)) fnDelpathsArrayIndicesMatchMarkModelCard

/-- THE TIED CARD OF 'n001_80.FnUpdateArrayIndexCaseTable'. -/
def fnUpdateArrayIndexCaseTableCard : Claim7 := { stood := { row := fnUpdateArrayIndexCaseTableRow, standIns := [], harness := (true, "aac7427c292e1efe1822a28a2109598b3eb365c2b2576ae770689ddd002d9b2f"), looks := true }, kinds := [], alts := [], laidByText := true, laidKinds := [.data, .data, .widerDeep, .widerDeep, .data, .data, .data, .data, .data, .sentinel, .sentinel, .sentinel, .sentinel, .sentinel, .pinned, .pinned], laidTests := true, laidLooks := .later }
def FnUpdateArrayIndexCaseTableCardSaid : Prop := Claim7.holds Tryz.pinned (.plain (OpenSpec.ofChange fnUpdateArrayIndexCaseTableSpec)) fnUpdateArrayIndexCaseTableCard

/-- THE TIED CARD OF 'n001_80.FnDelpathsOrderAndRepeatFree'. -/
def fnDelpathsOrderAndRepeatFreeCard : Claim7 := { stood := { row := fnDelpathsOrderAndRepeatFreeRow, standIns := [], harness := (true, "aac7427c292e1efe1822a28a2109598b3eb365c2b2576ae770689ddd002d9b2f"), looks := true }, kinds := [], alts := [], laidByText := true, laidKinds := [.data, .data, .widerDeep, .widerDeep, .data, .data, .data, .data, .data, .sentinel, .sentinel, .sentinel, .sentinel, .sentinel, .pinned, .pinned], laidTests := true, laidLooks := .later }
def FnDelpathsOrderAndRepeatFreeCardSaid : Prop := Claim7.holds Tryz.pinned (.plain (OpenSpec.ofChange fnDelpathsOrderAndRepeatFreeSpec)) fnDelpathsOrderAndRepeatFreeCard

/-- THE TIED CARD OF 'n001_80.FnUpdateRefusalsAndBuildsFromNull'. -/
def fnUpdateRefusalsAndBuildsFromNullCard : Claim7 := { stood := { row := fnUpdateRefusalsAndBuildsFromNullRow, standIns := [], harness := (true, "aac7427c292e1efe1822a28a2109598b3eb365c2b2576ae770689ddd002d9b2f"), looks := true }, kinds := [], alts := [], laidByText := true, laidKinds := [.data, .data, .widerDeep, .widerDeep, .data, .data, .data, .data, .data, .sentinel, .sentinel, .sentinel, .sentinel, .sentinel, .pinned, .pinned], laidTests := true, laidLooks := .later }
def FnUpdateRefusalsAndBuildsFromNullCardSaid : Prop := Claim7.holds Tryz.pinned (.plain (OpenSpec.ofChange fnUpdateRefusalsAndBuildsFromNullSpec)) fnUpdateRefusalsAndBuildsFromNullCard

/-- THE TIED CARD OF 'n001_80.FnDelpathsWithAllocatorMatchesModelForNilAndFreshAllocator'. -/
def fnDelpathsWithAllocatorMatchesModelForNilAndFreshAllocatorCard : Claim7 := { stood := { row := fnDelpathsWithAllocatorMatchesModelForNilAndFreshAllocatorRow, standIns := [], harness := (true, "aac7427c292e1efe1822a28a2109598b3eb365c2b2576ae770689ddd002d9b2f"), looks := true }, kinds := [], alts := [], laidByText := true, laidKinds := [.data, .data, .widerDeep, .widerDeep, .data, .data, .data, .data, .data, .sentinel, .sentinel, .sentinel, .sentinel, .sentinel, .pinned, .pinned], laidTests := true, laidLooks := .later }
def FnDelpathsWithAllocatorMatchesModelForNilAndFreshAllocatorCardSaid : Prop := Claim7.holds Tryz.pinned (.plain (OpenSpec.ofChange fnDelpathsWithAllocatorMatchesModelForNilAndFreshAllocatorSpec)) fnDelpathsWithAllocatorMatchesModelForNilAndFreshAllocatorCard

/-- THE TIED CARD OF 'n001_80.FnDelpathsWithAllocatorLeavesInputAndRepeats'. -/
def fnDelpathsWithAllocatorLeavesInputAndRepeatsCard : Claim7 := { stood := { row := fnDelpathsWithAllocatorLeavesInputAndRepeatsRow, standIns := [], harness := (true, "aac7427c292e1efe1822a28a2109598b3eb365c2b2576ae770689ddd002d9b2f"), looks := true }, kinds := [], alts := [], laidByText := true, laidKinds := [.data, .data, .widerDeep, .widerDeep, .data, .data, .data, .data, .data, .sentinel, .sentinel, .sentinel, .sentinel, .sentinel, .pinned, .pinned], laidTests := true, laidLooks := .later }
def FnDelpathsWithAllocatorLeavesInputAndRepeatsCardSaid : Prop := Claim7.holds Tryz.pinned (.plain (OpenSpec.ofChange fnDelpathsWithAllocatorLeavesInputAndRepeatsSpec)) fnDelpathsWithAllocatorLeavesInputAndRepeatsCard

/-- THE TIED CARD OF 'n001_80.FnDelpathsCaseTable'. -/
def fnDelpathsCaseTableCard : Claim7 := { stood := { row := fnDelpathsCaseTableRow, standIns := [], harness := (true, "aac7427c292e1efe1822a28a2109598b3eb365c2b2576ae770689ddd002d9b2f"), looks := true }, kinds := [], alts := [], laidByText := true, laidKinds := [.data, .data, .widerDeep, .widerDeep, .data, .data, .data, .data, .data, .sentinel, .sentinel, .sentinel, .sentinel, .sentinel, .pinned, .pinned], laidTests := true, laidLooks := .later }
def FnDelpathsCaseTableCardSaid : Prop := Claim7.holds Tryz.pinned (.plain (OpenSpec.ofChange fnDelpathsCaseTableSpec)) fnDelpathsCaseTableCard

/-- THE TIED CARD OF 'n001_80.FnDelpathsObjectKeysMatchModel'. -/
def fnDelpathsObjectKeysMatchModelCard : Claim7 := { stood := { row := fnDelpathsObjectKeysMatchModelRow, standIns := [], harness := (true, "aac7427c292e1efe1822a28a2109598b3eb365c2b2576ae770689ddd002d9b2f"), looks := true }, kinds := [], alts := [], laidByText := true, laidKinds := [.data, .data, .widerDeep, .widerDeep, .data, .data, .data, .data, .data, .sentinel, .sentinel, .sentinel, .sentinel, .sentinel, .pinned, .pinned], laidTests := true, laidLooks := .later }
def FnDelpathsObjectKeysMatchModelCardSaid : Prop := Claim7.holds Tryz.pinned (.plain (OpenSpec.ofChange fnDelpathsObjectKeysMatchModelSpec)) fnDelpathsObjectKeysMatchModelCard

/-- THE TIED CARD OF 'n001_80.FnUpdateObjectKeySetsOneKeyKeepsRest'. -/
def fnUpdateObjectKeySetsOneKeyKeepsRestCard : Claim7 := { stood := { row := fnUpdateObjectKeySetsOneKeyKeepsRestRow, standIns := [], harness := (true, "aac7427c292e1efe1822a28a2109598b3eb365c2b2576ae770689ddd002d9b2f"), looks := true }, kinds := [], alts := [], laidByText := true, laidKinds := [.data, .data, .widerDeep, .widerDeep, .data, .data, .data, .data, .data, .sentinel, .sentinel, .sentinel, .sentinel, .sentinel, .pinned, .pinned], laidTests := true, laidLooks := .later }
def FnUpdateObjectKeySetsOneKeyKeepsRestCardSaid : Prop := Claim7.holds Tryz.pinned (.plain (OpenSpec.ofChange fnUpdateObjectKeySetsOneKeyKeepsRestSpec)) fnUpdateObjectKeySetsOneKeyKeepsRestCard

/-- THE SECOND FORM's CARD OF 'n001_80.FnDelpathsArrayIndicesMatchMarkModel'. -/
def fnDelpathsArrayIndicesMatchMarkModelUptoCard : Claim7 := { stood := { row := fnDelpathsArrayIndicesMatchMarkModelUptoRow, standIns := [], harness := (true, "aac7427c292e1efe1822a28a2109598b3eb365c2b2576ae770689ddd002d9b2f"), looks := true }, kinds := [], alts := [], laidByText := true, laidKinds := [.data, .data, .widerDeep, .widerDeep, .data, .data, .data, .data, .data, .sentinel, .sentinel, .sentinel, .sentinel, .sentinel, .pinned, .pinned], laidTests := true, laidLooks := .later }
def FnDelpathsArrayIndicesMatchMarkModelUptoCardSaid : Prop := Claim7.holds Tryz.pinned (.plain (OpenSpec.upto fnDelpathsArrayIndicesMatchMarkModelSpec)) fnDelpathsArrayIndicesMatchMarkModelUptoCard

/-- THE SECOND FORM's CARD OF 'n001_80.FnUpdateArrayIndexCaseTable'. -/
def fnUpdateArrayIndexCaseTableUptoCard : Claim7 := { stood := { row := fnUpdateArrayIndexCaseTableUptoRow, standIns := [], harness := (true, "aac7427c292e1efe1822a28a2109598b3eb365c2b2576ae770689ddd002d9b2f"), looks := true }, kinds := [], alts := [], laidByText := true, laidKinds := [.data, .data, .widerDeep, .widerDeep, .data, .data, .data, .data, .data, .sentinel, .sentinel, .sentinel, .sentinel, .sentinel, .pinned, .pinned], laidTests := true, laidLooks := .later }
def FnUpdateArrayIndexCaseTableUptoCardSaid : Prop := Claim7.holds Tryz.pinned (.plain (OpenSpec.upto fnUpdateArrayIndexCaseTableSpec)) fnUpdateArrayIndexCaseTableUptoCard

/-- THE SECOND FORM's CARD OF 'n001_80.FnDelpathsOrderAndRepeatFree'. -/
def fnDelpathsOrderAndRepeatFreeUptoCard : Claim7 := { stood := { row := fnDelpathsOrderAndRepeatFreeUptoRow, standIns := [], harness := (true, "aac7427c292e1efe1822a28a2109598b3eb365c2b2576ae770689ddd002d9b2f"), looks := true }, kinds := [], alts := [], laidByText := true, laidKinds := [.data, .data, .widerDeep, .widerDeep, .data, .data, .data, .data, .data, .sentinel, .sentinel, .sentinel, .sentinel, .sentinel, .pinned, .pinned], laidTests := true, laidLooks := .later }
def FnDelpathsOrderAndRepeatFreeUptoCardSaid : Prop := Claim7.holds Tryz.pinned (.plain (OpenSpec.upto fnDelpathsOrderAndRepeatFreeSpec)) fnDelpathsOrderAndRepeatFreeUptoCard

/-- THE SECOND FORM's CARD OF 'n001_80.FnUpdateRefusalsAndBuildsFromNull'. -/
def fnUpdateRefusalsAndBuildsFromNullUptoCard : Claim7 := { stood := { row := fnUpdateRefusalsAndBuildsFromNullUptoRow, standIns := [], harness := (true, "aac7427c292e1efe1822a28a2109598b3eb365c2b2576ae770689ddd002d9b2f"), looks := true }, kinds := [], alts := [], laidByText := true, laidKinds := [.data, .data, .widerDeep, .widerDeep, .data, .data, .data, .data, .data, .sentinel, .sentinel, .sentinel, .sentinel, .sentinel, .pinned, .pinned], laidTests := true, laidLooks := .later }
def FnUpdateRefusalsAndBuildsFromNullUptoCardSaid : Prop := Claim7.holds Tryz.pinned (.plain (OpenSpec.upto fnUpdateRefusalsAndBuildsFromNullSpec)) fnUpdateRefusalsAndBuildsFromNullUptoCard

/-- THE SECOND FORM's CARD OF 'n001_80.FnDelpathsWithAllocatorMatchesModelForNilAndFreshAllocator'. -/
def fnDelpathsWithAllocatorMatchesModelForNilAndFreshAllocatorUptoCard : Claim7 := { stood := { row := fnDelpathsWithAllocatorMatchesModelForNilAndFreshAllocatorUptoRow, standIns := [], harness := (true, "aac7427c292e1efe1822a28a2109598b3eb365c2b2576ae770689ddd002d9b2f"), looks := true }, kinds := [], alts := [], laidByText := true, laidKinds := [.data, .data, .widerDeep, .widerDeep, .data, .data, .data, .data, .data, .sentinel, .sentinel, .sentinel, .sentinel, .sentinel, .pinned, .pinned], laidTests := true, laidLooks := .later }
def FnDelpathsWithAllocatorMatchesModelForNilAndFreshAllocatorUptoCardSaid : Prop := Claim7.holds Tryz.pinned (.plain (OpenSpec.upto fnDelpathsWithAllocatorMatchesModelForNilAndFreshAllocatorSpec)) fnDelpathsWithAllocatorMatchesModelForNilAndFreshAllocatorUptoCard

/-- THE SECOND FORM's CARD OF 'n001_80.FnDelpathsWithAllocatorLeavesInputAndRepeats'. -/
def fnDelpathsWithAllocatorLeavesInputAndRepeatsUptoCard : Claim7 := { stood := { row := fnDelpathsWithAllocatorLeavesInputAndRepeatsUptoRow, standIns := [], harness := (true, "aac7427c292e1efe1822a28a2109598b3eb365c2b2576ae770689ddd002d9b2f"), looks := true }, kinds := [], alts := [], laidByText := true, laidKinds := [.data, .data, .widerDeep, .widerDeep, .data, .data, .data, .data, .data, .sentinel, .sentinel, .sentinel, .sentinel, .sentinel, .pinned, .pinned], laidTests := true, laidLooks := .later }
def FnDelpathsWithAllocatorLeavesInputAndRepeatsUptoCardSaid : Prop := Claim7.holds Tryz.pinned (.plain (OpenSpec.upto fnDelpathsWithAllocatorLeavesInputAndRepeatsSpec)) fnDelpathsWithAllocatorLeavesInputAndRepeatsUptoCard

/-- THE SECOND FORM's CARD OF 'n001_80.FnDelpathsCaseTable'. -/
def fnDelpathsCaseTableUptoCard : Claim7 := { stood := { row := fnDelpathsCaseTableUptoRow, standIns := [], harness := (true, "aac7427c292e1efe1822a28a2109598b3eb365c2b2576ae770689ddd002d9b2f"), looks := true }, kinds := [], alts := [], laidByText := true, laidKinds := [.data, .data, .widerDeep, .widerDeep, .data, .data, .data, .data, .data, .sentinel, .sentinel, .sentinel, .sentinel, .sentinel, .pinned, .pinned], laidTests := true, laidLooks := .later }
def FnDelpathsCaseTableUptoCardSaid : Prop := Claim7.holds Tryz.pinned (.plain (OpenSpec.upto fnDelpathsCaseTableSpec)) fnDelpathsCaseTableUptoCard

/-- THE SECOND FORM's CARD OF 'n001_80.FnDelpathsObjectKeysMatchModel'. -/
def fnDelpathsObjectKeysMatchModelUptoCard : Claim7 := { stood := { row := fnDelpathsObjectKeysMatchModelUptoRow, standIns := [], harness := (true, "aac7427c292e1efe1822a28a2109598b3eb365c2b2576ae770689ddd002d9b2f"), looks := true }, kinds := [], alts := [], laidByText := true, laidKinds := [.data, .data, .widerDeep, .widerDeep, .data, .data, .data, .data, .data, .sentinel, .sentinel, .sentinel, .sentinel, .sentinel, .pinned, .pinned], laidTests := true, laidLooks := .later }
def FnDelpathsObjectKeysMatchModelUptoCardSaid : Prop := Claim7.holds Tryz.pinned (.plain (OpenSpec.upto fnDelpathsObjectKeysMatchModelSpec)) fnDelpathsObjectKeysMatchModelUptoCard

/-- THE SECOND FORM's CARD OF 'n001_80.FnUpdateObjectKeySetsOneKeyKeepsRest'. -/
def fnUpdateObjectKeySetsOneKeyKeepsRestUptoCard : Claim7 := { stood := { row := fnUpdateObjectKeySetsOneKeyKeepsRestUptoRow, standIns := [], harness := (true, "aac7427c292e1efe1822a28a2109598b3eb365c2b2576ae770689ddd002d9b2f"), looks := true }, kinds := [], alts := [], laidByText := true, laidKinds := [.data, .data, .widerDeep, .widerDeep, .data, .data, .data, .data, .data, .sentinel, .sentinel, .sentinel, .sentinel, .sentinel, .pinned, .pinned], laidTests := true, laidLooks := .later }
def FnUpdateObjectKeySetsOneKeyKeepsRestUptoCardSaid : Prop := Claim7.holds Tryz.pinned (.plain (OpenSpec.upto fnUpdateObjectKeySetsOneKeyKeepsRestSpec)) fnUpdateObjectKeySetsOneKeyKeepsRestUptoCard
end Rows
end Go.Proofs.YtlchcilkdenjeaaGreatDoor
