/-
  DERIVED. GIVEN WITH THE SEED: THE CARDS: each row of YtelbnidpchemiaaGreatDoorRows.lean that lists a variable, with what it lists TIED to the program's text (the seventh form; the later family's looks); each row that meets fmt, with fmt's text TOLD by the authors' own Lean function (tested against real Go, not proved from fmt's source: count such statements apart). THE CARD IS WHAT COUNTS. Prove the row's statement (the work); the ties are given (YtelbnidpchemiaaGreatDoorTie.lean); close each card by the builder's one call (the guide's Derived/Test/ToyasCard.lean, 'card_holds'). Laid BY PROGRAM, IN A SANDBOX (cutbox-door.mjs). By AI agents, Wed Nov 11 2026. No macro, syntax, notation, axiom, sorry.
-/
import Derived.Test.YtelbnidpchemiaaGreatDoorRows
import GoSem.ClaimSeven
namespace Go.Proofs.YtelbnidpchemiaaGreatDoor
namespace Rows

/-- THE TIED CARD OF 'n001_63.FnQueryToIndexKeyCaseTable'. -/
def fnQueryToIndexKeyCaseTableCard : Claim7 := { stood := { row := fnQueryToIndexKeyCaseTableRow, standIns := [], harness := (true, "76f938d855f3277a7a53b1b9bd329faa55f8ff8ba9a19d24466a3ad1796562f8"), looks := true }, kinds := [], alts := [], laidByText := true, laidKinds := [.data, .data, .widerDeep, .widerDeep, .data, .data, .data, .data, .data, .sentinel, .sentinel, .sentinel, .sentinel, .sentinel, .pinned, .pinned], laidTests := true, laidLooks := .later }
def FnQueryToIndexKeyCaseTableCardSaid : Prop := Claim7.holds Tryz.pinned (.plain (OpenSpec.ofChange fnQueryToIndexKeyCaseTableSpec)) fnQueryToIndexKeyCaseTableCard

/-- THE TIED CARD OF 'n001_25.FnListModuleDepsIgnoresEmptyMetaAndDefs'. -/
def fnListModuleDepsIgnoresEmptyMetaAndDefsCard : Claim7 := { stood := { row := fnListModuleDepsIgnoresEmptyMetaAndDefsRow, standIns := [], harness := (true, "76f938d855f3277a7a53b1b9bd329faa55f8ff8ba9a19d24466a3ad1796562f8"), looks := true }, kinds := [], alts := [], laidByText := true, laidKinds := [.data, .data, .widerDeep, .widerDeep, .data, .data, .data, .data, .data, .sentinel, .sentinel, .sentinel, .sentinel, .sentinel, .pinned, .pinned], laidTests := true, laidLooks := .later }
def FnListModuleDepsIgnoresEmptyMetaAndDefsCardSaid : Prop := Claim7.holds Tryz.pinned (.plain (OpenSpec.ofChange fnListModuleDepsIgnoresEmptyMetaAndDefsSpec)) fnListModuleDepsIgnoresEmptyMetaAndDefsCard

/-- THE TIED CARD OF 'n001_56.FnSuffixToIndicesExtendsList'. -/
def fnSuffixToIndicesExtendsListCard : Claim7 := { stood := { row := fnSuffixToIndicesExtendsListRow, standIns := [], harness := (true, "76f938d855f3277a7a53b1b9bd329faa55f8ff8ba9a19d24466a3ad1796562f8"), looks := true }, kinds := [], alts := [], laidByText := true, laidKinds := [.data, .data, .widerDeep, .widerDeep, .data, .data, .data, .data, .data, .sentinel, .sentinel, .sentinel, .sentinel, .sentinel, .pinned, .pinned], laidTests := true, laidLooks := .later }
def FnSuffixToIndicesExtendsListCardSaid : Prop := Claim7.holds Tryz.pinned (.plain (OpenSpec.ofChange fnSuffixToIndicesExtendsListSpec)) fnSuffixToIndicesExtendsListCard

/-- THE TIED CARD OF 'n001_97.FnFuncSliceComposes'. -/
def fnFuncSliceComposesCard : Claim7 := { stood := { row := fnFuncSliceComposesRow, standIns := [], harness := (true, "76f938d855f3277a7a53b1b9bd329faa55f8ff8ba9a19d24466a3ad1796562f8"), looks := true }, kinds := [], alts := [], laidByText := true, laidKinds := [.data, .data, .widerDeep, .widerDeep, .data, .data, .data, .data, .data, .sentinel, .sentinel, .sentinel, .sentinel, .sentinel, .pinned, .pinned], laidTests := true, laidLooks := .later }
def FnFuncSliceComposesCardSaid : Prop := Claim7.holds Tryz.pinned (.plain (OpenSpec.ofChange fnFuncSliceComposesSpec)) fnFuncSliceComposesCard

/-- THE TIED CARD OF 'n001_63.FnQueryToIndexKeyAgreesWithIndexPath'. -/
def fnQueryToIndexKeyAgreesWithIndexPathCard : Claim7 := { stood := { row := fnQueryToIndexKeyAgreesWithIndexPathRow, standIns := [], harness := (true, "76f938d855f3277a7a53b1b9bd329faa55f8ff8ba9a19d24466a3ad1796562f8"), looks := true }, kinds := [], alts := [], laidByText := true, laidKinds := [.data, .data, .widerDeep, .widerDeep, .data, .data, .data, .data, .data, .sentinel, .sentinel, .sentinel, .sentinel, .sentinel, .pinned, .pinned], laidTests := true, laidLooks := .later }
def FnQueryToIndexKeyAgreesWithIndexPathCardSaid : Prop := Claim7.holds Tryz.pinned (.plain (OpenSpec.ofChange fnQueryToIndexKeyAgreesWithIndexPathSpec)) fnQueryToIndexKeyAgreesWithIndexPathCard

/-- THE TIED CARD OF 'n001_45.FnArgFunc3SliceString'. -/
def fnArgFunc3SliceStringCard : Claim7 := { stood := { row := fnArgFunc3SliceStringRow, standIns := [], harness := (true, "76f938d855f3277a7a53b1b9bd329faa55f8ff8ba9a19d24466a3ad1796562f8"), looks := true }, kinds := [], alts := [], laidByText := true, laidKinds := [.data, .data, .widerDeep, .widerDeep, .data, .data, .data, .data, .data, .sentinel, .sentinel, .sentinel, .sentinel, .sentinel, .pinned, .pinned], laidTests := true, laidLooks := .later }
def FnArgFunc3SliceStringCardSaid : Prop := Claim7.holds Tryz.pinned (.plain (OpenSpec.ofChange fnArgFunc3SliceStringSpec)) fnArgFunc3SliceStringCard

/-- THE TIED CARD OF 'n001_22.FnIndexToIndicesSpec'. -/
def fnIndexToIndicesSpecCard : Claim7 := { stood := { row := fnIndexToIndicesSpecRow, standIns := [], harness := (true, "76f938d855f3277a7a53b1b9bd329faa55f8ff8ba9a19d24466a3ad1796562f8"), looks := true }, kinds := [], alts := [], laidByText := true, laidKinds := [.data, .data, .widerDeep, .widerDeep, .data, .data, .data, .data, .data, .sentinel, .sentinel, .sentinel, .sentinel, .sentinel, .pinned, .pinned], laidTests := true, laidLooks := .later }
def FnIndexToIndicesSpecCardSaid : Prop := Claim7.holds Tryz.pinned (.plain (OpenSpec.ofChange fnIndexToIndicesSpecSpec)) fnIndexToIndicesSpecCard

/-- THE TIED CARD OF 'n001_63.FnQueryToIndicesParenSplit'. -/
def fnQueryToIndicesParenSplitCard : Claim7 := { stood := { row := fnQueryToIndicesParenSplitRow, standIns := [], harness := (true, "76f938d855f3277a7a53b1b9bd329faa55f8ff8ba9a19d24466a3ad1796562f8"), looks := true }, kinds := [], alts := [], laidByText := true, laidKinds := [.data, .data, .widerDeep, .widerDeep, .data, .data, .data, .data, .data, .sentinel, .sentinel, .sentinel, .sentinel, .sentinel, .pinned, .pinned], laidTests := true, laidLooks := .later }
def FnQueryToIndicesParenSplitCardSaid : Prop := Claim7.holds Tryz.pinned (.plain (OpenSpec.ofChange fnQueryToIndicesParenSplitSpec)) fnQueryToIndicesParenSplitCard

/-- THE TIED CARD OF 'n001_97.FnFuncSliceCaseTable'. -/
def fnFuncSliceCaseTableCard : Claim7 := { stood := { row := fnFuncSliceCaseTableRow, standIns := [], harness := (true, "76f938d855f3277a7a53b1b9bd329faa55f8ff8ba9a19d24466a3ad1796562f8"), looks := true }, kinds := [], alts := [], laidByText := true, laidKinds := [.data, .data, .widerDeep, .widerDeep, .data, .data, .data, .data, .data, .sentinel, .sentinel, .sentinel, .sentinel, .sentinel, .pinned, .pinned], laidTests := true, laidLooks := .later }
def FnFuncSliceCaseTableCardSaid : Prop := Claim7.holds Tryz.pinned (.plain (OpenSpec.ofChange fnFuncSliceCaseTableSpec)) fnFuncSliceCaseTableCard

/-- THE TIED CARD OF 'n001_63.FnQueryToIndicesPathModel'. -/
def fnQueryToIndicesPathModelCard : Claim7 := { stood := { row := fnQueryToIndicesPathModelRow, standIns := [], harness := (true, "76f938d855f3277a7a53b1b9bd329faa55f8ff8ba9a19d24466a3ad1796562f8"), looks := true }, kinds := [], alts := [], laidByText := true, laidKinds := [.data, .data, .widerDeep, .widerDeep, .data, .data, .data, .data, .data, .sentinel, .sentinel, .sentinel, .sentinel, .sentinel, .pinned, .pinned], laidTests := true, laidLooks := .later }
def FnQueryToIndicesPathModelCardSaid : Prop := Claim7.holds Tryz.pinned (.plain (OpenSpec.ofChange fnQueryToIndicesPathModelSpec)) fnQueryToIndicesPathModelCard

/-- THE SECOND FORM's CARD OF 'n001_63.FnQueryToIndexKeyCaseTable'. -/
def fnQueryToIndexKeyCaseTableUptoCard : Claim7 := { stood := { row := fnQueryToIndexKeyCaseTableUptoRow, standIns := [], harness := (true, "76f938d855f3277a7a53b1b9bd329faa55f8ff8ba9a19d24466a3ad1796562f8"), looks := true }, kinds := [], alts := [], laidByText := true, laidKinds := [.data, .data, .widerDeep, .widerDeep, .data, .data, .data, .data, .data, .sentinel, .sentinel, .sentinel, .sentinel, .sentinel, .pinned, .pinned], laidTests := true, laidLooks := .later }
def FnQueryToIndexKeyCaseTableUptoCardSaid : Prop := Claim7.holds Tryz.pinned (.plain (OpenSpec.upto fnQueryToIndexKeyCaseTableSpec)) fnQueryToIndexKeyCaseTableUptoCard

/-- THE SECOND FORM's CARD OF 'n001_25.FnListModuleDepsIgnoresEmptyMetaAndDefs'. -/
def fnListModuleDepsIgnoresEmptyMetaAndDefsUptoCard : Claim7 := { stood := { row := fnListModuleDepsIgnoresEmptyMetaAndDefsUptoRow, standIns := [], harness := (true, "76f938d855f3277a7a53b1b9bd329faa55f8ff8ba9a19d24466a3ad1796562f8"), looks := true }, kinds := [], alts := [], laidByText := true, laidKinds := [.data, .data, .widerDeep, .widerDeep, .data, .data, .data, .data, .data, .sentinel, .sentinel, .sentinel, .sentinel, .sentinel, .pinned, .pinned], laidTests := true, laidLooks := .later }
def FnListModuleDepsIgnoresEmptyMetaAndDefsUptoCardSaid : Prop := Claim7.holds Tryz.pinned (.plain (OpenSpec.upto fnListModuleDepsIgnoresEmptyMetaAndDefsSpec)) fnListModuleDepsIgnoresEmptyMetaAndDefsUptoCard

/-- THE SECOND FORM's CARD OF 'n001_56.FnSuffixToIndicesExtendsList'. -/
def fnSuffixToIndicesExtendsListUptoCard : Claim7 := { stood := { row := fnSuffixToIndicesExtendsListUptoRow, standIns := [], harness := (true, "76f938d855f3277a7a53b1b9bd329faa55f8ff8ba9a19d24466a3ad1796562f8"), looks := true }, kinds := [], alts := [], laidByText := true, laidKinds := [.data, .data, .widerDeep, .widerDeep, .data, .data, .data, .data, .data, .sentinel, .sentinel, .sentinel, .sentinel, .sentinel, .pinned, .pinned], laidTests := true, laidLooks := .later }
def FnSuffixToIndicesExtendsListUptoCardSaid : Prop := Claim7.holds Tryz.pinned (.plain (OpenSpec.upto fnSuffixToIndicesExtendsListSpec)) fnSuffixToIndicesExtendsListUptoCard

/-- THE SECOND FORM's CARD OF 'n001_97.FnFuncSliceComposes'. -/
def fnFuncSliceComposesUptoCard : Claim7 := { stood := { row := fnFuncSliceComposesUptoRow, standIns := [], harness := (true, "76f938d855f3277a7a53b1b9bd329faa55f8ff8ba9a19d24466a3ad1796562f8"), looks := true }, kinds := [], alts := [], laidByText := true, laidKinds := [.data, .data, .widerDeep, .widerDeep, .data, .data, .data, .data, .data, .sentinel, .sentinel, .sentinel, .sentinel, .sentinel, .pinned, .pinned], laidTests := true, laidLooks := .later }
def FnFuncSliceComposesUptoCardSaid : Prop := Claim7.holds Tryz.pinned (.plain (OpenSpec.upto fnFuncSliceComposesSpec)) fnFuncSliceComposesUptoCard

/-- THE SECOND FORM's CARD OF 'n001_63.FnQueryToIndexKeyAgreesWithIndexPath'. -/
def fnQueryToIndexKeyAgreesWithIndexPathUptoCard : Claim7 := { stood := { row := fnQueryToIndexKeyAgreesWithIndexPathUptoRow, standIns := [], harness := (true, "76f938d855f3277a7a53b1b9bd329faa55f8ff8ba9a19d24466a3ad1796562f8"), looks := true }, kinds := [], alts := [], laidByText := true, laidKinds := [.data, .data, .widerDeep, .widerDeep, .data, .data, .data, .data, .data, .sentinel, .sentinel, .sentinel, .sentinel, .sentinel, .pinned, .pinned], laidTests := true, laidLooks := .later }
def FnQueryToIndexKeyAgreesWithIndexPathUptoCardSaid : Prop := Claim7.holds Tryz.pinned (.plain (OpenSpec.upto fnQueryToIndexKeyAgreesWithIndexPathSpec)) fnQueryToIndexKeyAgreesWithIndexPathUptoCard

/-- THE SECOND FORM's CARD OF 'n001_45.FnArgFunc3SliceString'. -/
def fnArgFunc3SliceStringUptoCard : Claim7 := { stood := { row := fnArgFunc3SliceStringUptoRow, standIns := [], harness := (true, "76f938d855f3277a7a53b1b9bd329faa55f8ff8ba9a19d24466a3ad1796562f8"), looks := true }, kinds := [], alts := [], laidByText := true, laidKinds := [.data, .data, .widerDeep, .widerDeep, .data, .data, .data, .data, .data, .sentinel, .sentinel, .sentinel, .sentinel, .sentinel, .pinned, .pinned], laidTests := true, laidLooks := .later }
def FnArgFunc3SliceStringUptoCardSaid : Prop := Claim7.holds Tryz.pinned (.plain (OpenSpec.upto fnArgFunc3SliceStringSpec)) fnArgFunc3SliceStringUptoCard

/-- THE SECOND FORM's CARD OF 'n001_22.FnIndexToIndicesSpec'. -/
def fnIndexToIndicesSpecUptoCard : Claim7 := { stood := { row := fnIndexToIndicesSpecUptoRow, standIns := [], harness := (true, "76f938d855f3277a7a53b1b9bd329faa55f8ff8ba9a19d24466a3ad1796562f8"), looks := true }, kinds := [], alts := [], laidByText := true, laidKinds := [.data, .data, .widerDeep, .widerDeep, .data, .data, .data, .data, .data, .sentinel, .sentinel, .sentinel, .sentinel, .sentinel, .pinned, .pinned], laidTests := true, laidLooks := .later }
def FnIndexToIndicesSpecUptoCardSaid : Prop := Claim7.holds Tryz.pinned (.plain (OpenSpec.upto fnIndexToIndicesSpecSpec)) fnIndexToIndicesSpecUptoCard

/-- THE SECOND FORM's CARD OF 'n001_63.FnQueryToIndicesParenSplit'. -/
def fnQueryToIndicesParenSplitUptoCard : Claim7 := { stood := { row := fnQueryToIndicesParenSplitUptoRow, standIns := [], harness := (true, "76f938d855f3277a7a53b1b9bd329faa55f8ff8ba9a19d24466a3ad1796562f8"), looks := true }, kinds := [], alts := [], laidByText := true, laidKinds := [.data, .data, .widerDeep, .widerDeep, .data, .data, .data, .data, .data, .sentinel, .sentinel, .sentinel, .sentinel, .sentinel, .pinned, .pinned], laidTests := true, laidLooks := .later }
def FnQueryToIndicesParenSplitUptoCardSaid : Prop := Claim7.holds Tryz.pinned (.plain (OpenSpec.upto fnQueryToIndicesParenSplitSpec)) fnQueryToIndicesParenSplitUptoCard

/-- THE SECOND FORM's CARD OF 'n001_97.FnFuncSliceCaseTable'. -/
def fnFuncSliceCaseTableUptoCard : Claim7 := { stood := { row := fnFuncSliceCaseTableUptoRow, standIns := [], harness := (true, "76f938d855f3277a7a53b1b9bd329faa55f8ff8ba9a19d24466a3ad1796562f8"), looks := true }, kinds := [], alts := [], laidByText := true, laidKinds := [.data, .data, .widerDeep, .widerDeep, .data, .data, .data, .data, .data, .sentinel, .sentinel, .sentinel, .sentinel, .sentinel, .pinned, .pinned], laidTests := true, laidLooks := .later }
def FnFuncSliceCaseTableUptoCardSaid : Prop := Claim7.holds Tryz.pinned (.plain (OpenSpec.upto fnFuncSliceCaseTableSpec)) fnFuncSliceCaseTableUptoCard

/-- THE SECOND FORM's CARD OF 'n001_63.FnQueryToIndicesPathModel'. -/
def fnQueryToIndicesPathModelUptoCard : Claim7 := { stood := { row := fnQueryToIndicesPathModelUptoRow, standIns := [], harness := (true, "76f938d855f3277a7a53b1b9bd329faa55f8ff8ba9a19d24466a3ad1796562f8"), looks := true }, kinds := [], alts := [], laidByText := true, laidKinds := [.data, .data, .widerDeep, .widerDeep, .data, .data, .data, .data, .data, .sentinel, .sentinel, .sentinel, .sentinel, .sentinel, .pinned, .pinned], laidTests := true, laidLooks := .later }
def FnQueryToIndicesPathModelUptoCardSaid : Prop := Claim7.holds Tryz.pinned (.plain (OpenSpec.upto fnQueryToIndicesPathModelSpec)) fnQueryToIndicesPathModelUptoCard
end Rows
end Go.Proofs.YtelbnidpchemiaaGreatDoor
