/-
  DERIVED. GIVEN WITH THE SEED: THE CARDS: each row of YticjhbklcpoonaaGreatDoorRows.lean that lists a variable, with what it lists TIED to the program's text (the seventh form; the later family's looks); each row that meets fmt, with fmt's text TOLD by the authors' own Lean function (tested against real Go, not proved from fmt's source: count such statements apart). THE CARD IS WHAT COUNTS. Prove the row's statement (the work); the ties are given (YticjhbklcpoonaaGreatDoorTie.lean); close each card by the builder's one call (the guide's Derived/Test/ToyasCard.lean, 'card_holds'). Laid BY PROGRAM, IN A SANDBOX (cutbox-door.mjs). By AI agents, Wed Nov 11 2026. No macro, syntax, notation, axiom, sorry.
-/
import Derived.Test.YticjhbklcpoonaaGreatDoorRows
import GoSem.ClaimSeven
namespace Go.Proofs.YticjhbklcpoonaaGreatDoor
namespace Rows

/-- THE TIED CARD OF 'n001_63.FnQueryToIndexKeyCaseTable'. -/
def fnQueryToIndexKeyCaseTableCard : Claim7 := { stood := { row := fnQueryToIndexKeyCaseTableRow, standIns := [], harness := (true, "7620d6df44218411cc67c82f8ba1b856313683b09599e03f71dcc026c88d7761"), looks := true }, kinds := [], alts := [], laidByText := true, laidKinds := [.data, .data, .widerDeep, .widerDeep, .data, .data, .data, .data, .data, .sentinel, .sentinel, .sentinel, .sentinel, .sentinel, .pinned, .pinned], laidTests := true, laidLooks := .later }
def FnQueryToIndexKeyCaseTableCardSaid : Prop := Claim7.holds Tryz.pinned (.plain (OpenSpec.ofChange fnQueryToIndexKeyCaseTableSpec)) fnQueryToIndexKeyCaseTableCard

/-- THE TIED CARD OF 'n001_25.FnListModuleDepsIgnoresEmptyMetaAndDefs'. -/
def fnListModuleDepsIgnoresEmptyMetaAndDefsCard : Claim7 := { stood := { row := fnListModuleDepsIgnoresEmptyMetaAndDefsRow, standIns := [], harness := (true, "7620d6df44218411cc67c82f8ba1b856313683b09599e03f71dcc026c88d7761"), looks := true }, kinds := [], alts := [], laidByText := true, laidKinds := [.data, .data, .widerDeep, .widerDeep, .data, .data, .data, .data, .data, .sentinel, .sentinel, .sentinel, .sentinel, .sentinel, .pinned, .pinned], laidTests := true, laidLooks := .later }
def FnListModuleDepsIgnoresEmptyMetaAndDefsCardSaid : Prop := Claim7.holds Tryz.pinned (.plain (OpenSpec.ofChange fnListModuleDepsIgnoresEmptyMetaAndDefsSpec)) fnListModuleDepsIgnoresEmptyMetaAndDefsCard

/-- THE TIED CARD OF 'n001_56.FnSuffixToIndicesExtendsList'. -/
def fnSuffixToIndicesExtendsListCard : Claim7 := { stood := { row := fnSuffixToIndicesExtendsListRow, standIns := [], harness := (true, "7620d6df44218411cc67c82f8ba1b856313683b09599e03f71dcc026c88d7761"), looks := true }, kinds := [], alts := [], laidByText := true, laidKinds := [.data, .data, .widerDeep, .widerDeep, .data, .data, .data, .data, .data, .sentinel, .sentinel, .sentinel, .sentinel, .sentinel, .pinned, .pinned], laidTests := true, laidLooks := .later }
def FnSuffixToIndicesExtendsListCardSaid : Prop := Claim7.holds Tryz.pinned (.plain (OpenSpec.ofChange fnSuffixToIndicesExtendsListSpec)) fnSuffixToIndicesExtendsListCard

/-- THE TIED CARD OF 'n001_97.FnFuncSliceComposes'. -/
def fnFuncSliceComposesCard : Claim7 := { stood := { row := fnFuncSliceComposesRow, standIns := [], harness := (true, "7620d6df44218411cc67c82f8ba1b856313683b09599e03f71dcc026c88d7761"), looks := true }, kinds := [], alts := [], laidByText := true, laidKinds := [.data, .data, .widerDeep, .widerDeep, .data, .data, .data, .data, .data, .sentinel, .sentinel, .sentinel, .sentinel, .sentinel, .pinned, .pinned], laidTests := true, laidLooks := .later }
def FnFuncSliceComposesCardSaid : Prop := Claim7.holds Tryz.pinned (.plain (OpenSpec.ofChange fnFuncSliceComposesSpec)) fnFuncSliceComposesCard

/-- THE TIED CARD OF 'n001_63.FnQueryToIndexKeyAgreesWithIndexPath'. -/
def fnQueryToIndexKeyAgreesWithIndexPathCard : Claim7 := { stood := { row := fnQueryToIndexKeyAgreesWithIndexPathRow, standIns := [], harness := (true, "7620d6df44218411cc67c82f8ba1b856313683b09599e03f71dcc026c88d7761"), looks := true }, kinds := [], alts := [], laidByText := true, laidKinds := [.data, .data, .widerDeep, .widerDeep, .data, .data, .data, .data, .data, .sentinel, .sentinel, .sentinel, .sentinel, .sentinel, .pinned, .pinned], laidTests := true, laidLooks := .later }
def FnQueryToIndexKeyAgreesWithIndexPathCardSaid : Prop := Claim7.holds Tryz.pinned (.plain (OpenSpec.ofChange fnQueryToIndexKeyAgreesWithIndexPathSpec)) fnQueryToIndexKeyAgreesWithIndexPathCard

/-- THE TIED CARD OF 'n001_45.FnArgFunc3SliceString'. -/
def fnArgFunc3SliceStringCard : Claim7 := { stood := { row := fnArgFunc3SliceStringRow, standIns := [], harness := (true, "7620d6df44218411cc67c82f8ba1b856313683b09599e03f71dcc026c88d7761"), looks := true }, kinds := [], alts := [], laidByText := true, laidKinds := [.data, .data, .widerDeep, .widerDeep, .data, .data, .data, .data, .data, .sentinel, .sentinel, .sentinel, .sentinel, .sentinel, .pinned, .pinned], laidTests := true, laidLooks := .later }
def FnArgFunc3SliceStringCardSaid : Prop := Claim7.holds Tryz.pinned (.plain (OpenSpec.ofChange fnArgFunc3SliceStringSpec)) fnArgFunc3SliceStringCard

/-- THE TIED CARD OF 'n001_97.FnFuncSliceCaseTable'. -/
def fnFuncSliceCaseTableCard : Claim7 := { stood := { row := fnFuncSliceCaseTableRow, standIns := [], harness := (true, "7620d6df44218411cc67c82f8ba1b856313683b09599e03f71dcc026c88d7761"), looks := true }, kinds := [], alts := [], laidByText := true, laidKinds := [.data, .data, .widerDeep, .widerDeep, .data, .data, .data, .data, .data, .sentinel, .sentinel, .sentinel, .sentinel, .sentinel, .pinned, .pinned], laidTests := true, laidLooks := .later }
def FnFuncSliceCaseTableCardSaid : Prop := Claim7.holds Tryz.pinned (.plain (OpenSpec.ofChange fnFuncSliceCaseTableSpec)) fnFuncSliceCaseTableCard

/-- THE SECOND FORM's CARD OF 'n001_63.FnQueryToIndexKeyCaseTable'. -/
def fnQueryToIndexKeyCaseTableUptoCard : Claim7 := { stood := { row := fnQueryToIndexKeyCaseTableUptoRow, standIns := [], harness := (true, "7620d6df44218411cc67c82f8ba1b856313683b09599e03f71dcc026c88d7761"), looks := true }, kinds := [], alts := [], laidByText := true, laidKinds := [.data, .data, .widerDeep, .widerDeep, .data, .data, .data, .data, .data, .sentinel, .sentinel, .sentinel, .sentinel, .sentinel, .pinned, .pinned], laidTests := true, laidLooks := .later }
def FnQueryToIndexKeyCaseTableUptoCardSaid : Prop := Claim7.holds Tryz.pinned (.plain (OpenSpec.upto fnQueryToIndexKeyCaseTableSpec)) fnQueryToIndexKeyCaseTableUptoCard

/-- THE SECOND FORM's CARD OF 'n001_25.FnListModuleDepsIgnoresEmptyMetaAndDefs'. -/
def fnListModuleDepsIgnoresEmptyMetaAndDefsUptoCard : Claim7 := { stood := { row := fnListModuleDepsIgnoresEmptyMetaAndDefsUptoRow, standIns := [], harness := (true, "7620d6df44218411cc67c82f8ba1b856313683b09599e03f71dcc026c88d7761"), looks := true }, kinds := [], alts := [], laidByText := true, laidKinds := [.data, .data, .widerDeep, .widerDeep, .data, .data, .data, .data, .data, .sentinel, .sentinel, .sentinel, .sentinel, .sentinel, .pinned, .pinned], laidTests := true, laidLooks := .later }
def FnListModuleDepsIgnoresEmptyMetaAndDefsUptoCardSaid : Prop := Claim7.holds Tryz.pinned (.plain (OpenSpec.upto fnListModuleDepsIgnoresEmptyMetaAndDefsSpec)) fnListModuleDepsIgnoresEmptyMetaAndDefsUptoCard

/-- THE SECOND FORM's CARD OF 'n001_56.FnSuffixToIndicesExtendsList'. -/
def fnSuffixToIndicesExtendsListUptoCard : Claim7 := { stood := { row := fnSuffixToIndicesExtendsListUptoRow, standIns := [], harness := (true, "7620d6df44218411cc67c82f8ba1b856313683b09599e03f71dcc026c88d7761"), looks := true }, kinds := [], alts := [], laidByText := true, laidKinds := [.data, .data, .widerDeep, .widerDeep, .data, .data, .data, .data, .data, .sentinel, .sentinel, .sentinel, .sentinel, .sentinel, .pinned, .pinned], laidTests := true, laidLooks := .later }
def FnSuffixToIndicesExtendsListUptoCardSaid : Prop := Claim7.holds Tryz.pinned (.plain (OpenSpec.upto fnSuffixToIndicesExtendsListSpec)) fnSuffixToIndicesExtendsListUptoCard

/-- THE SECOND FORM's CARD OF 'n001_97.FnFuncSliceComposes'. -/
def fnFuncSliceComposesUptoCard : Claim7 := { stood := { row := fnFuncSliceComposesUptoRow, standIns := [], harness := (true, "7620d6df44218411cc67c82f8ba1b856313683b09599e03f71dcc026c88d7761"), looks := true }, kinds := [], alts := [], laidByText := true, laidKinds := [.data, .data, .widerDeep, .widerDeep, .data, .data, .data, .data, .data, .sentinel, .sentinel, .sentinel, .sentinel, .sentinel, .pinned, .pinned], laidTests := true, laidLooks := .later }
def FnFuncSliceComposesUptoCardSaid : Prop := Claim7.holds Tryz.pinned (.plain (OpenSpec.upto fnFuncSliceComposesSpec)) fnFuncSliceComposesUptoCard

/-- THE SECOND FORM's CARD OF 'n001_63.FnQueryToIndexKeyAgreesWithIndexPath'. -/
def fnQueryToIndexKeyAgreesWithIndexPathUptoCard : Claim7 := { stood := { row := fnQueryToIndexKeyAgreesWithIndexPathUptoRow, standIns := [], harness := (true, "7620d6df44218411cc67c82f8ba1b856313683b09599e03f71dcc026c88d7761"), looks := true }, kinds := [], alts := [], laidByText := true, laidKinds := [.data, .data, .widerDeep, .widerDeep, .data, .data, .data, .data, .data, .sentinel, .sentinel, .sentinel, .sentinel, .sentinel, .pinned, .pinned], laidTests := true, laidLooks := .later }
def FnQueryToIndexKeyAgreesWithIndexPathUptoCardSaid : Prop := Claim7.holds Tryz.pinned (.plain (OpenSpec.upto fnQueryToIndexKeyAgreesWithIndexPathSpec)) fnQueryToIndexKeyAgreesWithIndexPathUptoCard

/-- THE SECOND FORM's CARD OF 'n001_45.FnArgFunc3SliceString'. -/
def fnArgFunc3SliceStringUptoCard : Claim7 := { stood := { row := fnArgFunc3SliceStringUptoRow, standIns := [], harness := (true, "7620d6df44218411cc67c82f8ba1b856313683b09599e03f71dcc026c88d7761"), looks := true }, kinds := [], alts := [], laidByText := true, laidKinds := [.data, .data, .widerDeep, .widerDeep, .data, .data, .data, .data, .data, .sentinel, .sentinel, .sentinel, .sentinel, .sentinel, .pinned, .pinned], laidTests := true, laidLooks := .later }
def FnArgFunc3SliceStringUptoCardSaid : Prop := Claim7.holds Tryz.pinned (.plain (OpenSpec.upto fnArgFunc3SliceStringSpec)) fnArgFunc3SliceStringUptoCard

/-- THE SECOND FORM's CARD OF 'n001_97.FnFuncSliceCaseTable'. -/
def fnFuncSliceCaseTableUptoCard : Claim7 := { stood := { row := fnFuncSliceCaseTableUptoRow, standIns := [], harness := (true, "7620d6df44218411cc67c82f8ba1b856313683b09599e03f71dcc026c88d7761"), looks := true }, kinds := [], alts := [], laidByText := true, laidKinds := [.data, .data, .widerDeep, .widerDeep, .data, .data, .data, .data, .data, .sentinel, .sentinel, .sentinel, .sentinel, .sentinel, .pinned, .pinned], laidTests := true, laidLooks := .later }
def FnFuncSliceCaseTableUptoCardSaid : Prop := Claim7.holds Tryz.pinned (.plain (OpenSpec.upto fnFuncSliceCaseTableSpec)) fnFuncSliceCaseTableUptoCard
end Rows
end Go.Proofs.YticjhbklcpoonaaGreatDoor
