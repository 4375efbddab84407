/-
  DERIVED. GIVEN WITH THE SEED: THE CARDS: each row of YtdlmdmpkjhnbmaaGreatDoorRows.lean that lists a variable, with what it lists TIED to the program's text (the seventh form; the later family's looks); each row that meets fmt, with fmt's text TOLD by the authors' own Lean function (tested against real Go, not proved from fmt's source: count such statements apart). THE CARD IS WHAT COUNTS. Prove the row's statement (the work); the ties are given (YtdlmdmpkjhnbmaaGreatDoorTie.lean); close each card by the builder's one call (the guide's Derived/Test/ToyasCard.lean, 'card_holds'). Laid BY PROGRAM, IN A SANDBOX (cutbox-door.mjs). By AI agents, Wed Nov 11 2026. No macro, syntax, notation, axiom, sorry.
-/
import Derived.Test.YtdlmdmpkjhnbmaaGreatDoorRows
import GoSem.ClaimSeven
namespace Go.Proofs.YtdlmdmpkjhnbmaaGreatDoor
namespace Rows

/-- THE TIED CARD OF 'n001_28.FnUpdateObjectSetsOneKey'. -/
def fnUpdateObjectSetsOneKeyCard : Claim7 := { stood := { row := fnUpdateObjectSetsOneKeyRow, standIns := [], harness := (true, "d849769ef567356a28ef5cc2ba2eb9e193acfbcce4b5e7ea07da3197b7240b60"), looks := true }, kinds := [], alts := [], laidByText := true, laidKinds := [.data, .data, .widerDeep, .widerDeep, .data, .data, .data, .data, .data, .sentinel, .sentinel, .sentinel, .sentinel, .sentinel, .pinned, .pinned], laidTests := true, laidLooks := .later }
def FnUpdateObjectSetsOneKeyCardSaid : Prop := Claim7.holds Tryz.pinned (.plain (OpenSpec.ofChange fnUpdateObjectSetsOneKeySpec)) fnUpdateObjectSetsOneKeyCard

/-- THE TIED CARD OF 'n001_28.FnUpdateArraySliceReplace'. -/
def fnUpdateArraySliceReplaceCard : Claim7 := { stood := { row := fnUpdateArraySliceReplaceRow, standIns := [], harness := (true, "d849769ef567356a28ef5cc2ba2eb9e193acfbcce4b5e7ea07da3197b7240b60"), looks := true }, kinds := [], alts := [], laidByText := true, laidKinds := [.data, .data, .widerDeep, .widerDeep, .data, .data, .data, .data, .data, .sentinel, .sentinel, .sentinel, .sentinel, .sentinel, .pinned, .pinned], laidTests := true, laidLooks := .later }
def FnUpdateArraySliceReplaceCardSaid : Prop := Claim7.holds Tryz.pinned (.plain (OpenSpec.ofChange fnUpdateArraySliceReplaceSpec)) fnUpdateArraySliceReplaceCard

/-- THE TIED CARD OF 'n001_28.FnUpdateObjectDeleteKey'. -/
def fnUpdateObjectDeleteKeyCard : Claim7 := { stood := { row := fnUpdateObjectDeleteKeyRow, standIns := [], harness := (true, "d849769ef567356a28ef5cc2ba2eb9e193acfbcce4b5e7ea07da3197b7240b60"), looks := true }, kinds := [], alts := [], laidByText := true, laidKinds := [.data, .data, .widerDeep, .widerDeep, .data, .data, .data, .data, .data, .sentinel, .sentinel, .sentinel, .sentinel, .sentinel, .pinned, .pinned], laidTests := true, laidLooks := .later }
def FnUpdateObjectDeleteKeyCardSaid : Prop := Claim7.holds Tryz.pinned (.plain (OpenSpec.ofChange fnUpdateObjectDeleteKeySpec)) fnUpdateObjectDeleteKeyCard

/-- THE TIED CARD OF 'n001_38.FnTermToIndexKeyNegation'. -/
def fnTermToIndexKeyNegationCard : Claim7 := { stood := { row := fnTermToIndexKeyNegationRow, standIns := [], harness := (true, "d849769ef567356a28ef5cc2ba2eb9e193acfbcce4b5e7ea07da3197b7240b60"), looks := true }, kinds := [], alts := [], laidByText := true, laidKinds := [.data, .data, .widerDeep, .widerDeep, .data, .data, .data, .data, .data, .sentinel, .sentinel, .sentinel, .sentinel, .sentinel, .pinned, .pinned], laidTests := true, laidLooks := .later }
def FnTermToIndexKeyNegationCardSaid : Prop := Claim7.holds Tryz.pinned (.plain (OpenSpec.ofChange fnTermToIndexKeyNegationSpec)) fnTermToIndexKeyNegationCard

/-- THE TIED CARD OF 'n001_38.FnTermToNumberOnlyLiterals'. -/
def fnTermToNumberOnlyLiteralsCard : Claim7 := { stood := { row := fnTermToNumberOnlyLiteralsRow, standIns := [], harness := (true, "d849769ef567356a28ef5cc2ba2eb9e193acfbcce4b5e7ea07da3197b7240b60"), looks := true }, kinds := [], alts := [], laidByText := true, laidKinds := [.data, .data, .widerDeep, .widerDeep, .data, .data, .data, .data, .data, .sentinel, .sentinel, .sentinel, .sentinel, .sentinel, .pinned, .pinned], laidTests := true, laidLooks := .later }
def FnTermToNumberOnlyLiteralsCardSaid : Prop := Claim7.holds Tryz.pinned (.plain (OpenSpec.ofChange fnTermToNumberOnlyLiteralsSpec)) fnTermToNumberOnlyLiteralsCard

/-- THE TIED CARD OF 'n001_38.FnTermToIndicesSpec'. -/
def fnTermToIndicesSpecCard : Claim7 := { stood := { row := fnTermToIndicesSpecRow, standIns := [], harness := (true, "d849769ef567356a28ef5cc2ba2eb9e193acfbcce4b5e7ea07da3197b7240b60"), looks := true }, kinds := [], alts := [], laidByText := true, laidKinds := [.data, .data, .widerDeep, .widerDeep, .data, .data, .data, .data, .data, .sentinel, .sentinel, .sentinel, .sentinel, .sentinel, .pinned, .pinned], laidTests := true, laidLooks := .later }
def FnTermToIndicesSpecCardSaid : Prop := Claim7.holds Tryz.pinned (.plain (OpenSpec.ofChange fnTermToIndicesSpecSpec)) fnTermToIndicesSpecCard

/-- THE TIED CARD OF 'n001_38.FnTermToIndexKeyCaseTable'. -/
def fnTermToIndexKeyCaseTableCard : Claim7 := { stood := { row := fnTermToIndexKeyCaseTableRow, standIns := [], harness := (true, "d849769ef567356a28ef5cc2ba2eb9e193acfbcce4b5e7ea07da3197b7240b60"), looks := true }, kinds := [], alts := [], laidByText := true, laidKinds := [.data, .data, .widerDeep, .widerDeep, .data, .data, .data, .data, .data, .sentinel, .sentinel, .sentinel, .sentinel, .sentinel, .pinned, .pinned], laidTests := true, laidLooks := .later }
def FnTermToIndexKeyCaseTableCardSaid : Prop := Claim7.holds Tryz.pinned (.plain (OpenSpec.ofChange fnTermToIndexKeyCaseTableSpec)) fnTermToIndexKeyCaseTableCard

/-- THE TIED CARD OF 'n001_38.FnTermToIndicesParens'. -/
def fnTermToIndicesParensCard : Claim7 := { stood := { row := fnTermToIndicesParensRow, standIns := [], harness := (true, "d849769ef567356a28ef5cc2ba2eb9e193acfbcce4b5e7ea07da3197b7240b60"), looks := true }, kinds := [], alts := [], laidByText := true, laidKinds := [.data, .data, .widerDeep, .widerDeep, .data, .data, .data, .data, .data, .sentinel, .sentinel, .sentinel, .sentinel, .sentinel, .pinned, .pinned], laidTests := true, laidLooks := .later }
def FnTermToIndicesParensCardSaid : Prop := Claim7.holds Tryz.pinned (.plain (OpenSpec.ofChange fnTermToIndicesParensSpec)) fnTermToIndicesParensCard

/-- THE SECOND FORM's CARD OF 'n001_28.FnUpdateObjectSetsOneKey'. -/
def fnUpdateObjectSetsOneKeyUptoCard : Claim7 := { stood := { row := fnUpdateObjectSetsOneKeyUptoRow, standIns := [], harness := (true, "d849769ef567356a28ef5cc2ba2eb9e193acfbcce4b5e7ea07da3197b7240b60"), looks := true }, kinds := [], alts := [], laidByText := true, laidKinds := [.data, .data, .widerDeep, .widerDeep, .data, .data, .data, .data, .data, .sentinel, .sentinel, .sentinel, .sentinel, .sentinel, .pinned, .pinned], laidTests := true, laidLooks := .later }
def FnUpdateObjectSetsOneKeyUptoCardSaid : Prop := Claim7.holds Tryz.pinned (.plain (OpenSpec.upto fnUpdateObjectSetsOneKeySpec)) fnUpdateObjectSetsOneKeyUptoCard

/-- THE SECOND FORM's CARD OF 'n001_28.FnUpdateArraySliceReplace'. -/
def fnUpdateArraySliceReplaceUptoCard : Claim7 := { stood := { row := fnUpdateArraySliceReplaceUptoRow, standIns := [], harness := (true, "d849769ef567356a28ef5cc2ba2eb9e193acfbcce4b5e7ea07da3197b7240b60"), looks := true }, kinds := [], alts := [], laidByText := true, laidKinds := [.data, .data, .widerDeep, .widerDeep, .data, .data, .data, .data, .data, .sentinel, .sentinel, .sentinel, .sentinel, .sentinel, .pinned, .pinned], laidTests := true, laidLooks := .later }
def FnUpdateArraySliceReplaceUptoCardSaid : Prop := Claim7.holds Tryz.pinned (.plain (OpenSpec.upto fnUpdateArraySliceReplaceSpec)) fnUpdateArraySliceReplaceUptoCard

/-- THE SECOND FORM's CARD OF 'n001_28.FnUpdateObjectDeleteKey'. -/
def fnUpdateObjectDeleteKeyUptoCard : Claim7 := { stood := { row := fnUpdateObjectDeleteKeyUptoRow, standIns := [], harness := (true, "d849769ef567356a28ef5cc2ba2eb9e193acfbcce4b5e7ea07da3197b7240b60"), looks := true }, kinds := [], alts := [], laidByText := true, laidKinds := [.data, .data, .widerDeep, .widerDeep, .data, .data, .data, .data, .data, .sentinel, .sentinel, .sentinel, .sentinel, .sentinel, .pinned, .pinned], laidTests := true, laidLooks := .later }
def FnUpdateObjectDeleteKeyUptoCardSaid : Prop := Claim7.holds Tryz.pinned (.plain (OpenSpec.upto fnUpdateObjectDeleteKeySpec)) fnUpdateObjectDeleteKeyUptoCard

/-- THE SECOND FORM's CARD OF 'n001_38.FnTermToIndexKeyNegation'. -/
def fnTermToIndexKeyNegationUptoCard : Claim7 := { stood := { row := fnTermToIndexKeyNegationUptoRow, standIns := [], harness := (true, "d849769ef567356a28ef5cc2ba2eb9e193acfbcce4b5e7ea07da3197b7240b60"), looks := true }, kinds := [], alts := [], laidByText := true, laidKinds := [.data, .data, .widerDeep, .widerDeep, .data, .data, .data, .data, .data, .sentinel, .sentinel, .sentinel, .sentinel, .sentinel, .pinned, .pinned], laidTests := true, laidLooks := .later }
def FnTermToIndexKeyNegationUptoCardSaid : Prop := Claim7.holds Tryz.pinned (.plain (OpenSpec.upto fnTermToIndexKeyNegationSpec)) fnTermToIndexKeyNegationUptoCard

/-- THE SECOND FORM's CARD OF 'n001_38.FnTermToNumberOnlyLiterals'. -/
def fnTermToNumberOnlyLiteralsUptoCard : Claim7 := { stood := { row := fnTermToNumberOnlyLiteralsUptoRow, standIns := [], harness := (true, "d849769ef567356a28ef5cc2ba2eb9e193acfbcce4b5e7ea07da3197b7240b60"), looks := true }, kinds := [], alts := [], laidByText := true, laidKinds := [.data, .data, .widerDeep, .widerDeep, .data, .data, .data, .data, .data, .sentinel, .sentinel, .sentinel, .sentinel, .sentinel, .pinned, .pinned], laidTests := true, laidLooks := .later }
def FnTermToNumberOnlyLiteralsUptoCardSaid : Prop := Claim7.holds Tryz.pinned (.plain (OpenSpec.upto fnTermToNumberOnlyLiteralsSpec)) fnTermToNumberOnlyLiteralsUptoCard

/-- THE SECOND FORM's CARD OF 'n001_38.FnTermToIndicesSpec'. -/
def fnTermToIndicesSpecUptoCard : Claim7 := { stood := { row := fnTermToIndicesSpecUptoRow, standIns := [], harness := (true, "d849769ef567356a28ef5cc2ba2eb9e193acfbcce4b5e7ea07da3197b7240b60"), looks := true }, kinds := [], alts := [], laidByText := true, laidKinds := [.data, .data, .widerDeep, .widerDeep, .data, .data, .data, .data, .data, .sentinel, .sentinel, .sentinel, .sentinel, .sentinel, .pinned, .pinned], laidTests := true, laidLooks := .later }
def FnTermToIndicesSpecUptoCardSaid : Prop := Claim7.holds Tryz.pinned (.plain (OpenSpec.upto fnTermToIndicesSpecSpec)) fnTermToIndicesSpecUptoCard

/-- THE SECOND FORM's CARD OF 'n001_38.FnTermToIndexKeyCaseTable'. -/
def fnTermToIndexKeyCaseTableUptoCard : Claim7 := { stood := { row := fnTermToIndexKeyCaseTableUptoRow, standIns := [], harness := (true, "d849769ef567356a28ef5cc2ba2eb9e193acfbcce4b5e7ea07da3197b7240b60"), looks := true }, kinds := [], alts := [], laidByText := true, laidKinds := [.data, .data, .widerDeep, .widerDeep, .data, .data, .data, .data, .data, .sentinel, .sentinel, .sentinel, .sentinel, .sentinel, .pinned, .pinned], laidTests := true, laidLooks := .later }
def FnTermToIndexKeyCaseTableUptoCardSaid : Prop := Claim7.holds Tryz.pinned (.plain (OpenSpec.upto fnTermToIndexKeyCaseTableSpec)) fnTermToIndexKeyCaseTableUptoCard

/-- THE SECOND FORM's CARD OF 'n001_38.FnTermToIndicesParens'. -/
def fnTermToIndicesParensUptoCard : Claim7 := { stood := { row := fnTermToIndicesParensUptoRow, standIns := [], harness := (true, "d849769ef567356a28ef5cc2ba2eb9e193acfbcce4b5e7ea07da3197b7240b60"), looks := true }, kinds := [], alts := [], laidByText := true, laidKinds := [.data, .data, .widerDeep, .widerDeep, .data, .data, .data, .data, .data, .sentinel, .sentinel, .sentinel, .sentinel, .sentinel, .pinned, .pinned], laidTests := true, laidLooks := .later }
def FnTermToIndicesParensUptoCardSaid : Prop := Claim7.holds Tryz.pinned (.plain (OpenSpec.upto fnTermToIndicesParensSpec)) fnTermToIndicesParensUptoCard
end Rows
end Go.Proofs.YtdlmdmpkjhnbmaaGreatDoor
