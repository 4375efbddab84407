/-
  DERIVED. GIVEN WITH THE SEED: THE CARDS: each row of YtmfebiipalaihaaGreatDoorRows.lean that lists a variable, with what it lists TIED to the program's text (the seventh form; the later family's looks); each row that meets fmt, with fmt's text TOLD by the authors' own Lean function (tested against real Go, not proved from fmt's source: count such statements apart). THE CARD IS WHAT COUNTS. Prove the row's statement (the work); the ties are given (YtmfebiipalaihaaGreatDoorTie.lean); close each card by the builder's one call (the guide's Derived/Test/ToyasCard.lean, 'card_holds'). Laid BY PROGRAM, IN A SANDBOX (cutbox-door.mjs). By AI agents, Wed Nov 11 2026. No macro, syntax, notation, axiom, sorry.
-/
import Derived.Test.YtmfebiipalaihaaGreatDoorRows
import GoSem.ClaimSeven
namespace Go.Proofs.YtmfebiipalaihaaGreatDoor
namespace Rows

/-- THE TIED CARD OF 'n001_28.FnUpdateArraySliceDelete'. -/
def fnUpdateArraySliceDeleteCard : Claim7 := { stood := { row := fnUpdateArraySliceDeleteRow, standIns := [], harness := (true, "da5752880e43aa8858a3d1ca70e846e0573d04c6e6f33975babc3a35c9ca51ea"), looks := true }, kinds := [], alts := [], laidByText := true, laidKinds := [.data, .data, .widerDeep, .widerDeep, .data, .data, .data, .data, .data, .sentinel, .sentinel, .sentinel, .sentinel, .sentinel, .pinned, .pinned], laidTests := true, laidLooks := .later }
def FnUpdateArraySliceDeleteCardSaid : Prop := Claim7.holds Tryz.pinned (.plain (OpenSpec.ofChange fnUpdateArraySliceDeleteSpec)) fnUpdateArraySliceDeleteCard

/-- THE TIED CARD OF 'n001_28.FnUpdateArrayIndexDelete'. -/
def fnUpdateArrayIndexDeleteCard : Claim7 := { stood := { row := fnUpdateArrayIndexDeleteRow, standIns := [], harness := (true, "da5752880e43aa8858a3d1ca70e846e0573d04c6e6f33975babc3a35c9ca51ea"), looks := true }, kinds := [], alts := [], laidByText := true, laidKinds := [.data, .data, .widerDeep, .widerDeep, .data, .data, .data, .data, .data, .sentinel, .sentinel, .sentinel, .sentinel, .sentinel, .pinned, .pinned], laidTests := true, laidLooks := .later }
def FnUpdateArrayIndexDeleteCardSaid : Prop := Claim7.holds Tryz.pinned (.plain (OpenSpec.ofChange fnUpdateArrayIndexDeleteSpec)) fnUpdateArrayIndexDeleteCard

/-- THE TIED CARD OF 'n001_28.FnUpdateArraySliceReplace'. -/
def fnUpdateArraySliceReplaceCard : Claim7 := { stood := { row := fnUpdateArraySliceReplaceRow, standIns := [], harness := (true, "da5752880e43aa8858a3d1ca70e846e0573d04c6e6f33975babc3a35c9ca51ea"), looks := true }, kinds := [], alts := [], laidByText := true, laidKinds := [.data, .data, .widerDeep, .widerDeep, .data, .data, .data, .data, .data, .sentinel, .sentinel, .sentinel, .sentinel, .sentinel, .pinned, .pinned], laidTests := true, laidLooks := .later }
def FnUpdateArraySliceReplaceCardSaid : Prop := Claim7.holds Tryz.pinned (.plain (OpenSpec.ofChange fnUpdateArraySliceReplaceSpec)) fnUpdateArraySliceReplaceCard

/-- THE SECOND FORM's CARD OF 'n001_28.FnUpdateArraySliceDelete'. -/
def fnUpdateArraySliceDeleteUptoCard : Claim7 := { stood := { row := fnUpdateArraySliceDeleteUptoRow, standIns := [], harness := (true, "da5752880e43aa8858a3d1ca70e846e0573d04c6e6f33975babc3a35c9ca51ea"), looks := true }, kinds := [], alts := [], laidByText := true, laidKinds := [.data, .data, .widerDeep, .widerDeep, .data, .data, .data, .data, .data, .sentinel, .sentinel, .sentinel, .sentinel, .sentinel, .pinned, .pinned], laidTests := true, laidLooks := .later }
def FnUpdateArraySliceDeleteUptoCardSaid : Prop := Claim7.holds Tryz.pinned (.plain (OpenSpec.upto fnUpdateArraySliceDeleteSpec)) fnUpdateArraySliceDeleteUptoCard

/-- THE SECOND FORM's CARD OF 'n001_28.FnUpdateArrayIndexDelete'. -/
def fnUpdateArrayIndexDeleteUptoCard : Claim7 := { stood := { row := fnUpdateArrayIndexDeleteUptoRow, standIns := [], harness := (true, "da5752880e43aa8858a3d1ca70e846e0573d04c6e6f33975babc3a35c9ca51ea"), looks := true }, kinds := [], alts := [], laidByText := true, laidKinds := [.data, .data, .widerDeep, .widerDeep, .data, .data, .data, .data, .data, .sentinel, .sentinel, .sentinel, .sentinel, .sentinel, .pinned, .pinned], laidTests := true, laidLooks := .later }
def FnUpdateArrayIndexDeleteUptoCardSaid : Prop := Claim7.holds Tryz.pinned (.plain (OpenSpec.upto fnUpdateArrayIndexDeleteSpec)) fnUpdateArrayIndexDeleteUptoCard

/-- THE SECOND FORM's CARD OF 'n001_28.FnUpdateArraySliceReplace'. -/
def fnUpdateArraySliceReplaceUptoCard : Claim7 := { stood := { row := fnUpdateArraySliceReplaceUptoRow, standIns := [], harness := (true, "da5752880e43aa8858a3d1ca70e846e0573d04c6e6f33975babc3a35c9ca51ea"), looks := true }, kinds := [], alts := [], laidByText := true, laidKinds := [.data, .data, .widerDeep, .widerDeep, .data, .data, .data, .data, .data, .sentinel, .sentinel, .sentinel, .sentinel, .sentinel, .pinned, .pinned], laidTests := true, laidLooks := .later }
def FnUpdateArraySliceReplaceUptoCardSaid : Prop := Claim7.holds Tryz.pinned (.plain (OpenSpec.upto fnUpdateArraySliceReplaceSpec)) fnUpdateArraySliceReplaceUptoCard
end Rows
end Go.Proofs.YtmfebiipalaihaaGreatDoor
