/-
  DERIVED. GIVEN WITH THE SEED: THE CARDS: each row of YtdhgaogjdjhokaaGreatDoorRows.lean that lists a variable, with what it lists TIED to the program's text (the seventh form; the later family's looks); each row that meets fmt, with fmt's text TOLD by the authors' own Lean function (tested against real Go, not proved from fmt's source: count such statements apart). THE CARD IS WHAT COUNTS. Prove the row's statement (the work); the ties are given (YtdhgaogjdjhokaaGreatDoorTie.lean); close each card by the builder's one call (the guide's Derived/Test/ToyasCard.lean, 'card_holds'). Laid BY PROGRAM, IN A SANDBOX (cutbox-door.mjs). By AI agents, Wed Nov 11 2026. No macro, syntax, notation, axiom, sorry.
-/
import Derived.Test.YtdhgaogjdjhokaaGreatDoorRows
import GoSem.ClaimSeven
namespace Go.Proofs.YtdhgaogjdjhokaaGreatDoor
namespace Rows

/-- THE TIED CARD OF 'n001_87.FnSetpathExact'. -/
def fnSetpathExactCard : Claim7 := { stood := { row := fnSetpathExactRow, standIns := [], harness := (true, "b37a791b578a62a35c223c58b7daa48566d2443d3159bc679aa4b26dafeb0eeb"), looks := true }, kinds := [], alts := [], laidByText := true, laidKinds := [.data, .data, .widerDeep, .widerDeep, .data, .data, .data, .data, .data, .sentinel, .sentinel, .sentinel, .sentinel, .sentinel, .pinned, .pinned], laidTests := true, laidLooks := .later }
def FnSetpathExactCardSaid : Prop := Claim7.holds Tryz.pinned (.plain (OpenSpec.ofChange fnSetpathExactSpec)) fnSetpathExactCard

/-- THE TIED CARD OF 'n001_87.FnSetpathInternalExact'. -/
def fnSetpathInternalExactCard : Claim7 := { stood := { row := fnSetpathInternalExactRow, standIns := [], harness := (true, "b37a791b578a62a35c223c58b7daa48566d2443d3159bc679aa4b26dafeb0eeb"), looks := true }, kinds := [], alts := [], laidByText := true, laidKinds := [.data, .data, .widerDeep, .widerDeep, .data, .data, .data, .data, .data, .sentinel, .sentinel, .sentinel, .sentinel, .sentinel, .pinned, .pinned], laidTests := true, laidLooks := .later }
def FnSetpathInternalExactCardSaid : Prop := Claim7.holds Tryz.pinned (.plain (OpenSpec.ofChange fnSetpathInternalExactSpec)) fnSetpathInternalExactCard

/-- THE TIED CARD OF 'n001_87.FnSetpathKeepsInput'. -/
def fnSetpathKeepsInputCard : Claim7 := { stood := { row := fnSetpathKeepsInputRow, standIns := [], harness := (true, "b37a791b578a62a35c223c58b7daa48566d2443d3159bc679aa4b26dafeb0eeb"), looks := true }, kinds := [], alts := [], laidByText := true, laidKinds := [.data, .data, .widerDeep, .widerDeep, .data, .data, .data, .data, .data, .sentinel, .sentinel, .sentinel, .sentinel, .sentinel, .pinned, .pinned], laidTests := true, laidLooks := .later }
def FnSetpathKeepsInputCardSaid : Prop := Claim7.holds Tryz.pinned (.plain (OpenSpec.ofChange fnSetpathKeepsInputSpec)) fnSetpathKeepsInputCard

/-- THE TIED CARD OF 'n001_87.FnSetpathWithAllocatorExact'. -/
def fnSetpathWithAllocatorExactCard : Claim7 := { stood := { row := fnSetpathWithAllocatorExactRow, standIns := [], harness := (true, "b37a791b578a62a35c223c58b7daa48566d2443d3159bc679aa4b26dafeb0eeb"), looks := true }, kinds := [], alts := [], laidByText := true, laidKinds := [.data, .data, .widerDeep, .widerDeep, .data, .data, .data, .data, .data, .sentinel, .sentinel, .sentinel, .sentinel, .sentinel, .pinned, .pinned], laidTests := true, laidLooks := .later }
def FnSetpathWithAllocatorExactCardSaid : Prop := Claim7.holds Tryz.pinned (.plain (OpenSpec.ofChange fnSetpathWithAllocatorExactSpec)) fnSetpathWithAllocatorExactCard

/-- THE TIED CARD OF 'n001_87.FnSetpathWithAllocatorAgrees'. -/
def fnSetpathWithAllocatorAgreesCard : Claim7 := { stood := { row := fnSetpathWithAllocatorAgreesRow, standIns := [], harness := (true, "b37a791b578a62a35c223c58b7daa48566d2443d3159bc679aa4b26dafeb0eeb"), looks := true }, kinds := [], alts := [], laidByText := true, laidKinds := [.data, .data, .widerDeep, .widerDeep, .data, .data, .data, .data, .data, .sentinel, .sentinel, .sentinel, .sentinel, .sentinel, .pinned, .pinned], laidTests := true, laidLooks := .later }
def FnSetpathWithAllocatorAgreesCardSaid : Prop := Claim7.holds Tryz.pinned (.plain (OpenSpec.ofChange fnSetpathWithAllocatorAgreesSpec)) fnSetpathWithAllocatorAgreesCard

/-- THE TIED CARD OF 'n001_87.FnSetpathOwnedInPlace'. -/
def fnSetpathOwnedInPlaceCard : Claim7 := { stood := { row := fnSetpathOwnedInPlaceRow, standIns := [], harness := (true, "b37a791b578a62a35c223c58b7daa48566d2443d3159bc679aa4b26dafeb0eeb"), looks := true }, kinds := [], alts := [], laidByText := true, laidKinds := [.data, .data, .widerDeep, .widerDeep, .data, .data, .data, .data, .data, .sentinel, .sentinel, .sentinel, .sentinel, .sentinel, .pinned, .pinned], laidTests := true, laidLooks := .later }
def FnSetpathOwnedInPlaceCardSaid : Prop := Claim7.holds Tryz.pinned (.plain (OpenSpec.ofChange fnSetpathOwnedInPlaceSpec)) fnSetpathOwnedInPlaceCard

/-- THE SECOND FORM's CARD OF 'n001_87.FnSetpathExact'. -/
def fnSetpathExactUptoCard : Claim7 := { stood := { row := fnSetpathExactUptoRow, standIns := [], harness := (true, "b37a791b578a62a35c223c58b7daa48566d2443d3159bc679aa4b26dafeb0eeb"), looks := true }, kinds := [], alts := [], laidByText := true, laidKinds := [.data, .data, .widerDeep, .widerDeep, .data, .data, .data, .data, .data, .sentinel, .sentinel, .sentinel, .sentinel, .sentinel, .pinned, .pinned], laidTests := true, laidLooks := .later }
def FnSetpathExactUptoCardSaid : Prop := Claim7.holds Tryz.pinned (.plain (OpenSpec.upto fnSetpathExactSpec)) fnSetpathExactUptoCard

/-- THE SECOND FORM's CARD OF 'n001_87.FnSetpathInternalExact'. -/
def fnSetpathInternalExactUptoCard : Claim7 := { stood := { row := fnSetpathInternalExactUptoRow, standIns := [], harness := (true, "b37a791b578a62a35c223c58b7daa48566d2443d3159bc679aa4b26dafeb0eeb"), looks := true }, kinds := [], alts := [], laidByText := true, laidKinds := [.data, .data, .widerDeep, .widerDeep, .data, .data, .data, .data, .data, .sentinel, .sentinel, .sentinel, .sentinel, .sentinel, .pinned, .pinned], laidTests := true, laidLooks := .later }
def FnSetpathInternalExactUptoCardSaid : Prop := Claim7.holds Tryz.pinned (.plain (OpenSpec.upto fnSetpathInternalExactSpec)) fnSetpathInternalExactUptoCard

/-- THE SECOND FORM's CARD OF 'n001_87.FnSetpathKeepsInput'. -/
def fnSetpathKeepsInputUptoCard : Claim7 := { stood := { row := fnSetpathKeepsInputUptoRow, standIns := [], harness := (true, "b37a791b578a62a35c223c58b7daa48566d2443d3159bc679aa4b26dafeb0eeb"), looks := true }, kinds := [], alts := [], laidByText := true, laidKinds := [.data, .data, .widerDeep, .widerDeep, .data, .data, .data, .data, .data, .sentinel, .sentinel, .sentinel, .sentinel, .sentinel, .pinned, .pinned], laidTests := true, laidLooks := .later }
def FnSetpathKeepsInputUptoCardSaid : Prop := Claim7.holds Tryz.pinned (.plain (OpenSpec.upto fnSetpathKeepsInputSpec)) fnSetpathKeepsInputUptoCard

/-- THE SECOND FORM's CARD OF 'n001_87.FnSetpathWithAllocatorExact'. -/
def fnSetpathWithAllocatorExactUptoCard : Claim7 := { stood := { row := fnSetpathWithAllocatorExactUptoRow, standIns := [], harness := (true, "b37a791b578a62a35c223c58b7daa48566d2443d3159bc679aa4b26dafeb0eeb"), looks := true }, kinds := [], alts := [], laidByText := true, laidKinds := [.data, .data, .widerDeep, .widerDeep, .data, .data, .data, .data, .data, .sentinel, .sentinel, .sentinel, .sentinel, .sentinel, .pinned, .pinned], laidTests := true, laidLooks := .later }
def FnSetpathWithAllocatorExactUptoCardSaid : Prop := Claim7.holds Tryz.pinned (.plain (OpenSpec.upto fnSetpathWithAllocatorExactSpec)) fnSetpathWithAllocatorExactUptoCard

/-- THE SECOND FORM's CARD OF 'n001_87.FnSetpathWithAllocatorAgrees'. -/
def fnSetpathWithAllocatorAgreesUptoCard : Claim7 := { stood := { row := fnSetpathWithAllocatorAgreesUptoRow, standIns := [], harness := (true, "b37a791b578a62a35c223c58b7daa48566d2443d3159bc679aa4b26dafeb0eeb"), looks := true }, kinds := [], alts := [], laidByText := true, laidKinds := [.data, .data, .widerDeep, .widerDeep, .data, .data, .data, .data, .data, .sentinel, .sentinel, .sentinel, .sentinel, .sentinel, .pinned, .pinned], laidTests := true, laidLooks := .later }
def FnSetpathWithAllocatorAgreesUptoCardSaid : Prop := Claim7.holds Tryz.pinned (.plain (OpenSpec.upto fnSetpathWithAllocatorAgreesSpec)) fnSetpathWithAllocatorAgreesUptoCard

/-- THE SECOND FORM's CARD OF 'n001_87.FnSetpathOwnedInPlace'. -/
def fnSetpathOwnedInPlaceUptoCard : Claim7 := { stood := { row := fnSetpathOwnedInPlaceUptoRow, standIns := [], harness := (true, "b37a791b578a62a35c223c58b7daa48566d2443d3159bc679aa4b26dafeb0eeb"), looks := true }, kinds := [], alts := [], laidByText := true, laidKinds := [.data, .data, .widerDeep, .widerDeep, .data, .data, .data, .data, .data, .sentinel, .sentinel, .sentinel, .sentinel, .sentinel, .pinned, .pinned], laidTests := true, laidLooks := .later }
def FnSetpathOwnedInPlaceUptoCardSaid : Prop := Claim7.holds Tryz.pinned (.plain (OpenSpec.upto fnSetpathOwnedInPlaceSpec)) fnSetpathOwnedInPlaceUptoCard
end Rows
end Go.Proofs.YtdhgaogjdjhokaaGreatDoor
