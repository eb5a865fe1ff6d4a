/-
  DERIVED. GIVEN WITH THE SEED: THE CARDS: each row of Qxb6608669aDoorRows.lean that lists a variable, with what it lists TIED to the program's text (the seventh form; the later family's looks); each row that meets fmt, with fmt's text TOLD by the authors' own Lean function (tested against real Go, not proved from fmt's source: count such statements apart). THE CARD IS WHAT COUNTS. Prove the row's statement (the work); the ties are given (Qxb6608669aDoorTie.lean); close each card by the builder's one call (the guide's Derived/Test/ToyasCard.lean, 'card_holds'). Laid BY PROGRAM, IN A SANDBOX (cutbox-door.mjs). By AI agents, Wed Nov 11 2026. No macro, syntax, notation, axiom, sorry.
-/
import Derived.Test.Qxb6608669aDoorRows
import GoSem.ClaimSeven
namespace Go.Proofs.Qxb6608669aDoor
namespace Rows

/-- THE TIED CARD OF 'zzlaws_root_b1.FnWriteUvarintTwoValuesFollowEachOther'. -/
def fnWriteUvarintTwoValuesFollowEachOtherCard : Claim7 := { stood := { row := fnWriteUvarintTwoValuesFollowEachOtherRow, standIns := [], harness := (true, "ec09dc09c657fe9075b5ca4877b23c696c464e6d98fb15208e8daab74a75909a"), looks := true }, kinds := [], alts := [], laidByText := true, laidKinds := [.sentinel, .sentinel], laidTests := true, laidLooks := .later }
def FnWriteUvarintTwoValuesFollowEachOtherCardSaid : Prop := Claim7.holds Tryd.pinned (.plain (OpenSpec.ofChange fnWriteUvarintTwoValuesFollowEachOtherSpec)) fnWriteUvarintTwoValuesFollowEachOtherCard

/-- THE TIED CARD OF 'zzlaws_root_b1.FnWriteUvarintBufioAgreesWithBuffer'. -/
def fnWriteUvarintBufioAgreesWithBufferCard : Claim7 := { stood := { row := fnWriteUvarintBufioAgreesWithBufferRow, standIns := [], harness := (true, "ec09dc09c657fe9075b5ca4877b23c696c464e6d98fb15208e8daab74a75909a"), looks := true }, kinds := [], alts := [], laidByText := true, laidKinds := [.sentinel, .sentinel], laidTests := true, laidLooks := .later }
def FnWriteUvarintBufioAgreesWithBufferCardSaid : Prop := Claim7.holds Tryd.pinned (.plain (OpenSpec.ofChange fnWriteUvarintBufioAgreesWithBufferSpec)) fnWriteUvarintBufioAgreesWithBufferCard

/-- THE TIED CARD OF 'zzlaws_root_b1.FnWriteOutOfLinePlainWriterAgreesWithBuffer'. -/
def fnWriteOutOfLinePlainWriterAgreesWithBufferCard : Claim7 := { stood := { row := fnWriteOutOfLinePlainWriterAgreesWithBufferRow, standIns := [], harness := (true, "ec09dc09c657fe9075b5ca4877b23c696c464e6d98fb15208e8daab74a75909a"), looks := true }, kinds := [], alts := [], laidByText := true, laidKinds := [.sentinel, .sentinel], laidTests := true, laidLooks := .later }
def FnWriteOutOfLinePlainWriterAgreesWithBufferCardSaid : Prop := Claim7.holds Tryd.pinned (.plain (OpenSpec.ofChange fnWriteOutOfLinePlainWriterAgreesWithBufferSpec)) fnWriteOutOfLinePlainWriterAgreesWithBufferCard

/-- THE TIED CARD OF 'zzlaws_root_b1.FnWriteOutOfLineLengthAtTheGreater'. -/
def fnWriteOutOfLineLengthAtTheGreaterCard : Claim7 := { stood := { row := fnWriteOutOfLineLengthAtTheGreaterRow, standIns := [], harness := (true, "ec09dc09c657fe9075b5ca4877b23c696c464e6d98fb15208e8daab74a75909a"), looks := true }, kinds := [], alts := [], laidByText := true, laidKinds := [.sentinel, .sentinel], laidTests := true, laidLooks := .later }
def FnWriteOutOfLineLengthAtTheGreaterCardSaid : Prop := Claim7.holds Tryd.pinned (.plain (OpenSpec.ofChange fnWriteOutOfLineLengthAtTheGreaterSpec)) fnWriteOutOfLineLengthAtTheGreaterCard
end Rows
end Go.Proofs.Qxb6608669aDoor
