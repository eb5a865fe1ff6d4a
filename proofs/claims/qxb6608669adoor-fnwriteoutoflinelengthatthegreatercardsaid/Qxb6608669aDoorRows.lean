/-
  NARROWER THAN 'FOR EVERY INPUT', by the rows' own cells (each row's printed sentence says how): FnWriteUvarintTwoValuesFollowEachOther: laid · FnWriteUvarintBufioAgreesWithBuffer: laid · FnWriteOutOfLinePlainWriterAgreesWithBuffer: laid · FnWriteOutOfLineLengthAtTheGreater: laid.
  DERIVED. THE GIVEN ROWS OF THIS SEAT. 4 by the template 'for every input the law returns true; each argument reads behind the call as it read before'; 0 by the template 'total and deterministic' (their statements: Qxb6608669aDoorTotals.lean).
  GIVEN WITH THE SEED: the statements are not yours to turn. If you find one false, say at which input.
  Laid BY PROGRAM, IN A SANDBOX (cutbox-rows.mjs): the forced cells as the released guide's own fill.sh prints them over the translation 1889782a5162eac7… (all of the seat's roots in one cut). By AI agents, Wed Nov 11 2026. No macro, syntax, notation, axiom, sorry.
-/
import Derived.Test.Qxb6608669aDoorChecked
import GoSem.Claim
import GoSem.ClaimJoined
import GoSem.ClaimMapViews
import Derived.JoinedTies
import Derived.KernelRfl
namespace Go.Proofs.Qxb6608669aDoor
/- THE CELL 'sum', in the pinned program and in every row, IS THE sha256 OF THE DUMP (.gsa) THAT Qxb6608669aDoorProg.lean LOADS. Nothing in Lean hashes anything: it is a label: what it is worth is what the hold of that sum in a sandbox is worth. -/
noncomputable def Tryd.pinned : Pinned := { name := "qxb6608669adoor", sum := "1889782a5162eac775c9b3e6e05b24e8a0f01e2f3e622ef80965a2b83bcdc0a5", checked := Tryd.checked }
namespace Rows
def none {H : Type} : Left H := { results := [], args := [] }

/- WHAT THE LISTED PACKAGE-LEVEL VARIABLES READ AS WHEN THE CALL BEGINS. Each datum BY PROGRAM (the guide's laid-datum.mjs) off the statement by which the dump's own 'gosem.cut.vars' lays the variable. In a bare row this is a premise. The card (Qxb6608669aDoorCards.lean) ties it to the program's text. -/
def laid_io_ErrShortWrite {H : Type} : DataW H := .iface "*errors.errorString" (.ptr (.agg [.lit (.string [115, 104, 111, 114, 116, 32, 119, 114, 105, 116, 101])]))
def laid_bytes_ErrTooLarge {H : Type} : DataW H := .iface "*errors.errorString" (.ptr (.agg [.lit (.string [98, 121, 116, 101, 115, 46, 66, 117, 102, 102, 101, 114, 58, 32, 116, 111, 111, 32, 108, 97, 114, 103, 101])]))

/-- 'zzlaws_root_b1.FnWriteUvarintTwoValuesFollowEachOther': WHATEVER THE INPUT: true; the input reads as it did. -/
def fnWriteUvarintTwoValuesFollowEachOtherSpec : ChangeSpec := { name := "fnWriteUvarintTwoValuesFollowEachOther", fn := fun _ => fun
  | [d1, d2, d3, d4] => { results := [.lit (.bool true)], args := [d1, d2, d3, d4] }
  | _ => none }
def fnWriteUvarintTwoValuesFollowEachOtherRow : OpenClaim := { program := "qxb6608669adoor", sum := "1889782a5162eac775c9b3e6e05b24e8a0f01e2f3e622ef80965a2b83bcdc0a5", func := "example.com/sevenbit/sevenbit/zzlaws_root_b1.FnWriteUvarintTwoValuesFollowEachOther", spec := "fnWriteUvarintTwoValuesFollowEachOther", unfollowed := true, recurses := true, named := ["io.ErrShortWrite", "encoding/binary.LittleEndian", "bytes.ErrTooLarge"], apart := false, laid := [("io.ErrShortWrite", laid_io_ErrShortWrite), ("bytes.ErrTooLarge", laid_bytes_ErrTooLarge)] }
def FnWriteUvarintTwoValuesFollowEachOtherSaid : Prop := fnWriteUvarintTwoValuesFollowEachOtherRow.holds Tryd.pinned (OpenSpec.ofChange fnWriteUvarintTwoValuesFollowEachOtherSpec)

/-- ITS FALSE NEIGHBOUR: 'it returns false'. Refute it at one input. -/
def fnWriteUvarintTwoValuesFollowEachOtherWrong : ChangeSpec := { name := "fnWriteUvarintTwoValuesFollowEachOther", fn := fun _ => fun
  | [d1, d2, d3, d4] => { results := [.lit (.bool false)], args := [d1, d2, d3, d4] }
  | _ => none }
def FnWriteUvarintTwoValuesFollowEachOtherWrongFalsely : Prop := fnWriteUvarintTwoValuesFollowEachOtherRow.holds Tryd.pinned (OpenSpec.ofChange fnWriteUvarintTwoValuesFollowEachOtherWrong)

/-- 'zzlaws_root_b1.FnWriteUvarintBufioAgreesWithBuffer': WHATEVER THE INPUT: true; the input reads as it did. -/
def fnWriteUvarintBufioAgreesWithBufferSpec : ChangeSpec := { name := "fnWriteUvarintBufioAgreesWithBuffer", fn := fun _ => fun
  | [d1, d2, d3, d4] => { results := [.lit (.bool true)], args := [d1, d2, d3, d4] }
  | _ => none }
def fnWriteUvarintBufioAgreesWithBufferRow : OpenClaim := { program := "qxb6608669adoor", sum := "1889782a5162eac775c9b3e6e05b24e8a0f01e2f3e622ef80965a2b83bcdc0a5", func := "example.com/sevenbit/sevenbit/zzlaws_root_b1.FnWriteUvarintBufioAgreesWithBuffer", spec := "fnWriteUvarintBufioAgreesWithBuffer", unfollowed := true, recurses := true, named := ["io.ErrShortWrite", "encoding/binary.LittleEndian", "bytes.ErrTooLarge"], apart := false, laid := [("io.ErrShortWrite", laid_io_ErrShortWrite), ("bytes.ErrTooLarge", laid_bytes_ErrTooLarge)] }
def FnWriteUvarintBufioAgreesWithBufferSaid : Prop := fnWriteUvarintBufioAgreesWithBufferRow.holds Tryd.pinned (OpenSpec.ofChange fnWriteUvarintBufioAgreesWithBufferSpec)

/-- ITS FALSE NEIGHBOUR: 'it returns false'. Refute it at one input. -/
def fnWriteUvarintBufioAgreesWithBufferWrong : ChangeSpec := { name := "fnWriteUvarintBufioAgreesWithBuffer", fn := fun _ => fun
  | [d1, d2, d3, d4] => { results := [.lit (.bool false)], args := [d1, d2, d3, d4] }
  | _ => none }
def FnWriteUvarintBufioAgreesWithBufferWrongFalsely : Prop := fnWriteUvarintBufioAgreesWithBufferRow.holds Tryd.pinned (OpenSpec.ofChange fnWriteUvarintBufioAgreesWithBufferWrong)

/-- 'zzlaws_root_b1.FnWriteOutOfLinePlainWriterAgreesWithBuffer': WHATEVER THE INPUT: true; the input reads as it did. -/
def fnWriteOutOfLinePlainWriterAgreesWithBufferSpec : ChangeSpec := { name := "fnWriteOutOfLinePlainWriterAgreesWithBuffer", fn := fun _ => fun
  | [d1, d2, d3] => { results := [.lit (.bool true)], args := [d1, d2, d3] }
  | _ => none }
def fnWriteOutOfLinePlainWriterAgreesWithBufferRow : OpenClaim := { program := "qxb6608669adoor", sum := "1889782a5162eac775c9b3e6e05b24e8a0f01e2f3e622ef80965a2b83bcdc0a5", func := "example.com/sevenbit/sevenbit/zzlaws_root_b1.FnWriteOutOfLinePlainWriterAgreesWithBuffer", spec := "fnWriteOutOfLinePlainWriterAgreesWithBuffer", unfollowed := true, recurses := true, named := ["io.ErrShortWrite", "encoding/binary.LittleEndian", "bytes.ErrTooLarge"], apart := false, laid := [("io.ErrShortWrite", laid_io_ErrShortWrite), ("bytes.ErrTooLarge", laid_bytes_ErrTooLarge)] }
def FnWriteOutOfLinePlainWriterAgreesWithBufferSaid : Prop := fnWriteOutOfLinePlainWriterAgreesWithBufferRow.holds Tryd.pinned (OpenSpec.ofChange fnWriteOutOfLinePlainWriterAgreesWithBufferSpec)

/-- ITS FALSE NEIGHBOUR: 'it returns false'. Refute it at one input. -/
def fnWriteOutOfLinePlainWriterAgreesWithBufferWrong : ChangeSpec := { name := "fnWriteOutOfLinePlainWriterAgreesWithBuffer", fn := fun _ => fun
  | [d1, d2, d3] => { results := [.lit (.bool false)], args := [d1, d2, d3] }
  | _ => none }
def FnWriteOutOfLinePlainWriterAgreesWithBufferWrongFalsely : Prop := fnWriteOutOfLinePlainWriterAgreesWithBufferRow.holds Tryd.pinned (OpenSpec.ofChange fnWriteOutOfLinePlainWriterAgreesWithBufferWrong)

/-- 'zzlaws_root_b1.FnWriteOutOfLineLengthAtTheGreater': WHATEVER THE INPUT: true; the input reads as it did. -/
def fnWriteOutOfLineLengthAtTheGreaterSpec : ChangeSpec := { name := "fnWriteOutOfLineLengthAtTheGreater", fn := fun _ => fun
  | [d1, d2, d3, d4] => { results := [.lit (.bool true)], args := [d1, d2, d3, d4] }
  | _ => none }
def fnWriteOutOfLineLengthAtTheGreaterRow : OpenClaim := { program := "qxb6608669adoor", sum := "1889782a5162eac775c9b3e6e05b24e8a0f01e2f3e622ef80965a2b83bcdc0a5", func := "example.com/sevenbit/sevenbit/zzlaws_root_b1.FnWriteOutOfLineLengthAtTheGreater", spec := "fnWriteOutOfLineLengthAtTheGreater", unfollowed := true, recurses := true, named := ["io.ErrShortWrite", "encoding/binary.LittleEndian", "bytes.ErrTooLarge"], apart := false, laid := [("io.ErrShortWrite", laid_io_ErrShortWrite), ("bytes.ErrTooLarge", laid_bytes_ErrTooLarge)] }
def FnWriteOutOfLineLengthAtTheGreaterSaid : Prop := fnWriteOutOfLineLengthAtTheGreaterRow.holds Tryd.pinned (OpenSpec.ofChange fnWriteOutOfLineLengthAtTheGreaterSpec)

/-- ITS FALSE NEIGHBOUR: 'it returns false'. Refute it at one input. -/
def fnWriteOutOfLineLengthAtTheGreaterWrong : ChangeSpec := { name := "fnWriteOutOfLineLengthAtTheGreater", fn := fun _ => fun
  | [d1, d2, d3, d4] => { results := [.lit (.bool false)], args := [d1, d2, d3, d4] }
  | _ => none }
def FnWriteOutOfLineLengthAtTheGreaterWrongFalsely : Prop := fnWriteOutOfLineLengthAtTheGreaterRow.holds Tryd.pinned (OpenSpec.ofChange fnWriteOutOfLineLengthAtTheGreaterWrong)

end Rows
end Go.Proofs.Qxb6608669aDoor
