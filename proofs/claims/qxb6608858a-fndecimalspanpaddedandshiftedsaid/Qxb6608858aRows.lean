/-
  No cell of these rows narrows 'for every input' (looked for: loops, veiled, ifaces, maps, wideKeys, modest, calm, conditions, laid).
  DERIVED. THE GIVEN ROWS OF THIS SEAT. 4 by the template 'for every input the law returns true; each argument reads behind the call as it read before'; 0 by the template 'total and deterministic' (their statements: Qxb6608858aTotals.lean).
  GIVEN WITH THE SEED: the statements are not yours to turn. If you find one false, say at which input.
  Laid BY PROGRAM, IN A SANDBOX (cutbox-rows.mjs): the forced cells as the released guide's own fill.sh prints them over the translation a2d4345ad4b36631… (all of the seat's roots in one cut). By AI agents, Wed Nov 11 2026. No macro, syntax, notation, axiom, sorry.
-/
import Derived.Test.Qxb6608858aChecked
import GoSem.Claim
import GoSem.ClaimJoined
import GoSem.ClaimMapViews
import Derived.JoinedTies
import Derived.KernelRfl
namespace Go.Proofs.Qxb6608858a
/- THE CELL 'sum', in the pinned program and in every row, IS THE sha256 OF THE DUMP (.gsa) THAT Qxb6608858aProg.lean LOADS. Nothing in Lean hashes anything: it is a label: what it is worth is what the hold of that sum in a sandbox is worth. -/
noncomputable def Try.pinned : Pinned := { name := "qxb6608858a", sum := "a2d4345ad4b36631876d53ac7b21b96bbd965a6cabc0f72329b08cb1895be186", checked := Try.checked }
namespace Rows
def none {H : Type} : Left H := { results := [], args := [] }

/-- 'zzlaws_root_b1.FnDecimalSpanSameAtAnyPoint': WHATEVER THE INPUT: true; the input reads as it did. -/
def fnDecimalSpanSameAtAnyPointSpec : ChangeSpec := { name := "fnDecimalSpanSameAtAnyPoint", fn := fun _ => fun
  | [d1, d2, d3, d4] => { results := [.lit (.bool true)], args := [d1, d2, d3, d4] }
  | _ => none }
def fnDecimalSpanSameAtAnyPointRow : OpenClaim := { program := "qxb6608858a", sum := "a2d4345ad4b36631876d53ac7b21b96bbd965a6cabc0f72329b08cb1895be186", func := "example.com/bytebrief/bytebrief/zzlaws_root_b1.FnDecimalSpanSameAtAnyPoint", spec := "fnDecimalSpanSameAtAnyPoint", apart := false }
def FnDecimalSpanSameAtAnyPointSaid : Prop := fnDecimalSpanSameAtAnyPointRow.holds Try.pinned (OpenSpec.ofChange fnDecimalSpanSameAtAnyPointSpec)

/-- ITS FALSE NEIGHBOUR: 'it returns false'. Refute it at one input. -/
def fnDecimalSpanSameAtAnyPointWrong : ChangeSpec := { name := "fnDecimalSpanSameAtAnyPoint", fn := fun _ => fun
  | [d1, d2, d3, d4] => { results := [.lit (.bool false)], args := [d1, d2, d3, d4] }
  | _ => none }
def FnDecimalSpanSameAtAnyPointWrongFalsely : Prop := fnDecimalSpanSameAtAnyPointRow.holds Try.pinned (OpenSpec.ofChange fnDecimalSpanSameAtAnyPointWrong)

/-- 'zzlaws_root_b1.FnDecimalSpanPaddedAndShifted': WHATEVER THE INPUT: true; the input reads as it did. -/
def fnDecimalSpanPaddedAndShiftedSpec : ChangeSpec := { name := "fnDecimalSpanPaddedAndShifted", fn := fun _ => fun
  | [d1, d2, d3, d4, d5, d6] => { results := [.lit (.bool true)], args := [d1, d2, d3, d4, d5, d6] }
  | _ => none }
def fnDecimalSpanPaddedAndShiftedRow : OpenClaim := { program := "qxb6608858a", sum := "a2d4345ad4b36631876d53ac7b21b96bbd965a6cabc0f72329b08cb1895be186", func := "example.com/bytebrief/bytebrief/zzlaws_root_b1.FnDecimalSpanPaddedAndShifted", spec := "fnDecimalSpanPaddedAndShifted", apart := false }
def FnDecimalSpanPaddedAndShiftedSaid : Prop := fnDecimalSpanPaddedAndShiftedRow.holds Try.pinned (OpenSpec.ofChange fnDecimalSpanPaddedAndShiftedSpec)

/-- ITS FALSE NEIGHBOUR: 'it returns false'. Refute it at one input. -/
def fnDecimalSpanPaddedAndShiftedWrong : ChangeSpec := { name := "fnDecimalSpanPaddedAndShifted", fn := fun _ => fun
  | [d1, d2, d3, d4, d5, d6] => { results := [.lit (.bool false)], args := [d1, d2, d3, d4, d5, d6] }
  | _ => none }
def FnDecimalSpanPaddedAndShiftedWrongFalsely : Prop := fnDecimalSpanPaddedAndShiftedRow.holds Try.pinned (OpenSpec.ofChange fnDecimalSpanPaddedAndShiftedWrong)

/-- 'zzlaws_root_b1.FnWrittenPrefixOrder': WHATEVER THE INPUT: true; the input reads as it did. -/
def fnWrittenPrefixOrderSpec : ChangeSpec := { name := "fnWrittenPrefixOrder", fn := fun _ => fun
  | [d1, d2, d3, d4] => { results := [.lit (.bool true)], args := [d1, d2, d3, d4] }
  | _ => none }
def fnWrittenPrefixOrderRow : OpenClaim := { program := "qxb6608858a", sum := "a2d4345ad4b36631876d53ac7b21b96bbd965a6cabc0f72329b08cb1895be186", func := "example.com/bytebrief/bytebrief/zzlaws_root_b1.FnWrittenPrefixOrder", spec := "fnWrittenPrefixOrder", apart := false }
def FnWrittenPrefixOrderSaid : Prop := fnWrittenPrefixOrderRow.holds Try.pinned (OpenSpec.ofChange fnWrittenPrefixOrderSpec)

/-- ITS FALSE NEIGHBOUR: 'it returns false'. Refute it at one input. -/
def fnWrittenPrefixOrderWrong : ChangeSpec := { name := "fnWrittenPrefixOrder", fn := fun _ => fun
  | [d1, d2, d3, d4] => { results := [.lit (.bool false)], args := [d1, d2, d3, d4] }
  | _ => none }
def FnWrittenPrefixOrderWrongFalsely : Prop := fnWrittenPrefixOrderRow.holds Try.pinned (OpenSpec.ofChange fnWrittenPrefixOrderWrong)

/-- 'zzlaws_root_b1.FnWrittenDropsInSteps': WHATEVER THE INPUT: true; the input reads as it did. -/
def fnWrittenDropsInStepsSpec : ChangeSpec := { name := "fnWrittenDropsInSteps", fn := fun _ => fun
  | [d1, d2, d3, d4] => { results := [.lit (.bool true)], args := [d1, d2, d3, d4] }
  | _ => none }
def fnWrittenDropsInStepsRow : OpenClaim := { program := "qxb6608858a", sum := "a2d4345ad4b36631876d53ac7b21b96bbd965a6cabc0f72329b08cb1895be186", func := "example.com/bytebrief/bytebrief/zzlaws_root_b1.FnWrittenDropsInSteps", spec := "fnWrittenDropsInSteps", apart := false }
def FnWrittenDropsInStepsSaid : Prop := fnWrittenDropsInStepsRow.holds Try.pinned (OpenSpec.ofChange fnWrittenDropsInStepsSpec)

/-- ITS FALSE NEIGHBOUR: 'it returns false'. Refute it at one input. -/
def fnWrittenDropsInStepsWrong : ChangeSpec := { name := "fnWrittenDropsInSteps", fn := fun _ => fun
  | [d1, d2, d3, d4] => { results := [.lit (.bool false)], args := [d1, d2, d3, d4] }
  | _ => none }
def FnWrittenDropsInStepsWrongFalsely : Prop := fnWrittenDropsInStepsRow.holds Try.pinned (OpenSpec.ofChange fnWrittenDropsInStepsWrong)

end Rows
end Go.Proofs.Qxb6608858a
