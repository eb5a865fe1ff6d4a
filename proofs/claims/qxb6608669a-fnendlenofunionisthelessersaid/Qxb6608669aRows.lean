/-
  No cell of these rows narrows 'for every input' (looked for: loops, veiled, ifaces, maps, wideKeys, modest, calm, conditions, laid).
  DERIVED. THE GIVEN ROWS OF THIS SEAT. 3 by the template 'for every input the law returns true; each argument reads behind the call as it read before'; 0 by the template 'total and deterministic' (their statements: Qxb6608669aTotals.lean).
  GIVEN WITH THE SEED: the statements are not yours to turn. If you find one false, say at which input.
  Laid BY PROGRAM, IN A SANDBOX (cutbox-rows.mjs): the forced cells as the released guide's own fill.sh prints them over the translation fb973fd6212f9d0d… (all of the seat's roots in one cut). By AI agents, Wed Nov 11 2026. No macro, syntax, notation, axiom, sorry.
-/
import Derived.Test.Qxb6608669aChecked
import GoSem.Claim
import GoSem.ClaimJoined
import GoSem.ClaimMapViews
import Derived.JoinedTies
import Derived.KernelRfl
namespace Go.Proofs.Qxb6608669a
/- THE CELL 'sum', in the pinned program and in every row, IS THE sha256 OF THE DUMP (.gsa) THAT Qxb6608669aProg.lean LOADS. Nothing in Lean hashes anything: it is a label: what it is worth is what the hold of that sum in a sandbox is worth. -/
noncomputable def Try.pinned : Pinned := { name := "qxb6608669a", sum := "fb973fd6212f9d0d3cbfc90208f0fa3dcb6602a7f1c736e8fd034ec80308b0b9", checked := Try.checked }
namespace Rows
def none {H : Type} : Left H := { results := [], args := [] }

/-- 'zzlaws_root_b1.FnGrowPayloadAtTheGreaterRest': WHATEVER THE INPUT: true; the input reads as it did. -/
def fnGrowPayloadAtTheGreaterRestSpec : ChangeSpec := { name := "fnGrowPayloadAtTheGreaterRest", fn := fun _ => fun
  | [d1, d2, d3, d4, d5] => { results := [.lit (.bool true)], args := [d1, d2, d3, d4, d5] }
  | _ => none }
def fnGrowPayloadAtTheGreaterRestRow : OpenClaim := { program := "qxb6608669a", sum := "fb973fd6212f9d0d3cbfc90208f0fa3dcb6602a7f1c736e8fd034ec80308b0b9", func := "example.com/sevenbit/sevenbit/zzlaws_root_b1.FnGrowPayloadAtTheGreaterRest", spec := "fnGrowPayloadAtTheGreaterRest", apart := false }
def FnGrowPayloadAtTheGreaterRestSaid : Prop := fnGrowPayloadAtTheGreaterRestRow.holds Try.pinned (OpenSpec.ofChange fnGrowPayloadAtTheGreaterRestSpec)

/-- ITS FALSE NEIGHBOUR: 'it returns false'. Refute it at one input. -/
def fnGrowPayloadAtTheGreaterRestWrong : ChangeSpec := { name := "fnGrowPayloadAtTheGreaterRest", fn := fun _ => fun
  | [d1, d2, d3, d4, d5] => { results := [.lit (.bool false)], args := [d1, d2, d3, d4, d5] }
  | _ => none }
def FnGrowPayloadAtTheGreaterRestWrongFalsely : Prop := fnGrowPayloadAtTheGreaterRestRow.holds Try.pinned (OpenSpec.ofChange fnGrowPayloadAtTheGreaterRestWrong)

/-- 'zzlaws_root_b1.FnEndLenOfUnionIsTheLesser': WHATEVER THE INPUT: true; the input reads as it did. -/
def fnEndLenOfUnionIsTheLesserSpec : ChangeSpec := { name := "fnEndLenOfUnionIsTheLesser", fn := fun _ => fun
  | [d1, d2] => { results := [.lit (.bool true)], args := [d1, d2] }
  | _ => none }
def fnEndLenOfUnionIsTheLesserRow : OpenClaim := { program := "qxb6608669a", sum := "fb973fd6212f9d0d3cbfc90208f0fa3dcb6602a7f1c736e8fd034ec80308b0b9", func := "example.com/sevenbit/sevenbit/zzlaws_root_b1.FnEndLenOfUnionIsTheLesser", spec := "fnEndLenOfUnionIsTheLesser", apart := false }
def FnEndLenOfUnionIsTheLesserSaid : Prop := fnEndLenOfUnionIsTheLesserRow.holds Try.pinned (OpenSpec.ofChange fnEndLenOfUnionIsTheLesserSpec)

/-- ITS FALSE NEIGHBOUR: 'it returns false'. Refute it at one input. -/
def fnEndLenOfUnionIsTheLesserWrong : ChangeSpec := { name := "fnEndLenOfUnionIsTheLesser", fn := fun _ => fun
  | [d1, d2] => { results := [.lit (.bool false)], args := [d1, d2] }
  | _ => none }
def FnEndLenOfUnionIsTheLesserWrongFalsely : Prop := fnEndLenOfUnionIsTheLesserRow.holds Try.pinned (OpenSpec.ofChange fnEndLenOfUnionIsTheLesserWrong)

/-- 'zzlaws_root_b1.FnEndLenOneEndPutIn': WHATEVER THE INPUT: true; the input reads as it did. -/
def fnEndLenOneEndPutInSpec : ChangeSpec := { name := "fnEndLenOneEndPutIn", fn := fun _ => fun
  | [d1, d2] => { results := [.lit (.bool true)], args := [d1, d2] }
  | _ => none }
def fnEndLenOneEndPutInRow : OpenClaim := { program := "qxb6608669a", sum := "fb973fd6212f9d0d3cbfc90208f0fa3dcb6602a7f1c736e8fd034ec80308b0b9", func := "example.com/sevenbit/sevenbit/zzlaws_root_b1.FnEndLenOneEndPutIn", spec := "fnEndLenOneEndPutIn", apart := false }
def FnEndLenOneEndPutInSaid : Prop := fnEndLenOneEndPutInRow.holds Try.pinned (OpenSpec.ofChange fnEndLenOneEndPutInSpec)

/-- ITS FALSE NEIGHBOUR: 'it returns false'. Refute it at one input. -/
def fnEndLenOneEndPutInWrong : ChangeSpec := { name := "fnEndLenOneEndPutIn", fn := fun _ => fun
  | [d1, d2] => { results := [.lit (.bool false)], args := [d1, d2] }
  | _ => none }
def FnEndLenOneEndPutInWrongFalsely : Prop := fnEndLenOneEndPutInRow.holds Try.pinned (OpenSpec.ofChange fnEndLenOneEndPutInWrong)

end Rows
end Go.Proofs.Qxb6608669a
