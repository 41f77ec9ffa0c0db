/-
  No cell of these rows narrows 'for every input' (looked for: loops, veiled, ifaces, maps, wideKeys, modest, calm, conditions, laid).
  DERIVED. THE GIVEN ROWS OF THIS SEAT. 2 by the template 'for every input the law returns true; each argument reads behind the call as it read before'; 0 by the template 'total and deterministic' (their statements: Qxb6615905aTotals.lean).
  GIVEN WITH THE SEED: the statements are not yours to turn. If you find one false, say at which input.
  Laid BY PROGRAM, IN A SANDBOX (cutbox-rows.mjs): the forced cells as the released guide's own fill.sh prints them over the translation 13b8c9257e6c86e7… (all of the seat's roots in one cut). By AI agents, Wed Nov 11 2026. No macro, syntax, notation, axiom, sorry.
-/
import Derived.Test.Qxb6615905aChecked
import GoSem.Claim
import GoSem.ClaimJoined
import GoSem.ClaimMapViews
import Derived.JoinedTies
import Derived.KernelRfl
namespace Go.Proofs.Qxb6615905a
/- THE CELL 'sum', in the pinned program and in every row, IS THE sha256 OF THE DUMP (.gsa) THAT Qxb6615905aProg.lean LOADS. Nothing in Lean hashes anything: it is a label: what it is worth is what the hold of that sum in a sandbox is worth. -/
noncomputable def Try.pinned : Pinned := { name := "qxb6615905a", sum := "13b8c9257e6c86e708d279fac94e7faceefbef3c291b28009d4564a4c9fac6f5", checked := Try.checked }
namespace Rows
def none {H : Type} : Left H := { results := [], args := [] }

/-- 'zzlaws_pkg_plan_b1.FnEndsContainsIsBothHalfSpans': WHATEVER THE INPUT: true; the input reads as it did. -/
def fnEndsContainsIsBothHalfSpansSpec : ChangeSpec := { name := "fnEndsContainsIsBothHalfSpans", fn := fun _ => fun
  | [d1, d2, d3, d4, d5] => { results := [.lit (.bool true)], args := [d1, d2, d3, d4, d5] }
  | _ => none }
def fnEndsContainsIsBothHalfSpansRow : OpenClaim := { program := "qxb6615905a", sum := "13b8c9257e6c86e708d279fac94e7faceefbef3c291b28009d4564a4c9fac6f5", func := "example.com/vestwright/vestwright/zzlaws_pkg_plan_b1.FnEndsContainsIsBothHalfSpans", spec := "fnEndsContainsIsBothHalfSpans", apart := false }
def FnEndsContainsIsBothHalfSpansSaid : Prop := fnEndsContainsIsBothHalfSpansRow.holds Try.pinned (OpenSpec.ofChange fnEndsContainsIsBothHalfSpansSpec)

/-- ITS FALSE NEIGHBOUR: 'it returns false'. Refute it at one input. -/
def fnEndsContainsIsBothHalfSpansWrong : ChangeSpec := { name := "fnEndsContainsIsBothHalfSpans", fn := fun _ => fun
  | [d1, d2, d3, d4, d5] => { results := [.lit (.bool false)], args := [d1, d2, d3, d4, d5] }
  | _ => none }
def FnEndsContainsIsBothHalfSpansWrongFalsely : Prop := fnEndsContainsIsBothHalfSpansRow.holds Try.pinned (OpenSpec.ofChange fnEndsContainsIsBothHalfSpansWrong)

/-- 'zzlaws_pkg_plan_b1.FnEndsAdjacentSpansPartitionTheDays': WHATEVER THE INPUT: true; the input reads as it did. -/
def fnEndsAdjacentSpansPartitionTheDaysSpec : ChangeSpec := { name := "fnEndsAdjacentSpansPartitionTheDays", fn := fun _ => fun
  | [d1, d2, d3] => { results := [.lit (.bool true)], args := [d1, d2, d3] }
  | _ => none }
def fnEndsAdjacentSpansPartitionTheDaysRow : OpenClaim := { program := "qxb6615905a", sum := "13b8c9257e6c86e708d279fac94e7faceefbef3c291b28009d4564a4c9fac6f5", func := "example.com/vestwright/vestwright/zzlaws_pkg_plan_b1.FnEndsAdjacentSpansPartitionTheDays", spec := "fnEndsAdjacentSpansPartitionTheDays", apart := false }
def FnEndsAdjacentSpansPartitionTheDaysSaid : Prop := fnEndsAdjacentSpansPartitionTheDaysRow.holds Try.pinned (OpenSpec.ofChange fnEndsAdjacentSpansPartitionTheDaysSpec)

/-- ITS FALSE NEIGHBOUR: 'it returns false'. Refute it at one input. -/
def fnEndsAdjacentSpansPartitionTheDaysWrong : ChangeSpec := { name := "fnEndsAdjacentSpansPartitionTheDays", fn := fun _ => fun
  | [d1, d2, d3] => { results := [.lit (.bool false)], args := [d1, d2, d3] }
  | _ => none }
def FnEndsAdjacentSpansPartitionTheDaysWrongFalsely : Prop := fnEndsAdjacentSpansPartitionTheDaysRow.holds Try.pinned (OpenSpec.ofChange fnEndsAdjacentSpansPartitionTheDaysWrong)

end Rows
end Go.Proofs.Qxb6615905a
