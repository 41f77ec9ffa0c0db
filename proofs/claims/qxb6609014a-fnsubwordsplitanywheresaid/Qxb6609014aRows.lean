/-
  No cell of these rows narrows 'for every input' (looked for: loops, veiled, ifaces, maps, wideKeys, modest, calm, conditions, laid).
  DERIVED. THE GIVEN ROWS OF THIS SEAT. 2 by the template 'for every input the law returns true; each argument reads behind the call as it read before'; 0 by the template 'total and deterministic' (their statements: Qxb6609014aTotals.lean).
  GIVEN WITH THE SEED: the statements are not yours to turn. If you find one false, say at which input.
  Laid BY PROGRAM, IN A SANDBOX (cutbox-rows.mjs): the forced cells as the released guide's own fill.sh prints them over the translation f7d4e55cb08fc6e3… (all of the seat's roots in one cut). By AI agents, Wed Nov 11 2026. No macro, syntax, notation, axiom, sorry.
-/
import Derived.Test.Qxb6609014aChecked
import GoSem.Claim
import GoSem.ClaimJoined
import GoSem.ClaimMapViews
import Derived.JoinedTies
import Derived.KernelRfl
namespace Go.Proofs.Qxb6609014a
/- THE CELL 'sum', in the pinned program and in every row, IS THE sha256 OF THE DUMP (.gsa) THAT Qxb6609014aProg.lean LOADS. Nothing in Lean hashes anything: it is a label: what it is worth is what the hold of that sum in a sandbox is worth. -/
noncomputable def Try.pinned : Pinned := { name := "qxb6609014a", sum := "f7d4e55cb08fc6e39eb896817edc1c2cd8a9666302cde9febe8cb4cf293863f6", checked := Try.checked }
namespace Rows
def none {H : Type} : Left H := { results := [], args := [] }

/-- 'zzlaws_root_b1.FnSubWordUndoneByAddWord': WHATEVER THE INPUT: true; the input reads as it did. -/
def fnSubWordUndoneByAddWordSpec : ChangeSpec := { name := "fnSubWordUndoneByAddWord", fn := fun _ => fun
  | [d1, d2] => { results := [.lit (.bool true)], args := [d1, d2] }
  | _ => none }
def fnSubWordUndoneByAddWordRow : OpenClaim := { program := "qxb6609014a", sum := "f7d4e55cb08fc6e39eb896817edc1c2cd8a9666302cde9febe8cb4cf293863f6", func := "example.com/longhand/longhand/zzlaws_root_b1.FnSubWordUndoneByAddWord", spec := "fnSubWordUndoneByAddWord", inPlace := ["math/bits.Sub64", "math/bits.Add64"], apart := false }
def FnSubWordUndoneByAddWordSaid : Prop := fnSubWordUndoneByAddWordRow.holds Try.pinned (OpenSpec.ofChange fnSubWordUndoneByAddWordSpec)

/-- ITS FALSE NEIGHBOUR: 'it returns false'. Refute it at one input. -/
def fnSubWordUndoneByAddWordWrong : ChangeSpec := { name := "fnSubWordUndoneByAddWord", fn := fun _ => fun
  | [d1, d2] => { results := [.lit (.bool false)], args := [d1, d2] }
  | _ => none }
def FnSubWordUndoneByAddWordWrongFalsely : Prop := fnSubWordUndoneByAddWordRow.holds Try.pinned (OpenSpec.ofChange fnSubWordUndoneByAddWordWrong)

/-- 'zzlaws_root_b1.FnSubWordSplitAnywhere': WHATEVER THE INPUT: true; the input reads as it did. -/
def fnSubWordSplitAnywhereSpec : ChangeSpec := { name := "fnSubWordSplitAnywhere", fn := fun _ => fun
  | [d1, d2, d3] => { results := [.lit (.bool true)], args := [d1, d2, d3] }
  | _ => none }
def fnSubWordSplitAnywhereRow : OpenClaim := { program := "qxb6609014a", sum := "f7d4e55cb08fc6e39eb896817edc1c2cd8a9666302cde9febe8cb4cf293863f6", func := "example.com/longhand/longhand/zzlaws_root_b1.FnSubWordSplitAnywhere", spec := "fnSubWordSplitAnywhere", inPlace := ["math/bits.Sub64"], apart := false }
def FnSubWordSplitAnywhereSaid : Prop := fnSubWordSplitAnywhereRow.holds Try.pinned (OpenSpec.ofChange fnSubWordSplitAnywhereSpec)

/-- ITS FALSE NEIGHBOUR: 'it returns false'. Refute it at one input. -/
def fnSubWordSplitAnywhereWrong : ChangeSpec := { name := "fnSubWordSplitAnywhere", fn := fun _ => fun
  | [d1, d2, d3] => { results := [.lit (.bool false)], args := [d1, d2, d3] }
  | _ => none }
def FnSubWordSplitAnywhereWrongFalsely : Prop := fnSubWordSplitAnywhereRow.holds Try.pinned (OpenSpec.ofChange fnSubWordSplitAnywhereWrong)

end Rows
end Go.Proofs.Qxb6609014a
