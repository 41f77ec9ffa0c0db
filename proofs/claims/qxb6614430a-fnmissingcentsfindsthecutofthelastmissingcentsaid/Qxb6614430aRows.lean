/-
  No cell of these rows narrows 'for every input' (looked for: loops, veiled, ifaces, maps, wideKeys, modest, calm, conditions, laid).
  DERIVED. THE GIVEN ROWS OF THIS SEAT. 2 by the template 'for every input the law returns true; each argument reads behind the call as it read before'; 0 by the template 'total and deterministic' (their statements: Qxb6614430aTotals.lean).
  GIVEN WITH THE SEED: the statements are not yours to turn. If you find one false, say at which input.
  Laid BY PROGRAM, IN A SANDBOX (cutbox-rows.mjs): the forced cells as the released guide's own fill.sh prints them over the translation 680fa214a9b5eeb2… (all of the seat's roots in one cut). By AI agents, Wed Nov 11 2026. No macro, syntax, notation, axiom, sorry.
-/
import Derived.Test.Qxb6614430aChecked
import GoSem.Claim
import GoSem.ClaimJoined
import GoSem.ClaimMapViews
import Derived.JoinedTies
import Derived.KernelRfl
namespace Go.Proofs.Qxb6614430a
/- THE CELL 'sum', in the pinned program and in every row, IS THE sha256 OF THE DUMP (.gsa) THAT Qxb6614430aProg.lean LOADS. Nothing in Lean hashes anything: it is a label: what it is worth is what the hold of that sum in a sandbox is worth. -/
noncomputable def Try.pinned : Pinned := { name := "qxb6614430a", sum := "680fa214a9b5eeb28d1f7ac4a92ec88d65cedae7983584b1f134741c1b9e9bf7", checked := Try.checked }
namespace Rows
def none {H : Type} : Left H := { results := [], args := [] }

/-- 'zzlaws_fund_b1.FnIsFundCodeIsOneToSixCodeBytesAtAnyCut': WHATEVER THE INPUT: true; the input reads as it did. -/
def fnIsFundCodeIsOneToSixCodeBytesAtAnyCutSpec : ChangeSpec := { name := "fnIsFundCodeIsOneToSixCodeBytesAtAnyCut", fn := fun _ => fun
  | [d1, d2] => { results := [.lit (.bool true)], args := [d1, d2] }
  | _ => none }
def fnIsFundCodeIsOneToSixCodeBytesAtAnyCutRow : OpenClaim := { program := "qxb6614430a", sum := "680fa214a9b5eeb28d1f7ac4a92ec88d65cedae7983584b1f134741c1b9e9bf7", func := "example.com/zhaomu/zhaomu/zzlaws_fund_b1.FnIsFundCodeIsOneToSixCodeBytesAtAnyCut", spec := "fnIsFundCodeIsOneToSixCodeBytesAtAnyCut", unfollowed := true, recurses := true, apart := false }
def FnIsFundCodeIsOneToSixCodeBytesAtAnyCutSaid : Prop := fnIsFundCodeIsOneToSixCodeBytesAtAnyCutRow.holds Try.pinned (OpenSpec.ofChange fnIsFundCodeIsOneToSixCodeBytesAtAnyCutSpec)

/-- ITS FALSE NEIGHBOUR: 'it returns false'. Refute it at one input. -/
def fnIsFundCodeIsOneToSixCodeBytesAtAnyCutWrong : ChangeSpec := { name := "fnIsFundCodeIsOneToSixCodeBytesAtAnyCut", fn := fun _ => fun
  | [d1, d2] => { results := [.lit (.bool false)], args := [d1, d2] }
  | _ => none }
def FnIsFundCodeIsOneToSixCodeBytesAtAnyCutWrongFalsely : Prop := fnIsFundCodeIsOneToSixCodeBytesAtAnyCutRow.holds Try.pinned (OpenSpec.ofChange fnIsFundCodeIsOneToSixCodeBytesAtAnyCutWrong)

/-- 'zzlaws_fund_b1.FnMissingCentsFindsTheCutOfTheLastMissingCent': WHATEVER THE INPUT: true; the input reads as it did. -/
def fnMissingCentsFindsTheCutOfTheLastMissingCentSpec : ChangeSpec := { name := "fnMissingCentsFindsTheCutOfTheLastMissingCent", fn := fun _ => fun
  | [d1, d2, d3] => { results := [.lit (.bool true)], args := [d1, d2, d3] }
  | _ => none }
def fnMissingCentsFindsTheCutOfTheLastMissingCentRow : OpenClaim := { program := "qxb6614430a", sum := "680fa214a9b5eeb28d1f7ac4a92ec88d65cedae7983584b1f134741c1b9e9bf7", func := "example.com/zhaomu/zhaomu/zzlaws_fund_b1.FnMissingCentsFindsTheCutOfTheLastMissingCent", spec := "fnMissingCentsFindsTheCutOfTheLastMissingCent", unfollowed := true, recurses := true, named := ["math/bits.divideError", "math/bits.overflowError"], apart := false }
def FnMissingCentsFindsTheCutOfTheLastMissingCentSaid : Prop := fnMissingCentsFindsTheCutOfTheLastMissingCentRow.holds Try.pinned (OpenSpec.ofChange fnMissingCentsFindsTheCutOfTheLastMissingCentSpec)

/-- ITS FALSE NEIGHBOUR: 'it returns false'. Refute it at one input. -/
def fnMissingCentsFindsTheCutOfTheLastMissingCentWrong : ChangeSpec := { name := "fnMissingCentsFindsTheCutOfTheLastMissingCent", fn := fun _ => fun
  | [d1, d2, d3] => { results := [.lit (.bool false)], args := [d1, d2, d3] }
  | _ => none }
def FnMissingCentsFindsTheCutOfTheLastMissingCentWrongFalsely : Prop := fnMissingCentsFindsTheCutOfTheLastMissingCentRow.holds Try.pinned (OpenSpec.ofChange fnMissingCentsFindsTheCutOfTheLastMissingCentWrong)

end Rows
end Go.Proofs.Qxb6614430a
