/-
  THE ARRAY OF COUNTERS: its zero value has 65,536 cells.
-/
import Derived.Test.Qxb6614430aMD
import Derived.KernelRfl
namespace Go.Proofs.Qxb6614430a
open Go.RowKit
def zsize : Option Value → Nat
  | some (.agg Z) => Z.size
  | _ => 0
theorem z47s : Nat.beq (zsize Try.t47.zero) 65536 = true := by kernel_rfl

theorem z47_of (T : TypeInfo) (hs : Nat.beq (zsize T.zero) 65536 = true) (hi : ∀ w, (typeInfo 47).run Try.prog w = .ok T w) : ∃ Z : Array Value, Z.size = 65536 ∧ ∀ w, (zeroValue 47).run Try.prog w = .ok (.agg Z) w := by
  have h := Nat.eq_of_beq_eq_true hs
  cases hz : T.zero with
  | none => rw [hz] at h; cases h
  | some v =>
    rw [hz] at h
    cases v with
    | agg Z =>
      refine ⟨Z, h, fun w => ?_⟩
      unfold zeroValue
      simp only [Sem.run_bind, hi w, Result.andThen, hz]
      rfl
    | _ => cases h
theorem z47 : ∃ Z : Array Value, Z.size = 65536 ∧ ∀ w, (zeroValue 47).run Try.prog w = .ok (.agg Z) w := z47_of Try.t47 z47s Try.typeInfo47
end Go.Proofs.Qxb6614430a
