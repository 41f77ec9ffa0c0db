/-
  THE WALKS of math/bits.Sub, Add over this dump; subWord, addWord.
-/
import Derived.Test.Qxb6609014aRows
import Derived.Test.Qxb6609014aPlain
import Derived.Shelf.Spec.BitsCarry
import Derived.WalkKit
import Derived.WalkSpells
import Derived.WalkLawsBesides
namespace Go.Proofs.Qxb6609014a
open Go.RowKit

theorem sub64_run (x y b : Nat) (hb : b ≤ 1) (w : World) : (callFunc 17 #[.int .u64 x, .int .u64 y, .int .u64 b]).run Try.prog w =
    .ok (.value (.tuple #[.int .u64 (((x + 18446744073709551616 - y - b) % 18446744073709551616 : Nat) : Int), .int .u64 ((if x < y + b then 1 else 0 : Nat) : Int)])) w := by
  rw [run_callFunc_extern Try.func17 (by kernel_rfl) (by kernel_rfl) (by kernel_rfl) (e := sub64Entry) (by kernel_rfl), run_sub64 x y b hb]
  rfl
theorem add64_run (x y c : Nat) (hc : c ≤ 1) (w : World) : (callFunc 19 #[.int .u64 x, .int .u64 y, .int .u64 c]).run Try.prog w =
    .ok (.value (.tuple #[.int .u64 (((x + y + c) % 18446744073709551616 : Nat) : Int), .int .u64 (((x + y + c) / 18446744073709551616 : Nat) : Int)])) w := by
  rw [run_callFunc_extern Try.func19 (by kernel_rfl) (by kernel_rfl) (by kernel_rfl) (e := add64Entry) (by kernel_rfl), run_add64 x y c (by omega) (by omega) (by omega) (by omega)]
  simp only [Result.andThen]
  congr 5 <;> omega

theorem sub64_0 (x y : Int) (hx : Word x) (hy : Word y) (w : World) : (callFunc 17 #[.int .u64 x, .int .u64 y, .int .u64 0]).run Try.prog w =
    .ok (.value (.tuple #[.int .u64 (subLo x y), .int .u64 (subBo x y)])) w := by
  obtain ⟨hx0, hx1⟩ := hx
  obtain ⟨hy0, hy1⟩ := hy
  obtain ⟨x, rfl⟩ := Int.eq_ofNat_of_zero_le hx0
  obtain ⟨y, rfl⟩ := Int.eq_ofNat_of_zero_le hy0
  have e1 : (((x + 18446744073709551616 - y - 0) % 18446744073709551616 : Nat) : Int) = subLo x y := by unfold subLo; omega
  have e2 : ((if x < y + 0 then 1 else 0 : Nat) : Int) = subBo x y := by unfold subBo; split <;> split <;> omega
  rw [← e1, ← e2]
  exact sub64_run x y 0 (by omega) w
theorem add64_0 (x y : Int) (hx : Word x) (hy : Word y) (w : World) : (callFunc 19 #[.int .u64 x, .int .u64 y, .int .u64 0]).run Try.prog w =
    .ok (.value (.tuple #[.int .u64 (addLo x y), .int .u64 (addCa x y)])) w := by
  obtain ⟨hx0, hx1⟩ := hx
  obtain ⟨hy0, hy1⟩ := hy
  obtain ⟨x, rfl⟩ := Int.eq_ofNat_of_zero_le hx0
  obtain ⟨y, rfl⟩ := Int.eq_ofNat_of_zero_le hy0
  have e1 : (((x + y + 0) % 18446744073709551616 : Nat) : Int) = addLo x y := by unfold addLo; omega
  have e2 : (((x + y + 0) / 18446744073709551616 : Nat) : Int) = addCa x y := by unfold addCa; omega
  rw [← e1, ← e2]
  exact add64_run x y 0 (by omega) w

set_option maxHeartbeats 400000 in
theorem bsub_any (x y : Int) (hx : Word x) (hy : Word y) (w : World) :
    Calls Try.prog 14 #[.int .u64 x, .int .u64 y, .int .u64 0] w fun e w' => e = .returned (.tuple #[.int .u64 (subLo x y), .int .u64 (subBo x y)]) ∧ w' = w := by
  go_enter Try.func14, Try.ntmps14
  go_wp2_with (simp only [sub64_0 x y hx hy])
  go_ret2
  exact ⟨rfl, rfl⟩
set_option maxHeartbeats 400000 in
theorem badd_any (x y : Int) (hx : Word x) (hy : Word y) (w : World) :
    Calls Try.prog 15 #[.int .u64 x, .int .u64 y, .int .u64 0] w fun e w' => e = .returned (.tuple #[.int .u64 (addLo x y), .int .u64 (addCa x y)]) ∧ w' = w := by
  go_enter Try.func15, Try.ntmps15
  go_wp2_with (simp only [add64_0 x y hx hy])
  go_ret2
  exact ⟨rfl, rfl⟩
end Go.Proofs.Qxb6609014a
