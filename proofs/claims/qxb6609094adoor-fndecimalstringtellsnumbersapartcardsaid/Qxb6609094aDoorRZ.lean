/-
  THE WALK of readNumeral at the text "0".
-/
import Derived.Test.Qxb6609094aDoorDC
namespace Go.Proofs.Qxb6609094aDoor
open Go.RowKit

set_option maxRecDepth 100000 in
set_option maxHeartbeats 2000000 in
theorem readZ (s : ByteArray) (hs1 : Hid (s.size = 1)) (h0 : 0 < s.size) (hx0 : ((s[0].toNat : Int) == 45) = false) (hz : ((s[0].toNat : Int) == 48) = true) (hdg : Hid (digB s[0] = true)) (hw : s.extract 0 1 = s) (hwe : s.toList.isEmpty = false) (hall : s ++ ⟨#[]⟩ = s) (w : World) :
    Calls Tryd.prog 10 #[.string s] w fun e w' => e = .returned (.tuple #[.bool true, .bool false, .string ⟨#[]⟩, .int .i64 0, .bool false]) ∧ Below w.heap.size w w' := by
  have e1 : (s.size : Int) ≤ 1 := by have := hs1.out; omega
  have e2 : (1 : Int) ≤ s.size := by have := hs1.out; omega
  go_enter Tryd.func10, Tryd.ntmps10
  go_wp2_with fail
  go_loop [7] (fun iv => ∃ k : Nat, k ≤ 1 ∧ iv = .int .i64 k) (fun iv => 1 - (intOf iv).toNat)
  case atStart => exact ⟨0, by omega, rfl⟩
  case round =>
    obtain ⟨k, hk, rfl⟩ := hrel
    by_cases hk0 : k = 0
    · subst hk0
      go_wp2_with fail
      refine (isDigit_any s[0] _).mono ?_
      rw [hdg.out]
      rintro e w1 ⟨rfl, rfl⟩
      go_wp2_with fail
      go_round
      case rel => exact ⟨1, by omega, rfl⟩
      case measure => simp [intOf]
    · obtain rfl : k = 1 := by omega
      have e3 : ¬ (1 : Int) < s.size := by omega
      have e4 : ((1 : Int) == s.size) = true := by simp; omega
      go_wp2_with fail
      go_loop [14] (fun iv => ∃ k : Nat, k ≤ 1 ∧ iv = .int .i64 k) (fun iv => 1 - (intOf iv).toNat)
      case atStart => exact ⟨0, by omega, rfl⟩
      case round =>
        obtain ⟨k, hk, rfl⟩ := hrel
        by_cases hk0 : k = 0
        · subst hk0
          go_wp2_with fail
          go_round
          case rel => exact ⟨1, by omega, rfl⟩
          case measure => simp [intOf]
        · obtain rfl : k = 1 := by omega
          go_wp2_with fail
          go_loop [15] (fun iv => iv = .int .i64 s.size) (fun _ => 0)
          case atStart => rfl
          case round =>
            subst hrel
            go_wp2_with fail
            exact bodyPost_ret (v := .tuple #[.bool true, .bool false, .string ⟨#[]⟩, .int .i64 0, .bool false]) (by simp [results, Tryd.results10, go_sem]) rfl ⟨rfl, Below.refl _ _⟩
end Go.Proofs.Qxb6609094aDoor
