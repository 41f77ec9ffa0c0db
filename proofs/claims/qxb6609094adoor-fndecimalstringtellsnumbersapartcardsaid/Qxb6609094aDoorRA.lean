/-
  THE WALK of readNumeral: the plain form without a point. Made by a small program of mine out of one text for both signs.
-/
import Derived.Test.Qxb6609094aDoorDC
set_option linter.unusedVariables false
namespace Go.Proofs.Qxb6609094aDoor
open Go.RowKit

set_option maxRecDepth 100000 in
set_option maxHeartbeats 2000000 in
theorem readA_neg (s Wb Ab d : ByteArray) (z m : Nat) (hs : s.size ≤ 3000000) (h0 : 0 < s.size) (hx0 : ((s[0].toNat : Int) == 45) = true) (hi1 : 1 < s.size)
    (hdig : ∀ k (h : k < s.size), 1 ≤ k → Hid (digB s[k] = true)) (hw : s.extract 1 s.size = Wb) (hwe : Wb.toList.isEmpty = false) (hwz : Hid (Wb.size + 1 = s.size)) (hwp : 0 < Wb.size) (hw0 : 1 < Wb.size → ((Wb[0].toNat : Int) == 48) = false)
    (hall : Wb ++ ⟨#[]⟩ = Ab) (haz : Hid (Ab.size = Wb.size)) (hzm : z < m) (hma : m ≤ Ab.size) (hlead : ∀ k (h : k < Ab.size), k < z → ((Ab[k].toNat : Int) == 48) = true) (hld : ((Ab[z].toNat : Int) == 48) = false)
    (htr : ∀ k (h : k < Ab.size), m ≤ k → ((Ab[k].toNat : Int) == 48) = true) (hlt : ((Ab[m - 1].toNat : Int) == 48) = false) (hd : Ab.extract z m = d) (w : World) :
    Calls Tryd.prog 10 #[.string s] w fun e w' => e = .returned (.tuple #[.bool true, .bool true, .string d, .int .i64 ((Wb.size : Int) - z), .bool false]) ∧ Below w.heap.size w w' := by
  have HD : Hid (∀ k (h : k < s.size), 1 ≤ k → Hid (digB s[k] = true)) := hdig
  have HL : Hid (∀ k (h : k < Ab.size), k < z → ((Ab[k].toNat : Int) == 48) = true) := hlead
  have HT : Hid (∀ k (h : k < Ab.size), m ≤ k → ((Ab[k].toNat : Int) == 48) = true) := htr
  clear hdig hlead htr
  go_enter Tryd.func10, Tryd.ntmps10
  go_wp2_with fail
  go_loop [7] (fun iv => ∃ k : Nat, 1 ≤ k ∧ k ≤ s.size ∧ iv = .int .i64 k) (fun iv => s.size - (intOf iv).toNat)
  case atStart => exact ⟨1, Nat.le_refl _, by omega, rfl⟩
  case round =>
    obtain ⟨k, hk0, hk, rfl⟩ := hrel
    by_cases hlt1 : k < s.size
    · have hlt' : (k : Int) < s.size := by omega
      have hdk := HD.out k hlt1 hk0
      go_wp2_with fail
      refine (isDigit_any s[k] _).mono ?_
      rw [hdk.out]
      rintro e w1 ⟨rfl, rfl⟩
      go_wp2_with fail
      go_round
      case rel => exact ⟨k + 1, by omega, by omega, by go_num⟩
      case measure => simp [intOf]; omega
    · obtain rfl : k = s.size := by omega
      have hlt' : ¬ (s.size : Int) < s.size := by omega
      have hwb : Wb.size ≤ 3000000 := by have := hwz.out; omega
      have hab : Ab.size ≤ 3000000 := by have := haz.out; omega
      clear hk0 hk hlt1
      have c2 : Hid (1 < Wb.size → ((Wb[0].toNat : Int) == 48) = false) := hw0
      clear hw0
      by_cases c1 : (1 : Int) < Wb.size
      · have c3 := c2.out (by omega)
        go_wp2_with fail
        go_loop [14] (fun iv => ∃ k : Nat, k ≤ z ∧ iv = .int .i64 k) (fun iv => z - (intOf iv).toNat)
        case atStart => exact ⟨0, by omega, rfl⟩
        case round =>
          obtain ⟨k, hk, rfl⟩ := hrel
          by_cases hkz : k < z
          · have hka : k < Ab.size := by omega
            have hkt : (k : Int) < Ab.size := by omega
            have hke := HL.out k hka hkz
            go_wp2_with fail
            go_round
            case rel => exact ⟨k + 1, by omega, by go_num⟩
            case measure => simp [intOf]; omega
          · obtain rfl : k = z := by omega
            have hkt : (k : Int) < Ab.size := by omega
            go_wp2_with fail
            go_loop [15] (fun iv => ∃ j : Nat, m ≤ j ∧ j ≤ Ab.size ∧ iv = .int .i64 j) (fun iv => (intOf iv).toNat)
            case atStart => exact ⟨Ab.size, hma, Nat.le_refl _, rfl⟩
            case round =>
              obtain ⟨j, hj1, hj2, rfl⟩ := hrel
              by_cases hjm : m < j
              · have hja : j - 1 < Ab.size := by omega
                have hjt : (k : Int) < j := by omega
                have hje := HT.out (j - 1) hja (by omega)
                go_wp2_with fail
                go_round
                case rel => exact ⟨j - 1, by omega, by omega, by go_num⟩
                case measure => simp [intOf]; omega
              · obtain rfl : j = m := by omega
                have hjt : (k : Int) < j := by omega
                have hj3 : (j : Int) ≤ Ab.size := by omega
                have hj4 : (k : Int) ≤ j := by omega
                go_wp2_with fail
                go_quiet (fail)
                go_wp2_with fail
                exact bodyPost_ret (v := .tuple #[.bool true, .bool true, .string d, .int .i64 ((Wb.size : Int) - k), .bool false]) (by simp [results, Tryd.results10, go_sem]) rfl ⟨rfl, below_drewN (Below.refl _ _) _⟩
      · go_wp2_with fail
        go_loop [14] (fun iv => ∃ k : Nat, k ≤ z ∧ iv = .int .i64 k) (fun iv => z - (intOf iv).toNat)
        case atStart => exact ⟨0, by omega, rfl⟩
        case round =>
          obtain ⟨k, hk, rfl⟩ := hrel
          by_cases hkz : k < z
          · have hka : k < Ab.size := by omega
            have hkt : (k : Int) < Ab.size := by omega
            have hke := HL.out k hka hkz
            go_wp2_with fail
            go_round
            case rel => exact ⟨k + 1, by omega, by go_num⟩
            case measure => simp [intOf]; omega
          · obtain rfl : k = z := by omega
            have hkt : (k : Int) < Ab.size := by omega
            go_wp2_with fail
            go_loop [15] (fun iv => ∃ j : Nat, m ≤ j ∧ j ≤ Ab.size ∧ iv = .int .i64 j) (fun iv => (intOf iv).toNat)
            case atStart => exact ⟨Ab.size, hma, Nat.le_refl _, rfl⟩
            case round =>
              obtain ⟨j, hj1, hj2, rfl⟩ := hrel
              by_cases hjm : m < j
              · have hja : j - 1 < Ab.size := by omega
                have hjt : (k : Int) < j := by omega
                have hje := HT.out (j - 1) hja (by omega)
                go_wp2_with fail
                go_round
                case rel => exact ⟨j - 1, by omega, by omega, by go_num⟩
                case measure => simp [intOf]; omega
              · obtain rfl : j = m := by omega
                have hjt : (k : Int) < j := by omega
                have hj3 : (j : Int) ≤ Ab.size := by omega
                have hj4 : (k : Int) ≤ j := by omega
                go_wp2_with fail
                go_quiet (fail)
                go_wp2_with fail
                exact bodyPost_ret (v := .tuple #[.bool true, .bool true, .string d, .int .i64 ((Wb.size : Int) - k), .bool false]) (by simp [results, Tryd.results10, go_sem]) rfl ⟨rfl, below_drewN (Below.refl _ _) _⟩

set_option maxRecDepth 100000 in
set_option maxHeartbeats 2000000 in
theorem readA_pos (s Wb Ab d : ByteArray) (z m : Nat) (hs : s.size ≤ 3000000) (h0 : 0 < s.size) (hx0 : ((s[0].toNat : Int) == 45) = false) (hi1 : 0 < s.size)
    (hdig : ∀ k (h : k < s.size), 0 ≤ k → Hid (digB s[k] = true)) (hw : s.extract 0 s.size = Wb) (hwe : Wb.toList.isEmpty = false) (hwz : Hid (Wb.size + 0 = s.size)) (hwp : 0 < Wb.size) (hw0 : 1 < Wb.size → ((Wb[0].toNat : Int) == 48) = false)
    (hall : Wb ++ ⟨#[]⟩ = Ab) (haz : Hid (Ab.size = Wb.size)) (hzm : z < m) (hma : m ≤ Ab.size) (hlead : ∀ k (h : k < Ab.size), k < z → ((Ab[k].toNat : Int) == 48) = true) (hld : ((Ab[z].toNat : Int) == 48) = false)
    (htr : ∀ k (h : k < Ab.size), m ≤ k → ((Ab[k].toNat : Int) == 48) = true) (hlt : ((Ab[m - 1].toNat : Int) == 48) = false) (hd : Ab.extract z m = d) (w : World) :
    Calls Tryd.prog 10 #[.string s] w fun e w' => e = .returned (.tuple #[.bool true, .bool false, .string d, .int .i64 ((Wb.size : Int) - z), .bool false]) ∧ Below w.heap.size w w' := by
  have HD : Hid (∀ k (h : k < s.size), 0 ≤ k → Hid (digB s[k] = true)) := hdig
  have HL : Hid (∀ k (h : k < Ab.size), k < z → ((Ab[k].toNat : Int) == 48) = true) := hlead
  have HT : Hid (∀ k (h : k < Ab.size), m ≤ k → ((Ab[k].toNat : Int) == 48) = true) := htr
  clear hdig hlead htr
  go_enter Tryd.func10, Tryd.ntmps10
  go_wp2_with fail
  go_loop [7] (fun iv => ∃ k : Nat, 0 ≤ k ∧ k ≤ s.size ∧ iv = .int .i64 k) (fun iv => s.size - (intOf iv).toNat)
  case atStart => exact ⟨0, Nat.le_refl _, by omega, rfl⟩
  case round =>
    obtain ⟨k, hk0, hk, rfl⟩ := hrel
    by_cases hlt1 : k < s.size
    · have hlt' : (k : Int) < s.size := by omega
      have hdk := HD.out k hlt1 hk0
      go_wp2_with fail
      refine (isDigit_any s[k] _).mono ?_
      rw [hdk.out]
      rintro e w1 ⟨rfl, rfl⟩
      go_wp2_with fail
      go_round
      case rel => exact ⟨k + 1, by omega, by omega, by go_num⟩
      case measure => simp [intOf]; omega
    · obtain rfl : k = s.size := by omega
      have hlt' : ¬ (s.size : Int) < s.size := by omega
      have hwb : Wb.size ≤ 3000000 := by have := hwz.out; omega
      have hab : Ab.size ≤ 3000000 := by have := haz.out; omega
      clear hk0 hk hlt1
      have c2 : Hid (1 < Wb.size → ((Wb[0].toNat : Int) == 48) = false) := hw0
      clear hw0
      by_cases c1 : (1 : Int) < Wb.size
      · have c3 := c2.out (by omega)
        go_wp2_with fail
        go_loop [14] (fun iv => ∃ k : Nat, k ≤ z ∧ iv = .int .i64 k) (fun iv => z - (intOf iv).toNat)
        case atStart => exact ⟨0, by omega, rfl⟩
        case round =>
          obtain ⟨k, hk, rfl⟩ := hrel
          by_cases hkz : k < z
          · have hka : k < Ab.size := by omega
            have hkt : (k : Int) < Ab.size := by omega
            have hke := HL.out k hka hkz
            go_wp2_with fail
            go_round
            case rel => exact ⟨k + 1, by omega, by go_num⟩
            case measure => simp [intOf]; omega
          · obtain rfl : k = z := by omega
            have hkt : (k : Int) < Ab.size := by omega
            go_wp2_with fail
            go_loop [15] (fun iv => ∃ j : Nat, m ≤ j ∧ j ≤ Ab.size ∧ iv = .int .i64 j) (fun iv => (intOf iv).toNat)
            case atStart => exact ⟨Ab.size, hma, Nat.le_refl _, rfl⟩
            case round =>
              obtain ⟨j, hj1, hj2, rfl⟩ := hrel
              by_cases hjm : m < j
              · have hja : j - 1 < Ab.size := by omega
                have hjt : (k : Int) < j := by omega
                have hje := HT.out (j - 1) hja (by omega)
                go_wp2_with fail
                go_round
                case rel => exact ⟨j - 1, by omega, by omega, by go_num⟩
                case measure => simp [intOf]; omega
              · obtain rfl : j = m := by omega
                have hjt : (k : Int) < j := by omega
                have hj3 : (j : Int) ≤ Ab.size := by omega
                have hj4 : (k : Int) ≤ j := by omega
                go_wp2_with fail
                go_quiet (fail)
                go_wp2_with fail
                exact bodyPost_ret (v := .tuple #[.bool true, .bool false, .string d, .int .i64 ((Wb.size : Int) - k), .bool false]) (by simp [results, Tryd.results10, go_sem]) rfl ⟨rfl, below_drewN (Below.refl _ _) _⟩
      · go_wp2_with fail
        go_loop [14] (fun iv => ∃ k : Nat, k ≤ z ∧ iv = .int .i64 k) (fun iv => z - (intOf iv).toNat)
        case atStart => exact ⟨0, by omega, rfl⟩
        case round =>
          obtain ⟨k, hk, rfl⟩ := hrel
          by_cases hkz : k < z
          · have hka : k < Ab.size := by omega
            have hkt : (k : Int) < Ab.size := by omega
            have hke := HL.out k hka hkz
            go_wp2_with fail
            go_round
            case rel => exact ⟨k + 1, by omega, by go_num⟩
            case measure => simp [intOf]; omega
          · obtain rfl : k = z := by omega
            have hkt : (k : Int) < Ab.size := by omega
            go_wp2_with fail
            go_loop [15] (fun iv => ∃ j : Nat, m ≤ j ∧ j ≤ Ab.size ∧ iv = .int .i64 j) (fun iv => (intOf iv).toNat)
            case atStart => exact ⟨Ab.size, hma, Nat.le_refl _, rfl⟩
            case round =>
              obtain ⟨j, hj1, hj2, rfl⟩ := hrel
              by_cases hjm : m < j
              · have hja : j - 1 < Ab.size := by omega
                have hjt : (k : Int) < j := by omega
                have hje := HT.out (j - 1) hja (by omega)
                go_wp2_with fail
                go_round
                case rel => exact ⟨j - 1, by omega, by omega, by go_num⟩
                case measure => simp [intOf]; omega
              · obtain rfl : j = m := by omega
                have hjt : (k : Int) < j := by omega
                have hj3 : (j : Int) ≤ Ab.size := by omega
                have hj4 : (k : Int) ≤ j := by omega
                go_wp2_with fail
                go_quiet (fail)
                go_wp2_with fail
                exact bodyPost_ret (v := .tuple #[.bool true, .bool false, .string d, .int .i64 ((Wb.size : Int) - k), .bool false]) (by simp [results, Tryd.results10, go_sem]) rfl ⟨rfl, below_drewN (Below.refl _ _) _⟩
end Go.Proofs.Qxb6609094aDoor
