/-
  THE WALK of readNumeral: the form with an exponent, with a point. Made by a small program of mine out of one text.
-/
import Derived.Test.Qxb6609094aDoorRE
set_option linter.unusedVariables false
namespace Go.Proofs.Qxb6609094aDoor
open Go.RowKit

set_option maxRecDepth 100000 in
set_option maxHeartbeats 4000000 in
theorem readE_pfq (s Wb Fb Eb d : ByteArray) (e1 e2 : Nat) (U P : Int) (v : Nat → Int) (hs : s.size ≤ 3000000) (h0 : 0 < s.size) (hx0 : ((s[0].toNat : Int) == 45) = false) (hi1 : 0 < e1) (he2 : e2 + 2 < s.size) (hf1 : e1 + 1 < e2)
    (hdig : ∀ k (h : k < s.size), 0 ≤ k → k < e1 → Hid (digB s[k] = true)) (hpt : (s[e1].toNat : Int) = 46) (hdig2 : ∀ k (h : k < s.size), e1 + 1 ≤ k → k < e2 → Hid (digB s[k] = true)) (hpe : (s[e2].toNat : Int) = 101)
    (hf : s.extract (e1 + 1) e2 = Fb) (hfe : Fb.toList.isEmpty = false) (hfz : Hid (Fb.size + e1 + 1 = e2)) (hfp : 0 < Fb.size) (hfl : ((Fb[Fb.size - 1].toNat : Int) == 48) = false)
    (hw : s.extract 0 e1 = Wb) (hwe : Wb.toList.isEmpty = false) (hwz : Hid (Wb.size = 1)) (hwp : 0 < Wb.size) (hw0 : ((Wb[0].toNat : Int) == 48) = false)
    (hsg : (s[e2 + 1].toNat : Int) = 43) (hdig3 : ∀ k (h : k < s.size), e2 + 2 ≤ k → Hid (digB s[k] = true))
    (hed : s.extract (e2 + 2) s.size = Eb) (hee : Eb.toList.isEmpty = false) (hez : Eb.size ≤ 19) (hep : 0 < Eb.size) (he0 : 1 < Eb.size → ((Eb[0].toNat : Int) == 48) = false)
    (hed2 : ∀ k (h : k < Eb.size), 48 ≤ (Eb[k].toNat : Int) ∧ (Eb[k].toNat : Int) ≤ 57)
    (hv0 : v 0 = 0) (hvs : ∀ k (h : k < Eb.size), v (k + 1) = v k * 10 + ((Eb[k].toNat : Int) - 48)) (hvb : ∀ k, k < Eb.size → 0 ≤ v k ∧ v k ≤ 999999999999999999) (hU : Hid (v Eb.size = U)) (hu1 : 0 ≤ U) (hu2 : U ≤ 9223372036854775806) (hP : Hid (U + 1 = P))
    (hall : Wb ++ Fb = d) (w : World) :
    Calls Tryd.prog 10 #[.string s] w fun e w' => e = .returned (.tuple #[.bool true, .bool false, .string d, .int .i64 P, .bool true]) ∧ Below w.heap.size w w' := by
  have HD : Hid (∀ k (h : k < s.size), 0 ≤ k → k < e1 → Hid (digB s[k] = true)) := hdig
  have HD3 : Hid (∀ k (h : k < s.size), e2 + 2 ≤ k → Hid (digB s[k] = true)) := hdig3
  have HE2 : Hid (∀ k (h : k < Eb.size), 48 ≤ (Eb[k].toNat : Int) ∧ (Eb[k].toNat : Int) ≤ 57) := hed2
  have HV0 : Hid (v 0 = 0) := hv0
  have HVS : Hid (∀ k (h : k < Eb.size), v (k + 1) = v k * 10 + ((Eb[k].toNat : Int) - 48)) := hvs
  have HVB : Hid (∀ k, k < Eb.size → 0 ≤ v k ∧ v k ≤ 999999999999999999) := hvb
  have HE0 : Hid (1 < Eb.size → ((Eb[0].toNat : Int) == 48) = false) := he0
  have HU1 : Hid (0 ≤ U) := hu1
  have HU2 : Hid (U ≤ 9223372036854775806) := hu2
  have HD2 : Hid (∀ k (h : k < s.size), e1 + 1 ≤ k → k < e2 → Hid (digB s[k] = true)) := hdig2
  clear hdig2
  clear hdig hdig3 hed2 hv0 hvs hvb he0 hu1 hu2
  go_enter Tryd.func10, Tryd.ntmps10
  go_wp2_with fail
  go_loop [7] (fun iv => ∃ k : Nat, 0 ≤ k ∧ k ≤ e1 ∧ iv = .int .i64 k) (fun iv => e1 - (intOf iv).toNat)
  case atStart => exact ⟨0, Nat.le_refl _, by omega, rfl⟩
  case round =>
    obtain ⟨k, hk0, hk, rfl⟩ := hrel
    by_cases hlt1 : k < e1
    · have hks : k < s.size := by omega
      have hlt' : (k : Int) < s.size := by omega
      have hdk := HD.out k hks hk0 hlt1
      go_wp2_with fail
      refine (isDigit_any s[k] _).mono ?_
      rw [hdk.out]
      rintro e w1 ⟨rfl, rfl⟩
      go_wp2_with fail
      go_round
      case rel => exact ⟨k + 1, by omega, by omega, by go_num⟩
      case measure => simp [intOf]; omega
    · obtain rfl : k = e1 := by omega
      have hlt' : (k : Int) < s.size := by omega
      go_wp2_with fail
      refine (isDigit_no 46 (by omega) _).mono ?_
      rintro e w1 ⟨rfl, rfl⟩
      clear hlt1 hk
      have hlt2 : (k : Int) + 1 < s.size := by omega
      go_wp2_with fail
      go_loop [7] (fun iv => ∃ j : Nat, k + 1 ≤ j ∧ j ≤ e2 ∧ iv = .int .i64 j) (fun iv => e2 - (intOf iv).toNat)
      case atStart => exact ⟨k + 1, Nat.le_refl _, by omega, by go_num⟩
      case round =>
        obtain ⟨q, hq0, hq, rfl⟩ := hrel
        by_cases hqs : q < e2
        · have hqz : q < s.size := by omega
          have hqt : (q : Int) < s.size := by omega
          have hdk := HD2.out q hqz hq0 hqs
          go_wp2_with fail
          refine (isDigit_any s[q] _).mono ?_
          rw [hdk.out]
          rintro e w1 ⟨rfl, rfl⟩
          go_wp2_with fail
          go_round
          case rel => exact ⟨q + 1, by omega, by omega, by go_num⟩
          case measure => simp [intOf]; omega
        · obtain rfl : q = e2 := by omega
          have hqt : (q : Int) < s.size := by omega
          go_wp2_with fail
          refine (isDigit_no 101 (by omega) _).mono ?_
          rintro e w1 ⟨rfl, rfl⟩
          clear hqs hq
          have hq1 : ((q : Int) == s.size) = false := by simp; omega
          have hq2 : ((q : Int) + 1 == s.size) = false := by simp; omega
          have hq3 : (q : Int) + 1 < s.size := by omega
          have hq4 : (q : Int) < s.size := by omega
          have hwb : Wb.size ≤ 1 := by have := hwz.out; omega
          have hwb1 : ((Wb.size : Int) != 1) = false := by have := hwz.out; simp; omega
          have hwb2 : (0 : Int) < Wb.size := by omega
          have hfb : Fb.size ≤ 3000000 := by have := hfz.out; omega
          have hfp2 : (0 : Int) < Fb.size := by omega
          go_wp2_with fail
          go_loop [7] (fun iv => ∃ j : Nat, q + 2 ≤ j ∧ j ≤ s.size ∧ iv = .int .i64 j) (fun iv => s.size - (intOf iv).toNat)
          case atStart => exact ⟨q + 2, Nat.le_refl _, by omega, by go_num⟩
          case round =>
            obtain ⟨j, hj0, hj, rfl⟩ := hrel
            by_cases hjs : j < s.size
            · have hjt : (j : Int) < s.size := by omega
              have hdk := HD3.out j hjs hj0
              go_wp2_with fail
              refine (isDigit_any s[j] _).mono ?_
              rw [hdk.out]
              rintro e w1 ⟨rfl, rfl⟩
              go_wp2_with fail
              go_round
              case rel => exact ⟨j + 1, by omega, by omega, by go_num⟩
              case measure => simp [intOf]; omega
            · obtain rfl : j = s.size := by omega
              have hjt : ¬ (s.size : Int) < s.size := by omega
              have hez' : ¬ (19 : Int) < Eb.size := by omega
              have hep' : (0 : Int) < Eb.size := by omega
              clear hj0 hj hjs
              by_cases c1 : (1 : Int) < Eb.size
              · have c3 := HE0.out (by omega)
                go_wp2_with fail
                go_loop [19, 20] (fun uv jv => ∃ i : Nat, i ≤ Eb.size ∧ jv = .int .i64 i ∧ uv = .int .u64 (v i)) (fun _ jv => Eb.size - (intOf jv).toNat)
                case atStart => exact ⟨0, Nat.zero_le _, rfl, by rw [HV0.out]⟩
                case round =>
                  obtain ⟨i, hi, rfl, rfl⟩ := hrel
                  by_cases hie : i < Eb.size
                  · have hit : (i : Int) < Eb.size := by omega
                    obtain ⟨b1, b2⟩ := HE2.out i hie
                    obtain ⟨b3, b4⟩ := HVB.out i hie
                    go_wp2_with fail
                    go_round
                    case rel => exact ⟨i + 1, by omega, by go_num, by rw [HVS.out i hie]⟩
                    case measure => simp [intOf]; omega
                  · obtain rfl : i = Eb.size := by omega
                    have hit : ¬ (Eb.size : Int) < Eb.size := by omega
                    rw [hU.out]
                    have g1 := HU1.out
                    have g2 := HU2.out
                    clear HVB HVS HE2 HV0
                    go_wp2_with fail
                    exact bodyPost_ret (v := .tuple #[.bool true, .bool false, .string d, .int .i64 (U + 1), .bool true]) (by simp [results, Tryd.results10, go_sem]) rfl ⟨by rw [hP.out], Below.refl _ _⟩
              · go_wp2_with fail
                go_loop [19, 20] (fun uv jv => ∃ i : Nat, i ≤ Eb.size ∧ jv = .int .i64 i ∧ uv = .int .u64 (v i)) (fun _ jv => Eb.size - (intOf jv).toNat)
                case atStart => exact ⟨0, Nat.zero_le _, rfl, by rw [HV0.out]⟩
                case round =>
                  obtain ⟨i, hi, rfl, rfl⟩ := hrel
                  by_cases hie : i < Eb.size
                  · have hit : (i : Int) < Eb.size := by omega
                    obtain ⟨b1, b2⟩ := HE2.out i hie
                    obtain ⟨b3, b4⟩ := HVB.out i hie
                    go_wp2_with fail
                    go_round
                    case rel => exact ⟨i + 1, by omega, by go_num, by rw [HVS.out i hie]⟩
                    case measure => simp [intOf]; omega
                  · obtain rfl : i = Eb.size := by omega
                    have hit : ¬ (Eb.size : Int) < Eb.size := by omega
                    rw [hU.out]
                    have g1 := HU1.out
                    have g2 := HU2.out
                    clear HVB HVS HE2 HV0
                    go_wp2_with fail
                    exact bodyPost_ret (v := .tuple #[.bool true, .bool false, .string d, .int .i64 (U + 1), .bool true]) (by simp [results, Tryd.results10, go_sem]) rfl ⟨by rw [hP.out], Below.refl _ _⟩

set_option maxRecDepth 100000 in
set_option maxHeartbeats 4000000 in
theorem readE_pfm (s Wb Fb Eb d : ByteArray) (e1 e2 : Nat) (U P : Int) (v : Nat → Int) (hs : s.size ≤ 3000000) (h0 : 0 < s.size) (hx0 : ((s[0].toNat : Int) == 45) = false) (hi1 : 0 < e1) (he2 : e2 + 2 < s.size) (hf1 : e1 + 1 < e2)
    (hdig : ∀ k (h : k < s.size), 0 ≤ k → k < e1 → Hid (digB s[k] = true)) (hpt : (s[e1].toNat : Int) = 46) (hdig2 : ∀ k (h : k < s.size), e1 + 1 ≤ k → k < e2 → Hid (digB s[k] = true)) (hpe : (s[e2].toNat : Int) = 101)
    (hf : s.extract (e1 + 1) e2 = Fb) (hfe : Fb.toList.isEmpty = false) (hfz : Hid (Fb.size + e1 + 1 = e2)) (hfp : 0 < Fb.size) (hfl : ((Fb[Fb.size - 1].toNat : Int) == 48) = false)
    (hw : s.extract 0 e1 = Wb) (hwe : Wb.toList.isEmpty = false) (hwz : Hid (Wb.size = 1)) (hwp : 0 < Wb.size) (hw0 : ((Wb[0].toNat : Int) == 48) = false)
    (hsg : (s[e2 + 1].toNat : Int) = 45) (hdig3 : ∀ k (h : k < s.size), e2 + 2 ≤ k → Hid (digB s[k] = true))
    (hed : s.extract (e2 + 2) s.size = Eb) (hee : Eb.toList.isEmpty = false) (hez : Eb.size ≤ 19) (hep : 0 < Eb.size) (he0 : 1 < Eb.size → ((Eb[0].toNat : Int) == 48) = false)
    (hed2 : ∀ k (h : k < Eb.size), 48 ≤ (Eb[k].toNat : Int) ∧ (Eb[k].toNat : Int) ≤ 57)
    (hv0 : v 0 = 0) (hvs : ∀ k (h : k < Eb.size), v (k + 1) = v k * 10 + ((Eb[k].toNat : Int) - 48)) (hvb : ∀ k, k < Eb.size → 0 ≤ v k ∧ v k ≤ 999999999999999999) (hU : Hid (v Eb.size = U)) (hu1 : 1 ≤ U) (hu2 : U ≤ 9223372036854775808) (hP : Hid (-(U - 1) - 1 + 1 = P))
    (hall : Wb ++ Fb = d) (w : World) :
    Calls Tryd.prog 10 #[.string s] w fun e w' => e = .returned (.tuple #[.bool true, .bool false, .string d, .int .i64 P, .bool true]) ∧ Below w.heap.size w w' := by
  have HD : Hid (∀ k (h : k < s.size), 0 ≤ k → k < e1 → Hid (digB s[k] = true)) := hdig
  have HD3 : Hid (∀ k (h : k < s.size), e2 + 2 ≤ k → Hid (digB s[k] = true)) := hdig3
  have HE2 : Hid (∀ k (h : k < Eb.size), 48 ≤ (Eb[k].toNat : Int) ∧ (Eb[k].toNat : Int) ≤ 57) := hed2
  have HV0 : Hid (v 0 = 0) := hv0
  have HVS : Hid (∀ k (h : k < Eb.size), v (k + 1) = v k * 10 + ((Eb[k].toNat : Int) - 48)) := hvs
  have HVB : Hid (∀ k, k < Eb.size → 0 ≤ v k ∧ v k ≤ 999999999999999999) := hvb
  have HE0 : Hid (1 < Eb.size → ((Eb[0].toNat : Int) == 48) = false) := he0
  have HU1 : Hid (1 ≤ U) := hu1
  have HU2 : Hid (U ≤ 9223372036854775808) := hu2
  have HD2 : Hid (∀ k (h : k < s.size), e1 + 1 ≤ k → k < e2 → Hid (digB s[k] = true)) := hdig2
  clear hdig2
  clear hdig hdig3 hed2 hv0 hvs hvb he0 hu1 hu2
  go_enter Tryd.func10, Tryd.ntmps10
  go_wp2_with fail
  go_loop [7] (fun iv => ∃ k : Nat, 0 ≤ k ∧ k ≤ e1 ∧ iv = .int .i64 k) (fun iv => e1 - (intOf iv).toNat)
  case atStart => exact ⟨0, Nat.le_refl _, by omega, rfl⟩
  case round =>
    obtain ⟨k, hk0, hk, rfl⟩ := hrel
    by_cases hlt1 : k < e1
    · have hks : k < s.size := by omega
      have hlt' : (k : Int) < s.size := by omega
      have hdk := HD.out k hks hk0 hlt1
      go_wp2_with fail
      refine (isDigit_any s[k] _).mono ?_
      rw [hdk.out]
      rintro e w1 ⟨rfl, rfl⟩
      go_wp2_with fail
      go_round
      case rel => exact ⟨k + 1, by omega, by omega, by go_num⟩
      case measure => simp [intOf]; omega
    · obtain rfl : k = e1 := by omega
      have hlt' : (k : Int) < s.size := by omega
      go_wp2_with fail
      refine (isDigit_no 46 (by omega) _).mono ?_
      rintro e w1 ⟨rfl, rfl⟩
      clear hlt1 hk
      have hlt2 : (k : Int) + 1 < s.size := by omega
      go_wp2_with fail
      go_loop [7] (fun iv => ∃ j : Nat, k + 1 ≤ j ∧ j ≤ e2 ∧ iv = .int .i64 j) (fun iv => e2 - (intOf iv).toNat)
      case atStart => exact ⟨k + 1, Nat.le_refl _, by omega, by go_num⟩
      case round =>
        obtain ⟨q, hq0, hq, rfl⟩ := hrel
        by_cases hqs : q < e2
        · have hqz : q < s.size := by omega
          have hqt : (q : Int) < s.size := by omega
          have hdk := HD2.out q hqz hq0 hqs
          go_wp2_with fail
          refine (isDigit_any s[q] _).mono ?_
          rw [hdk.out]
          rintro e w1 ⟨rfl, rfl⟩
          go_wp2_with fail
          go_round
          case rel => exact ⟨q + 1, by omega, by omega, by go_num⟩
          case measure => simp [intOf]; omega
        · obtain rfl : q = e2 := by omega
          have hqt : (q : Int) < s.size := by omega
          go_wp2_with fail
          refine (isDigit_no 101 (by omega) _).mono ?_
          rintro e w1 ⟨rfl, rfl⟩
          clear hqs hq
          have hq1 : ((q : Int) == s.size) = false := by simp; omega
          have hq2 : ((q : Int) + 1 == s.size) = false := by simp; omega
          have hq3 : (q : Int) + 1 < s.size := by omega
          have hq4 : (q : Int) < s.size := by omega
          have hwb : Wb.size ≤ 1 := by have := hwz.out; omega
          have hwb1 : ((Wb.size : Int) != 1) = false := by have := hwz.out; simp; omega
          have hwb2 : (0 : Int) < Wb.size := by omega
          have hfb : Fb.size ≤ 3000000 := by have := hfz.out; omega
          have hfp2 : (0 : Int) < Fb.size := by omega
          go_wp2_with fail
          go_loop [7] (fun iv => ∃ j : Nat, q + 2 ≤ j ∧ j ≤ s.size ∧ iv = .int .i64 j) (fun iv => s.size - (intOf iv).toNat)
          case atStart => exact ⟨q + 2, Nat.le_refl _, by omega, by go_num⟩
          case round =>
            obtain ⟨j, hj0, hj, rfl⟩ := hrel
            by_cases hjs : j < s.size
            · have hjt : (j : Int) < s.size := by omega
              have hdk := HD3.out j hjs hj0
              go_wp2_with fail
              refine (isDigit_any s[j] _).mono ?_
              rw [hdk.out]
              rintro e w1 ⟨rfl, rfl⟩
              go_wp2_with fail
              go_round
              case rel => exact ⟨j + 1, by omega, by omega, by go_num⟩
              case measure => simp [intOf]; omega
            · obtain rfl : j = s.size := by omega
              have hjt : ¬ (s.size : Int) < s.size := by omega
              have hez' : ¬ (19 : Int) < Eb.size := by omega
              have hep' : (0 : Int) < Eb.size := by omega
              clear hj0 hj hjs
              by_cases c1 : (1 : Int) < Eb.size
              · have c3 := HE0.out (by omega)
                go_wp2_with fail
                go_loop [19, 20] (fun uv jv => ∃ i : Nat, i ≤ Eb.size ∧ jv = .int .i64 i ∧ uv = .int .u64 (v i)) (fun _ jv => Eb.size - (intOf jv).toNat)
                case atStart => exact ⟨0, Nat.zero_le _, rfl, by rw [HV0.out]⟩
                case round =>
                  obtain ⟨i, hi, rfl, rfl⟩ := hrel
                  by_cases hie : i < Eb.size
                  · have hit : (i : Int) < Eb.size := by omega
                    obtain ⟨b1, b2⟩ := HE2.out i hie
                    obtain ⟨b3, b4⟩ := HVB.out i hie
                    go_wp2_with fail
                    go_round
                    case rel => exact ⟨i + 1, by omega, by go_num, by rw [HVS.out i hie]⟩
                    case measure => simp [intOf]; omega
                  · obtain rfl : i = Eb.size := by omega
                    have hit : ¬ (Eb.size : Int) < Eb.size := by omega
                    rw [hU.out]
                    have g1 := HU1.out
                    have g2 := HU2.out
                    have g3 : (U == 0) = false := by simp; omega
                    clear HVB HVS HE2 HV0
                    go_wp2_with fail
                    exact bodyPost_ret (v := .tuple #[.bool true, .bool false, .string d, .int .i64 (-(U - 1) - 1 + 1), .bool true]) (by simp [results, Tryd.results10, go_sem]) rfl ⟨by rw [hP.out], Below.refl _ _⟩
              · go_wp2_with fail
                go_loop [19, 20] (fun uv jv => ∃ i : Nat, i ≤ Eb.size ∧ jv = .int .i64 i ∧ uv = .int .u64 (v i)) (fun _ jv => Eb.size - (intOf jv).toNat)
                case atStart => exact ⟨0, Nat.zero_le _, rfl, by rw [HV0.out]⟩
                case round =>
                  obtain ⟨i, hi, rfl, rfl⟩ := hrel
                  by_cases hie : i < Eb.size
                  · have hit : (i : Int) < Eb.size := by omega
                    obtain ⟨b1, b2⟩ := HE2.out i hie
                    obtain ⟨b3, b4⟩ := HVB.out i hie
                    go_wp2_with fail
                    go_round
                    case rel => exact ⟨i + 1, by omega, by go_num, by rw [HVS.out i hie]⟩
                    case measure => simp [intOf]; omega
                  · obtain rfl : i = Eb.size := by omega
                    have hit : ¬ (Eb.size : Int) < Eb.size := by omega
                    rw [hU.out]
                    have g1 := HU1.out
                    have g2 := HU2.out
                    have g3 : (U == 0) = false := by simp; omega
                    clear HVB HVS HE2 HV0
                    go_wp2_with fail
                    exact bodyPost_ret (v := .tuple #[.bool true, .bool false, .string d, .int .i64 (-(U - 1) - 1 + 1), .bool true]) (by simp [results, Tryd.results10, go_sem]) rfl ⟨by rw [hP.out], Below.refl _ _⟩

set_option maxRecDepth 100000 in
set_option maxHeartbeats 4000000 in
theorem readE_nfq (s Wb Fb Eb d : ByteArray) (e1 e2 : Nat) (U P : Int) (v : Nat → Int) (hs : s.size ≤ 3000000) (h0 : 0 < s.size) (hx0 : ((s[0].toNat : Int) == 45) = true) (hi1 : 1 < e1) (he2 : e2 + 2 < s.size) (hf1 : e1 + 1 < e2)
    (hdig : ∀ k (h : k < s.size), 1 ≤ k → k < e1 → Hid (digB s[k] = true)) (hpt : (s[e1].toNat : Int) = 46) (hdig2 : ∀ k (h : k < s.size), e1 + 1 ≤ k → k < e2 → Hid (digB s[k] = true)) (hpe : (s[e2].toNat : Int) = 101)
    (hf : s.extract (e1 + 1) e2 = Fb) (hfe : Fb.toList.isEmpty = false) (hfz : Hid (Fb.size + e1 + 1 = e2)) (hfp : 0 < Fb.size) (hfl : ((Fb[Fb.size - 1].toNat : Int) == 48) = false)
    (hw : s.extract 1 e1 = Wb) (hwe : Wb.toList.isEmpty = false) (hwz : Hid (Wb.size = 1)) (hwp : 0 < Wb.size) (hw0 : ((Wb[0].toNat : Int) == 48) = false)
    (hsg : (s[e2 + 1].toNat : Int) = 43) (hdig3 : ∀ k (h : k < s.size), e2 + 2 ≤ k → Hid (digB s[k] = true))
    (hed : s.extract (e2 + 2) s.size = Eb) (hee : Eb.toList.isEmpty = false) (hez : Eb.size ≤ 19) (hep : 0 < Eb.size) (he0 : 1 < Eb.size → ((Eb[0].toNat : Int) == 48) = false)
    (hed2 : ∀ k (h : k < Eb.size), 48 ≤ (Eb[k].toNat : Int) ∧ (Eb[k].toNat : Int) ≤ 57)
    (hv0 : v 0 = 0) (hvs : ∀ k (h : k < Eb.size), v (k + 1) = v k * 10 + ((Eb[k].toNat : Int) - 48)) (hvb : ∀ k, k < Eb.size → 0 ≤ v k ∧ v k ≤ 999999999999999999) (hU : Hid (v Eb.size = U)) (hu1 : 0 ≤ U) (hu2 : U ≤ 9223372036854775806) (hP : Hid (U + 1 = P))
    (hall : Wb ++ Fb = d) (w : World) :
    Calls Tryd.prog 10 #[.string s] w fun e w' => e = .returned (.tuple #[.bool true, .bool true, .string d, .int .i64 P, .bool true]) ∧ Below w.heap.size w w' := by
  have HD : Hid (∀ k (h : k < s.size), 1 ≤ k → k < e1 → Hid (digB s[k] = true)) := hdig
  have HD3 : Hid (∀ k (h : k < s.size), e2 + 2 ≤ k → Hid (digB s[k] = true)) := hdig3
  have HE2 : Hid (∀ k (h : k < Eb.size), 48 ≤ (Eb[k].toNat : Int) ∧ (Eb[k].toNat : Int) ≤ 57) := hed2
  have HV0 : Hid (v 0 = 0) := hv0
  have HVS : Hid (∀ k (h : k < Eb.size), v (k + 1) = v k * 10 + ((Eb[k].toNat : Int) - 48)) := hvs
  have HVB : Hid (∀ k, k < Eb.size → 0 ≤ v k ∧ v k ≤ 999999999999999999) := hvb
  have HE0 : Hid (1 < Eb.size → ((Eb[0].toNat : Int) == 48) = false) := he0
  have HU1 : Hid (0 ≤ U) := hu1
  have HU2 : Hid (U ≤ 9223372036854775806) := hu2
  have HD2 : Hid (∀ k (h : k < s.size), e1 + 1 ≤ k → k < e2 → Hid (digB s[k] = true)) := hdig2
  clear hdig2
  clear hdig hdig3 hed2 hv0 hvs hvb he0 hu1 hu2
  go_enter Tryd.func10, Tryd.ntmps10
  go_wp2_with fail
  go_loop [7] (fun iv => ∃ k : Nat, 1 ≤ k ∧ k ≤ e1 ∧ iv = .int .i64 k) (fun iv => e1 - (intOf iv).toNat)
  case atStart => exact ⟨1, Nat.le_refl _, by omega, rfl⟩
  case round =>
    obtain ⟨k, hk0, hk, rfl⟩ := hrel
    by_cases hlt1 : k < e1
    · have hks : k < s.size := by omega
      have hlt' : (k : Int) < s.size := by omega
      have hdk := HD.out k hks hk0 hlt1
      go_wp2_with fail
      refine (isDigit_any s[k] _).mono ?_
      rw [hdk.out]
      rintro e w1 ⟨rfl, rfl⟩
      go_wp2_with fail
      go_round
      case rel => exact ⟨k + 1, by omega, by omega, by go_num⟩
      case measure => simp [intOf]; omega
    · obtain rfl : k = e1 := by omega
      have hlt' : (k : Int) < s.size := by omega
      go_wp2_with fail
      refine (isDigit_no 46 (by omega) _).mono ?_
      rintro e w1 ⟨rfl, rfl⟩
      clear hlt1 hk
      have hlt2 : (k : Int) + 1 < s.size := by omega
      go_wp2_with fail
      go_loop [7] (fun iv => ∃ j : Nat, k + 1 ≤ j ∧ j ≤ e2 ∧ iv = .int .i64 j) (fun iv => e2 - (intOf iv).toNat)
      case atStart => exact ⟨k + 1, Nat.le_refl _, by omega, by go_num⟩
      case round =>
        obtain ⟨q, hq0, hq, rfl⟩ := hrel
        by_cases hqs : q < e2
        · have hqz : q < s.size := by omega
          have hqt : (q : Int) < s.size := by omega
          have hdk := HD2.out q hqz hq0 hqs
          go_wp2_with fail
          refine (isDigit_any s[q] _).mono ?_
          rw [hdk.out]
          rintro e w1 ⟨rfl, rfl⟩
          go_wp2_with fail
          go_round
          case rel => exact ⟨q + 1, by omega, by omega, by go_num⟩
          case measure => simp [intOf]; omega
        · obtain rfl : q = e2 := by omega
          have hqt : (q : Int) < s.size := by omega
          go_wp2_with fail
          refine (isDigit_no 101 (by omega) _).mono ?_
          rintro e w1 ⟨rfl, rfl⟩
          clear hqs hq
          have hq1 : ((q : Int) == s.size) = false := by simp; omega
          have hq2 : ((q : Int) + 1 == s.size) = false := by simp; omega
          have hq3 : (q : Int) + 1 < s.size := by omega
          have hq4 : (q : Int) < s.size := by omega
          have hwb : Wb.size ≤ 1 := by have := hwz.out; omega
          have hwb1 : ((Wb.size : Int) != 1) = false := by have := hwz.out; simp; omega
          have hwb2 : (0 : Int) < Wb.size := by omega
          have hfb : Fb.size ≤ 3000000 := by have := hfz.out; omega
          have hfp2 : (0 : Int) < Fb.size := by omega
          go_wp2_with fail
          go_loop [7] (fun iv => ∃ j : Nat, q + 2 ≤ j ∧ j ≤ s.size ∧ iv = .int .i64 j) (fun iv => s.size - (intOf iv).toNat)
          case atStart => exact ⟨q + 2, Nat.le_refl _, by omega, by go_num⟩
          case round =>
            obtain ⟨j, hj0, hj, rfl⟩ := hrel
            by_cases hjs : j < s.size
            · have hjt : (j : Int) < s.size := by omega
              have hdk := HD3.out j hjs hj0
              go_wp2_with fail
              refine (isDigit_any s[j] _).mono ?_
              rw [hdk.out]
              rintro e w1 ⟨rfl, rfl⟩
              go_wp2_with fail
              go_round
              case rel => exact ⟨j + 1, by omega, by omega, by go_num⟩
              case measure => simp [intOf]; omega
            · obtain rfl : j = s.size := by omega
              have hjt : ¬ (s.size : Int) < s.size := by omega
              have hez' : ¬ (19 : Int) < Eb.size := by omega
              have hep' : (0 : Int) < Eb.size := by omega
              clear hj0 hj hjs
              by_cases c1 : (1 : Int) < Eb.size
              · have c3 := HE0.out (by omega)
                go_wp2_with fail
                go_loop [19, 20] (fun uv jv => ∃ i : Nat, i ≤ Eb.size ∧ jv = .int .i64 i ∧ uv = .int .u64 (v i)) (fun _ jv => Eb.size - (intOf jv).toNat)
                case atStart => exact ⟨0, Nat.zero_le _, rfl, by rw [HV0.out]⟩
                case round =>
                  obtain ⟨i, hi, rfl, rfl⟩ := hrel
                  by_cases hie : i < Eb.size
                  · have hit : (i : Int) < Eb.size := by omega
                    obtain ⟨b1, b2⟩ := HE2.out i hie
                    obtain ⟨b3, b4⟩ := HVB.out i hie
                    go_wp2_with fail
                    go_round
                    case rel => exact ⟨i + 1, by omega, by go_num, by rw [HVS.out i hie]⟩
                    case measure => simp [intOf]; omega
                  · obtain rfl : i = Eb.size := by omega
                    have hit : ¬ (Eb.size : Int) < Eb.size := by omega
                    rw [hU.out]
                    have g1 := HU1.out
                    have g2 := HU2.out
                    clear HVB HVS HE2 HV0
                    go_wp2_with fail
                    exact bodyPost_ret (v := .tuple #[.bool true, .bool true, .string d, .int .i64 (U + 1), .bool true]) (by simp [results, Tryd.results10, go_sem]) rfl ⟨by rw [hP.out], Below.refl _ _⟩
              · go_wp2_with fail
                go_loop [19, 20] (fun uv jv => ∃ i : Nat, i ≤ Eb.size ∧ jv = .int .i64 i ∧ uv = .int .u64 (v i)) (fun _ jv => Eb.size - (intOf jv).toNat)
                case atStart => exact ⟨0, Nat.zero_le _, rfl, by rw [HV0.out]⟩
                case round =>
                  obtain ⟨i, hi, rfl, rfl⟩ := hrel
                  by_cases hie : i < Eb.size
                  · have hit : (i : Int) < Eb.size := by omega
                    obtain ⟨b1, b2⟩ := HE2.out i hie
                    obtain ⟨b3, b4⟩ := HVB.out i hie
                    go_wp2_with fail
                    go_round
                    case rel => exact ⟨i + 1, by omega, by go_num, by rw [HVS.out i hie]⟩
                    case measure => simp [intOf]; omega
                  · obtain rfl : i = Eb.size := by omega
                    have hit : ¬ (Eb.size : Int) < Eb.size := by omega
                    rw [hU.out]
                    have g1 := HU1.out
                    have g2 := HU2.out
                    clear HVB HVS HE2 HV0
                    go_wp2_with fail
                    exact bodyPost_ret (v := .tuple #[.bool true, .bool true, .string d, .int .i64 (U + 1), .bool true]) (by simp [results, Tryd.results10, go_sem]) rfl ⟨by rw [hP.out], Below.refl _ _⟩

set_option maxRecDepth 100000 in
set_option maxHeartbeats 4000000 in
theorem readE_nfm (s Wb Fb Eb d : ByteArray) (e1 e2 : Nat) (U P : Int) (v : Nat → Int) (hs : s.size ≤ 3000000) (h0 : 0 < s.size) (hx0 : ((s[0].toNat : Int) == 45) = true) (hi1 : 1 < e1) (he2 : e2 + 2 < s.size) (hf1 : e1 + 1 < e2)
    (hdig : ∀ k (h : k < s.size), 1 ≤ k → k < e1 → Hid (digB s[k] = true)) (hpt : (s[e1].toNat : Int) = 46) (hdig2 : ∀ k (h : k < s.size), e1 + 1 ≤ k → k < e2 → Hid (digB s[k] = true)) (hpe : (s[e2].toNat : Int) = 101)
    (hf : s.extract (e1 + 1) e2 = Fb) (hfe : Fb.toList.isEmpty = false) (hfz : Hid (Fb.size + e1 + 1 = e2)) (hfp : 0 < Fb.size) (hfl : ((Fb[Fb.size - 1].toNat : Int) == 48) = false)
    (hw : s.extract 1 e1 = Wb) (hwe : Wb.toList.isEmpty = false) (hwz : Hid (Wb.size = 1)) (hwp : 0 < Wb.size) (hw0 : ((Wb[0].toNat : Int) == 48) = false)
    (hsg : (s[e2 + 1].toNat : Int) = 45) (hdig3 : ∀ k (h : k < s.size), e2 + 2 ≤ k → Hid (digB s[k] = true))
    (hed : s.extract (e2 + 2) s.size = Eb) (hee : Eb.toList.isEmpty = false) (hez : Eb.size ≤ 19) (hep : 0 < Eb.size) (he0 : 1 < Eb.size → ((Eb[0].toNat : Int) == 48) = false)
    (hed2 : ∀ k (h : k < Eb.size), 48 ≤ (Eb[k].toNat : Int) ∧ (Eb[k].toNat : Int) ≤ 57)
    (hv0 : v 0 = 0) (hvs : ∀ k (h : k < Eb.size), v (k + 1) = v k * 10 + ((Eb[k].toNat : Int) - 48)) (hvb : ∀ k, k < Eb.size → 0 ≤ v k ∧ v k ≤ 999999999999999999) (hU : Hid (v Eb.size = U)) (hu1 : 1 ≤ U) (hu2 : U ≤ 9223372036854775808) (hP : Hid (-(U - 1) - 1 + 1 = P))
    (hall : Wb ++ Fb = d) (w : World) :
    Calls Tryd.prog 10 #[.string s] w fun e w' => e = .returned (.tuple #[.bool true, .bool true, .string d, .int .i64 P, .bool true]) ∧ Below w.heap.size w w' := by
  have HD : Hid (∀ k (h : k < s.size), 1 ≤ k → k < e1 → Hid (digB s[k] = true)) := hdig
  have HD3 : Hid (∀ k (h : k < s.size), e2 + 2 ≤ k → Hid (digB s[k] = true)) := hdig3
  have HE2 : Hid (∀ k (h : k < Eb.size), 48 ≤ (Eb[k].toNat : Int) ∧ (Eb[k].toNat : Int) ≤ 57) := hed2
  have HV0 : Hid (v 0 = 0) := hv0
  have HVS : Hid (∀ k (h : k < Eb.size), v (k + 1) = v k * 10 + ((Eb[k].toNat : Int) - 48)) := hvs
  have HVB : Hid (∀ k, k < Eb.size → 0 ≤ v k ∧ v k ≤ 999999999999999999) := hvb
  have HE0 : Hid (1 < Eb.size → ((Eb[0].toNat : Int) == 48) = false) := he0
  have HU1 : Hid (1 ≤ U) := hu1
  have HU2 : Hid (U ≤ 9223372036854775808) := hu2
  have HD2 : Hid (∀ k (h : k < s.size), e1 + 1 ≤ k → k < e2 → Hid (digB s[k] = true)) := hdig2
  clear hdig2
  clear hdig hdig3 hed2 hv0 hvs hvb he0 hu1 hu2
  go_enter Tryd.func10, Tryd.ntmps10
  go_wp2_with fail
  go_loop [7] (fun iv => ∃ k : Nat, 1 ≤ k ∧ k ≤ e1 ∧ iv = .int .i64 k) (fun iv => e1 - (intOf iv).toNat)
  case atStart => exact ⟨1, Nat.le_refl _, by omega, rfl⟩
  case round =>
    obtain ⟨k, hk0, hk, rfl⟩ := hrel
    by_cases hlt1 : k < e1
    · have hks : k < s.size := by omega
      have hlt' : (k : Int) < s.size := by omega
      have hdk := HD.out k hks hk0 hlt1
      go_wp2_with fail
      refine (isDigit_any s[k] _).mono ?_
      rw [hdk.out]
      rintro e w1 ⟨rfl, rfl⟩
      go_wp2_with fail
      go_round
      case rel => exact ⟨k + 1, by omega, by omega, by go_num⟩
      case measure => simp [intOf]; omega
    · obtain rfl : k = e1 := by omega
      have hlt' : (k : Int) < s.size := by omega
      go_wp2_with fail
      refine (isDigit_no 46 (by omega) _).mono ?_
      rintro e w1 ⟨rfl, rfl⟩
      clear hlt1 hk
      have hlt2 : (k : Int) + 1 < s.size := by omega
      go_wp2_with fail
      go_loop [7] (fun iv => ∃ j : Nat, k + 1 ≤ j ∧ j ≤ e2 ∧ iv = .int .i64 j) (fun iv => e2 - (intOf iv).toNat)
      case atStart => exact ⟨k + 1, Nat.le_refl _, by omega, by go_num⟩
      case round =>
        obtain ⟨q, hq0, hq, rfl⟩ := hrel
        by_cases hqs : q < e2
        · have hqz : q < s.size := by omega
          have hqt : (q : Int) < s.size := by omega
          have hdk := HD2.out q hqz hq0 hqs
          go_wp2_with fail
          refine (isDigit_any s[q] _).mono ?_
          rw [hdk.out]
          rintro e w1 ⟨rfl, rfl⟩
          go_wp2_with fail
          go_round
          case rel => exact ⟨q + 1, by omega, by omega, by go_num⟩
          case measure => simp [intOf]; omega
        · obtain rfl : q = e2 := by omega
          have hqt : (q : Int) < s.size := by omega
          go_wp2_with fail
          refine (isDigit_no 101 (by omega) _).mono ?_
          rintro e w1 ⟨rfl, rfl⟩
          clear hqs hq
          have hq1 : ((q : Int) == s.size) = false := by simp; omega
          have hq2 : ((q : Int) + 1 == s.size) = false := by simp; omega
          have hq3 : (q : Int) + 1 < s.size := by omega
          have hq4 : (q : Int) < s.size := by omega
          have hwb : Wb.size ≤ 1 := by have := hwz.out; omega
          have hwb1 : ((Wb.size : Int) != 1) = false := by have := hwz.out; simp; omega
          have hwb2 : (0 : Int) < Wb.size := by omega
          have hfb : Fb.size ≤ 3000000 := by have := hfz.out; omega
          have hfp2 : (0 : Int) < Fb.size := by omega
          go_wp2_with fail
          go_loop [7] (fun iv => ∃ j : Nat, q + 2 ≤ j ∧ j ≤ s.size ∧ iv = .int .i64 j) (fun iv => s.size - (intOf iv).toNat)
          case atStart => exact ⟨q + 2, Nat.le_refl _, by omega, by go_num⟩
          case round =>
            obtain ⟨j, hj0, hj, rfl⟩ := hrel
            by_cases hjs : j < s.size
            · have hjt : (j : Int) < s.size := by omega
              have hdk := HD3.out j hjs hj0
              go_wp2_with fail
              refine (isDigit_any s[j] _).mono ?_
              rw [hdk.out]
              rintro e w1 ⟨rfl, rfl⟩
              go_wp2_with fail
              go_round
              case rel => exact ⟨j + 1, by omega, by omega, by go_num⟩
              case measure => simp [intOf]; omega
            · obtain rfl : j = s.size := by omega
              have hjt : ¬ (s.size : Int) < s.size := by omega
              have hez' : ¬ (19 : Int) < Eb.size := by omega
              have hep' : (0 : Int) < Eb.size := by omega
              clear hj0 hj hjs
              by_cases c1 : (1 : Int) < Eb.size
              · have c3 := HE0.out (by omega)
                go_wp2_with fail
                go_loop [19, 20] (fun uv jv => ∃ i : Nat, i ≤ Eb.size ∧ jv = .int .i64 i ∧ uv = .int .u64 (v i)) (fun _ jv => Eb.size - (intOf jv).toNat)
                case atStart => exact ⟨0, Nat.zero_le _, rfl, by rw [HV0.out]⟩
                case round =>
                  obtain ⟨i, hi, rfl, rfl⟩ := hrel
                  by_cases hie : i < Eb.size
                  · have hit : (i : Int) < Eb.size := by omega
                    obtain ⟨b1, b2⟩ := HE2.out i hie
                    obtain ⟨b3, b4⟩ := HVB.out i hie
                    go_wp2_with fail
                    go_round
                    case rel => exact ⟨i + 1, by omega, by go_num, by rw [HVS.out i hie]⟩
                    case measure => simp [intOf]; omega
                  · obtain rfl : i = Eb.size := by omega
                    have hit : ¬ (Eb.size : Int) < Eb.size := by omega
                    rw [hU.out]
                    have g1 := HU1.out
                    have g2 := HU2.out
                    have g3 : (U == 0) = false := by simp; omega
                    clear HVB HVS HE2 HV0
                    go_wp2_with fail
                    exact bodyPost_ret (v := .tuple #[.bool true, .bool true, .string d, .int .i64 (-(U - 1) - 1 + 1), .bool true]) (by simp [results, Tryd.results10, go_sem]) rfl ⟨by rw [hP.out], Below.refl _ _⟩
              · go_wp2_with fail
                go_loop [19, 20] (fun uv jv => ∃ i : Nat, i ≤ Eb.size ∧ jv = .int .i64 i ∧ uv = .int .u64 (v i)) (fun _ jv => Eb.size - (intOf jv).toNat)
                case atStart => exact ⟨0, Nat.zero_le _, rfl, by rw [HV0.out]⟩
                case round =>
                  obtain ⟨i, hi, rfl, rfl⟩ := hrel
                  by_cases hie : i < Eb.size
                  · have hit : (i : Int) < Eb.size := by omega
                    obtain ⟨b1, b2⟩ := HE2.out i hie
                    obtain ⟨b3, b4⟩ := HVB.out i hie
                    go_wp2_with fail
                    go_round
                    case rel => exact ⟨i + 1, by omega, by go_num, by rw [HVS.out i hie]⟩
                    case measure => simp [intOf]; omega
                  · obtain rfl : i = Eb.size := by omega
                    have hit : ¬ (Eb.size : Int) < Eb.size := by omega
                    rw [hU.out]
                    have g1 := HU1.out
                    have g2 := HU2.out
                    have g3 : (U == 0) = false := by simp; omega
                    clear HVB HVS HE2 HV0
                    go_wp2_with fail
                    exact bodyPost_ret (v := .tuple #[.bool true, .bool true, .string d, .int .i64 (-(U - 1) - 1 + 1), .bool true]) (by simp [results, Tryd.results10, go_sem]) rfl ⟨by rw [hP.out], Below.refl _ _⟩
end Go.Proofs.Qxb6609094aDoor
