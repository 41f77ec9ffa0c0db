import Derived.Test.Qxb6614430aFB
namespace Go.Proofs.Qxb6614430a
open Go.RowKit

theorem code_step (s : ByteArray) (k : Nat) (h : k < s.size) : codeL (s.data.toList.take (k + 1)) = (codeL (s.data.toList.take k) && codeN s[k].toNat) := by
  have e : s.data.toList[k]? = some s[k] := by
    rw [List.getElem?_eq_getElem (by simpa using h)]
    rfl
  rw [take_at _ _ _ e]
  unfold codeL
  rw [List.all_append]
  simp

set_option maxHeartbeats 1000000 in
theorem fund_good (s : ByteArray) (i : Nat) (hi : i ≤ s.size) (hz1 : 1 ≤ s.size) (hz6 : s.size ≤ 6) (w : World) :
    Calls Try.prog 3 #[.string s, .int .i64 i] w fun e w' => e = .returned (.bool true) ∧ Below w.heap.size w w' := by
  have hi' : (i : Int) ≤ s.size := by omega
  obtain ⟨C, HC⟩ : ∃ C, Hid (codeL s.data.toList = C) := ⟨_, rfl⟩
  have HI : Hid (isCode s = C) := by show _ = _; rw [← HC.out]; simp [isCode, hz1, hz6]
  have h1 : (1 : Int) ≤ s.size := by omega
  have h2 : decide ((s.size : Int) ≤ 6) = true := by simp; omega
  go_enter Try.func3, Try.ntmps3
  go_wp2_with fail
  refine (bytes5 s i (by omega) _).mono ?_
  rintro e w1 ⟨rfl, rfl⟩
  rw [show decide (s.size ≤ 1048576) = true by simp; omega]
  go_wp2_with fail
  refine (zfund_any s (by omega) _).mono ?_
  rw [HI.out]
  rintro e w2 ⟨rfl, hb⟩
  go_upto_block 0 with (fail)
  go_cut [6] (fun v wc => v = .bool C ∧ wc = w2)
  case first =>
    go_wp2_with fail
    go_loop [6, 7] (fun v j => ∃ (k : Nat) (c : Bool), k ≤ s.size ∧ j = .int .i64 k ∧ v = .bool c ∧ Hid (c = codeL (s.data.toList.take k))) (fun _ j => s.size - (intOf j).toNat)
    case atStart => exact ⟨0, true, Nat.zero_le _, rfl, rfl, by simp [Hid, codeL]⟩
    case round =>
      obtain ⟨k, c, hk, rfl, rfl, hc⟩ := hrel
      cases c
      · obtain rfl : C = false := by
          rw [← HC.out]
          have h := hc.out
          unfold codeL at h ⊢
          rw [← List.take_append_drop k s.data.toList, List.all_append, ← h]
          rfl
        by_cases hlt : (k : Int) < s.size
        · go_wp2_with fail
          go_meet
          case rel => exact ⟨rfl, rfl⟩
        · go_wp2_with fail
          go_meet
          case rel => exact ⟨rfl, rfl⟩
      · by_cases hlt : k < s.size
        · have hlt' : (k : Int) < s.size := by omega
          by_cases t1 : (48 : Int) ≤ s[k].toNat
          · by_cases t2 : (s[k].toNat : Int) ≤ 57
            · go_wp2_with fail
              go_round
              case rel => exact ⟨k + 1, _, by omega, by go_num, rfl, by show _ = _; rw [code_step s k hlt, ← hc.out]; simp [codeN]; omega⟩
              case measure => simp [intOf]; omega
            · by_cases t3 : (65 : Int) ≤ s[k].toNat
              · by_cases t4 : (s[k].toNat : Int) ≤ 90
                · go_wp2_with fail
                  go_round
                  case rel => exact ⟨k + 1, _, by omega, by go_num, rfl, by show _ = _; rw [code_step s k hlt, ← hc.out]; simp [codeN]; omega⟩
                  case measure => simp [intOf]; omega
                · go_wp2_with fail
                  go_round
                  case rel => exact ⟨k + 1, _, by omega, by go_num, rfl, by show _ = _; rw [code_step s k hlt, ← hc.out]; simp [codeN]; omega⟩
                  case measure => simp [intOf]; omega
              · go_wp2_with fail
                go_round
                case rel => exact ⟨k + 1, _, by omega, by go_num, rfl, by show _ = _; rw [code_step s k hlt, ← hc.out]; simp [codeN]; omega⟩
                case measure => simp [intOf]; omega
          · go_wp2_with fail
            go_round
            case rel => exact ⟨k + 1, _, by omega, by go_num, rfl, by show _ = _; rw [code_step s k hlt, ← hc.out]; simp [codeN]; omega⟩
            case measure => simp [intOf]; omega
        · have hlt' : ¬ (k : Int) < s.size := by omega
          obtain rfl : C = true := by
            rw [← HC.out]
            exact codeL_all s k hlt hc.out.symm
          go_wp2_with fail
          go_meet
          case rel => exact ⟨rfl, rfl⟩
  case rest =>
    obtain ⟨rfl, rfl⟩ := hcut
    by_cases k1 : 0 < i
    · by_cases k2 : i < s.size
      · have k1' : (0 : Int) < i := by omega
        have k2' : (i : Int) < s.size := by omega
        have HQ : Hid (C = (decide (s.size ≤ 6) && isCode (s.extract 0 i) && isCode (s.extract i s.size))) := by rw [← code_cut s i k1 k2, HI.out]; rfl
        have z1 : (s.extract 0 i).size ≤ 1048576 := by rw [ByteArray.size_extract]; omega
        have z2 : (s.extract i s.size).size ≤ 1048576 := by rw [ByteArray.size_extract]; omega
        have HQ' : Hid (C = (isCode (s.extract 0 i) && isCode (s.extract i s.size))) := by have h := HQ.out; rw [decide_eq_true hz6] at h; show _ = _; simpa using h
        clear HQ
        go_wp2_with fail
        refine (zfund_any _ z1 _).mono ?_
        rintro e w3 ⟨rfl, hb3⟩
        cases hA : isCode (s.extract 0 i)
        · obtain rfl : C = false := by rw [HQ'.out, hA]; rfl
          clear hA
          go_wp2_with fail
          go_ret
          exact ⟨rfl, hb.trans (hb3.mono hb.size)⟩
        · have HQ2 : Hid (C = isCode (s.extract i s.size)) := by have h := HQ'.out; rw [hA] at h; show _ = _; simpa using h
          clear hA HQ'
          go_wp2_with fail
          refine (zfund_any _ z2 _).mono ?_
          rw [← HQ2.out]
          rintro e w4 ⟨rfl, hb4⟩
          have hB := (hb.trans (hb3.mono hb.size))
          have hB4 := hB.trans (hb4.mono hB.size)
          clear hb hb3 hb4 hB
          cases C
          · go_wp2_with fail
            go_ret
            exact ⟨rfl, hB4⟩
          · go_wp2_with fail
            go_ret
            exact ⟨rfl, hB4⟩
      · have k1' : (0 : Int) < i := by omega
        have k2' : ¬ (i : Int) < s.size := by omega
        go_wp2_with fail
        go_ret
        exact ⟨rfl, hb⟩
    · have k1' : ¬ (0 : Int) < i := by omega
      go_wp2_with fail
      go_ret
      exact ⟨rfl, hb⟩

set_option maxHeartbeats 400000 in
theorem fund_walk (s : ByteArray) (i : Int) (hm : s.size ≤ 9223372036854775807) (w : World) :
    Calls Try.prog 3 #[.string s, .int .i64 i] w fun e w' => e = .returned (.bool true) ∧ Below w.heap.size w w' := by
  by_cases hs : s.size ≤ 1048576
  · by_cases h0 : i < 0
    · go_enter Try.func3, Try.ntmps3
      go_wp2_with fail
      refine (bytes5 s i hm _).mono ?_
      rintro e w1 ⟨rfl, rfl⟩
      rw [show decide (s.size ≤ 1048576) = true by simpa using hs]
      go_wp2_with fail
      go_ret
      exact ⟨rfl, Below.refl _ _⟩
    by_cases h1 : (s.size : Int) < i
    · go_enter Try.func3, Try.ntmps3
      go_wp2_with fail
      refine (bytes5 s i hm _).mono ?_
      rintro e w1 ⟨rfl, rfl⟩
      rw [show decide (s.size ≤ 1048576) = true by simpa using hs]
      go_wp2_with fail
      go_ret
      exact ⟨rfl, Below.refl _ _⟩
    obtain ⟨k, rfl⟩ := Int.eq_ofNat_of_zero_le (show 0 ≤ i by omega)
    by_cases h2 : s.size = 0 ∨ 6 < s.size
    · exact fund_bad s k hs (by omega) h2 w
    · exact fund_good s k (by omega) (by omega) (by omega) w
  · go_enter Try.func3, Try.ntmps3
    go_wp2_with fail
    refine (bytes5 s i hm _).mono ?_
    rintro e w1 ⟨rfl, rfl⟩
    rw [show decide (s.size ≤ 1048576) = false by simpa using hs]
    go_wp2_with fail
    go_ret
    exact ⟨rfl, Below.refl _ _⟩
end Go.Proofs.Qxb6614430a
