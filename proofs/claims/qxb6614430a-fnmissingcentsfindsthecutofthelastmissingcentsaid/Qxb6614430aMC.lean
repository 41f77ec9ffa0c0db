/-
  THE WALK of mulDivLong: long division a bit at a time.
-/
import Derived.Test.Qxb6614430aMB
set_option linter.unusedVariables false
namespace Go.Proofs.Qxb6614430a
open Go.RowKit

/-- What the loop keeps, k bits being left. -/
structure LD (N d k q rem : Nat) : Prop where
  eq : q * d + rem = N / 2 ^ k
  lt : rem < d

theorem half_step (N n : Nat) : N / 2 ^ n = N / 2 ^ (n + 1) * 2 + N / 2 ^ n % 2 := by
  have : N / 2 ^ (n + 1) = N / 2 ^ n / 2 := by rw [Nat.pow_succ, Nat.div_div_eq_div_mul]
  rw [this]
  omega

theorem LD.up {N d n q rem bt : Nat} (t : LD N d (n + 1) q rem) (hb : bt = N / 2 ^ n % 2) (h : d ≤ rem * 2 + bt) : LD N d n (q * 2 + 1) (rem * 2 + bt - d) := by
  have h1 := half_step N n
  rw [← hb, ← t.eq] at h1
  have h2 : bt < 2 := by rw [hb]; exact Nat.mod_lt _ (by omega)
  have h3 := t.lt
  refine ⟨?_, by omega⟩
  rw [h1, Nat.add_mul, Nat.mul_right_comm]
  omega
theorem LD.down {N d n q rem bt : Nat} (t : LD N d (n + 1) q rem) (hb : bt = N / 2 ^ n % 2) (h : rem * 2 + bt < d) : LD N d n (q * 2) (rem * 2 + bt) := by
  have h1 := half_step N n
  rw [← hb, ← t.eq] at h1
  refine ⟨?_, h⟩
  rw [h1, Nat.mul_right_comm]
  omega
theorem LD.q_le {N d k q rem : Nat} (t : LD N d k q rem) (hd : 0 < d) (hN : N < d * 18446744073709551616) : q < 18446744073709551616 := by
  have h1 : N / 2 ^ k ≤ N := Nat.div_le_self _ _
  have h2 := t.eq
  have h3 : q * d < 18446744073709551616 * d := by rw [Nat.mul_comm 18446744073709551616]; omega
  exact Nat.lt_of_mul_lt_mul_right h3
theorem LD.dbl {N d n q rem : Nat} (t : LD N d (n + 1) q rem) (hd : 0 < d) (hN : N < d * 18446744073709551616) : q * 2 < 18446744073709551616 := by
  have h0 := half_step N n
  have h1 : N / 2 ^ n ≤ N := Nat.div_le_self _ _
  have h2 := t.eq
  have h3 : q * 2 * d < 18446744073709551616 * d := by rw [Nat.mul_comm 18446744073709551616, Nat.mul_right_comm]; omega
  exact Nat.lt_of_mul_lt_mul_right h3
theorem LD.start (N d : Nat) (hd : 0 < d) (hN : N < 2 ^ 128) : LD N d 128 0 0 := ⟨by rw [Nat.div_eq_of_lt hN]; omega, hd⟩
theorem LD.done {N d q rem : Nat} (t : LD N d 0 q rem) : q = N / d ∧ rem = N % d := by
  have h1 := t.eq
  rw [Nat.pow_zero, Nat.div_one] at h1
  have hd : 0 < d := Nat.lt_of_le_of_lt (Nat.zero_le _) t.lt
  rw [← h1, Nat.mul_comm]
  exact ⟨by rw [Nat.mul_add_div hd, Nat.div_eq_of_lt t.lt]; omega, by rw [Nat.mul_add_mod, Nat.mod_eq_of_lt t.lt]⟩

theorem bit_hi (N n : Nat) (h : 64 ≤ n) : N / 18446744073709551616 / 2 ^ (n - 64) % 2 = N / 2 ^ n % 2 := by
  rw [Nat.div_div_eq_div_mul, show (18446744073709551616 : Nat) = 2 ^ 64 from rfl, ← Nat.pow_add, show 64 + (n - 64) = n by omega]
theorem bit_lo (N n : Nat) (h : n < 64) : N % 18446744073709551616 / 2 ^ n % 2 = N / 2 ^ n % 2 := by
  rw [show (18446744073709551616 : Nat) = 2 ^ n * 2 ^ (64 - n) by rw [← Nat.pow_add, show n + (64 - n) = 64 by omega], Nat.mod_mul_right_div_self, show 64 - n = (63 - n) + 1 by omega, Nat.pow_succ, Nat.mul_comm, Nat.mod_mul_right_mod]
theorem and_bit (a s : Nat) (ha : a < 18446744073709551616) : bits .and .u64 ((a : Int) / 2 ^ s) 1 = ((a / 2 ^ s % 2 : Nat) : Int) := by
  have hl : a / 2 ^ s ≤ a := Nat.div_le_self _ _
  have h := bits_and_u64_nat (a / 2 ^ s) 1 (by omega) (by omega)
  rw [Nat.and_one_is_mod] at h
  rw [div_pow]
  exact h
theorem or_bit (rem bt : Nat) (hb : bt < 2) : bits .or .u64 (IntKind.u64.wrap ((rem : Int) * 2)) (bt : Int) = ((rem * 2 % 18446744073709551616 + bt : Nat) : Int) := by
  have e1 : IntKind.u64.wrap ((rem : Int) * 2) = ((rem * 2 % 18446744073709551616 : Nat) : Int) := by rw [IntKind.wrap_u64]; omega
  have e2 : rem * 2 % 18446744073709551616 = (rem % 9223372036854775808) * 2 ^ 1 := by omega
  rw [e1, bits_or_u64_nat _ _ (by omega) (by omega), e2, or_low _ 1 bt (by omega)]
theorem or_one (q : Nat) (h : q * 2 < 18446744073709551616) : bits .or .u64 ((q * 2 : Nat) : Int) 1 = ((q * 2 + 1 : Nat) : Int) := by
  have h1 := bits_or_u64_nat (q * 2) 1 h (by omega)
  rw [show q * 2 = q * 2 ^ 1 by omega, or_low q 1 1 (by omega)] at h1
  exact h1

set_option maxRecDepth 100000 in
set_option maxHeartbeats 4000000 in
theorem long_walk (x y d H L QZ RZ : Nat) (w : World) (hd : 0 < d) (hd1 : d < 18446744073709551616) (hN : Hid (x * y < d * 18446744073709551616)) (hN2 : Hid (x * y < 2 ^ 128)) (hH : Hid (H = x * y / 18446744073709551616)) (hL : Hid (L = x * y % 18446744073709551616)) (hH1 : H < 18446744073709551616) (hL1 : L < 18446744073709551616)
    (hZ : Hid (QZ = x * y / d ∧ RZ = x * y % d)) (cM : Calls Try.prog 22 #[.int .u64 x, .int .u64 y] w fun e w' => e = .returned (.tuple #[.int .u64 H, .int .u64 L]) ∧ w' = w) :
    Calls Try.prog 16 #[.int .u64 x, .int .u64 y, .int .u64 d] w fun e w' => e = .returned (.tuple #[.int .u64 QZ, .int .u64 RZ]) ∧ w' = w := by
  go_enter Try.func16, Try.ntmps16
  go_wp2_with fail
  refine cM.mono ?_
  rintro e w1 ⟨rfl, rfl⟩
  go_wp2_with fail
  clear cM
  go_loop [6, 7, 10, 11, 12] (fun qv rv iv bv tv => ∃ k q rem : Nat, k ≤ 128 ∧ qv = .int .u64 q ∧ rv = .int .u64 rem ∧ iv = .int .i64 ((k : Int) - 1) ∧ LD (x * y) d k q rem) (fun _ _ iv _ _ => (intOf iv + 1).toNat)
  case atStart => exact ⟨128, 0, 0, by omega, rfl, rfl, rfl, LD.start _ _ hd hN2.out⟩
  case round =>
    obtain ⟨k, q, rem, hk, rfl, rfl, rfl, t⟩ := hrel
    by_cases hk0 : k = 0
    · subst hk0
      have HF : Hid (q = QZ ∧ rem = RZ) := by have h := t.done; exact ⟨h.1.trans hZ.out.1.symm, h.2.trans hZ.out.2.symm⟩
      go_wp2_with fail
      go_ret2
      exact ⟨by rw [← HF.out.1, ← HF.out.2]; rfl, rfl⟩
    · obtain ⟨n, rfl⟩ : ∃ n, k = n + 1 := ⟨k - 1, by omega⟩
      rw [show (((n + 1 : Nat) : Int) - 1) = (n : Int) by omega]
      have k0 : (0 : Int) ≤ n := by omega
      clear hk0
      by_cases h64 : 64 ≤ n
      · have k1 : (64 : Int) ≤ n := by omega
        obtain ⟨bt, eB, B⟩ : ∃ bt : Nat, bits .and .u64 ((H : Int) / 2 ^ (n - 64)) 1 = (bt : Int) ∧ Hid (bt = x * y / 2 ^ n % 2 ∧ bt < 2) := ⟨_, and_bit H (n - 64) hH1, by rw [hH.out, bit_hi _ _ h64], Nat.mod_lt _ (by omega)⟩
        obtain ⟨r1, eR, R1⟩ : ∃ r1 : Nat, bits .or .u64 (IntKind.u64.wrap ((rem : Int) * 2)) (bt : Int) = (r1 : Int) ∧ Hid (r1 = (rem * 2) % 18446744073709551616 + bt) := ⟨_, or_bit rem bt B.out.2, rfl⟩
        obtain ⟨q1, eQ, Q1⟩ : ∃ q1 : Nat, IntKind.u64.wrap ((q : Int) * 2) = (q1 : Int) ∧ Hid (q1 = q * 2) := ⟨q * 2, by rw [IntKind.wrap_u64]; have := t.dbl hd hN.out; omega, rfl⟩
        obtain ⟨q2, eQ2, Q2⟩ : ∃ q2 : Nat, bits .or .u64 (q1 : Int) 1 = (q2 : Int) ∧ Hid (q2 = q * 2 + 1) := ⟨_, by rw [Q1.out]; exact or_one q (by have := t.dbl hd hN.out; omega), rfl⟩
        obtain ⟨r2, eS, R2⟩ : ∃ r2 : Nat, IntKind.u64.wrap ((r1 : Int) - d) = (r2 : Int) ∧ Hid (r2 = (r1 + 18446744073709551616 - d) % 18446744073709551616) := ⟨_, by rw [IntKind.wrap_u64]; omega, rfl⟩
        have hrem : rem < 18446744073709551616 := by have := t.lt; omega
        by_cases c1 : 9223372036854775808 ≤ rem
        · have eT : ((rem : Int) / 9223372036854775808 == 1) = true := by simp; omega
          have eT' : (rem : Int) / 9223372036854775808 = 1 := by omega
          have t' : LD (x * y) d n q2 r2 := by
            have e1 := R1.out; have e2 := R2.out; have e3 := t.lt; have e4 := B.out.2
            have := t.up (by have := B.out.1; exact this) (by omega : d ≤ rem * 2 + bt)
            rw [Q2.out, show r2 = rem * 2 + bt - d by omega]
            exact this
          clear c1 hrem
          go_wp2_with fail
          go_round
          case rel => exact ⟨n, q2, r2, by omega, rfl, rfl, by go_num, t'⟩
          case measure => (simp [intOf] <;> omega)
        · have eT : ((rem : Int) / 9223372036854775808 == 1) = false := by simp; omega
          have eT' : ¬ (rem : Int) / 9223372036854775808 = 1 := by omega
          by_cases c2 : d ≤ r1
          · have k2 : (d : Int) ≤ r1 := by omega
            have t' : LD (x * y) d n q2 r2 := by
              have e1 := R1.out; have e2 := R2.out; have e3 := t.lt; have e4 := B.out.2
              have := t.up (by have := B.out.1; exact this) (by omega : d ≤ rem * 2 + bt)
              rw [Q2.out, show r2 = rem * 2 + bt - d by omega]
              exact this
            clear c1 hrem
            go_wp2_with fail
            go_round
            case rel => exact ⟨n, q2, r2, by omega, rfl, rfl, by go_num, t'⟩
            case measure => (simp [intOf] <;> omega)
          · have k2 : ¬ (d : Int) ≤ r1 := by omega
            have t' : LD (x * y) d n q1 r1 := by
              have e1 := R1.out; have e3 := t.lt; have e4 := B.out.2
              have := t.down (by have := B.out.1; exact this) (by omega : rem * 2 + bt < d)
              rw [Q1.out, show r1 = rem * 2 + bt by omega]
              exact this
            clear c1 hrem
            go_wp2_with fail
            go_round
            case rel => exact ⟨n, q1, r1, by omega, rfl, rfl, by go_num, t'⟩
            case measure => (simp [intOf] <;> omega)
      · have k1 : ¬ (64 : Int) ≤ n := by omega
        obtain ⟨bt, eB, B⟩ : ∃ bt : Nat, bits .and .u64 ((L : Int) / 2 ^ n) 1 = (bt : Int) ∧ Hid (bt = x * y / 2 ^ n % 2 ∧ bt < 2) := ⟨_, and_bit L n hL1, by rw [hL.out, bit_lo _ _ (by omega)], Nat.mod_lt _ (by omega)⟩
        obtain ⟨r1, eR, R1⟩ : ∃ r1 : Nat, bits .or .u64 (IntKind.u64.wrap ((rem : Int) * 2)) (bt : Int) = (r1 : Int) ∧ Hid (r1 = (rem * 2) % 18446744073709551616 + bt) := ⟨_, or_bit rem bt B.out.2, rfl⟩
        obtain ⟨q1, eQ, Q1⟩ : ∃ q1 : Nat, IntKind.u64.wrap ((q : Int) * 2) = (q1 : Int) ∧ Hid (q1 = q * 2) := ⟨q * 2, by rw [IntKind.wrap_u64]; have := t.dbl hd hN.out; omega, rfl⟩
        obtain ⟨q2, eQ2, Q2⟩ : ∃ q2 : Nat, bits .or .u64 (q1 : Int) 1 = (q2 : Int) ∧ Hid (q2 = q * 2 + 1) := ⟨_, by rw [Q1.out]; exact or_one q (by have := t.dbl hd hN.out; omega), rfl⟩
        obtain ⟨r2, eS, R2⟩ : ∃ r2 : Nat, IntKind.u64.wrap ((r1 : Int) - d) = (r2 : Int) ∧ Hid (r2 = (r1 + 18446744073709551616 - d) % 18446744073709551616) := ⟨_, by rw [IntKind.wrap_u64]; omega, rfl⟩
        have hrem : rem < 18446744073709551616 := by have := t.lt; omega
        by_cases c1 : 9223372036854775808 ≤ rem
        · have eT : ((rem : Int) / 9223372036854775808 == 1) = true := by simp; omega
          have eT' : (rem : Int) / 9223372036854775808 = 1 := by omega
          have t' : LD (x * y) d n q2 r2 := by
            have e1 := R1.out; have e2 := R2.out; have e3 := t.lt; have e4 := B.out.2
            have := t.up (by have := B.out.1; exact this) (by omega : d ≤ rem * 2 + bt)
            rw [Q2.out, show r2 = rem * 2 + bt - d by omega]
            exact this
          clear c1 hrem
          go_wp2_with fail
          go_round
          case rel => exact ⟨n, q2, r2, by omega, rfl, rfl, by go_num, t'⟩
          case measure => (simp [intOf] <;> omega)
        · have eT : ((rem : Int) / 9223372036854775808 == 1) = false := by simp; omega
          have eT' : ¬ (rem : Int) / 9223372036854775808 = 1 := by omega
          by_cases c2 : d ≤ r1
          · have k2 : (d : Int) ≤ r1 := by omega
            have t' : LD (x * y) d n q2 r2 := by
              have e1 := R1.out; have e2 := R2.out; have e3 := t.lt; have e4 := B.out.2
              have := t.up (by have := B.out.1; exact this) (by omega : d ≤ rem * 2 + bt)
              rw [Q2.out, show r2 = rem * 2 + bt - d by omega]
              exact this
            clear c1 hrem
            go_wp2_with fail
            go_round
            case rel => exact ⟨n, q2, r2, by omega, rfl, rfl, by go_num, t'⟩
            case measure => (simp [intOf] <;> omega)
          · have k2 : ¬ (d : Int) ≤ r1 := by omega
            have t' : LD (x * y) d n q1 r1 := by
              have e1 := R1.out; have e3 := t.lt; have e4 := B.out.2
              have := t.down (by have := B.out.1; exact this) (by omega : rem * 2 + bt < d)
              rw [Q1.out, show r1 = rem * 2 + bt by omega]
              exact this
            clear c1 hrem
            go_wp2_with fail
            go_round
            case rel => exact ⟨n, q1, r1, by omega, rfl, rfl, by go_num, t'⟩
            case measure => (simp [intOf] <;> omega)

theorem long_any (x y d : Nat) (hx : x < 18446744073709551616) (hy : y < 18446744073709551616) (hd : 0 < d) (hd1 : d < 18446744073709551616) (hN : x * y < d * 18446744073709551616) (w : World) :
    Calls Try.prog 16 #[.int .u64 x, .int .u64 y, .int .u64 d] w fun e w' => e = .returned (.tuple #[.int .u64 ((x * y / d : Nat) : Int), .int .u64 ((x * y % d : Nat) : Int)]) ∧ w' = w := by
  have h2 : x * y < 2 ^ 128 := by
    have : x * y < 18446744073709551616 * 18446744073709551616 := by
      by_cases h : y = 0
      · rw [h, Nat.mul_zero]; decide
      · exact Nat.mul_lt_mul_of_lt_of_lt hx hy
    exact Nat.lt_of_lt_of_le this (by decide)
  exact long_walk x y d (x * y / 18446744073709551616) (x * y % 18446744073709551616) _ _ w hd hd1 hN h2 (show _ = _ from rfl) (show _ = _ from rfl) (by omega) (by omega) (show _ ∧ _ from ⟨rfl, rfl⟩) (mul_any x y hx hy w)
end Go.Proofs.Qxb6614430a
