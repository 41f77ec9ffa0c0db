/-
  THE PLAIN MATHEMATICS of math/bits.Div64 (the school's long division on halves of 32 bits): no Go in sight.
-/
import Derived.Laws.Bits64b
import Derived.Lib.ItoaNum
namespace Go.Proofs.Qxb6614430a

/-- What a trial quotient's loop keeps. -/
structure TQ (U Y A C : Nat) (q r : Nat) : Prop where
  eq : q * A + r = U
  ge : (U * 4294967296 + C) / Y ≤ q
  lt : r < 4294967296

/-- The divisor's two halves, a digit of the dividend. -/
structure TH (U Y A B C : Nat) : Prop where
  y : Y = A * 4294967296 + B
  a0 : 0 < A
  a1 : A < 4294967296
  b : B < 4294967296
  c : C < 4294967296
  u : U < Y

theorem TH.lt {U Y A B C : Nat} (h : TH U Y A B C) : (U * 4294967296 + C) / Y < 4294967296 := by
  have h1 := h.u
  have h2 := h.c
  rw [Nat.div_lt_iff_lt_mul (by omega)]
  omega

theorem mulY {U Y A B C : Nat} (h : TH U Y A B C) (q : Nat) : q * Y = q * A * 4294967296 + q * B := by
  rw [h.y, Nat.mul_add, ← Nat.mul_assoc]

theorem TQ.start {U Y A B C : Nat} (h : TH U Y A B C) : TQ U Y A C (U / A) (U % A) := by
  refine ⟨by rw [Nat.mul_comm]; exact Nat.div_add_mod U A, ?_, Nat.lt_trans (Nat.mod_lt _ h.a0) h.a1⟩
  rw [Nat.le_div_iff_mul_le h.a0]
  have h1 : (U * 4294967296 + C) / Y * Y ≤ U * 4294967296 + C := Nat.div_mul_le_self _ _
  rw [mulY h] at h1
  have := h.c
  omega

/-- The loop's test. -/
def big (B C q r : Nat) : Bool := decide (4294967296 ≤ q) || decide (4294967296 * r + C < q * B)

theorem TQ.over {U Y A B C q r : Nat} (h : TH U Y A B C) (t : TQ U Y A C q r) (hb : big B C q r = true) : (U * 4294967296 + C) / Y < q := by
  have hY0 : 0 < Y := Nat.lt_of_le_of_lt (Nat.zero_le _) h.u
  rw [Nat.div_lt_iff_lt_mul hY0]
  by_cases c1 : 4294967296 ≤ q
  · have h1 := h.u
    have h2 := h.c
    have h3 : 4294967296 * Y ≤ q * Y := Nat.mul_le_mul_right _ c1
    omega
  · have hb' : 4294967296 * r + C < q * B := by simpa [big, c1] using hb
    rw [mulY h]
    have := t.eq
    omega

theorem TQ.done {U Y A B C q r : Nat} (h : TH U Y A B C) (t : TQ U Y A C q r) (hb : big B C q r = false) : q = (U * 4294967296 + C) / Y := by
  have hY0 : 0 < Y := Nat.lt_of_le_of_lt (Nat.zero_le _) h.u
  refine Nat.le_antisymm ?_ t.ge
  rw [Nat.le_div_iff_mul_le hY0, mulY h]
  have hb' : ¬ 4294967296 * r + C < q * B := by simp [big] at hb; omega
  have := t.eq
  omega

theorem TQ.next {U Y A B C q r : Nat} (h : TH U Y A B C) (t : TQ U Y A C q r) (hb : big B C q r = true) (hr : r + A < 4294967296) : TQ U Y A C (q - 1) (r + A) := by
  have h1 := t.over h hb
  refine ⟨?_, by omega, hr⟩
  have h2 := t.eq
  obtain ⟨p, rfl⟩ : ∃ p, q = p + 1 := ⟨q - 1, (Nat.succ_pred_eq_of_pos (Nat.lt_of_le_of_lt (Nat.zero_le _) h1)).symm⟩
  rw [Nat.add_mul] at h2
  rw [Nat.add_sub_cancel]
  omega

theorem TQ.brk {U Y A B C q r : Nat} (h : TH U Y A B C) (t : TQ U Y A C q r) (hb : big B C q r = true) (hr : 4294967296 ≤ r + A) : q - 1 = (U * 4294967296 + C) / Y := by
  have h1 := t.over h hb
  have hY0 : 0 < Y := Nat.lt_of_le_of_lt (Nat.zero_le _) h.u
  refine Nat.le_antisymm ?_ (by omega)
  have h2 := t.eq
  obtain ⟨p, rfl⟩ : ∃ p, q = p + 1 := ⟨q - 1, (Nat.succ_pred_eq_of_pos (Nat.lt_of_le_of_lt (Nat.zero_le _) h1)).symm⟩
  rw [Nat.add_mul] at h2
  rw [Nat.add_sub_cancel, Nat.le_div_iff_mul_le hY0, mulY h]
  have h3 := h.u
  have h4 := h.y
  have h5 := h.b
  have hp : p < 4294967296 := by
    rcases Nat.lt_or_ge p 4294967296 with hp | hp
    · exact hp
    · have := Nat.mul_le_mul_right A hp
      omega
  have h6 : p * B ≤ 4294967295 * B := Nat.mul_le_mul_right _ (by omega)
  omega

/-- What the whole division comes to. -/
theorem long_div (U C D Y : Nat) (hY : 0 < Y) :
    ((U * 4294967296 + C) * 4294967296 + D) / Y = (U * 4294967296 + C) / Y * 4294967296 + ((U * 4294967296 + C) % Y * 4294967296 + D) / Y ∧
    ((U * 4294967296 + C) * 4294967296 + D) % Y = ((U * 4294967296 + C) % Y * 4294967296 + D) % Y := by
  have e : (U * 4294967296 + C) * 4294967296 + D = Y * ((U * 4294967296 + C) / Y * 4294967296) + ((U * 4294967296 + C) % Y * 4294967296 + D) := by
    have h := Nat.div_add_mod (U * 4294967296 + C) Y
    rw [← Nat.mul_assoc]
    omega
  rw [e]
  exact ⟨Nat.mul_add_div hY _ _, Nat.mul_add_mod _ _ _⟩

theorem shift_num (hi lo s : Nat) (hs : s ≤ 63) : (hi * 2 ^ s + lo / 2 ^ (64 - s)) * 18446744073709551616 + lo * 2 ^ s % 18446744073709551616 = (hi * 18446744073709551616 + lo) * 2 ^ s := by
  have e1 : (18446744073709551616 : Nat) = 2 ^ (64 - s) * 2 ^ s := by rw [← Nat.pow_add, Nat.sub_add_cancel (by omega)]
  have e2 : lo * 2 ^ s / 18446744073709551616 = lo / 2 ^ (64 - s) := by rw [e1, Nat.mul_div_mul_right _ _ (Nat.two_pow_pos s)]
  have e3 := Nat.div_add_mod (lo * 2 ^ s) 18446744073709551616
  rw [e2] at e3
  rw [Nat.add_mul, Nat.add_mul, Nat.mul_right_comm hi, Nat.add_assoc, Nat.mul_comm (lo / 2 ^ (64 - s)), e3]

theorem unshift (hi lo s y : Nat) : (hi * 18446744073709551616 + lo) * 2 ^ s / (y * 2 ^ s) = (hi * 18446744073709551616 + lo) / y ∧ (hi * 18446744073709551616 + lo) * 2 ^ s % (y * 2 ^ s) / 2 ^ s = (hi * 18446744073709551616 + lo) % y := by
  refine ⟨Nat.mul_div_mul_right _ _ (Nat.two_pow_pos s), ?_⟩
  rw [Nat.mul_mod_mul_right, Nat.mul_div_cancel _ (Nat.two_pow_pos s)]

/-- The shift that brings the divisor's highest bit to the top. -/
theorem lead_zeros (y : Nat) (h0 : 0 < y) (h1 : y < 18446744073709551616) : ∃ s : Nat, s ≤ 63 ∧ (64 - (Lib.bitLen y : Int)) = (s : Int) ∧ 9223372036854775808 ≤ y * 2 ^ s ∧ y * 2 ^ s < 18446744073709551616 := by
  obtain ⟨a, b, c⟩ := Lib.bitLenAux_bounds 64 y (by simpa using h1) (by omega)
  have hle : Lib.bitLenAux 64 y ≤ 64 := Lib.bitLen_le y 64 (Nat.le_refl _) (by simpa using h1)
  obtain ⟨k, hk⟩ : ∃ k, k = Lib.bitLenAux 64 y := ⟨_, rfl⟩
  rw [← hk] at a b c hle
  refine ⟨64 - k, by omega, ?_, ?_, ?_⟩
  · show (64 : Int) - (Lib.bitLenAux 64 y : Int) = _
    rw [← hk]
    omega
  · have e : (9223372036854775808 : Nat) = 2 ^ (k - 1) * 2 ^ (64 - k) := by rw [← Nat.pow_add, show k - 1 + (64 - k) = 63 by omega]
    rw [e]
    exact Nat.mul_le_mul_right _ b
  · have e : (18446744073709551616 : Nat) = 2 ^ k * 2 ^ (64 - k) := by rw [← Nat.pow_add, show k + (64 - k) = 64 by omega]
    rw [e]
    exact Nat.mul_lt_mul_of_pos_right c (Nat.two_pow_pos _)

theorem or_low (a s x : Nat) (hx : x < 2 ^ s) : a * 2 ^ s ||| x = a * 2 ^ s + x := by
  rw [Nat.mul_comm, Nat.two_pow_add_eq_or_of_lt hx]
theorem and_low (a : Nat) : a &&& 4294967295 = a % 4294967296 := Nat.and_two_pow_sub_one_eq_mod a 32
end Go.Proofs.Qxb6614430a
