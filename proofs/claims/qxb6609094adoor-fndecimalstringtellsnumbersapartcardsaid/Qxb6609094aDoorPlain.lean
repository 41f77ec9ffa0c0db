/-
  THE PLAIN MATHEMATICS of decimal.String: no Go in sight.
-/
import Derived.Lib.ItoaNum
namespace Go.Proofs.Qxb6609094aDoor

def sgn (neg : Bool) : List UInt8 := if neg then [45] else []
/-- The text behind the sign, D not empty. -/
def body (D : List UInt8) (n : Int) : List UInt8 :=
  if (D.length : Int) ≤ n ∧ n ≤ 21 then D ++ List.replicate (n - D.length).toNat 48
  else if 0 < n ∧ n ≤ 21 then D.take n.toNat ++ 46 :: D.drop n.toNat
  else if -6 < n ∧ n ≤ 0 then [48, 46] ++ List.replicate (-n).toNat 48 ++ D
  else D.take 1 ++ (if 1 < D.length then 46 :: D.drop 1 else []) ++ 101 :: ((if 0 ≤ n - 1 then [43] else []) ++ Go.Lib.itoa (n - 1))
def render (neg : Bool) (D : List UInt8) (n : Int) : List UInt8 := if D = [] then [48] else sgn neg ++ body D n

theorem nDigits_le : ∀ (k u : Nat), u < 10 ^ (k + 1) → Go.Lib.nDigits u ≤ k + 1
  | 0, u, h => by rw [Go.Lib.nDigits_small (by simpa using h)]; exact Nat.le_refl _
  | k + 1, u, h => by
    by_cases h10 : u < 10
    · rw [Go.Lib.nDigits_small h10]; omega
    · rw [Go.Lib.nDigits_big h10]
      have h2 : u / 10 < 10 ^ (k + 1) := by
        rw [Nat.div_lt_iff_lt_mul (by omega), ← Nat.pow_succ]
        exact h
      have := nDigits_le k (u / 10) h2
      omega
theorem decDigits_le (u : Nat) (h : u ≤ 9223372036854775808) : (Go.Lib.decDigits u).length ≤ 19 := by
  rw [Go.Lib.decDigits_length]
  exact nDigits_le 18 u (Nat.lt_of_le_of_lt h (by decide))
theorem itoa_le (n : Int) (h0 : -9223372036854775808 ≤ n) (h1 : n ≤ 9223372036854775807) : (Go.Lib.itoa n).length ≤ 20 := by
  unfold Go.Lib.itoa
  split
  · have := decDigits_le n.natAbs (by omega)
    simp only [List.length_cons]
    omega
  · have := decDigits_le n.toNat (by omega)
    omega
end Go.Proofs.Qxb6609094aDoor
