/-
  MORE PLAIN MATHEMATICS: the value of a decimal numeral; bytes of a string by their list.
-/
import Derived.Test.Qxb6609094aDoorDC
namespace Go.Proofs.Qxb6609094aDoor
open Go.RowKit

/-! ### numerals -/
def valL (l : List UInt8) : Int := l.foldl (fun a c => a * 10 + ((c.toNat : Int) - 48)) 0
theorem valL_snoc (l : List UInt8) (c : UInt8) : valL (l ++ [c]) = valL l * 10 + ((c.toNat : Int) - 48) := by simp [valL]
theorem valL_bound : ∀ (n : Nat) (l : List UInt8), l.length = n → (∀ c ∈ l, digB c = true) → 0 ≤ valL l ∧ valL l < 10 ^ n
  | 0, l, h, _ => by
    obtain rfl : l = [] := List.eq_nil_of_length_eq_zero h
    simp [valL]
  | n + 1, l, h, hd => by
    have hne : l ≠ [] := by intro e; subst e; simp at h
    have e := List.dropLast_concat_getLast hne
    have hc := hd (l.getLast hne) (List.getLast_mem hne)
    have hi := valL_bound n l.dropLast (by simp [h]) (fun x hx => hd x (List.dropLast_subset l hx))
    rw [← e, valL_snoc]
    simp only [digB, Bool.and_eq_true, decide_eq_true_eq] at hc
    rw [Int.pow_succ]
    omega
theorem ofNat_digit (x : Nat) (h : x < 10) : (UInt8.ofNat (48 + x)).toNat = 48 + x := by
  rw [UInt8.toNat_ofNat']
  omega
theorem decDigits_digits (u : Nat) : ∀ c ∈ Lib.decDigits u, digB c = true := by
  induction u using Nat.strongRecOn with
  | _ u ih =>
    rw [Lib.decDigits]
    split
    · rename_i h
      intro c hc
      simp only [List.mem_singleton] at hc
      subst hc
      simp only [digB, ofNat_digit u h, Bool.and_eq_true, decide_eq_true_eq]
      omega
    · intro c hc
      rw [List.mem_append] at hc
      rcases hc with hc | hc
      · exact ih (u / 10) (by omega) c hc
      · simp only [List.mem_singleton] at hc
        subst hc
        simp only [digB, ofNat_digit (u % 10) (by omega), Bool.and_eq_true, decide_eq_true_eq]
        omega
theorem valL_decDigits (u : Nat) : valL (Lib.decDigits u) = u := by
  induction u using Nat.strongRecOn with
  | _ u ih =>
    rw [Lib.decDigits]
    split
    · rename_i h
      show (0 : Int) * 10 + (((UInt8.ofNat (48 + u)).toNat : Int) - 48) = u
      rw [ofNat_digit u h]
      omega
    · rw [valL_snoc, ih (u / 10) (by omega), ofNat_digit (u % 10) (by omega)]
      omega
theorem decDigits_ne (u : Nat) : Lib.decDigits u ≠ [] := by
  rw [Lib.decDigits]
  split <;> simp
theorem decDigits_head (u : Nat) (h : 1 ≤ u) : ∃ c r, Lib.decDigits u = c :: r ∧ ((c.toNat : Int) == 48) = false := by
  induction u using Nat.strongRecOn with
  | _ u ih =>
    rw [Lib.decDigits]
    split
    · rename_i hu
      exact ⟨_, _, rfl, by rw [ofNat_digit u hu]; simp; omega⟩
    · obtain ⟨c, r, e, hc⟩ := ih (u / 10) (by omega) (by omega)
      exact ⟨c, _, by rw [e]; rfl, hc⟩
theorem decDigits_one_lt (u : Nat) (h : 1 < (Lib.decDigits u).length) : 1 ≤ u := by
  rcases Nat.eq_zero_or_pos u with h0 | h0
  · subst h0
    rw [Lib.decDigits_one (by omega)] at h
    simp at h
  · exact h0

/-! ### strings by their lists -/
theorem ba_ext {a b : ByteArray} (h : a.data.toList = b.data.toList) : a = b := by
  cases a; cases b
  simp only [ByteArray.mk.injEq]
  exact Array.toList_inj.1 h
theorem at_l {s : ByteArray} {L : List UInt8} (hs : s.data.toList = L) (k : Nat) (h : k < s.size) {c : UInt8} (hc : L[k]? = some c) : s[k] = c := by
  have := get_l s k h
  rw [hs, hc] at this
  exact (Option.some.inj this).symm
theorem size_l {s : ByteArray} {L : List UInt8} (hs : s.data.toList = L) : s.size = L.length := by rw [← hs]; rfl
theorem mem_l {s : ByteArray} {L : List UInt8} (hs : s.data.toList = L) (k : Nat) (h : k < s.size) : L[k]? = some s[k] := by rw [← hs]; exact get_l s k h
theorem ext_l {s : ByteArray} {A B C : List UInt8} (hs : s.data.toList = A ++ B ++ C) (i j : Nat) (hi : A.length = i) (hj : A.length + B.length = j) : (s.extract i j).data.toList = B := by
  rw [Lib.extract_data, hs, List.append_assoc, ← hi, ← hj, List.drop_left]
  rw [Nat.add_sub_cancel_left, List.take_left]
theorem app_l (a b : ByteArray) : (a ++ b).data.toList = a.data.toList ++ b.data.toList := by
  rw [show (a ++ b).data = a.data ++ b.data from ByteArray.data_append]
  simp
theorem isE {s : ByteArray} {L : List UInt8} (hs : s.data.toList = L) (h : L ≠ []) : s.toList.isEmpty = false := nonempty_of s (by rw [hs]; exact h)
end Go.Proofs.Qxb6609094aDoor
