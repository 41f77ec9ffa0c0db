/-
  THE PLAIN MATHEMATICS of the search for the last missing cent's cut, digit by digit: no Go in sight.
-/
import Derived.Test.Qxb6614430aMG
namespace Go.Proofs.Qxb6614430a

/-- How many cuts lie above P, and at P, the lowest s bits left off. -/
def above (C : List Nat) (s P : Nat) : Nat := C.countP (fun c => decide (P < c / 2 ^ s))
def atP (C : List Nat) (s P : Nat) : Nat := C.countP (fun c => decide (c / 2 ^ s = P))
/-- .. in the block of 65,536 from A on, up to its d-th. -/
def upTo (C : List Nat) (s A d : Nat) : Nat := C.countP (fun c => decide (A ≤ c / 2 ^ s) && decide (c / 2 ^ s ≤ A + d))

theorem countP_split (C : List Nat) (p q r : Nat → Bool) (h : ∀ c ∈ C, (p c).toNat = (q c).toNat + (r c).toNat) : C.countP p = C.countP q + C.countP r := by
  induction C with
  | nil => rfl
  | cons a l ih =>
    have h1 := h a (by simp)
    have h2 := ih (fun c hc => h c (by simp [hc]))
    rw [List.countP_cons, List.countP_cons, List.countP_cons, h2]
    cases hp : p a <;> cases hq : q a <;> cases hr : r a <;> simp [hp, hq, hr] at h1 ⊢ <;> omega
theorem countP_same (C : List Nat) (p q : Nat → Bool) (h : ∀ c ∈ C, p c = q c) : C.countP p = C.countP q := List.countP_congr (fun c hc => by rw [h c hc])

theorem div_16 (c s : Nat) : c / 2 ^ (s + 16) = c / 2 ^ s / 65536 := by rw [Nat.pow_add, ← Nat.div_div_eq_div_mul]

theorem above_start (C : List Nat) (s P : Nat) : above C (s + 16) P = above C s (P * 65536 + 65535) := by
  refine countP_same _ _ _ fun c _ => ?_
  rw [div_16]
  generalize c / 2 ^ s = x
  simp only [decide_eq_decide]
  omega
theorem atP_start (C : List Nat) (s P : Nat) : atP C (s + 16) P = upTo C s (P * 65536) 65535 := by
  refine countP_same _ _ _ fun c _ => ?_
  rw [div_16]
  generalize c / 2 ^ s = x
  rw [← Bool.decide_and, decide_eq_decide]
  omega
theorem above_next (C : List Nat) (s A d : Nat) : above C s (A + d) = above C s (A + (d + 1)) + atP C s (A + (d + 1)) := by
  refine countP_split _ _ _ _ fun c _ => ?_
  generalize c / 2 ^ s = x
  by_cases h1 : A + d < x <;> by_cases h2 : A + (d + 1) < x <;> by_cases h3 : x = A + (d + 1) <;> simp [h1, h2, h3] <;> omega
theorem upTo_next (C : List Nat) (s A d : Nat) : upTo C s A (d + 1) = upTo C s A d + atP C s (A + (d + 1)) := by
  refine countP_split _ _ _ _ fun c _ => ?_
  generalize c / 2 ^ s = x
  by_cases h0 : A ≤ x <;> by_cases h1 : x ≤ A + d <;> by_cases h2 : x ≤ A + (d + 1) <;> by_cases h3 : x = A + (d + 1) <;> simp [h0, h1, h2, h3] <;> omega
theorem upTo_zero (C : List Nat) (s A : Nat) : upTo C s A 0 = atP C s A := by
  refine countP_same _ _ _ fun c _ => ?_
  generalize c / 2 ^ s = x
  rw [← Bool.decide_and, decide_eq_decide]
  omega

/-- A mask of n ones above m zeros. -/
theorem and_mask (c n m : Nat) : c &&& ((2 ^ n - 1) * 2 ^ m) = (c / 2 ^ m % 2 ^ n) * 2 ^ m := by
  apply Nat.eq_of_testBit_eq
  intro i
  rw [Nat.testBit_and, Nat.testBit_mul_two_pow, Nat.testBit_mul_two_pow, Nat.testBit_two_pow_sub_one, Nat.testBit_mod_two_pow, Nat.testBit_div_two_pow]
  by_cases h : m ≤ i
  · simp [h, Nat.sub_add_cancel h]
    cases c.testBit i <;> simp
  · simp [h]

/-- The mask of what is found: the bits from s up to top. -/
def mask (top s : Nat) : Nat := (2 ^ (top - s) - 1) * 2 ^ s
theorem mask_top (top : Nat) : mask top top = 0 := by simp [mask]
theorem mask_and (top s c P : Nat) (hs : s ≤ top) (hc : c < 2 ^ top) : c &&& mask top s = P * 2 ^ s ↔ c / 2 ^ s = P := by
  have hlt : c / 2 ^ s < 2 ^ (top - s) := by
    rw [Nat.div_lt_iff_lt_mul (Nat.two_pow_pos _), ← Nat.pow_add, Nat.sub_add_cancel hs]
    exact hc
  unfold mask
  rw [and_mask, Nat.mod_eq_of_lt hlt]
  exact ⟨fun h => Nat.eq_of_mul_eq_mul_right (Nat.two_pow_pos s) h, fun h => by rw [h]⟩
theorem mask_lt (top s : Nat) (hs : s ≤ top) (ht : top ≤ 64) : mask top s < 18446744073709551616 := by
  have h1 : mask top s < 2 ^ top := by
    unfold mask
    have h2 : 2 ^ (top - s) * 2 ^ s = 2 ^ top := by rw [← Nat.pow_add, Nat.sub_add_cancel hs]
    have h3 := Nat.two_pow_pos (top - s)
    rw [← h2]
    exact Nat.mul_lt_mul_of_pos_right (by omega) (Nat.two_pow_pos s)
  have h4 : 2 ^ top ≤ 2 ^ 64 := Nat.pow_le_pow_right (by omega) ht
  exact Nat.lt_of_lt_of_le h1 h4
theorem mask_pos (top s : Nat) (hs : s < top) : mask top s ≠ 0 := by
  have h1 : 2 ^ 1 ≤ 2 ^ (top - s) := Nat.pow_le_pow_right (by omega) (by omega)
  have h2 : 0 < (2 ^ (top - s) - 1) * 2 ^ s := Nat.mul_pos (by omega) (Nat.two_pow_pos s)
  unfold mask
  omega
theorem mask_next (top s : Nat) (hs : s + 16 ≤ top) : mask top (s + 16) ||| (65535 * 2 ^ s) = mask top s := by
  have hx : 65535 * 2 ^ s < 2 ^ (s + 16) := by
    rw [Nat.pow_add, Nat.mul_comm (2 ^ s)]
    exact Nat.mul_lt_mul_of_pos_right (by decide) (Nat.two_pow_pos s)
  unfold mask
  rw [or_low _ _ _ hx, Nat.pow_add, show top - s = top - (s + 16) + 16 by omega, Nat.pow_add]
  have ha := Nat.two_pow_pos (top - (s + 16))
  generalize 2 ^ (top - (s + 16)) = a at ha ⊢
  generalize 2 ^ s = b
  cases a with
  | zero => omega
  | succ a =>
    rw [show a + 1 - 1 = a by omega, show (a + 1) * 2 ^ 16 - 1 = a * 65536 + 65535 by omega, Nat.add_mul, Nat.mul_comm b, ← Nat.mul_assoc]
theorem prefix_next (P d s : Nat) (hd : d < 65536) : P * 2 ^ (s + 16) ||| (d * 2 ^ s) = (P * 65536 + d) * 2 ^ s := by
  have hx : d * 2 ^ s < 2 ^ (s + 16) := by
    rw [Nat.pow_add, Nat.mul_comm (2 ^ s)]
    exact Nat.mul_lt_mul_of_pos_right hd (Nat.two_pow_pos s)
  rw [or_low _ _ _ hx, Nat.pow_add, Nat.add_mul, Nat.mul_comm (2 ^ s), ← Nat.mul_assoc]

/-- The digits' counts are the cuts' at P's sons. -/
theorem hist_at (C : List Nat) (top s P d : Nat) (hs : s + 16 ≤ top) (hC : ∀ c ∈ C, c < 2 ^ top) (hd : d < 65536) : hist (mask top (s + 16)) (P * 2 ^ (s + 16)) s C d = atP C s (P * 65536 + d) := by
  refine countP_same _ _ _ fun c hc => ?_
  rw [← Bool.decide_and, decide_eq_decide, mask_and top (s + 16) c P hs (hC c hc), div_16]
  generalize c / 2 ^ s = x
  omega

/-- What the search keeps: the cut in question goes on from P, m cents being left for P's own cuts. -/
structure MI (C : List Nat) (M top s P m : Nat) : Prop where
  sum : m + above C s P = M
  pos : 1 ≤ m
  le : m ≤ atP C s P
/-- .. while a digit is sought: it is d or less. -/
structure DI (C : List Nat) (M s A d m : Nat) : Prop where
  sum : m + above C s (A + d) = M
  pos : 1 ≤ m
  le : m ≤ upTo C s A d
theorem MI.digit {C : List Nat} {M top s P m : Nat} (h : MI C M top (s + 16) P m) : DI C M s (P * 65536) 65535 m := by
  obtain ⟨h1, h2, h3⟩ := h
  rw [above_start] at h1
  rw [atP_start] at h3
  exact ⟨h1, h2, h3⟩
theorem DI.done {C : List Nat} {M top s P d m : Nat} (h : DI C M s (P * 65536) d m) (hm : m ≤ atP C s (P * 65536 + d)) : MI C M top s (P * 65536 + d) m := ⟨h.sum, h.pos, hm⟩
theorem DI.pos_of {C : List Nat} {M s A d m : Nat} (h : DI C M s A d m) (hm : atP C s (A + d) < m) : 1 ≤ d := by
  cases d with
  | zero => have := h.le; rw [upTo_zero] at this; rw [Nat.add_zero] at hm; omega
  | succ d => omega
theorem DI.next {C : List Nat} {M s A d m : Nat} (h : DI C M s A (d + 1) m) (hm : atP C s (A + (d + 1)) < m) : DI C M s A d (m - atP C s (A + (d + 1))) := by
  obtain ⟨h1, h2, h3⟩ := h
  rw [upTo_next] at h3
  have h4 := above_next C s A d
  exact ⟨by omega, by omega, by omega⟩
/-- Ahead of the first digit. -/
theorem MI.start (C : List Nat) (M top : Nat) (hC : ∀ c ∈ C, c < 2 ^ top) (h0 : 1 ≤ M) (hM : M ≤ C.length) : MI C M top top 0 M := by
  have h1 : above C top 0 = 0 := by
    unfold above
    rw [List.countP_eq_zero]
    intro c hc
    simp [Nat.div_eq_of_lt (hC c hc)]
  have h2 : atP C top 0 = C.length := by
    unfold atP
    rw [List.countP_eq_length]
    intro c hc
    simpa using Nat.div_eq_of_lt (hC c hc)
  exact ⟨by omega, h0, by omega⟩
end Go.Proofs.Qxb6614430a
