/-
  THE PLAIN MATHEMATICS of the last missing cent: no Go in sight.
-/
import Derived.Test.Qxb6614430aML
set_option linter.unusedVariables false
namespace Go.Proofs.Qxb6614430a

theorem sum_split (asked acc : Nat) : ∀ xs : List Nat, xs.sum * acc = asked * (xs.map (partOf asked acc)).sum + (xs.map (cutOf asked acc)).sum
  | [] => by simp
  | x :: xs => by
    have h := sum_split asked acc xs
    have h1 : asked * partOf asked acc x + cutOf asked acc x = x * acc := Nat.div_add_mod (x * acc) asked
    simp only [List.sum_cons, List.map_cons, Nat.add_mul, Nat.mul_add]
    omega
theorem cuts_le (asked acc : Nat) (h0 : 0 < asked) : ∀ xs : List Nat, (xs.map (cutOf asked acc)).sum ≤ xs.length * (asked - 1)
  | [] => by simp
  | x :: xs => by
    have h := cuts_le asked acc h0 xs
    have h1 : cutOf asked acc x < asked := Nat.mod_lt _ h0
    simp only [List.sum_cons, List.map_cons, List.length_cons, Nat.add_mul]
    omega
theorem mem_le_sum : ∀ (xs : List Nat) (x : Nat), x ∈ xs → x ≤ xs.sum
  | [], x, h => by cases h
  | y :: ys, x, h => by
    rcases List.mem_cons.1 h with rfl | h
    · simp
    · have := mem_le_sum ys x h
      simp
      omega

theorem parts_le (asked acc : Nat) (xs : List Nat) (hs : xs.sum = asked) (h0 : 0 < asked) : (xs.map (partOf asked acc)).sum ≤ acc := by
  have h := sum_split asked acc xs
  rw [hs] at h
  have h1 : asked * (xs.map (partOf asked acc)).sum ≤ asked * acc := by omega
  exact Nat.le_of_mul_le_mul_left h1 h0
theorem miss_le (asked acc : Nat) (xs : List Nat) (hs : xs.sum = asked) (h0 : 0 < asked) : acc - (xs.map (partOf asked acc)).sum ≤ xs.length := by
  have h := sum_split asked acc xs
  have h2 := cuts_le asked acc h0 xs
  have h3 := parts_le asked acc xs hs h0
  rw [hs] at h
  obtain ⟨m, hm⟩ : ∃ m, acc = (xs.map (partOf asked acc)).sum + m := ⟨acc - (xs.map (partOf asked acc)).sum, by omega⟩
  have h4 : asked * acc = asked * (xs.map (partOf asked acc)).sum + asked * m := by rw [← Nat.mul_add, ← hm]
  have h5 : asked * m ≤ xs.length * asked := by
    have : xs.length * (asked - 1) ≤ xs.length * asked := Nat.mul_le_mul_left _ (by omega)
    omega
  rw [Nat.mul_comm] at h5
  have := Nat.le_of_mul_le_mul_right h5 h0
  omega

theorem above_zero (C : List Nat) (l : Nat) : above C 0 l = over C l := countP_same _ _ _ fun c _ => by simp
theorem least_split (C : List Nat) (l : Nat) : least' C l = over C l + atP C 0 l := by
  refine countP_split _ _ _ _ fun c _ => ?_
  simp only [Nat.pow_zero, Nat.div_one]
  by_cases h1 : l ≤ c <;> by_cases h2 : l < c <;> by_cases h3 : c = l <;> simp [h1, h2, h3] <;> omega
theorem over_anti (C : List Nat) (a b : Nat) (h : a < b) : least' C b ≤ over C a := by
  unfold least' over
  refine List.countP_mono_left fun c _ hc => ?_
  simp at hc ⊢
  omega

theorem MI.good {C : List Nat} {M top l t : Nat} (h : MI C M top 0 l t) : l ∈ C ∧ over C l < M ∧ M ≤ least' C l ∧ t = M - over C l := by
  have h1 := h.sum
  have h2 := h.pos
  have h3 := h.le
  rw [above_zero] at h1
  have h4 := least_split C l
  refine ⟨?_, by omega, by omega, by omega⟩
  have h5 : 0 < atP C 0 l := by omega
  obtain ⟨c, hc, hp⟩ := List.countP_pos_iff.1 h5
  have : c = l := by simpa using hp
  rwa [← this]

/-- THE TWO ANSWERS ARE ONE. -/
theorem agree_last {C : List Nat} {M asked l t l' t' : Nat} (h1 : asked = 1 → M = 0) (hF : Found C M asked 18446744073709551615 0 l t) (hL : LastPost C M asked l' t') : l = l' ∧ t = t' := by
  rcases hF with ⟨a, b, c⟩ | ⟨a, b, c, d⟩ | ⟨a, top, h⟩
  · have h0 := h1 a
    rcases hL with ⟨_, _, x, y⟩ | ⟨_, x, _⟩ | ⟨x, _⟩
    · exact ⟨by omega, by omega⟩
    · exact absurd a x
    · exact absurd h0 x
  · rcases hL with ⟨_, x, _⟩ | ⟨_, _, x, y⟩ | ⟨x, _⟩
    · exact absurd x a
    · exact ⟨by omega, by omega⟩
    · exact absurd b x
  · obtain ⟨g1, g2, g3, g4⟩ := h.good
    have hM : M ≠ 0 := by omega
    rcases hL with ⟨x, _⟩ | ⟨x, _⟩ | ⟨_, k1, k2, k3, k4⟩
    · exact absurd x hM
    · exact absurd x hM
    · have e : l = l' := by
        rcases Nat.lt_trichotomy l l' with h | h | h
        · have := over_anti C _ _ h; omega
        · exact h
        · have := over_anti C _ _ h; omega
      subst e
      exact ⟨rfl, by omega⟩
theorem found_good {C : List Nat} {M asked l0 t0 l t : Nat} (h1 : asked = 1 → M = 0) (hF : Found C M asked l0 t0 l t) (hM : M ≠ 0) : ∃ v ∈ C, over C v < M ∧ M ≤ least' C v := by
  rcases hF with ⟨a, _⟩ | ⟨_, b, _⟩ | ⟨_, top, h⟩
  · exact absurd (h1 a) hM
  · exact absurd b hM
  · obtain ⟨g1, g2, g3, _⟩ := h.good
    exact ⟨l, g1, g2, g3⟩
end Go.Proofs.Qxb6614430a
