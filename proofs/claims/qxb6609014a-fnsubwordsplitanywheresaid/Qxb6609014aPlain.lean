/-
  THE PLAIN MATHEMATICS of 'subWord', 'addWord': no Go in sight.
-/
namespace Go.Proofs.Qxb6609014a

def subLo (x b : Int) : Int := (x - b) % 18446744073709551616
def subBo (x b : Int) : Int := if x < b then 1 else 0
def addLo (x c : Int) : Int := (x + c) % 18446744073709551616
def addCa (x c : Int) : Int := (x + c) / 18446744073709551616

def subW : List Int → Int → List Int × Int
  | [], b => ([], b)
  | x :: xs, b => if b = 0 then (x :: xs, 0) else (subLo x b :: (subW xs (subBo x b)).1, (subW xs (subBo x b)).2)

def addW : List Int → Int → List Int × Int
  | [], c => ([], c)
  | x :: xs, c => if c = 0 then (x :: xs, 0) else (addLo x c :: (addW xs (addCa x c)).1, (addW xs (addCa x c)).2)

/-- The number is below the word b. -/
def belowB : List Int → Int → Bool
  | [], _ => false
  | x :: xs, b => decide (x < b) && xs.all (fun y => y == 0)

def Word (x : Int) : Prop := 0 ≤ x ∧ x < 18446744073709551616
def Words (xs : List Int) : Prop := ∀ x ∈ xs, Word x

theorem word_subLo (x b : Int) : Word (subLo x b) := by unfold Word subLo; omega
theorem word_subBo (x b : Int) : Word (subBo x b) := by unfold Word subBo; split <;> omega
theorem word_addLo (x b : Int) : Word (addLo x b) := by unfold Word addLo; omega
theorem word_addCa (x c : Int) (hx : Word x) (hc : Word c) : Word (addCa x c) := by unfold Word addCa at *; omega
theorem subBo_01 (x b : Int) : subBo x b = 0 ∨ subBo x b = 1 := by unfold subBo; split <;> simp

theorem subW_zero (xs : List Int) : subW xs 0 = (xs, 0) := by cases xs <;> simp [subW]
theorem addW_zero (xs : List Int) : addW xs 0 = (xs, 0) := by cases xs <;> simp [addW]
theorem subW_cons (x : Int) (xs : List Int) (b : Int) (h : b ≠ 0) : subW (x :: xs) b = (subLo x b :: (subW xs (subBo x b)).1, (subW xs (subBo x b)).2) := by simp [subW, h]
theorem addW_cons (x : Int) (xs : List Int) (b : Int) (h : b ≠ 0) : addW (x :: xs) b = (addLo x b :: (addW xs (addCa x b)).1, (addW xs (addCa x b)).2) := by simp [addW, h]

theorem subW_length (xs : List Int) : ∀ b, (subW xs b).1.length = xs.length := by
  induction xs with
  | nil => intro b; rfl
  | cons x xs ih => intro b; by_cases h : b = 0 <;> simp [subW, h, ih]
theorem addW_length (xs : List Int) : ∀ b, (addW xs b).1.length = xs.length := by
  induction xs with
  | nil => intro b; rfl
  | cons x xs ih => intro b; by_cases h : b = 0 <;> simp [addW, h, ih]

theorem subW_words (xs : List Int) : ∀ b, Words xs → Words (subW xs b).1 := by
  induction xs with
  | nil => intro b h; exact h
  | cons x xs ih =>
    intro b h
    by_cases hb : b = 0
    · subst hb; rw [subW_zero]; exact h
    · rw [subW_cons x xs b hb]
      intro y hy
      simp at hy
      rcases hy with rfl | hy
      · exact word_subLo _ _
      · exact ih _ (fun y hy => h y (by simp [hy])) y hy
theorem subW_word (xs : List Int) : ∀ b, Word b → Word (subW xs b).2 := by
  induction xs with
  | nil => intro b h; exact h
  | cons x xs ih =>
    intro b h
    by_cases hb : b = 0
    · subst hb; rw [subW_zero]; exact h
    · rw [subW_cons x xs b hb]; exact ih _ (word_subBo _ _)

/-- THE ROUND TRIP: adding gives the words back, with a carry equal to the borrow. -/
theorem addW_subW (xs : List Int) : ∀ b, Words xs → Word b → addW (subW xs b).1 b = (xs, (subW xs b).2) := by
  induction xs with
  | nil => intro b _ _; rfl
  | cons x xs ih =>
    intro b h hb
    by_cases h0 : b = 0
    · subst h0; rw [subW_zero, addW_zero]
    · have hx : Word x := h x (by simp)
      have e1 : addLo (subLo x b) b = x := by unfold addLo subLo Word at *; omega
      have e2 : addCa (subLo x b) b = subBo x b := by unfold addCa subLo subBo Word at *; split <;> omega
      rw [subW_cons x xs b h0]
      simp only
      rw [addW_cons _ _ b h0, e1, e2, ih _ (fun y hy => h y (by simp [hy])) (word_subBo _ _)]

theorem subW_one (xs : List Int) (h : Words xs) : (subW xs 1).2 = if xs.all (fun y => y == 0) then 1 else 0 := by
  induction xs with
  | nil => rfl
  | cons x xs ih =>
    rw [subW_cons x xs 1 (by decide)]
    have hx : Word x := h x (by simp)
    by_cases h0 : x = 0
    · subst h0
      have : subBo 0 1 = 1 := by decide
      rw [this, ih (fun y hy => h y (by simp [hy]))]
      simp
    · have : subBo x 1 = 0 := by unfold subBo Word at *; rw [if_neg (by omega)]
      rw [this, subW_zero]
      simp [h0]

/-- THE BORROW is 1 just where the number is below the word. -/
theorem subW_borrow (x : Int) (xs : List Int) (b : Int) (h : Words (x :: xs)) (hb : Word b) : (subW (x :: xs) b).2 = if belowB (x :: xs) b then 1 else 0 := by
  have hx : Word x := h x (by simp)
  have hxs : Words xs := fun y hy => h y (by simp [hy])
  by_cases h0 : b = 0
  · subst h0
    rw [subW_zero]
    have : ¬ x < 0 := by unfold Word at hx; omega
    simp [belowB, this]
  · rw [subW_cons x xs b h0]
    by_cases hl : x < b
    · have : subBo x b = 1 := by simp [subBo, hl]
      rw [this, subW_one xs hxs]
      simp [belowB, hl]
    · have : subBo x b = 0 := by simp [subBo, hl]
      rw [this, subW_zero]
      simp [belowB, hl]

/-- THE LOW WORD. -/
theorem subW_low (x : Int) (xs : List Int) (b : Int) (hx : Word x) : ∃ r, (subW (x :: xs) b).1 = subLo x b :: r := by
  by_cases h0 : b = 0
  · subst h0
    rw [subW_zero]
    have : subLo x 0 = x := by unfold subLo Word at *; omega
    exact ⟨xs, by rw [this]⟩
  · rw [subW_cons x xs b h0]
    exact ⟨_, rfl⟩

/-- THE SPLIT. -/
theorem subW_append (xs ys : List Int) : ∀ b, subW (xs ++ ys) b = ((subW xs b).1 ++ (subW ys (subW xs b).2).1, (subW ys (subW xs b).2).2) := by
  induction xs with
  | nil => intro b; simp [subW]
  | cons x xs ih =>
    intro b
    by_cases h0 : b = 0
    · subst h0
      rw [subW_zero, subW_zero, subW_zero]
    · rw [List.cons_append, subW_cons x _ b h0, subW_cons x _ b h0, ih]
      simp
end Go.Proofs.Qxb6609014a
