/-
  THE WALKS of subWord, addWord: in place over a row of the call's own.
-/
import Derived.Test.Qxb6609014aWA
import Derived.Laws.CopyOwn
namespace Go.Proofs.Qxb6609014a
open Go.RowKit

/-- Block g holds the words L. -/
def Row (w : World) (g : Nat) (L : List Int) : Prop := w.heap[g]? = some (.cells (L.map (Value.int .u64)).toArray 23 (0, 0))

/-- Only block g may have turned. -/
structure Turned (g : Nat) (w w' : World) : Prop where
  os : w'.os = w.os
  tape : w'.tape = w.tape
  output : w'.output = w.output
  size : w'.heap.size = w.heap.size
  block : ∀ k, k ≠ g → w'.heap[k]? = w.heap[k]?

theorem Turned.refl (g : Nat) (w : World) : Turned g w w := ⟨rfl, rfl, rfl, rfl, fun _ _ => rfl⟩
theorem Turned.put {g : Nat} {w w' : World} (h : Turned g w w') (o : Nat) (v : Value) : Turned g w (w'.setCell ⟨g, o, none⟩ v) :=
  ⟨h.os, h.tape, h.output, by simpa [World.setCell] using h.size, fun k hk => (heap_setCell_other w' ⟨g, o, none⟩ k v hk).trans (h.block k hk)⟩
theorem Turned.below {g B : Nat} {w w' : World} (h : Turned g w w') (hB : B ≤ g) : Below B w w' :=
  ⟨h.os, h.tape, h.output, by rw [h.size]; exact Nat.le_refl _, fun k hk => h.block k (by omega)⟩
theorem Turned.row {g k : Nat} {w w' : World} {L : List Int} (h : Turned g w w') (hk : k ≠ g) (hr : Row w k L) : Row w' k L := (h.block k hk).trans hr

theorem Row.cell {w : World} {g : Nat} {A : List Int} {x : Int} {C : List Int} (h : Row w g (A ++ x :: C)) : w.cell? ⟨g, A.length, none⟩ = some (.int .u64 x) := by
  rw [cell_of_row w g _ _ _ _ h]
  simp
theorem Row.frozen {w : World} {g : Nat} {L : List Int} (h : Row w g L) (j : Nat) : w.frozen? ⟨g, j, none⟩ = false := frozen_of_row w g j _ _ h
theorem Row.put {w : World} {g : Nat} {A : List Int} {x : Int} {C : List Int} (h : Row w g (A ++ x :: C)) (y : Int) : Row (w.setCell ⟨g, A.length, none⟩ (.int .u64 y)) g (A ++ y :: C) := by
  unfold Row
  rw [heap_setCell_same w g A.length _ _ _ h]
  simp

/-- What subWord's loop keeps: 'pre' is done, 'rest' is not yet touched, 'bk' is the borrow that goes into 'rest'. -/
structure SubRel (w wr : World) (g : Nat) (A zs C : List Int) (b : Int) (k : Nat) (bk : Int) (pre rest : List Int) : Prop where
  word : Word bk
  len : pre.length = k
  all : k + rest.length = zs.length
  words : Words rest
  row : Row wr g (A ++ pre ++ rest ++ C)
  turned : Turned g w wr
  eq : subW zs b = (pre ++ (subW rest bk).1, (subW rest bk).2)

theorem SubRel.start {w : World} {g : Nat} {A zs C : List Int} {b : Int} (hz : Words zs) (hb : Word b) (hr : Row w g (A ++ zs ++ C)) : SubRel w w g A zs C b 0 b [] zs :=
  ⟨hb, rfl, by omega, hz, by simpa using hr, Turned.refl _ _, by simp⟩

theorem SubRel.step {w wr : World} {g : Nat} {A zs C : List Int} {b : Int} {k : Nat} {bk : Int} {pre : List Int} {x : Int} {rest : List Int} (h : SubRel w wr g A zs C b k bk pre (x :: rest)) (h0 : bk ≠ 0) :
    SubRel w (wr.setCell ⟨g, A.length + k, none⟩ (.int .u64 (subLo x bk))) g A zs C b (k + 1) (subBo x bk) (pre ++ [subLo x bk]) rest := by
  obtain ⟨hw, hl, ha, hws, hr, ht, he⟩ := h
  refine ⟨word_subBo _ _, by simp [hl], by simp at ha; omega, fun y hy => hws y (by simp [hy]), ?_, ht.put _ _, ?_⟩
  · have e1 : A ++ pre ++ x :: rest ++ C = (A ++ pre) ++ x :: (rest ++ C) := by simp
    rw [e1] at hr
    have := hr.put (subLo x bk)
    rw [List.length_append, hl] at this
    simpa using this
  · rw [he, subW_cons x rest bk h0]
    simp

theorem SubRel.cell {w wr : World} {g : Nat} {A zs C : List Int} {b : Int} {k : Nat} {bk : Int} {pre : List Int} {x : Int} {rest : List Int} (h : SubRel w wr g A zs C b k bk pre (x :: rest)) :
    wr.cell? ⟨g, A.length + k, none⟩ = some (.int .u64 x) ∧ wr.frozen? ⟨g, A.length + k, none⟩ = false ∧ Word x := by
  obtain ⟨hw, hl, ha, hws, hr, ht, he⟩ := h
  refine ⟨?_, hr.frozen _, hws x (by simp)⟩
  have e1 : A ++ pre ++ x :: rest ++ C = (A ++ pre) ++ x :: (rest ++ C) := by simp
  rw [e1] at hr
  have := hr.cell
  rwa [List.length_append, hl] at this

theorem SubRel.done0 {w wr : World} {g : Nat} {A zs C : List Int} {b : Int} {k : Nat} {pre rest : List Int} (h : SubRel w wr g A zs C b k 0 pre rest) :
    Ending.returned (.int .u64 0) = .returned (.int .u64 (subW zs b).2) ∧ Turned g w wr ∧ Row wr g (A ++ (subW zs b).1 ++ C) := by
  obtain ⟨hw, hl, ha, hws, hr, ht, he⟩ := h
  rw [he, subW_zero]
  exact ⟨rfl, ht, by simpa using hr⟩
theorem SubRel.done1 {w wr : World} {g : Nat} {A zs C : List Int} {b : Int} {k : Nat} {bk : Int} {pre rest : List Int} (h : SubRel w wr g A zs C b k bk pre rest) (hk : zs.length ≤ k) :
    Ending.returned (.int .u64 bk) = .returned (.int .u64 (subW zs b).2) ∧ Turned g w wr ∧ Row wr g (A ++ (subW zs b).1 ++ C) := by
  obtain ⟨hw, hl, ha, hws, hr, ht, he⟩ := h
  obtain rfl : rest = [] := List.eq_nil_of_length_eq_zero (by omega)
  rw [he]
  exact ⟨rfl, ht, by simpa [subW] using hr⟩

set_option maxHeartbeats 400000 in
theorem subWord_any (g o n cap : Nat) (A zs C : List Int) (b : Int) (ho : Hid (A.length = o)) (hl : Hid (zs.length = n)) (hn : n ≤ 65536) (hz : Words zs) (hb : Word b) (w : World) (hr : Row w g (A ++ zs ++ C)) :
    Calls Try.prog 12 #[.slice (some ⟨g, o, none⟩) n cap, .int .u64 b] w fun e w' => e = .returned (.int .u64 (subW zs b).2) ∧ Turned g w w' ∧ Row w' g (A ++ (subW zs b).1 ++ C) := by
  have H0 := SubRel.start hz hb hr
  go_enter Try.func12, Try.ntmps12
  go_wp2
  go_loopw [1, 5] (fun bv iv wr => ∃ (k : Nat) (bk : Int) (pre rest : List Int), k ≤ n ∧ iv = .int .i64 k ∧ bv = .int .u64 bk ∧ SubRel w wr g A zs C b k bk pre rest) (fun _ iv _ => n - (intOf iv).toNat)
  case atStart => exact ⟨0, b, [], zs, Nat.zero_le _, rfl, rfl, H0⟩
  case round =>
    obtain ⟨k, bk, pre, rest, hk, rfl, rfl, hR⟩ := hrel
    by_cases h0 : bk = 0
    · subst h0
      go_wp2
      go_ret
      exact hR.done0
    · have h0' : (bk != 0) = true := by simpa using h0
      by_cases hlt : k < n
      · obtain ⟨x, rest, rfl⟩ : ∃ x r, rest = x :: r := by
          have := hR.all
          rw [hl.out] at this
          cases rest with
          | nil => simp at this; omega
          | cons x r => exact ⟨x, r, rfl⟩
        have ⟨hc, hf, hx⟩ := hR.cell
        rw [ho.out] at hc hf
        go_wp2_with (go_at_call 14; refine (bsub_any x bk hx hR.word _).mono ?_; rintro e w1 ⟨rfl, rfl⟩)
        go_roundw
        case rel => exact ⟨k + 1, _, _, _, by omega, by go_num, rfl, by have := hR.step h0; rwa [ho.out] at this⟩
        case measure => simp [intOf]; omega
      · have HH : Hid (zs.length ≤ k) := by have := hl.out; show zs.length ≤ k; omega
        go_wp2
        go_ret
        exact hR.done1 HH.out
/-- What addWord's loop keeps: 'pre' is done, 'rest' is not yet touched, 'bk' is the carry that goes into 'rest'. -/
structure AddRel (w wr : World) (g : Nat) (A zs C : List Int) (b : Int) (k : Nat) (bk : Int) (pre rest : List Int) : Prop where
  word : Word bk
  len : pre.length = k
  all : k + rest.length = zs.length
  words : Words rest
  row : Row wr g (A ++ pre ++ rest ++ C)
  turned : Turned g w wr
  eq : addW zs b = (pre ++ (addW rest bk).1, (addW rest bk).2)

theorem AddRel.start {w : World} {g : Nat} {A zs C : List Int} {b : Int} (hz : Words zs) (hb : Word b) (hr : Row w g (A ++ zs ++ C)) : AddRel w w g A zs C b 0 b [] zs :=
  ⟨hb, rfl, by omega, hz, by simpa using hr, Turned.refl _ _, by simp⟩

theorem AddRel.step {w wr : World} {g : Nat} {A zs C : List Int} {b : Int} {k : Nat} {bk : Int} {pre : List Int} {x : Int} {rest : List Int} (h : AddRel w wr g A zs C b k bk pre (x :: rest)) (h0 : bk ≠ 0) :
    AddRel w (wr.setCell ⟨g, A.length + k, none⟩ (.int .u64 (addLo x bk))) g A zs C b (k + 1) (addCa x bk) (pre ++ [addLo x bk]) rest := by
  obtain ⟨hw, hl, ha, hws, hr, ht, he⟩ := h
  refine ⟨word_addCa _ _ (hws x (by simp)) hw, by simp [hl], by simp at ha; omega, fun y hy => hws y (by simp [hy]), ?_, ht.put _ _, ?_⟩
  · have e1 : A ++ pre ++ x :: rest ++ C = (A ++ pre) ++ x :: (rest ++ C) := by simp
    rw [e1] at hr
    have := hr.put (addLo x bk)
    rw [List.length_append, hl] at this
    simpa using this
  · rw [he, addW_cons x rest bk h0]
    simp

theorem AddRel.cell {w wr : World} {g : Nat} {A zs C : List Int} {b : Int} {k : Nat} {bk : Int} {pre : List Int} {x : Int} {rest : List Int} (h : AddRel w wr g A zs C b k bk pre (x :: rest)) :
    wr.cell? ⟨g, A.length + k, none⟩ = some (.int .u64 x) ∧ wr.frozen? ⟨g, A.length + k, none⟩ = false ∧ Word x := by
  obtain ⟨hw, hl, ha, hws, hr, ht, he⟩ := h
  refine ⟨?_, hr.frozen _, hws x (by simp)⟩
  have e1 : A ++ pre ++ x :: rest ++ C = (A ++ pre) ++ x :: (rest ++ C) := by simp
  rw [e1] at hr
  have := hr.cell
  rwa [List.length_append, hl] at this

theorem AddRel.done0 {w wr : World} {g : Nat} {A zs C : List Int} {b : Int} {k : Nat} {pre rest : List Int} (h : AddRel w wr g A zs C b k 0 pre rest) :
    Ending.returned (.int .u64 0) = .returned (.int .u64 (addW zs b).2) ∧ Turned g w wr ∧ Row wr g (A ++ (addW zs b).1 ++ C) := by
  obtain ⟨hw, hl, ha, hws, hr, ht, he⟩ := h
  rw [he, addW_zero]
  exact ⟨rfl, ht, by simpa using hr⟩
theorem AddRel.done1 {w wr : World} {g : Nat} {A zs C : List Int} {b : Int} {k : Nat} {bk : Int} {pre rest : List Int} (h : AddRel w wr g A zs C b k bk pre rest) (hk : zs.length ≤ k) :
    Ending.returned (.int .u64 bk) = .returned (.int .u64 (addW zs b).2) ∧ Turned g w wr ∧ Row wr g (A ++ (addW zs b).1 ++ C) := by
  obtain ⟨hw, hl, ha, hws, hr, ht, he⟩ := h
  obtain rfl : rest = [] := List.eq_nil_of_length_eq_zero (by omega)
  rw [he]
  exact ⟨rfl, ht, by simpa [addW] using hr⟩

set_option maxHeartbeats 400000 in
theorem addWord_any (g o n cap : Nat) (A zs C : List Int) (b : Int) (ho : Hid (A.length = o)) (hl : Hid (zs.length = n)) (hn : n ≤ 65536) (hz : Words zs) (hb : Word b) (w : World) (hr : Row w g (A ++ zs ++ C)) :
    Calls Try.prog 13 #[.slice (some ⟨g, o, none⟩) n cap, .int .u64 b] w fun e w' => e = .returned (.int .u64 (addW zs b).2) ∧ Turned g w w' ∧ Row w' g (A ++ (addW zs b).1 ++ C) := by
  have H0 := AddRel.start hz hb hr
  go_enter Try.func13, Try.ntmps13
  go_wp2
  go_loopw [1, 5] (fun bv iv wr => ∃ (k : Nat) (bk : Int) (pre rest : List Int), k ≤ n ∧ iv = .int .i64 k ∧ bv = .int .u64 bk ∧ AddRel w wr g A zs C b k bk pre rest) (fun _ iv _ => n - (intOf iv).toNat)
  case atStart => exact ⟨0, b, [], zs, Nat.zero_le _, rfl, rfl, H0⟩
  case round =>
    obtain ⟨k, bk, pre, rest, hk, rfl, rfl, hR⟩ := hrel
    by_cases h0 : bk = 0
    · subst h0
      go_wp2
      go_ret
      exact hR.done0
    · have h0' : (bk != 0) = true := by simpa using h0
      by_cases hlt : k < n
      · obtain ⟨x, rest, rfl⟩ : ∃ x r, rest = x :: r := by
          have := hR.all
          rw [hl.out] at this
          cases rest with
          | nil => simp at this; omega
          | cons x r => exact ⟨x, r, rfl⟩
        have ⟨hc, hf, hx⟩ := hR.cell
        rw [ho.out] at hc hf
        go_wp2_with (go_at_call 15; refine (badd_any x bk hx hR.word _).mono ?_; rintro e w1 ⟨rfl, rfl⟩)
        go_roundw
        case rel => exact ⟨k + 1, _, _, _, by omega, by go_num, rfl, by have := hR.step h0; rwa [ho.out] at this⟩
        case measure => simp [intOf]; omega
      · have HH : Hid (zs.length ≤ k) := by have := hl.out; show zs.length ≤ k; omega
        go_wp2
        go_ret
        exact hR.done1 HH.out

/-! The two exported names: one call each. -/
set_option maxHeartbeats 400000 in
theorem zsub_any (g o n cap : Nat) (A zs C : List Int) (b : Int) (ho : Hid (A.length = o)) (hl : Hid (zs.length = n)) (hn : n ≤ 65536) (hz : Words zs) (hb : Word b) (w : World) (hr : Row w g (A ++ zs ++ C)) :
    Calls Try.prog 7 #[.slice (some ⟨g, o, none⟩) n cap, .int .u64 b] w fun e w' => e = .returned (.int .u64 (subW zs b).2) ∧ Turned g w w' ∧ Row w' g (A ++ (subW zs b).1 ++ C) := by
  go_enter Try.func7, Try.ntmps7
  go_wp2_with (go_at_call 12; refine (subWord_any g o n cap A zs C b ho hl hn hz hb _ hr).mono ?_; rintro e w1 ⟨rfl, ht, hr1⟩)
  go_ret
  exact ⟨rfl, ht, hr1⟩
set_option maxHeartbeats 400000 in
theorem zadd_any (g o n cap : Nat) (A zs C : List Int) (b : Int) (ho : Hid (A.length = o)) (hl : Hid (zs.length = n)) (hn : n ≤ 65536) (hz : Words zs) (hb : Word b) (w : World) (hr : Row w g (A ++ zs ++ C)) :
    Calls Try.prog 9 #[.slice (some ⟨g, o, none⟩) n cap, .int .u64 b] w fun e w' => e = .returned (.int .u64 (addW zs b).2) ∧ Turned g w w' ∧ Row w' g (A ++ (addW zs b).1 ++ C) := by
  go_enter Try.func9, Try.ntmps9
  go_wp2_with (go_at_call 13; refine (addWord_any g o n cap A zs C b ho hl hn hz hb _ hr).mono ?_; rintro e w1 ⟨rfl, ht, hr1⟩)
  go_ret
  exact ⟨rfl, ht, hr1⟩

/-! No word at all: whatever the address. -/
set_option maxHeartbeats 400000 in
theorem subWord_none (a : Option Addr) (cap : Nat) (b : Int) (w : World) :
    Calls Try.prog 12 #[.slice a 0 cap, .int .u64 b] w fun e w' => e = .returned (.int .u64 b) ∧ w' = w := by
  go_enter Try.func12, Try.ntmps12
  go_wp2
  go_loop [1, 5] (fun bv iv => bv = .int .u64 b ∧ iv = .int .i64 0) (fun _ _ => 0)
  case atStart => exact ⟨rfl, rfl⟩
  case round =>
    obtain ⟨rfl, rfl⟩ := hrel
    by_cases h0 : b = 0
    · subst h0
      go_wp2
      go_ret
      exact ⟨rfl, rfl⟩
    · have h0' : (b != 0) = true := by simpa using h0
      go_wp2
      go_ret
      exact ⟨rfl, rfl⟩
set_option maxHeartbeats 400000 in
theorem addWord_none (a : Option Addr) (cap : Nat) (b : Int) (w : World) :
    Calls Try.prog 13 #[.slice a 0 cap, .int .u64 b] w fun e w' => e = .returned (.int .u64 b) ∧ w' = w := by
  go_enter Try.func13, Try.ntmps13
  go_wp2
  go_loop [1, 5] (fun bv iv => bv = .int .u64 b ∧ iv = .int .i64 0) (fun _ _ => 0)
  case atStart => exact ⟨rfl, rfl⟩
  case round =>
    obtain ⟨rfl, rfl⟩ := hrel
    by_cases h0 : b = 0
    · subst h0
      go_wp2
      go_ret
      exact ⟨rfl, rfl⟩
    · have h0' : (b != 0) = true := by simpa using h0
      go_wp2
      go_ret
      exact ⟨rfl, rfl⟩
set_option maxHeartbeats 400000 in
theorem zsub_none (a : Option Addr) (cap : Nat) (b : Int) (w : World) :
    Calls Try.prog 7 #[.slice a 0 cap, .int .u64 b] w fun e w' => e = .returned (.int .u64 b) ∧ w' = w := by
  go_enter Try.func7, Try.ntmps7
  go_wp2_with (go_at_call 12; refine (subWord_none a cap b _).mono ?_; rintro e w1 ⟨rfl, rfl⟩)
  go_ret
  exact ⟨rfl, rfl⟩
set_option maxHeartbeats 400000 in
theorem zadd_none (a : Option Addr) (cap : Nat) (b : Int) (w : World) :
    Calls Try.prog 9 #[.slice a 0 cap, .int .u64 b] w fun e w' => e = .returned (.int .u64 b) ∧ w' = w := by
  go_enter Try.func9, Try.ntmps9
  go_wp2_with (go_at_call 13; refine (addWord_none a cap b _).mono ?_; rintro e w1 ⟨rfl, rfl⟩)
  go_ret
  exact ⟨rfl, rfl⟩
end Go.Proofs.Qxb6609014a
