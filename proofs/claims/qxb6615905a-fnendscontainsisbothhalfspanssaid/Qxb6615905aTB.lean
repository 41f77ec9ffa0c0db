import Derived.Test.Qxb6615905aTA
namespace Go.Proofs.Qxb6615905a
open Go.RowKit

set_option maxHeartbeats 400000 in
theorem isZero_any (s : Int) (v : Bool) (w : World) :
    Calls Try.prog 10 #[.agg #[.int .u64 0, .int .i64 s, .pointer none, .bool v]] w fun e w' => e = .returned (.bool (!v)) ∧ Below w.heap.size w w' := by
  go_enter Try.func10, Try.ntmps10
  go_wp2
  go_ret
  exact ⟨rfl, (Below.refl _ _).alloc (Nat.le_refl _) _⟩

set_option maxHeartbeats 400000 in
theorem dbefore_any (s u : Int) (v x : Bool) (w : World) :
    Calls Try.prog 11 #[.agg #[.int .u64 0, .int .i64 s, .pointer none, .bool v], .agg #[.int .u64 0, .int .i64 u, .pointer none, .bool x]] w fun e w' => e = .returned (.bool (decide (s < u))) ∧ Below w.heap.size w w' := by
  go_enter Try.func11, Try.ntmps11
  go_wp2_with (go_at_call 17; refine (before_any s u _).mono ?_; rintro e w1 ⟨rfl, hb⟩)
  go_ret
  exact ⟨rfl, (((Below.refl _ _).alloc (Nat.le_refl _) _).alloc (by simp) _).trans (hb.mono (by simp; omega))⟩

set_option maxHeartbeats 400000 in
theorem dafter_any (s u : Int) (v x : Bool) (w : World) :
    Calls Try.prog 12 #[.agg #[.int .u64 0, .int .i64 s, .pointer none, .bool v], .agg #[.int .u64 0, .int .i64 u, .pointer none, .bool x]] w fun e w' => e = .returned (.bool (decide (u < s))) ∧ Below w.heap.size w w' := by
  go_enter Try.func12, Try.ntmps12
  go_wp2_with (go_at_call 18; refine (after_any s u _).mono ?_; rintro e w1 ⟨rfl, hb⟩)
  go_ret
  exact ⟨rfl, (((Below.refl _ _).alloc (Nat.le_refl _) _).alloc (by simp) _).trans (hb.mono (by simp; omega))⟩

def conB (f t d : Int) (fv tv : Bool) : Bool := (!fv || decide (f ≤ d)) && (!tv || decide (d ≤ t))

set_option maxHeartbeats 400000 in
theorem con_any (f t d : Int) (fv tv dv : Bool) (w : World) :
    Calls Try.prog 7 #[.agg #[.int .u64 0, .int .i64 f, .pointer none, .bool fv, .int .u64 0, .int .i64 t, .pointer none, .bool tv], .agg #[.int .u64 0, .int .i64 d, .pointer none, .bool dv]] w fun e w' => e = .returned (.bool (conB f t d fv tv)) ∧ Below w.heap.size w w' := by
  cases fv <;> cases tv
  · go_enter Try.func7, Try.ntmps7
    go_wp2
    go_ret
    refine ⟨ret_bool (by simp [conB]), ?_⟩
    repeat (first | exact Below.refl _ _ | refine Below.alloc ?_ (by simp; try omega) _)
  · by_cases h2 : d ≤ t
    · have e2 : (decide (t < d)) = false := by simp; omega
      go_enter Try.func7, Try.ntmps7
      go_wp2_with (first | (go_at_call 12; refine (dafter_any _ _ _ _ _).mono ?_; rintro e w1 ⟨rfl, hb⟩) | go_in)
      go_ret
      refine ⟨ret_bool (by simp [conB, h2]), Below.trans ?_ (hb.mono (by simp; omega))⟩
      repeat (first | exact Below.refl _ _ | refine Below.alloc ?_ (by simp; try omega) _)
    · have e2 : (decide (t < d)) = true := by simp; omega
      go_enter Try.func7, Try.ntmps7
      go_wp2_with (first | (go_at_call 12; refine (dafter_any _ _ _ _ _).mono ?_; rintro e w1 ⟨rfl, hb⟩) | go_in)
      go_ret
      refine ⟨ret_bool (by simp [conB, h2]), Below.trans ?_ (hb.mono (by simp; omega))⟩
      repeat (first | exact Below.refl _ _ | refine Below.alloc ?_ (by simp; try omega) _)
  · by_cases h1 : f ≤ d
    · have e1 : (decide (d < f)) = false := by simp; omega
      go_enter Try.func7, Try.ntmps7
      go_wp2_with (first | (go_at_call 11; refine (dbefore_any _ _ _ _ _).mono ?_; rintro e w1 ⟨rfl, hb⟩; obtain ⟨hc, hf⟩ := bcell hb; have hz := hb.size; simp at hz) | go_in)
      go_ret
      refine ⟨ret_bool (by simp [conB, h1]), Below.alloc (Below.trans ?_ (hb.mono (by simp; omega))) (by omega) _⟩
      repeat (first | exact Below.refl _ _ | refine Below.alloc ?_ (by simp; try omega) _)
    · have e1 : (decide (d < f)) = true := by simp; omega
      go_enter Try.func7, Try.ntmps7
      go_wp2_with (first | (go_at_call 11; refine (dbefore_any _ _ _ _ _).mono ?_; rintro e w1 ⟨rfl, hb⟩) | go_in)
      go_ret
      refine ⟨ret_bool (by simp [conB, h1]), Below.trans ?_ (hb.mono (by simp; omega))⟩
      repeat (first | exact Below.refl _ _ | refine Below.alloc ?_ (by simp; try omega) _)
  · by_cases h1 : f ≤ d
    · have e1 : (decide (d < f)) = false := by simp; omega
      by_cases h2 : d ≤ t
      · have e2 : (decide (t < d)) = false := by simp; omega
        go_enter Try.func7, Try.ntmps7
        go_wp2_with (first | (go_at_call 11; refine (dbefore_any _ _ _ _ _).mono ?_; rintro e w1 ⟨rfl, hb⟩; obtain ⟨hc, hf⟩ := bcell hb; have hz : w.heap.size + 1 < w1.heap.size := (by have := hb.size; simp at this; omega); have hz2 : w.heap.size < w1.heap.size := (by omega)) | (go_at_call 12; refine (dafter_any _ _ _ _ _).mono ?_; rintro e w2 ⟨rfl, hb2⟩) | go_in)
        go_ret
        refine ⟨ret_bool (by simp [conB, h1, h2]), Below.trans (Below.alloc (Below.trans ?_ (hb.mono (by simp; omega))) (by omega) _) (hb2.mono (by simp; omega))⟩
        repeat (first | exact Below.refl _ _ | refine Below.alloc ?_ (by simp; try omega) _)
      · have e2 : (decide (t < d)) = true := by simp; omega
        go_enter Try.func7, Try.ntmps7
        go_wp2_with (first | (go_at_call 11; refine (dbefore_any _ _ _ _ _).mono ?_; rintro e w1 ⟨rfl, hb⟩; obtain ⟨hc, hf⟩ := bcell hb; have hz : w.heap.size + 1 < w1.heap.size := (by have := hb.size; simp at this; omega); have hz2 : w.heap.size < w1.heap.size := (by omega)) | (go_at_call 12; refine (dafter_any _ _ _ _ _).mono ?_; rintro e w2 ⟨rfl, hb2⟩) | go_in)
        go_ret
        refine ⟨ret_bool (by simp [conB, h2]), Below.trans (Below.alloc (Below.trans ?_ (hb.mono (by simp; omega))) (by omega) _) (hb2.mono (by simp; omega))⟩
        repeat (first | exact Below.refl _ _ | refine Below.alloc ?_ (by simp; try omega) _)
    · have e1 : (decide (d < f)) = true := by simp; omega
      go_enter Try.func7, Try.ntmps7
      go_wp2_with (first | (go_at_call 11; refine (dbefore_any _ _ _ _ _).mono ?_; rintro e w1 ⟨rfl, hb⟩) | go_in)
      go_ret
      refine ⟨ret_bool (by have h3 : decide (f ≤ d) = false := by simp; omega
                           simp [conB, h3]), Below.trans ?_ (hb.mono (by simp; omega))⟩
      repeat (first | exact Below.refl _ _ | refine Below.alloc ?_ (by simp; try omega) _)
end Go.Proofs.Qxb6615905a
