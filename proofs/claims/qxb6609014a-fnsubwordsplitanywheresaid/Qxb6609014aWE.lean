/-
  THE LAW 'FnSubWordSplitAnywhere'.
-/
import Derived.Test.Qxb6609014aWD
namespace Go.Proofs.Qxb6609014a
open Go.RowKit

theorem Row.below {B g : Nat} {w w' : World} {L : List Int} (hb : Below B w w') (hg : g < B) (h : Row w g L) : Row w' g L := (hb.block g hg).trans h

set_option maxHeartbeats 400000 in
theorem split_one (g o n c : Nat) (x : Int) (xs : List Int) (b : Int) (k : Nat) (hl : Hid ((x :: xs).length = n)) (hn0 : 1 ≤ n) (hn : n ≤ 65536) (hk : k ≤ n) (hw : Words (x :: xs)) (hb : Word b) (w : World) (hz : ∀ j v, (x :: xs)[j]? = some v → w.cell? ⟨g, o + j, none⟩ = some (.int .u64 v)) :
    Calls Try.prog 4 #[.slice (some ⟨g, o, none⟩) n c, .int .u64 b, .int .i64 k] w fun e w' => e = .returned (.bool true) ∧ Below w.heap.size w w' := by
  have HZ : Hid (∀ j v, (x :: xs)[j]? = some v → w.cell? ⟨g, o + j, none⟩ = some (.int .u64 v)) := hz
  have hg : g < w.heap.size := block_lt_of_cell (hz 0 x rfl)
  have HZ0 := HZ
  clear hz
  have hne : ((n : Int) == 0) = false := by simp; omega
  have hk1 : (k : Int) ≤ (n : Int) := by omega
  go_enter Try.func4, Try.ntmps4
  go_wp2_with fail
  refine (bytes11 _ n c b k (by omega) _).mono ?_
  intro e w1 he
  obtain ⟨he, hw1⟩ := he
  subst he hw1
  rw [show decide (n ≤ 1048576) = true by simp; omega]
  go_wp2_with fail
  refine (clone_some ⟨g, o, none⟩ n c (x :: xs) hl hn _ (by simpa only [add_at] using HZ.out)).mono ?_
  rintro e w2 ⟨rfl, hr2, hb2, hs2⟩
  have HS2 : Hid (w2.heap.size = w1.heap.size + 1) := hs2
  clear hs2
  go_wp2_with fail
  refine (zsub_any w1.heap.size 0 n n [] (x :: xs) [] b rfl hl hn hw hb _ (by simpa using hr2)).mono ?_
  rintro e w3 ⟨rfl, ht3, hr3⟩
  obtain ⟨r, hlow⟩ := subW_low x xs b (hw x (by simp))
  have hr3' : Row w3 w1.heap.size (subW (x :: xs) b).1 := by simpa using hr3
  have hb3 : Below w1.heap.size w1 w3 := hb2.trans (ht3.below (Nat.le_refl _))
  have HS3 : Hid (w3.heap.size = w1.heap.size + 1) := ht3.size.trans HS2.out
  have HC3 : Hid (∀ j v, (x :: xs)[j]? = some v → w3.cell? ⟨g, o + j, none⟩ = some (.int .u64 v)) := cells_below hb3 hg HZ.out
  clear ht3 hb2 hr2 HS2 HZ hr3
  go_wp2_with fail
  refine (clone_some ⟨g, o, none⟩ n c (x :: xs) hl hn _ (by simpa only [add_at] using HC3.out)).mono ?_
  rintro e w4 ⟨rfl, hr4, hb4, hs4⟩
  have hw4 : Row w4 w1.heap.size (subW (x :: xs) b).1 := hr3'.below hb4 (by have := HS3.out; omega)
  have hB4 : Below w1.heap.size w1 w4 := hb3.trans (hb4.mono (by have := HS3.out; omega))
  have HG : Hid (w3.heap.size = w1.heap.size + 1) := HS3
  have HS4 : Hid (w4.heap.size = w3.heap.size + 1) := hs4
  clear hs4 hr3' hb3 HC3 hb4 HS3
  have HL : Hid ((subW (x :: xs) b).1 = subLo x b :: r) := hlow
  clear hlow
  have hne2 : w1.heap.size ≠ w3.heap.size := by have := HG.out; omega
  have HNE : Hid (w1.heap.size ≠ w3.heap.size) := hne2
  clear hne2
  have hwt : Words ((x :: xs).take k) := fun v hv => hw v (List.mem_of_mem_take hv)
  have hwd : Words ((x :: xs).drop k) := fun v hv => hw v (List.mem_of_mem_drop hv)
  have HLT : Hid (((x :: xs).take k).length = k) := by show _ = _; rw [List.length_take]; have := hl.out; omega
  have HLD : Hid (((x :: xs).drop k).length = n - k) := by show _ = _; rw [List.length_drop]; have := hl.out; omega
  have HAP : Hid (subW (x :: xs) b = ((subW ((x :: xs).take k) b).1 ++ (subW ((x :: xs).drop k) (subW ((x :: xs).take k) b).2).1, (subW ((x :: xs).drop k) (subW ((x :: xs).take k) b).2).2)) := by
    show _ = _
    rw [← subW_append, List.take_append_drop]
  go_wp2_with fail
  refine (zsub_any w3.heap.size 0 k n [] ((x :: xs).take k) ((x :: xs).drop k) b rfl HLT (by omega) hwt hb _ (by simpa using hr4)).mono ?_
  rintro e w5 ⟨rfl, ht5, hr5⟩
  have hr5' : Row w5 w3.heap.size ((subW ((x :: xs).take k) b).1 ++ (x :: xs).drop k ++ []) := by simpa using hr5
  have hw5 : Row w5 w1.heap.size (subW (x :: xs) b).1 := ht5.row HNE.out hw4
  have hB5 : Below w1.heap.size w1 w5 := hB4.trans (ht5.below (by have := HG.out; omega))
  have hb1 : Word (subW ((x :: xs).take k) b).2 := subW_word _ _ hb
  have HLP : Hid ((subW ((x :: xs).take k) b).1.length = k) := (subW_length _ _).trans HLT.out
  clear hr4 hw4 hB4 HS4 ht5 hr5
  by_cases hkn : k < n
  · have hkn' : (k : Int) < n := by omega
    go_wp2_with fail
    refine (zsub_any w3.heap.size k (n - k) (n - k) (subW ((x :: xs).take k) b).1 ((x :: xs).drop k) [] _ HLP HLD (by omega) hwd hb1 _ hr5').mono ?_
    rintro e w6 ⟨rfl, ht6, hr6⟩
    have hw6 : Row w6 w1.heap.size (subW (x :: xs) b).1 := ht6.row HNE.out hw5
    have hB6 : Below w1.heap.size w1 w6 := hB5.trans (ht6.below (by have := HG.out; omega))
    have hr6' : Row w6 w3.heap.size (subW (x :: xs) b).1 := by
      rw [HAP.out]
      simpa using hr6
    rw [show (subW ((x :: xs).drop k) (subW ((x :: xs).take k) b).2).2 = (subW (x :: xs) b).2 by rw [HAP.out]]
    clear hr6 hr5' hw5 hB5 ht6 HAP HLT HLD HLP hb1 hwt hwd
    have HC6 : Hid (∀ j v, (x :: xs)[j]? = some v → w6.cell? ⟨g, o + j, none⟩ = some (.int .u64 v)) := cells_below hB6 hg HZ0.out
    have HLS : Hid ((subW (x :: xs) b).1.length = n) := (subW_length _ _).trans hl.out
    go_wp2_with fail
    refine (eqW_any w1.heap.size 0 w3.heap.size 0 n n n (subW (x :: xs) b).1 HLS hn _ (Row.cells hw6) (Row.cells hr6')).mono ?_
    rintro e w7 ⟨rfl, q, rfl⟩
    have hc6 : w6.cell? ⟨w1.heap.size, 0, none⟩ = some (.int .u64 (subLo x b)) := by
      have := Row.cells hw6 0 (subLo x b) (by rw [HL.out]; rfl)
      simpa using this
    have hd6 : w6.cell? ⟨g, o, none⟩ = some (.int .u64 x) := HC6.out 0 x rfl
    have HB : Hid ((subW (x :: xs) b).2 = if belowB (x :: xs) b then 1 else 0) := subW_borrow x xs b hw hb
    have hlw : (subLo x b == IntKind.u64.wrap (x - b)) = true := by rw [low_sub]; simp
    clear hw6 hr6'
    go_wp2_with fail
    refine (below_any g o n c x xs b hl hn0 hn (w6.drewN q) (by exact HC6.out)).mono ?_
    intro e w8 he
    obtain ⟨he, hw8⟩ := he
    subst he hw8
    cases hB : belowB (x :: xs) b
    · have e2 : (subW (x :: xs) b).2 = 0 := by rw [HB.out, hB]; rfl
      rw [e2]
      clear e2 hB HB
      go_wp2_with fail
      go_quiet (fail)
      go_wp2_with fail
      go_ret
      exact ⟨rfl, below_drewN (below_drewN hB6 _) _⟩
    · have e2 : (subW (x :: xs) b).2 = 1 := by rw [HB.out, hB]; rfl
      rw [e2]
      clear e2 hB HB
      go_wp2_with fail
      go_quiet (fail)
      go_wp2_with fail
      go_ret
      exact ⟨rfl, below_drewN (below_drewN hB6 _) _⟩
  · obtain rfl : k = n := by omega
    have HT : Hid ((x :: xs).take k = x :: xs) := by show _ = _; rw [List.take_of_length_le (by have := hl.out; omega)]
    have HD : Hid ((x :: xs).drop k = []) := by show _ = _; rw [List.drop_eq_nil_of_le (by have := hl.out; omega)]
    rw [HT.out]
    rw [HT.out, HD.out] at hr5'
    clear HAP HLT HLD HLP hb1 hwt hwd
    go_wp2_with fail
    refine (zsub_none _ _ _ _).mono ?_
    intro e w6 he
    obtain ⟨he, hw6'⟩ := he
    subst he hw6'
    have hw6 := hw5
    have hB6 := hB5
    have hr6' : Row w6 w3.heap.size (subW (x :: xs) b).1 := by simpa using hr5'
    clear hw5 hB5 hr5' HT HD
    have HC6 : Hid (∀ j v, (x :: xs)[j]? = some v → w6.cell? ⟨g, o + j, none⟩ = some (.int .u64 v)) := cells_below hB6 hg HZ0.out
    have HLS : Hid ((subW (x :: xs) b).1.length = k) := (subW_length _ _).trans hl.out
    go_wp2_with fail
    refine (eqW_any w1.heap.size 0 w3.heap.size 0 k k k (subW (x :: xs) b).1 HLS hn _ (Row.cells hw6) (Row.cells hr6')).mono ?_
    rintro e w7 ⟨rfl, q, rfl⟩
    have hc6 : w6.cell? ⟨w1.heap.size, 0, none⟩ = some (.int .u64 (subLo x b)) := by
      have := Row.cells hw6 0 (subLo x b) (by rw [HL.out]; rfl)
      simpa using this
    have hd6 : w6.cell? ⟨g, o, none⟩ = some (.int .u64 x) := HC6.out 0 x rfl
    have HB : Hid ((subW (x :: xs) b).2 = if belowB (x :: xs) b then 1 else 0) := subW_borrow x xs b hw hb
    have hlw : (subLo x b == IntKind.u64.wrap (x - b)) = true := by rw [low_sub]; simp
    clear hw6 hr6'
    go_wp2_with fail
    refine (below_any g o k c x xs b hl hn0 hn (w6.drewN q) (by exact HC6.out)).mono ?_
    intro e w8 he
    obtain ⟨he, hw8⟩ := he
    subst he hw8
    cases hB : belowB (x :: xs) b
    · have e2 : (subW (x :: xs) b).2 = 0 := by rw [HB.out, hB]; rfl
      rw [e2]
      clear e2 hB HB
      go_wp2_with fail
      go_quiet (fail)
      go_wp2_with fail
      go_ret
      exact ⟨rfl, below_drewN (below_drewN hB6 _) _⟩
    · have e2 : (subW (x :: xs) b).2 = 1 := by rw [HB.out, hB]; rfl
      rw [e2]
      clear e2 hB HB
      go_wp2_with fail
      go_quiet (fail)
      go_wp2_with fail
      go_ret
      exact ⟨rfl, below_drewN (below_drewN hB6 _) _⟩

set_option maxHeartbeats 400000 in
theorem split_nil (c : Nat) (b : Int) (w : World) :
    Calls Try.prog 4 #[.slice none 0 c, .int .u64 b, .int .i64 0] w fun e w' => e = .returned (.bool true) ∧ Below w.heap.size w w' := by
  go_enter Try.func4, Try.ntmps4
  go_wp2_with fail
  refine (bytes11 _ 0 c b 0 (by omega) _).mono ?_
  rintro e w1 ⟨rfl, rfl⟩
  rw [show decide (0 ≤ 1048576) = true by simp]
  go_wp2_with fail
  refine (clone_nil 0 c _).mono ?_
  rintro e w2 ⟨rfl, rfl⟩
  go_wp2_with fail
  refine (zsub_none _ 0 b _).mono ?_
  rintro e w3 ⟨rfl, rfl⟩
  go_wp2_with fail
  refine (clone_nil 0 c _).mono ?_
  rintro e w2 ⟨rfl, rfl⟩
  go_wp2_with fail
  refine (zsub_none _ 0 b _).mono ?_
  rintro e w3 ⟨rfl, rfl⟩
  go_wp2_with fail
  refine (zsub_none _ 0 b _).mono ?_
  rintro e w3 ⟨rfl, rfl⟩
  go_wp2_with fail
  refine (eqW_none _ _ 0 0 _).mono ?_
  rintro e w3 ⟨rfl, rfl⟩
  go_wp2_with fail
  go_ret
  exact ⟨rfl, Below.refl _ _⟩

set_option maxHeartbeats 400000 in
theorem split_zero (x : Addr) (c : Nat) (b : Int) (w : World) :
    Calls Try.prog 4 #[.slice (some x) 0 c, .int .u64 b, .int .i64 0] w fun e w' => e = .returned (.bool true) ∧ Below w.heap.size w w' := by
  go_enter Try.func4, Try.ntmps4
  go_wp2_with fail
  refine (bytes11 _ 0 c b 0 (by omega) _).mono ?_
  rintro e w1 ⟨rfl, rfl⟩
  rw [show decide (0 ≤ 1048576) = true by simp]
  go_wp2_with fail
  refine (clone_some x 0 c [] rfl (by omega) _ (fun j v h => by simp at h)).mono ?_
  rintro e w2 ⟨rfl, _, hb2, _⟩
  go_wp2_with fail
  refine (zsub_none _ 0 b _).mono ?_
  rintro e w3 ⟨rfl, rfl⟩
  go_wp2_with fail
  refine (clone_some x 0 c [] rfl (by omega) _ (fun j v h => by simp at h)).mono ?_
  rintro e w4 ⟨rfl, _, hb4, _⟩
  have hB := hb2.trans (hb4.mono hb2.size)
  clear hb2 hb4
  go_wp2_with fail
  refine (zsub_none _ 0 b _).mono ?_
  rintro e w5 ⟨rfl, rfl⟩
  go_wp2_with fail
  refine (zsub_none _ 0 b _).mono ?_
  rintro e w5 ⟨rfl, rfl⟩
  go_wp2_with fail
  refine (eqW_none _ _ 0 0 _).mono ?_
  rintro e w5 ⟨rfl, rfl⟩
  go_wp2_with fail
  go_ret
  exact ⟨rfl, hB⟩

set_option maxHeartbeats 400000 in
/-- Too long: true at once. -/
theorem split_long (a : Option Addr) (n c : Nat) (b k : Int) (hn : 65536 < n) (hm : n ≤ 9223372036854775807) (w : World) :
    Calls Try.prog 4 #[.slice a n c, .int .u64 b, .int .i64 k] w fun e w' => e = .returned (.bool true) ∧ Below w.heap.size w w' := by
  have h' : (65536 : Int) < n := by omega
  by_cases h : n ≤ 1048576
  · go_enter Try.func4, Try.ntmps4
    go_wp2_with fail
    refine (bytes11 _ n c b k hm _).mono ?_
    rintro e w1 ⟨rfl, rfl⟩
    rw [show decide (n ≤ 1048576) = true by simpa using h]
    go_wp2_with fail
    go_ret
    exact ⟨rfl, Below.refl _ _⟩
  · go_enter Try.func4, Try.ntmps4
    go_wp2_with fail
    refine (bytes11 _ n c b k hm _).mono ?_
    rintro e w1 ⟨rfl, rfl⟩
    rw [show decide (n ≤ 1048576) = false by simpa using h]
    go_wp2_with fail
    go_ret
    exact ⟨rfl, Below.refl _ _⟩

set_option maxHeartbeats 400000 in
/-- The cut lies outside: true at once. -/
theorem split_out (a : Option Addr) (n c : Nat) (b k : Int) (hn : n ≤ 65536) (hk : k < 0 ∨ (n : Int) < k) (w : World) :
    Calls Try.prog 4 #[.slice a n c, .int .u64 b, .int .i64 k] w fun e w' => e = .returned (.bool true) ∧ Below w.heap.size w w' := by
  have h' : ¬ (65536 : Int) < n := by omega
  rcases hk with h | h
  · go_enter Try.func4, Try.ntmps4
    go_wp2_with fail
    refine (bytes11 _ n c b k (by omega) _).mono ?_
    rintro e w1 ⟨rfl, rfl⟩
    rw [show decide (n ≤ 1048576) = true by simp; omega]
    go_wp2_with fail
    go_ret
    exact ⟨rfl, Below.refl _ _⟩
  · have h2 : ¬ k < 0 := by omega
    go_enter Try.func4, Try.ntmps4
    go_wp2_with fail
    refine (bytes11 _ n c b k (by omega) _).mono ?_
    rintro e w1 ⟨rfl, rfl⟩
    rw [show decide (n ≤ 1048576) = true by simp; omega]
    go_wp2_with fail
    go_ret
    exact ⟨rfl, Below.refl _ _⟩
end Go.Proofs.Qxb6609014a
