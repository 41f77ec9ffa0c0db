/-
  THE LAW 'FnSubWordUndoneByAddWord'.
-/
import Derived.Test.Qxb6609014aWC
namespace Go.Proofs.Qxb6609014a
open Go.RowKit

theorem Row.cells {w : World} {g : Nat} {L : List Int} (h : Row w g L) : ∀ j v, L[j]? = some v → w.cell? ⟨g, 0 + j, none⟩ = some (.int .u64 v) := by
  intro j v hv
  rw [Nat.zero_add, cell_of_row w g _ _ _ _ h]
  simp [hv]

theorem cells_below {B g o : Nat} {w w' : World} {zs : List Int} (hb : Below B w w') (hg : g < B) (hz : ∀ j v, zs[j]? = some v → w.cell? ⟨g, o + j, none⟩ = some (.int .u64 v)) : ∀ j v, zs[j]? = some v → w'.cell? ⟨g, o + j, none⟩ = some (.int .u64 v) :=
  fun j v hv => (hb.cell (p := ⟨g, o + j, none⟩) hg).trans (hz j v hv)

theorem add_at (g o j : Nat) : (⟨g, o, none⟩ : Addr).add j = ⟨g, o + j, none⟩ := by
  by_cases h : j = 0
  · subst h; simp [Addr.add]
  · simp [Addr.add, h]

theorem low_sub (x b : Int) : IntKind.u64.wrap (x - b) = subLo x b := by rw [IntKind.wrap_u64]; rfl

set_option maxHeartbeats 400000 in
theorem undone_one (g o n c : Nat) (x : Int) (xs : List Int) (b : Int) (hl : Hid ((x :: xs).length = n)) (hn0 : 1 ≤ n) (hn : n ≤ 65536) (hw : Words (x :: xs)) (hb : Word b) (w : World) (hz : ∀ j v, (x :: xs)[j]? = some v → w.cell? ⟨g, o + j, none⟩ = some (.int .u64 v)) :
    Calls Try.prog 3 #[.slice (some ⟨g, o, none⟩) n c, .int .u64 b] w fun e w' => e = .returned (.bool true) ∧ Below w.heap.size w w' := by
  have HZ : Hid (∀ j v, (x :: xs)[j]? = some v → w.cell? ⟨g, o + j, none⟩ = some (.int .u64 v)) := hz
  have hg : g < w.heap.size := block_lt_of_cell (hz 0 x rfl)
  clear hz
  have hne : ((n : Int) == 0) = false := by simp; omega
  have hc0 : w.cell? ⟨g, o, none⟩ = some (.int .u64 x) := HZ.out 0 x rfl
  go_enter Try.func3, Try.ntmps3
  go_wp2_with fail
  refine (bytes5 _ n c b (by omega) _).mono ?_
  rintro e w1 ⟨rfl, rfl⟩
  rw [show decide (n ≤ 1048576) = true by simp; omega]
  go_wp2_with fail
  refine (clone_some ⟨g, o, none⟩ n c (x :: xs) hl hn _ (by simpa only [add_at] using HZ.out)).mono ?_
  rintro e w2 ⟨rfl, hr2, hb2, hs2⟩
  have HS2 : Hid (w2.heap.size = w1.heap.size + 1) := hs2
  clear hs2
  go_wp2_with fail
  refine (zsub_any w1.heap.size 0 n n [] (x :: xs) [] b rfl hl hn hw hb _ (by simpa using hr2)).mono ?_
  rintro e w3 ⟨rfl, ht3, hr3⟩
  obtain ⟨r, hlow⟩ := subW_low x xs b (hw x (by simp))
  have HB : Hid ((subW (x :: xs) b).2 = if belowB (x :: xs) b then 1 else 0) := subW_borrow x xs b hw hb
  have hr3' : Row w3 w1.heap.size (subW (x :: xs) b).1 := by simpa using hr3
  clear hr3
  have hc3 : w3.cell? ⟨w1.heap.size, 0, none⟩ = some (.int .u64 (subLo x b)) := by
    have := Row.cells hr3' 0 (subLo x b) (by rw [hlow]; rfl)
    simpa using this
  have hb3 : Below w1.heap.size w1 w3 := hb2.trans (ht3.below (Nat.le_refl _))
  have hd3 : w3.cell? ⟨g, o, none⟩ = some (.int .u64 x) := (hb3.cell (p := ⟨g, o, none⟩) hg).trans hc0
  have HS3 : Hid (w3.heap.size = w1.heap.size + 1) := ht3.size.trans HS2.out
  have hcs := cells_below hb3 hg HZ.out
  have HCS : Hid (∀ j v, (x :: xs)[j]? = some v → w3.cell? ⟨g, o + j, none⟩ = some (.int .u64 v)) := hcs
  clear ht3 hb2 hr2 HS2 hcs HZ hc0 hlow
  go_wp2_with fail
  refine (below_any g o n c x xs b hl hn0 hn _ HCS.out).mono ?_
  rintro e w4 ⟨rfl, rfl⟩
  have hlw : (subLo x b != IntKind.u64.wrap (x - b)) = false := by rw [low_sub]; simp
  cases hB : belowB (x :: xs) b
  · have e2 : (subW (x :: xs) b).2 = 0 := by rw [HB.out, hB]; rfl
    rw [e2]
    have E2 : Hid ((subW (x :: xs) b).2 = 0) := e2
    clear e2 hB HB
    go_wp2_with fail
    go_quiet (fail)
    go_wp2_with fail
    clear hlw hc3 hd3
    refine (zadd_any w1.heap.size 0 n n [] (subW (x :: xs) b).1 [] b rfl ((subW_length _ _).trans hl.out) hn (subW_words _ _ hw) hb _ (by show Row w4 w1.heap.size ([] ++ _ ++ []); simpa using hr3')).mono ?_
    rw [addW_subW _ _ hw hb, E2.out]
    rintro e w5 ⟨rfl, ht5, hr5⟩
    have hr5' : Row w5 w1.heap.size (x :: xs) := by simpa using hr5
    have hb5 : Below w1.heap.size w1 w5 := (below_drewN hb3 _).trans (ht5.below (Nat.le_refl _))
    have HCS5 : Hid (∀ j v, (x :: xs)[j]? = some v → w5.cell? ⟨g, o + j, none⟩ = some (.int .u64 v)) := cells_below (ht5.below (Nat.le_refl _)) hg HCS.out
    clear hr5 ht5 hr3' hb3 HS3 HCS
    go_wp2_with fail
    refine (eqW_any w1.heap.size 0 g o n n c (x :: xs) hl hn _ (Row.cells hr5') HCS5.out).mono ?_
    rintro e w6 ⟨rfl, q, rfl⟩
    go_wp2_with fail
    go_ret
    exact ⟨rfl, below_drewN hb5 _⟩
  · have e2 : (subW (x :: xs) b).2 = 1 := by rw [HB.out, hB]; rfl
    rw [e2]
    have E2 : Hid ((subW (x :: xs) b).2 = 1) := e2
    clear e2 hB HB
    go_wp2_with fail
    go_quiet (fail)
    go_wp2_with fail
    clear hlw hc3 hd3
    refine (zadd_any w1.heap.size 0 n n [] (subW (x :: xs) b).1 [] b rfl ((subW_length _ _).trans hl.out) hn (subW_words _ _ hw) hb _ (by show Row w4 w1.heap.size ([] ++ _ ++ []); simpa using hr3')).mono ?_
    rw [addW_subW _ _ hw hb, E2.out]
    rintro e w5 ⟨rfl, ht5, hr5⟩
    have hr5' : Row w5 w1.heap.size (x :: xs) := by simpa using hr5
    have hb5 : Below w1.heap.size w1 w5 := (below_drewN hb3 _).trans (ht5.below (Nat.le_refl _))
    have HCS5 : Hid (∀ j v, (x :: xs)[j]? = some v → w5.cell? ⟨g, o + j, none⟩ = some (.int .u64 v)) := cells_below (ht5.below (Nat.le_refl _)) hg HCS.out
    clear hr5 ht5 hr3' hb3 HS3 HCS
    go_wp2_with fail
    refine (eqW_any w1.heap.size 0 g o n n c (x :: xs) hl hn _ (Row.cells hr5') HCS5.out).mono ?_
    rintro e w6 ⟨rfl, q, rfl⟩
    go_wp2_with fail
    go_ret
    exact ⟨rfl, below_drewN hb5 _⟩

set_option maxHeartbeats 400000 in
theorem undone_nil (c : Nat) (b : Int) (w : World) :
    Calls Try.prog 3 #[.slice none 0 c, .int .u64 b] w fun e w' => e = .returned (.bool true) ∧ Below w.heap.size w w' := by
  go_enter Try.func3, Try.ntmps3
  go_wp2_with fail
  refine (bytes5 _ 0 c b (by omega) _).mono ?_
  rintro e w1 ⟨rfl, rfl⟩
  rw [show decide (0 ≤ 1048576) = true by simp]
  go_wp2_with fail
  refine (clone_nil 0 c _).mono ?_
  rintro e w2 ⟨rfl, rfl⟩
  go_wp2_with fail
  refine (zsub_none _ 0 b _).mono ?_
  rintro e w3 ⟨rfl, rfl⟩
  go_wp2_with fail
  refine (zadd_none _ 0 b _).mono ?_
  rintro e w3 ⟨rfl, rfl⟩
  go_wp2_with fail
  refine (eqW_none _ _ 0 c _).mono ?_
  rintro e w3 ⟨rfl, rfl⟩
  go_wp2_with fail
  go_ret
  exact ⟨rfl, Below.refl _ _⟩

set_option maxHeartbeats 400000 in
theorem undone_zero (x : Addr) (c : Nat) (b : Int) (w : World) :
    Calls Try.prog 3 #[.slice (some x) 0 c, .int .u64 b] w fun e w' => e = .returned (.bool true) ∧ Below w.heap.size w w' := by
  go_enter Try.func3, Try.ntmps3
  go_wp2_with fail
  refine (bytes5 _ 0 c b (by omega) _).mono ?_
  rintro e w1 ⟨rfl, rfl⟩
  rw [show decide (0 ≤ 1048576) = true by simp]
  go_wp2_with fail
  refine (clone_some x 0 c [] rfl (by omega) _ (fun j v h => by simp at h)).mono ?_
  rintro e w2 ⟨rfl, _, hb2, _⟩
  go_wp2_with fail
  refine (zsub_none _ 0 b _).mono ?_
  rintro e w3 ⟨rfl, rfl⟩
  go_wp2_with fail
  refine (zadd_none _ 0 b _).mono ?_
  rintro e w3 ⟨rfl, rfl⟩
  go_wp2_with fail
  refine (eqW_none _ _ 0 c _).mono ?_
  rintro e w3 ⟨rfl, rfl⟩
  go_wp2_with fail
  go_ret
  exact ⟨rfl, hb2⟩

set_option maxHeartbeats 400000 in
/-- Too long: true at once. -/
theorem undone_long (a : Option Addr) (n c : Nat) (b : Int) (hn : 65536 < n) (hm : n ≤ 9223372036854775807) (w : World) :
    Calls Try.prog 3 #[.slice a n c, .int .u64 b] w fun e w' => e = .returned (.bool true) ∧ Below w.heap.size w w' := by
  have h' : (65536 : Int) < n := by omega
  by_cases h : n ≤ 1048576
  · go_enter Try.func3, Try.ntmps3
    go_wp2_with fail
    refine (bytes5 _ n c b hm _).mono ?_
    rintro e w1 ⟨rfl, rfl⟩
    rw [show decide (n ≤ 1048576) = true by simpa using h]
    go_wp2_with fail
    go_ret
    exact ⟨rfl, Below.refl _ _⟩
  · go_enter Try.func3, Try.ntmps3
    go_wp2_with fail
    refine (bytes5 _ n c b hm _).mono ?_
    rintro e w1 ⟨rfl, rfl⟩
    rw [show decide (n ≤ 1048576) = false by simpa using h]
    go_wp2_with fail
    go_ret
    exact ⟨rfl, Below.refl _ _⟩
end Go.Proofs.Qxb6609014a
