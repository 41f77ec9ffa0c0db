/-
  THE WALKS of cloneW, below, eqW, and the two guards on lengths.
-/
import Derived.Test.Qxb6609014aWB
import Derived.Deep.OwnRows
import Derived.Lib.SliceRun
import Derived.Deep.QuietTactic
import Derived.BigQuiet
namespace Go.Proofs.Qxb6609014a
open Go.RowKit

theorem info23 : (Try.prog.info? 23).map (fun i => (i.zero, i.size, i.bytes)) = some (some (.int .u64 0), 1, 8) := by kernel_rfl
theorem size23 : (Try.prog.info? 23).map (·.size) = some 1 := by kernel_rfl

set_option maxHeartbeats 400000 in
theorem clone_nil (n c : Nat) (w : World) :
    Calls Try.prog 6 #[.slice none n c] w fun e w' => e = .returned (.slice none 0 0) ∧ w' = w := by
  have hn := fun w => Lib.run_eql_slice_nil (P := Try.prog) w 22 23 none n c 0 0 Try.underlying22
  go_enter Try.func6, Try.ntmps6
  go_wp2
  go_ret
  exact ⟨rfl, rfl⟩

set_option maxHeartbeats 400000 in
theorem clone_some (x : Addr) (n c : Nat) (zs : List Int) (hl : Hid (zs.length = n)) (hn : n ≤ 65536) (w : World) (hz : ∀ j v, zs[j]? = some v → w.cell? (x.add j) = some (.int .u64 v)) :
    Calls Try.prog 6 #[.slice (some x) n c] w fun e w' => e = .returned (.slice (some ⟨w.heap.size, 0, none⟩) n n) ∧ Row w' w.heap.size zs ∧ Below w.heap.size w w' ∧ w'.heap.size = w.heap.size + 1 := by
  have hnil := fun w => Lib.run_eql_slice_nil (P := Try.prog) w 22 23 (some x) n c 0 0 Try.underlying22
  have hmk := run_make_row' (P := Try.prog) 22 23 (.int .u64 0) 8 Try.underlying22 info23 rfl .i64 .i64 n (by omega) (by omega)
  have hsz : (madeCells #[.int .u64 0] n).size = n := size_madeCells _ _
  have hcp := run_copy_row (P := Try.prog) (w.alloc (.cells (madeCells #[.int .u64 0] n) 23)) 22 22 3 23 w.heap.size 0 n n x n c (madeCells #[.int .u64 0] n) 23 (zs.map (Value.int .u64)) Try.underlying22 size23 (heap_alloc_new w _)
    (by have := hl.out; simp [this]) (fun j v hv => by
      rw [List.getElem?_map] at hv
      obtain ⟨u, hu, rfl⟩ := Option.map_eq_some_iff.1 hv
      have h1 := hz j u hu
      exact (((Below.refl w.heap.size w).alloc (Nat.le_refl _) _).cell (p := x.add j) (block_lt_of_cell h1)).trans h1)
    (by have := hl.out; rw [hsz]; simp; omega) (fun v hv => by obtain ⟨u, _, rfl⟩ := List.mem_map.1 hv; rfl)
  have hR : Row ((w.alloc (.cells (madeCells #[.int .u64 0] n) 23)).setRow w.heap.size (List.take 0 (madeCells #[.int .u64 0] n).toList ++ zs.map (Value.int .u64) ++ List.drop (0 + (zs.map (Value.int .u64)).length) (madeCells #[.int .u64 0] n).toList).toArray) w.heap.size zs := by
    unfold Row
    rw [setRow_heap _ _ _ _ 23 _ (heap_alloc_new w _)]
    have : zs.length = n := hl.out
    simp [this, hsz]
  have hB : Below w.heap.size w ((w.alloc (.cells (madeCells #[.int .u64 0] n) 23)).setRow w.heap.size (List.take 0 (madeCells #[.int .u64 0] n).toList ++ zs.map (Value.int .u64) ++ List.drop (0 + (zs.map (Value.int .u64)).length) (madeCells #[.int .u64 0] n).toList).toArray) :=
    below_setRow ((Below.refl w.heap.size w).alloc (Nat.le_refl _) _) (Nat.le_refl _) _
  have hS : ((w.alloc (.cells (madeCells #[.int .u64 0] n) 23)).setRow w.heap.size (List.take 0 (madeCells #[.int .u64 0] n).toList ++ zs.map (Value.int .u64) ++ List.drop (0 + (zs.map (Value.int .u64)).length) (madeCells #[.int .u64 0] n).toList).toArray).heap.size = w.heap.size + 1 := by
    rw [size_setRow]; simp
  generalize ((w.alloc (.cells (madeCells #[.int .u64 0] n) 23)).setRow w.heap.size (List.take 0 (madeCells #[.int .u64 0] n).toList ++ zs.map (Value.int .u64) ++ List.drop (0 + (zs.map (Value.int .u64)).length) (madeCells #[.int .u64 0] n).toList).toArray) = W at hcp hR hB hS
  have HS : Hid (W.heap.size = w.heap.size + 1) := hS
  clear hsz hz hS
  go_enter Try.func6, Try.ntmps6
  go_wp2
  go_ret
  exact ⟨rfl, hR, hB, HS.out⟩

theorem ret_b {a b : Bool} (h : a = b) : Ending.returned (.bool a) = .returned (.bool b) := by rw [h]

theorem belowB_false (x : Int) (xs : List Int) (b : Int) (k : Nat) (y : Int) (hy : (x :: xs)[k]? = some y) (h1 : 1 ≤ k) (h0 : y ≠ 0) : belowB (x :: xs) b = false := by
  obtain ⟨k, rfl⟩ : ∃ j, k = j + 1 := ⟨k - 1, by omega⟩
  rw [List.getElem?_cons_succ] at hy
  have hm : y ∈ xs := List.mem_of_getElem? hy
  simp only [belowB, Bool.and_eq_false_iff]
  right
  rw [List.all_eq_false]
  exact ⟨y, hm, by simpa using h0⟩
theorem belowB_true (x : Int) (xs : List Int) (b : Int) (hx : x < b) (h : ∀ j, 1 ≤ j → j < (x :: xs).length → (x :: xs)[j]? = some 0) : belowB (x :: xs) b = true := by
  simp only [belowB, Bool.and_eq_true, decide_eq_true_eq, List.all_eq_true, beq_iff_eq]
  refine ⟨hx, fun y hy => ?_⟩
  obtain ⟨j, hj⟩ := List.mem_iff_getElem?.1 hy
  have hl : j < xs.length := by
    rcases Nat.lt_or_ge j xs.length with h | h
    · exact h
    · rw [List.getElem?_eq_none h] at hj; cases hj
  have := h (j + 1) (by omega) (by simp; omega)
  rw [List.getElem?_cons_succ, hj] at this
  simpa using this

set_option maxHeartbeats 400000 in
theorem below_any (g o n c : Nat) (x : Int) (xs : List Int) (b : Int) (hl : Hid ((x :: xs).length = n)) (hn0 : 1 ≤ n) (hn : n ≤ 65536) (w : World) (hz : ∀ j v, (x :: xs)[j]? = some v → w.cell? ⟨g, o + j, none⟩ = some (.int .u64 v)) :
    Calls Try.prog 8 #[.slice (some ⟨g, o, none⟩) n c, .int .u64 b] w fun e w' => e = .returned (.bool (belowB (x :: xs) b)) ∧ w' = w := by
  have hc0 : w.cell? ⟨g, o, none⟩ = some (.int .u64 x) := hz 0 x rfl
  have hne : ((n : Int) == 0) = false := by simp; omega
  have HZ : Hid (∀ j v, (x :: xs)[j]? = some v → w.cell? ⟨g, o + j, none⟩ = some (.int .u64 v)) := hz
  clear hz
  by_cases hx : x < b
  · go_enter Try.func8, Try.ntmps8
    go_wp2
    clear hc0
    go_loop [5] (fun iv => ∃ k : Nat, 1 ≤ k ∧ k ≤ n ∧ iv = .int .i64 k ∧ Hid (∀ j, 1 ≤ j → j < k → (x :: xs)[j]? = some 0)) (fun iv => n - (intOf iv).toNat)
    case atStart => exact ⟨1, Nat.le_refl _, hn0, rfl, fun j h1 h2 => by omega⟩
    case round =>
      obtain ⟨k, hk1, hk2, rfl, hR⟩ := hrel
      by_cases hlt : k < n
      · obtain ⟨y, hy⟩ : ∃ y, Hid ((x :: xs)[k]? = some y) := ⟨(x :: xs)[k]'(by have := hl.out; omega), List.getElem?_eq_getElem _⟩
        have hc := HZ.out k y hy.out
        by_cases h0 : y = 0
        · subst h0
          go_wp2
          go_round
          case rel => exact ⟨k + 1, by omega, by omega, by go_num, fun j h1 h2 => by
                        by_cases e : j = k
                        · subst e; exact hy.out
                        · exact hR.out j h1 (by omega)⟩
          case measure => simp [intOf]; omega
        · have h0' : (y != 0) = true := by simpa using h0
          go_wp2
          go_ret
          exact ⟨ret_b (belowB_false x xs b k y hy.out hk1 h0).symm, rfl⟩
      · go_wp2
        go_ret
        exact ⟨ret_b (belowB_true x xs b hx (fun j h1 h2 => hR.out j h1 (by have := hl.out; omega))).symm, rfl⟩
  · go_enter Try.func8, Try.ntmps8
    go_wp2
    go_ret
    exact ⟨ret_b (by have h : decide (x < b) = false := by simp; omega
                     simp [belowB, h]), rfl⟩

set_option maxHeartbeats 400000 in
theorem eqW_any (g1 o1 g2 o2 n c1 c2 : Nat) (zs : List Int) (hl : Hid (zs.length = n)) (hn : n ≤ 65536) (w : World) (hz1 : ∀ j v, zs[j]? = some v → w.cell? ⟨g1, o1 + j, none⟩ = some (.int .u64 v)) (hz2 : ∀ j v, zs[j]? = some v → w.cell? ⟨g2, o2 + j, none⟩ = some (.int .u64 v)) :
    Calls Try.prog 10 #[.slice (some ⟨g1, o1, none⟩) n c1, .slice (some ⟨g2, o2, none⟩) n c2] w fun e w' => e = .returned (.bool true) ∧ ∃ q, w' = w.drewN q := by
  have HZ1 : Hid (∀ j v, zs[j]? = some v → w.cell? ⟨g1, o1 + j, none⟩ = some (.int .u64 v)) := hz1
  have HZ2 : Hid (∀ j v, zs[j]? = some v → w.cell? ⟨g2, o2 + j, none⟩ = some (.int .u64 v)) := hz2
  clear hz1 hz2
  go_enter Try.func10, Try.ntmps10
  go_wp2
  go_loopw [5] (fun iv wr => ∃ (k q : Nat), k ≤ n ∧ iv = .int .i64 k ∧ wr = w.drewN q) (fun iv _ => n - (intOf iv).toNat)
  case atStart => exact ⟨0, 0, Nat.zero_le _, rfl, rfl⟩
  case round =>
    obtain ⟨k, q, hk2, rfl, rfl⟩ := hrel
    by_cases hlt : k < n
    · obtain ⟨y, hy⟩ : ∃ y, Hid (zs[k]? = some y) := ⟨zs[k]'(by have := hl.out; omega), List.getElem?_eq_getElem _⟩
      have hc1 := HZ1.out k y hy.out
      have hc2 := HZ2.out k y hy.out
      have hi0 : (0 : Int) ≤ (k : Int) := by omega
      have hi1 : (k : Int) < (n : Int) := by omega
      go_wp2
      go_quiet (fail)
      go_wp2
      go_roundw
      case rel => exact ⟨k + 1, q + nq, by omega, by go_num, rfl⟩
      case measure => simp [intOf]; omega
    · go_wp2
      go_ret
      exact ⟨rfl, q, rfl⟩

set_option maxHeartbeats 400000 in
theorem eqW_none (a1 a2 : Option Addr) (c1 c2 : Nat) (w : World) :
    Calls Try.prog 10 #[.slice a1 0 c1, .slice a2 0 c2] w fun e w' => e = .returned (.bool true) ∧ w' = w := by
  go_enter Try.func10, Try.ntmps10
  go_wp2
  go_loop [5] (fun iv => iv = .int .i64 0) (fun _ => 0)
  case atStart => rfl
  case round =>
    subst hrel
    go_wp2
    go_ret
    exact ⟨rfl, rfl⟩

set_option maxHeartbeats 400000 in
theorem bytes5 (a : Option Addr) (n c : Nat) (b : Int) (hn : n ≤ 9223372036854775807) (w : World) :
    Calls Try.prog 5 #[.slice a n c, .int .u64 b] w fun e w' => e = .returned (.bool (decide (n ≤ 1048576))) ∧ w' = w := by
  by_cases h : n ≤ 1048576
  · have h' : ¬ (1048576 : Int) < n := by omega
    go_enter Try.func5, Try.ntmps5
    go_wp2
    go_ret
    exact ⟨ret_b (by simp), rfl⟩
  · have h' : (1048576 : Int) < n := by omega
    go_enter Try.func5, Try.ntmps5
    go_wp2
    go_ret
    exact ⟨ret_b (by simpa using h), rfl⟩
set_option maxHeartbeats 400000 in
theorem bytes11 (a : Option Addr) (n c : Nat) (b k : Int) (hn : n ≤ 9223372036854775807) (w : World) :
    Calls Try.prog 11 #[.slice a n c, .int .u64 b, .int .i64 k] w fun e w' => e = .returned (.bool (decide (n ≤ 1048576))) ∧ w' = w := by
  by_cases h : n ≤ 1048576
  · have h' : ¬ (1048576 : Int) < n := by omega
    go_enter Try.func11, Try.ntmps11
    go_wp2
    go_ret
    exact ⟨ret_b (by simp), rfl⟩
  · have h' : (1048576 : Int) < n := by omega
    go_enter Try.func11, Try.ntmps11
    go_wp2
    go_ret
    exact ⟨ret_b (by simpa using h), rfl⟩
end Go.Proofs.Qxb6609014a
