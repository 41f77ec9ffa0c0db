/-
  THE LAW 'FnMissingCentsFindsTheCutOfTheLastMissingCent': her walk.
-/
import Derived.Test.Qxb6614430aMM
import Derived.Laws.Cover3
set_option linter.unusedVariables false
namespace Go.Proofs.Qxb6614430a
open Go.RowKit

theorem info2 : (Try.prog.info? 2).map (fun i => (i.zero, i.size, i.bytes)) = some (some (.int .i64 0), 1, 8) := by kernel_rfl
theorem size2 : (Try.prog.info? 2).map (·.size) = some 1 := by kernel_rfl

/-- The shares' own copy. -/
def RowI (w : World) (b : Nat) (zs : List Int) : Prop := w.heap[b]? = some (.cells (zs.map (Value.int .i64)).toArray 2)
theorem RowI.cell {w : World} {b : Nat} {zs : List Int} (h : RowI w b zs) (j : Nat) (v : Int) (hv : zs[j]? = some v) : w.cell? ⟨b, j, none⟩ = some (.int .i64 v) := by
  rw [cell_of_row w b j _ _ _ h]
  simp [hv]

/-- Make and copy: what the walk is told. -/
theorem copy_facts (x : Addr) (n c : Nat) (zs : List Int) (hl : zs.length = n) (w : World) (hz : ∀ j v, zs[j]? = some v → w.cell? (x.add j) = some (.int .i64 v)) :
    ∃ W : World, RowI W w.heap.size zs ∧ Below w.heap.size w W ∧ W.heap.size = w.heap.size + 1 ∧ (Builtin.copy_ #[25, 25] 3 #[.slice (some ⟨w.heap.size, 0, none⟩) n n, .slice (some x) n c]).run Try.prog (w.alloc (.cells (madeCells #[.int .i64 0] n) 2)) = .ok (goInt ((zs.map (Value.int .i64)).length : Nat)) W := by
  have hsz : (madeCells #[.int .i64 0] n).size = n := size_madeCells _ _
  have hcp := run_copy_row (P := Try.prog) (w.alloc (.cells (madeCells #[.int .i64 0] n) 2)) 25 25 3 2 w.heap.size 0 n n x n c (madeCells #[.int .i64 0] n) 2 (zs.map (Value.int .i64)) Try.underlying25 size2 (heap_alloc_new w _)
    (by simp [hl]) (fun j v hv => by
      rw [List.getElem?_map] at hv
      obtain ⟨u, hu, rfl⟩ := Option.map_eq_some_iff.1 hv
      have h1 := hz j u hu
      exact (((Below.refl w.heap.size w).alloc (Nat.le_refl _) _).cell (p := x.add j) (block_lt_of_cell h1)).trans h1)
    (by rw [hsz]; simp; omega) (fun v hv => by obtain ⟨u, _, rfl⟩ := List.mem_map.1 hv; rfl)
  refine ⟨_, ?_, below_setRow ((Below.refl w.heap.size w).alloc (Nat.le_refl _) _) (Nat.le_refl _) _, ?_, hcp⟩
  · unfold RowI
    rw [setRow_heap _ _ _ _ 2 _ (heap_alloc_new w _)]
    simp [hl, hsz]
  · rw [size_setRow]; simp

theorem nats_of : ∀ (zs : List Int), (∀ x ∈ zs, 0 ≤ x) → ∃ xs : List Nat, zs = xs.map (fun x : Nat => (x : Int))
  | [], _ => ⟨[], rfl⟩
  | z :: zs, h => by
    obtain ⟨xs, rfl⟩ := nats_of zs (fun x hx => h x (by simp [hx]))
    obtain ⟨x, rfl⟩ := Int.eq_ofNat_of_zero_le (h z (by simp))
    exact ⟨x :: xs, rfl⟩
theorem sum_cast : ∀ (xs : List Nat), (xs.map (fun x : Nat => (x : Int))).sum = (xs.sum : Int)
  | [] => rfl
  | x :: xs => by
    have := sum_cast xs
    simp only [List.map_cons, List.sum_cons, Int.natCast_add]
    omega

set_option maxRecDepth 100000 in
set_option maxHeartbeats 4000000 in
theorem law_some (x : Addr) (n cap asked acc : Nat) (zs : List Int) (w : World) (hl : Hid (zs.length = n)) (hn : n ≤ 4096) (Ha : Hid (asked < 18446744073709551616 ∧ acc < 18446744073709551616)) (hz : ∀ j v, zs[j]? = some v → w.cell? (x.add j) = some (.int .i64 v)) (HZ : Hid (∀ v ∈ zs, -9223372036854775808 ≤ v ∧ v < 9223372036854775808)) :
    Calls Try.prog 4 #[.int .u64 asked, .int .u64 acc, .slice (some x) n cap] w fun e w' => e = .returned (.bool true) ∧ Below w.heap.size w w' := by
  have hmk := run_make_row' (P := Try.prog) 25 2 (.int .i64 0) 8 Try.underlying25 info2 rfl .i64 .i64 n (by omega) (by omega)
  obtain ⟨W1, R1, b1, z1, hcp⟩ := copy_facts x n cap zs hl.out w hz
  have hlen : ¬ (4096 : Int) < n := by omega
  have cB := bytes7 asked acc (some x) n cap (by omega) w
  rw [show decide (n ≤ 1048576) = true by simp; omega] at cB
  have cS := sum_any w.heap.size n n zs hl hn HZ W1 (fun j v hv => R1.cell j v hv)
  have HZ1 : Hid (W1.heap.size = w.heap.size + 1) := z1
  clear hz z1
  go_enter Try.func4, Try.ntmps4
  go_wp2_with fail
  refine cB.mono ?_
  rintro e w1 ⟨rfl, rfl⟩
  clear cB
  go_wp2_with fail
  refine cS.mono ?_
  rintro e w2 ⟨⟨S, ng, ov, rfl, hS⟩, rfl⟩
  clear cS hmk hcp
  have HS : Hid (SumOk zs S ng ov) := hS
  clear hS
  cases ng
  · cases ov
    · by_cases c1 : S = asked
      · subst c1
        by_cases c2 : asked ≤ acc
        · have k2 : (asked : Int) ≤ acc := by omega
          go_wp2_with fail
          go_ret
          exact ⟨rfl, b1⟩
        · have k2 : ¬ (asked : Int) ≤ acc := by omega
          by_cases c3 : acc ≤ 9223372036854775807
          · have k3 : ¬ (9223372036854775807 : Int) < acc := by omega
            obtain ⟨hpos, hsum⟩ := HS.out.2 rfl rfl
            obtain ⟨xs, rfl⟩ := nats_of zs hpos
            rw [sum_cast] at hsum
            have hsx : xs.sum = asked := by omega
            have hlx : xs.length = n := by have := hl.out; rwa [List.length_map] at this
            have ha0 : 0 < asked := by omega
            have hn0 : 1 ≤ n := by
              rcases Nat.eq_zero_or_pos n with h | h
              · rw [h] at hlx
                rw [List.eq_nil_of_length_eq_zero hlx] at hsx
                simp at hsx
                omega
              · exact h
            have hx : ∀ x ∈ xs, x < 9223372036854775808 ∧ x ≤ asked := fun x hx => by
              have h1 := HZ.out (x : Int) (List.mem_map.2 ⟨x, hx, rfl⟩)
              have h2 := mem_le_sum xs x hx
              omega
            have hacc : acc < 9223372036854775808 := by omega
            have hML := miss_le asked acc xs hsx ha0
            rw [hlx] at hML
            have hP := parts_le asked acc xs hsx ha0
            have h1M : asked = 1 → acc - (xs.map (partOf asked acc)).sum = 0 := fun h => by omega
            have row2 : w2.heap[w1.heap.size]? = some (.cells (xs.map (fun x : Nat => Value.int .i64 (x : Int))).toArray 2) := by
              have h := R1
              unfold RowI at h
              rw [List.map_map] at h
              exact h
            have cN := new_any asked acc 18446744073709551615 0 w2
            obtain ⟨W3, hW3⟩ : ∃ W, w2.alloc (.cells #[.int .u64 (asked : Int), .int .u64 (acc : Int), .int .u64 ((18446744073709551615 : Nat) : Int), .int .u64 ((0 : Nat) : Int)] 39) = W := ⟨_, rfl⟩
            rw [hW3] at cN
            have rat3 : W3.heap[w2.heap.size]? = some (.cells #[.int .u64 (asked : Int), .int .u64 (acc : Int), .int .u64 ((18446744073709551615 : Nat) : Int), .int .u64 ((0 : Nat) : Int)] 39) := by rw [← hW3]; exact heap_alloc_new w2 _
            have row3 : W3.heap[w1.heap.size]? = some (.cells (xs.map (fun x : Nat => Value.int .i64 (x : Int))).toArray 2) := by rw [← hW3]; exact (heap_alloc_lt w2 _ _ (by have := HZ1.out; omega)).trans row2
            have z3 : W3.heap.size = w2.heap.size + 1 := by rw [← hW3]; unfold World.alloc; exact Array.size_push _
            have b3 : Below w1.heap.size w1 W3 := by rw [← hW3]; exact b1.alloc (by have := HZ1.out; omega) _
            have cZ := zmiss_any w2.heap.size w1.heap.size n n asked acc 18446744073709551615 0 xs W3 rat3 row3 hlx hn hx hacc Ha.out.1 ha0 hML hP
            have HLX : Hid (xs.length = n ∧ (xs.map (cutOf asked acc)).length = n ∧ (xs.map (partOf asked acc)).length = n) := ⟨hlx, by simpa using hlx, by simpa using hlx⟩
            have HCC : Hid (∀ j x : Nat, xs[j]? = some x → (xs.map (cutOf asked acc))[j]? = some (cutOf asked acc x) ∧ (xs.map (partOf asked acc))[j]? = some (partOf asked acc x)) := fun j x h => by simp [h]
            have HPP : Hid ((xs.map (partOf asked acc)).sum + (acc - (xs.map (partOf asked acc)).sum) = acc) := by show _ = _; omega
            have HX : Hid (∀ x ∈ xs, x < 9223372036854775808 ∧ x ≤ asked) := hx
            have H1M : Hid (asked = 1 → acc - (xs.map (partOf asked acc)).sum = 0) := h1M
            have HAA : Hid (asked < 18446744073709551616 ∧ 0 < asked) := ⟨Ha.out.1, ha0⟩
            have HZ3 : Hid (W3.heap.size = w2.heap.size + 1) := z3
            have HR3 : Hid (W3.heap[w1.heap.size]? = some (.cells (xs.map (fun x : Nat => Value.int .i64 (x : Int))).toArray 2)) := row3
            obtain ⟨cs, hcs⟩ : ∃ z, xs.map (cutOf asked acc) = z := ⟨_, rfl⟩
            obtain ⟨ps, hps⟩ : ∃ z, xs.map (partOf asked acc) = z := ⟨_, rfl⟩
            rw [hcs, hps] at cZ HLX
            rw [hps] at HPP H1M
            have HCC' : Hid (∀ j x : Nat, xs[j]? = some x → cs[j]? = some (cutOf asked acc x) ∧ ps[j]? = some (partOf asked acc x)) := by rw [← hcs, ← hps]; exact HCC
            obtain ⟨M, hM⟩ : ∃ z, acc - ps.sum = z := ⟨_, rfl⟩
            rw [hM] at cZ HPP H1M
            clear hpos hsum hsx hlx hx hML hP h1M row2 rat3 row3 z3 hcs hps hM hW3 R1 HS HZ HCC
            go_wp2_with fail
            refine cN.mono ?_
            rintro e w3 ⟨rfl, rfl⟩
            clear cN
            go_wp2_with fail
            refine cZ.mono ?_
            rintro e w4 ⟨rfl, l, t, hE, hF⟩
            clear cZ
            have cF := fields_any w2.heap.size asked acc l t w4 ⟨by rw [cell_of_row w4 _ 0 _ _ _ hE.rat]; rfl, by rw [cell_of_row w4 _ 1 _ _ _ hE.rat]; rfl, by rw [cell_of_row w4 _ 2 _ _ _ hE.rat]; rfl, by rw [cell_of_row w4 _ 3 _ _ _ hE.rat]; rfl⟩
            go_wp2_with fail
            refine cF.mono ?_
            rintro e w5 ⟨rfl, q, rfl⟩
            clear cF
            have z4 := hE.size
            have b4 : Below w1.heap.size w1 (w4.drewN q) := by
              have h1 := HZ1.out
              have h2 := HZ3.out
              exact b3.trans ⟨hE.os, hE.tape, hE.output, hE.size, fun k hk => hE.block k (by omega) (by omega)⟩
            have row4 : (w4.drewN q).heap[w1.heap.size]? = some (.cells (xs.map (fun x : Nat => Value.int .i64 (x : Int))).toArray 2) := by
              have h1 := HZ1.out
              have h2 := HZ3.out
              exact (hE.block _ (by omega) (by omega)).trans HR3.out
            have cL := last_walk w1.heap.size n n asked acc M xs cs ps (w4.drewN q) (fun j x h => by rw [cell_of_row _ _ j _ _ _ row4]; simp [h]) (by have h1 := HZ1.out; have h2 := HZ3.out; show _ < w4.heap.size; omega) HLX hn0 hn HCC' HX hacc HAA HPP (fun h => found_good H1M.out hF h)
            generalize w4.drewN q = w6 at b4 row4 cL ⊢
            go_wp2_with fail
            refine cL.mono ?_
            rintro e w7 ⟨⟨l', t', rfl, HL⟩, b7⟩
            clear cL
            obtain ⟨rfl, rfl⟩ := agree_last H1M.out hF HL.out
            have bb : Below w1.heap.size w1 w7 := b4.trans (b7.mono b4.size)
            clear hE hF row4 z4 b7 b4
            go_wp2_with fail
            go_ret
            exact ⟨rfl, bb⟩
          · have k3 : (9223372036854775807 : Int) < acc := by omega
            go_wp2_with fail
            go_ret
            exact ⟨rfl, b1⟩
      · have k1 : (S != (asked : Int)) = true := by simpa using c1
        clear c1
        go_wp2_with fail
        go_ret
        exact ⟨rfl, b1⟩
    · go_wp2_with fail
      go_ret
      exact ⟨rfl, b1⟩
  · go_wp2_with fail
    go_ret
    exact ⟨rfl, b1⟩

set_option maxRecDepth 100000 in
set_option maxHeartbeats 1000000 in
theorem law_none (asked acc : Nat) (w : World) :
    Calls Try.prog 4 #[.int .u64 asked, .int .u64 acc, .slice none 0 0] w fun e w' => e = .returned (.bool true) ∧ Below w.heap.size w w' := by
  have cB := bytes7 asked acc none 0 0 (by omega) w
  have cS := sum_none none 0 w
  by_cases h : asked = 0
  · subst h
    have k2 : ((0 : Nat) : Int) ≤ acc := by omega
    go_enter Try.func4, Try.ntmps4
    go_wp2_with fail
    refine cB.mono ?_
    rintro e w1 ⟨rfl, rfl⟩
    go_wp2_with fail
    refine cS.mono ?_
    rintro e w1 ⟨rfl, rfl⟩
    go_wp2_with fail
    go_ret
    exact ⟨rfl, Below.refl _ _⟩
  · have k1 : ((0 : Int) != (asked : Int)) = true := by simp; omega
    go_enter Try.func4, Try.ntmps4
    go_wp2_with fail
    refine cB.mono ?_
    rintro e w1 ⟨rfl, rfl⟩
    go_wp2_with fail
    refine cS.mono ?_
    rintro e w1 ⟨rfl, rfl⟩
    go_wp2_with fail
    go_ret
    exact ⟨rfl, Below.refl _ _⟩

set_option maxRecDepth 100000 in
set_option maxHeartbeats 1000000 in
theorem law_long (a : Option Addr) (n cap asked acc : Nat) (hn : 4096 < n) (hm : n ≤ 9223372036854775807) (w : World) :
    Calls Try.prog 4 #[.int .u64 asked, .int .u64 acc, .slice a n cap] w fun e w' => e = .returned (.bool true) ∧ Below w.heap.size w w' := by
  have cB := bytes7 asked acc a n cap hm w
  have hlen : (4096 : Int) < n := by omega
  by_cases h : n ≤ 1048576
  · rw [show decide (n ≤ 1048576) = true by simpa using h] at cB
    go_enter Try.func4, Try.ntmps4
    go_wp2_with fail
    refine cB.mono ?_
    rintro e w1 ⟨rfl, rfl⟩
    go_wp2_with fail
    go_ret
    exact ⟨rfl, Below.refl _ _⟩
  · rw [show decide (n ≤ 1048576) = false by simpa using h] at cB
    go_enter Try.func4, Try.ntmps4
    go_wp2_with fail
    refine cB.mono ?_
    rintro e w1 ⟨rfl, rfl⟩
    go_wp2_with fail
    go_ret
    exact ⟨rfl, Below.refl _ _⟩
end Go.Proofs.Qxb6614430a
