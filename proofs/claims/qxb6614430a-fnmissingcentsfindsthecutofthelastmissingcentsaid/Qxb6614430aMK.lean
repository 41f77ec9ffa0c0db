/-
  missingCents and ZZmissingCents, by their contracts.
-/
import Derived.Test.Qxb6614430aMJ
set_option linter.unusedVariables false
namespace Go.Proofs.Qxb6614430a
open Go.RowKit

theorem bitLen_facts (a : Nat) (ha : a < 18446744073709551616) : Lib.bitLen a ≤ 64 ∧ a < 2 ^ Lib.bitLen a ∧ (Lib.bitLen a = 0 ↔ a = 0) := by
  refine ⟨Lib.bitLen_le a 64 (Nat.le_refl _) (by simpa using ha), ?_⟩
  by_cases h : a = 0
  · subst h
    have h0 : Lib.bitLen 0 = 0 := Lib.bitLenAux_zero 64
    rw [h0]
    simp
  · obtain ⟨x, y, z⟩ := Lib.bitLenAux_bounds 64 a (by simpa using ha) h
    refine ⟨z, ?_⟩
    have x' : 1 ≤ Lib.bitLen a := x
    omega

theorem miss_any (g bv r0 n cap asked acc least ties : Nat) (xs : List Nat) (w : World) (L : Laid w g bv r0 n cap asked acc least ties xs) (hl : xs.length = n) (hn : n ≤ 4096) (hx : ∀ x ∈ xs, x < 9223372036854775808 ∧ x ≤ asked) (hacc : acc < 9223372036854775808) (ha : asked < 18446744073709551616) (ha0 : 0 < asked)
    (hML : acc - (xs.map (partOf asked acc)).sum ≤ n) (hP : (xs.map (partOf asked acc)).sum ≤ acc) :
    Calls Try.prog 14 #[.pointer (some ⟨g, 0, none⟩), .func (.func 15) #[] #[.pointer (some ⟨bv, 0, none⟩)]] w fun e w' => e = .returned .nilIface ∧ MissPost (xs.map (cutOf asked acc)) (acc - (xs.map (partOf asked acc)).sum) asked acc least ties g w w' := by
  obtain ⟨Z, hZs, hZ⟩ := z47
  obtain ⟨a1, rfl⟩ : ∃ a1, asked = a1 + 1 := ⟨asked - 1, by omega⟩
  obtain ⟨hB, hB1, hB0⟩ := bitLen_facts a1 (by omega)
  have cL0 := Try.bits_Len64 a1
  obtain ⟨Ln, hLn⟩ : ∃ z, Lib.bitLen a1 = z := ⟨_, rfl⟩
  rw [hLn] at hB hB1 hB0
  obtain ⟨W0, hW0⟩ : ∃ W, (((w.alloc (.cells #[.pointer (some ⟨g, 0, none⟩)] 29)).alloc (.cells Z 47)).alloc (.cells #[.int .u64 0] 24)).alloc (.cells #[.int .u64 0] 24) = W := ⟨_, rfl⟩
  have sz : ∀ (v : World) (o : Obj), (v.alloc o).heap.size = v.heap.size + 1 := fun v o => by unfold World.alloc; exact Array.size_push _
  have b0 : Below w.heap.size w W0 := by
    rw [← hW0]
    refine ((((Below.refl _ w).alloc (Nat.le_refl _) _).alloc ?_ _).alloc ?_ _).alloc ?_ _ <;> simp only [sz] <;> omega
  have hs : W0.heap.size = w.heap.size + 4 := by rw [← hW0]; simp only [sz]
  have p0 : One W0 w.heap.size (.pointer (some ⟨g, 0, none⟩)) 29 := by
    rw [← hW0]
    exact (((One.new w _ _).alloc _).alloc _).alloc _
  have r0' : Room W0 (w.heap.size + 1) := by
    rw [← hW0]
    refine Room.alloc (Room.alloc ⟨Z, ?_, hZs⟩ _) _
    have := heap_alloc_new (w.alloc (.cells #[.pointer (some ⟨g, 0, none⟩)] 29)) (.cells Z 47)
    rwa [sz] at this
  have x0 : One W0 (w.heap.size + 1 + 1) (.int .u64 ((0 : Nat) : Int)) 24 := by
    rw [← hW0]
    have := One.new ((w.alloc (.cells #[.pointer (some ⟨g, 0, none⟩)] 29)).alloc (.cells Z 47)) (.int .u64 0) 24
    rw [sz, sz] at this
    exact this.alloc _
  have f0 : One W0 (w.heap.size + 1 + 1 + 1) (.int .u64 ((0 : Nat) : Int)) 24 := by
    rw [← hW0]
    have := One.new (((w.alloc (.cells #[.pointer (some ⟨g, 0, none⟩)] 29)).alloc (.cells Z 47)).alloc (.cells #[.int .u64 0] 24)) (.int .u64 0) 24
    rw [sz, sz, sz] at this
    exact this
  have c0 : W0.cell? ⟨g, 0, none⟩ = some (.int .u64 ((a1 + 1 : Nat) : Int)) := by
    rw [cell_of_row W0 g 0 _ _ _ (L.below b0).rat]
    rfl
  have cL := cL0 W0 (by omega) (by omega)
  rw [Int.toNat_natCast, hLn] at cL
  have H0 : Head w (W0.alloc (.cells #[.int .i64 ((16 * ((Ln + 15) / 16) : Nat) : Int)] 3)) g (w.heap.size + 4) 0 0 ((16 * ((Ln + 15) / 16) : Nat) : Int) := by
    have h1 := One.new W0 (.int .i64 ((16 * ((Ln + 15) / 16) : Nat) : Int)) 3
    rw [hs] at h1
    exact ⟨b0.alloc (by omega) _, p0.alloc _, r0'.alloc _, x0.alloc _, f0.alloc _, h1, Nat.le_refl _⟩
  refine miss_walk g bv r0 n cap (a1 + 1) acc least ties a1 ((Ln + 15) / 16) xs Z hZ w W0 L hl hn hx hacc (show _ ∧ _ from ⟨ha, ha0⟩) (by omega) _ _ (show _ = _ from rfl) (show _ = _ from rfl) ?_ ?_ ?_ hP ?_ hW0 p0.cell c0 hs ?_ b0 Ln hB ?_ H0 cL
  · intro c hc
    obtain ⟨x, hx1, rfl⟩ := List.mem_map.1 hc
    have h1 : cutOf (a1 + 1) acc x < a1 + 1 := Nat.mod_lt _ (by omega)
    have h2 : 2 ^ Ln ≤ 2 ^ (16 * ((Ln + 15) / 16)) := Nat.pow_le_pow_right (by omega) (by omega)
    omega
  · show _ ≤ _
    rw [List.length_map, hl]
    exact hML
  · show _ ≤ _
    rw [List.length_map, hl]
    exact hn
  · show _ ↔ _
    omega
  · rw [IntKind.wrap_u64]; omega
  · show _ = _
    omega

set_option maxRecDepth 100000 in
set_option maxHeartbeats 1000000 in
theorem zmiss_any (g r0 n cap asked acc least ties : Nat) (xs : List Nat) (w : World) (rat : w.heap[g]? = some (.cells #[.int .u64 asked, .int .u64 acc, .int .u64 least, .int .u64 ties] 39)) (row : w.heap[r0]? = some (.cells (xs.map (fun x : Nat => Value.int .i64 (x : Int))).toArray 2)) (hl : xs.length = n) (hn : n ≤ 4096) (hx : ∀ x ∈ xs, x < 9223372036854775808 ∧ x ≤ asked) (hacc : acc < 9223372036854775808) (ha : asked < 18446744073709551616) (ha0 : 0 < asked)
    (hML : acc - (xs.map (partOf asked acc)).sum ≤ n) (hP : (xs.map (partOf asked acc)).sum ≤ acc) :
    Calls Try.prog 10 #[.pointer (some ⟨g, 0, none⟩), .slice (some ⟨r0, 0, none⟩) n cap] w fun e w' => e = .returned .nilIface ∧ MissPost (xs.map (cutOf asked acc)) (acc - (xs.map (partOf asked acc)).sum) asked acc least ties g w w' := by
  have f : ∀ (b : Nat) (o : Obj), w.heap[b]? = some o → b < w.heap.size := fun b o h => by
    rcases Nat.lt_or_ge b w.heap.size with h1 | h1
    · exact h1
    · rw [Array.getElem?_eq_none h1] at h; cases h
  have hg := f _ _ rat
  have hr := f _ _ row
  have L : Laid (w.alloc (.cells #[.slice (some ⟨r0, 0, none⟩) n cap] 25)) g w.heap.size r0 n cap asked acc least ties xs :=
    ⟨(heap_alloc_lt w _ _ hg).trans rat, One.new w _ _, (heap_alloc_lt w _ _ hr).trans row⟩
  have cM := miss_any g w.heap.size r0 n cap asked acc least ties xs _ L hl hn hx hacc ha ha0 hML hP
  obtain ⟨C, hC⟩ : ∃ C, xs.map (cutOf asked acc) = C := ⟨_, rfl⟩
  obtain ⟨M, hM⟩ : ∃ M, acc - (xs.map (partOf asked acc)).sum = M := ⟨_, rfl⟩
  rw [hC, hM] at cM ⊢
  clear hx hl hML hP hC hM L f
  go_enter Try.func10, Try.ntmps10
  go_wp2_with fail
  refine cM.mono ?_
  rintro e w1 ⟨rfl, l, t, hE, hF⟩
  have hE' : MissEnd w w1 g asked acc l t := by
    have sz : (w.alloc (.cells #[.slice (some ⟨r0, 0, none⟩) n cap] 25)).heap.size = w.heap.size + 1 := by unfold World.alloc; exact Array.size_push _
    have h1 := hE.size
    rw [sz] at h1
    refine ⟨hE.rat, hE.os, hE.tape, hE.output, by omega, fun k hk hne => ?_⟩
    rw [hE.block k (by rw [sz]; omega) hne]
    exact heap_alloc_lt w _ _ hk
  go_wp2_with fail
  go_ret
  exact ⟨rfl, l, t, hE', hF⟩
end Go.Proofs.Qxb6614430a
