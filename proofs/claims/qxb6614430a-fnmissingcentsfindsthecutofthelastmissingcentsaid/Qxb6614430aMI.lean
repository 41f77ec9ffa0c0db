/-
  WHAT THE WALK OF missingCents IS TOLD OF MEMORY.
-/
import Derived.Test.Qxb6614430aMH
import Derived.Lib.SliceRun
import Derived.Below
set_option linter.unusedVariables false
namespace Go.Proofs.Qxb6614430a
open Go.RowKit

theorem One.alloc {w : World} {b : Nat} {v : Value} {t : TypeId} (h : One w b v t) (o : Obj) : One (w.alloc o) b v t := by
  have hb : b < w.heap.size := by
    rcases Nat.lt_or_ge b w.heap.size with h1 | h1
    · exact h1
    · unfold One at h; rw [Array.getElem?_eq_none h1] at h; cases h
  unfold One World.alloc
  simp only [Array.getElem?_push, if_neg (Nat.ne_of_lt hb)]
  exact h
theorem One.new (w : World) (v : Value) (t : TypeId) : One (w.alloc (.cells #[v] t)) w.heap.size v t := heap_alloc_new w _
theorem One.lt {w : World} {b : Nat} {v : Value} {t : TypeId} (h : One w b v t) : b < w.heap.size := by
  rcases Nat.lt_or_ge b w.heap.size with h1 | h1
  · exact h1
  · unfold One at h; rw [Array.getElem?_eq_none h1] at h; cases h
theorem heap_alloc_lt (w : World) (o : Obj) (b : Nat) (hb : b < w.heap.size) : (w.alloc o).heap[b]? = w.heap[b]? := by
  unfold World.alloc
  simp only [Array.getElem?_push, if_neg (Nat.ne_of_lt hb)]

/-- Room for the counters, whatever they hold. -/
def Room (w : World) (b : Nat) : Prop := ∃ cs : Array Value, w.heap[b]? = some (.cells cs 47) ∧ cs.size = 65536
theorem Room.alloc {w : World} {b : Nat} (h : Room w b) (o : Obj) : Room (w.alloc o) b := by
  obtain ⟨cs, h1, h2⟩ := h
  have hb : b < w.heap.size := by
    rcases Nat.lt_or_ge b w.heap.size with h3 | h3
    · exact h3
    · rw [Array.getElem?_eq_none h3] at h1; cases h1
  exact ⟨cs, (heap_alloc_lt w o b hb).trans h1, h2⟩
theorem Room.other {w : World} {b c o : Nat} (h : Room w b) (u : Value) (hb : b ≠ c) : Room (w.setCell ⟨c, o, none⟩ u) b := by
  obtain ⟨cs, h1, h2⟩ := h
  exact ⟨cs, (heap_setCell_other w ⟨c, o, none⟩ b u hb).trans h1, h2⟩
theorem Cnt.room {w : World} {b : Nat} {cnt : Nat → Nat} (h : Cnt w b cnt) : Room w b := by
  obtain ⟨cs, h1, h2, _⟩ := h
  exact ⟨cs, h1, h2⟩

/-- Only block b has turned. -/
structure Lone (b : Nat) (w w' : World) : Prop where
  os : w'.os = w.os
  tape : w'.tape = w.tape
  output : w'.output = w.output
  size : w'.heap.size = w.heap.size
  block : ∀ k, k ≠ b → w'.heap[k]? = w.heap[k]?
theorem Lone.refl (b : Nat) (w : World) : Lone b w w := ⟨rfl, rfl, rfl, rfl, fun _ _ => rfl⟩
theorem Lone.trans {b : Nat} {w w' w'' : World} (h : Lone b w w') (h' : Lone b w' w'') : Lone b w w'' :=
  ⟨h'.os.trans h.os, h'.tape.trans h.tape, h'.output.trans h.output, h'.size.trans h.size, fun k hk => (h'.block k hk).trans (h.block k hk)⟩
theorem Lone.put (b : Nat) (w : World) (o : Nat) (v : Value) : Lone b w (w.setCell ⟨b, o, none⟩ v) :=
  ⟨rfl, rfl, rfl, by simp [World.setCell], fun k hk => heap_setCell_other w ⟨b, o, none⟩ k v hk⟩
theorem Lone.one {b k : Nat} {w w' : World} {v : Value} {t : TypeId} (h : Lone b w w') (o : One w k v t) (h1 : k ≠ b) : One w' k v t := (h.block k h1).trans o
theorem Lone.room {b k : Nat} {w w' : World} (h : Lone b w w') (o : Room w k) (h1 : k ≠ b) : Room w' k := by
  obtain ⟨cs, h2, h3⟩ := o
  exact ⟨cs, (h.block k h1).trans h2, h3⟩
theorem Lone.below {b B : Nat} {w w' : World} (h : Lone b w w') (hB : B ≤ b) : Below B w w' :=
  ⟨h.os, h.tape, h.output, by rw [h.size]; exact Nat.le_refl _, fun k hk => h.block k (by omega)⟩

theorem setCells_rep (b : Nat) (t : TypeId) (z : Value) : ∀ (n o : Nat) (w : World) (cs : Array Value), w.heap[b]? = some (.cells cs t) →
    ∃ cs' : Array Value, (w.setCells b o (List.replicate n z)).heap[b]? = some (.cells cs' t) ∧ cs'.size = cs.size ∧ (∀ i, i < o → cs'[i]? = cs[i]?) ∧ (∀ i, o ≤ i → i < o + n → i < cs.size → cs'[i]? = some z) ∧ Lone b w (w.setCells b o (List.replicate n z))
  | 0, o, w, cs, h => ⟨cs, h, rfl, fun _ _ => rfl, fun i h1 h2 => by omega, Lone.refl _ _⟩
  | n + 1, o, w, cs, h => by
    have h1 := heap_setCell_same w b o cs t z h
    obtain ⟨cs', a1, a2, a3, a4, a5⟩ := setCells_rep b t z n (o + 1) (w.setCell ⟨b, o, none⟩ z) _ h1
    rw [Array.size_setIfInBounds] at a2 a4
    refine ⟨cs', a1, a2, fun i hi => ?_, fun i hi hj hs => ?_, (Lone.put b w o z).trans a5⟩
    · rw [a3 i (by omega), Array.getElem?_setIfInBounds, if_neg (by omega)]
    · by_cases e : i = o
      · subst e
        rw [a3 i (by omega), Array.getElem?_setIfInBounds, if_pos rfl, if_pos hs]
      · exact a4 i (by omega) (by omega) hs

/-- What 'clear' leaves. -/
theorem clear_any (w : World) (b : Nat) (h : Room w b) : ∃ W : World, (∀ ty, (Builtin.clear_ #[43] ty #[.slice (some ⟨b, 0, none⟩) 65536 65536]).run Try.prog w = .ok (.tuple #[]) W) ∧ Cnt W b (fun _ => 0) ∧ Lone b w W := by
  obtain ⟨cs, h1, h2⟩ := h
  refine ⟨w.setCells b 0 (List.replicate 65536 (.int .u64 0)), fun ty => Lib.run_clear_slice w 43 24 ty (.int .u64 0) Try.underlying43 Try.zeroValue24 rfl rfl b 0 65536 65536 (by omega) (fun j hj => ?_) (fun j hj => frozen_of_row w b _ _ _ h1), ?_⟩
  · rw [cell_of_row w b _ _ _ _ h1, Array.getElem?_eq_getElem (by omega)]
    rfl
  · obtain ⟨cs', a1, a2, _, a4, a5⟩ := setCells_rep b 47 (.int .u64 0) 65536 0 w cs h1
    exact ⟨⟨cs', a1, by omega, fun i hi => a4 i (by omega) (by omega) (by omega)⟩, a5⟩

/-- Memory at the head of the loop over the digits. -/
structure Head (w wr : World) (g bs prf found : Nat) (s : Int) : Prop where
  below : Below w.heap.size w wr
  p : One wr w.heap.size (.pointer (some ⟨g, 0, none⟩)) 29
  ct : Room wr (w.heap.size + 1)
  px : One wr (w.heap.size + 1 + 1) (.int .u64 prf) 24
  fd : One wr (w.heap.size + 1 + 1 + 1) (.int .u64 found) 24
  sh : One wr bs (.int .i64 s) 3
  ge : w.heap.size + 4 ≤ bs

theorem Below.kept {B b c : Nat} {a w w' : World} (h : Below B a w) (k : Kept b c w w') (hb : B ≤ b) (hc : B ≤ c) : Below B a w' :=
  h.trans ⟨k.os, k.tape, k.output, by rw [k.size]; exact Nat.le_refl _, fun i hi => k.block i (by omega) (by omega)⟩

/-- What the law's caller lays: the Rationing, the variable 'shares', the shares' row, all below B. -/
structure Laid (w : World) (g bv r0 n cap asked acc least ties : Nat) (xs : List Nat) : Prop where
  rat : w.heap[g]? = some (.cells #[.int .u64 asked, .int .u64 acc, .int .u64 least, .int .u64 ties] 39)
  v : One w bv (.slice (some ⟨r0, 0, none⟩) n cap) 25
  row : w.heap[r0]? = some (.cells (xs.map (fun x : Nat => Value.int .i64 (x : Int))).toArray 2)
theorem Laid.lt {w : World} {g bv r0 n cap asked acc least ties : Nat} {xs : List Nat} (h : Laid w g bv r0 n cap asked acc least ties xs) : g < w.heap.size ∧ bv < w.heap.size ∧ r0 < w.heap.size := by
  have f : ∀ (b : Nat) (o : Obj), w.heap[b]? = some o → b < w.heap.size := fun b o h => by
    rcases Nat.lt_or_ge b w.heap.size with h1 | h1
    · exact h1
    · rw [Array.getElem?_eq_none h1] at h; cases h
  exact ⟨f _ _ h.rat, f _ _ h.v, f _ _ h.row⟩
theorem Laid.below {w w' : World} {g bv r0 n cap asked acc least ties : Nat} {xs : List Nat} (h : Laid w g bv r0 n cap asked acc least ties xs) (b : Below w.heap.size w w') : Laid w' g bv r0 n cap asked acc least ties xs :=
  ⟨(b.block _ h.lt.1).trans h.rat, (b.block _ h.lt.2.1).trans h.v, (b.block _ h.lt.2.2).trans h.row⟩
theorem Laid.cell {w : World} {g bv r0 n cap asked acc least ties : Nat} {xs : List Nat} (h : Laid w g bv r0 n cap asked acc least ties xs) (j x : Nat) (hx : xs[j]? = some x) : w.cell? ⟨r0, j, none⟩ = some (.int .i64 (x : Int)) := by
  rw [cell_of_row w r0 j _ _ _ h.row]
  simp [hx]

theorem Head.prep {w wr : World} {g bs prf found s bv r0 n cap asked acc least ties : Nat} {xs : List Nat} (H : Head w wr g bs prf found ((s : Int) + 16)) (L : Laid w g bv r0 n cap asked acc least ties xs) :
    ∃ W2 W3 : World, (∀ ty, (Builtin.clear_ #[43] ty #[.slice (some ⟨w.heap.size + 1, 0, none⟩) 65536 65536]).run Try.prog (wr.setCell ⟨bs, 0, none⟩ (.int .i64 (s : Int))) = .ok (.tuple #[]) W2) ∧ W2.alloc (.cells #[.int .u64 0] 24) = W3 ∧ W2.heap.size = wr.heap.size ∧
      Eyes W3 g w.heap.size wr.heap.size (w.heap.size + 1 + 1 + 1) (w.heap.size + 1 + 1) (w.heap.size + 1) bs asked acc least ties found prf s ∧ One W3 wr.heap.size (.int .u64 0) 24 ∧ Cnt W3 (w.heap.size + 1) (fun _ => 0) ∧ Below w.heap.size w W3 ∧ W3.heap.size = wr.heap.size + 1 := by
  have hbs := H.sh.lt
  have hge := H.ge
  have l1 : Lone bs wr (wr.setCell ⟨bs, 0, none⟩ (.int .i64 (s : Int))) := Lone.put _ _ _ _
  have s1 : One (wr.setCell ⟨bs, 0, none⟩ (.int .i64 (s : Int))) bs (.int .i64 (s : Int)) 3 := H.sh.put _
  have r1 := l1.room H.ct (by omega)
  have p1 := l1.one H.p (by omega)
  have x1 := l1.one H.px (by omega)
  have f1 := l1.one H.fd (by omega)
  have b1 := H.below.trans (l1.below (B := w.heap.size) (by omega))
  have z1 := l1.size
  generalize wr.setCell ⟨bs, 0, none⟩ (.int .i64 (s : Int)) = W1 at l1 s1 r1 p1 x1 f1 b1 z1 ⊢
  obtain ⟨W2, hcl, c2, l2⟩ := clear_any W1 _ r1
  have b2 := b1.trans (l2.below (B := w.heap.size) (by omega))
  have z2 : W2.heap.size = wr.heap.size := l2.size.trans z1
  have b3 : Below w.heap.size w (W2.alloc (.cells #[.int .u64 0] 24)) := b2.alloc (by omega) _
  have n3 := One.new W2 (.int .u64 0) 24
  rw [z2] at n3
  have L3 := L.below b3
  have hl := L.lt
  refine ⟨W2, _, hcl, rfl, z2, ⟨L3.rat, (l2.one p1 (by omega)).alloc _, (l2.one f1 (by omega)).alloc _, (l2.one x1 (by omega)).alloc _, (l2.one s1 (by omega)).alloc _, by omega, by omega, by omega, by omega, by omega, by omega⟩, n3, ?_, b3, ?_⟩
  · obtain ⟨cs, h1, h2, h3⟩ := c2
    exact ⟨cs, (heap_alloc_lt W2 _ _ (by omega)).trans h1, h2, h3⟩
  · rw [← z2]; unfold World.alloc; exact Array.size_push _
end Go.Proofs.Qxb6614430a
