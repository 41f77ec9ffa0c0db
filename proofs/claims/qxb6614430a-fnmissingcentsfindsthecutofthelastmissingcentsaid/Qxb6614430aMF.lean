/-
  THE CLOSURE OF missingCents: one ask counted.
-/
import Derived.Test.Qxb6614430aME
set_option linter.unusedVariables false
namespace Go.Proofs.Qxb6614430a
open Go.RowKit

/-- Block b holds one cell. -/
def One (w : World) (b : Nat) (v : Value) (t : TypeId) : Prop := w.heap[b]? = some (.cells #[v] t)
/-- Block b holds the counters. -/
def Cnt (w : World) (b : Nat) (cnt : Nat → Nat) : Prop := ∃ cs : Array Value, w.heap[b]? = some (.cells cs 47) ∧ cs.size = 65536 ∧ ∀ i, i < 65536 → cs[i]? = some (.int .u64 (cnt i))

theorem One.cell {w : World} {b : Nat} {v : Value} {t : TypeId} (h : One w b v t) : w.cell? ⟨b, 0, none⟩ = some v := by
  rw [cell_of_row w b 0 _ _ _ h]
  rfl
theorem One.frozen {w : World} {b : Nat} {v : Value} {t : TypeId} (h : One w b v t) : w.frozen? ⟨b, 0, none⟩ = false := frozen_of_row w b 0 _ _ h
theorem One.put {w : World} {b : Nat} {v : Value} {t : TypeId} (h : One w b v t) (u : Value) : One (w.setCell ⟨b, 0, none⟩ u) b u t := by
  unfold One
  rw [heap_setCell_same w b 0 _ _ _ h]
  simp
theorem One.other {w : World} {b c o : Nat} {v : Value} {t : TypeId} (h : One w b v t) (u : Value) (hb : b ≠ c) : One (w.setCell ⟨c, o, none⟩ u) b v t := (heap_setCell_other w ⟨c, o, none⟩ b u hb).trans h

theorem Cnt.cell {w : World} {b : Nat} {cnt : Nat → Nat} (h : Cnt w b cnt) {i : Nat} (hi : i < 65536) : w.cell? ⟨b, i, none⟩ = some (.int .u64 (cnt i)) := by
  obtain ⟨cs, h1, h2, h3⟩ := h
  rw [cell_of_row w b i _ _ _ h1]
  exact h3 i hi
theorem Cnt.frozen {w : World} {b : Nat} {cnt : Nat → Nat} (h : Cnt w b cnt) (i : Nat) : w.frozen? ⟨b, i, none⟩ = false := by
  obtain ⟨cs, h1, h2, h3⟩ := h
  exact frozen_of_row w b i _ _ h1
/-- One counter turned. -/
def bump (cnt : Nat → Nat) (i : Nat) : Nat → Nat := fun j => if j = i then cnt j + 1 else cnt j
theorem Cnt.put {w : World} {b : Nat} {cnt : Nat → Nat} (h : Cnt w b cnt) {i : Nat} (hi : i < 65536) : Cnt (w.setCell ⟨b, i, none⟩ (.int .u64 ((cnt i + 1 : Nat) : Int))) b (bump cnt i) := by
  obtain ⟨cs, h1, h2, h3⟩ := h
  refine ⟨_, heap_setCell_same w b i _ _ _ h1, by simpa using h2, fun j hj => ?_⟩
  rw [Array.getElem?_setIfInBounds]
  by_cases e : i = j
  · subst e
    rw [if_pos rfl, if_pos (by omega)]
    simp [bump]
  · rw [if_neg e, h3 j hj]
    have e' : ¬ j = i := fun h => e h.symm
    simp [bump, e']
theorem Cnt.other {w : World} {b c o : Nat} {cnt : Nat → Nat} (h : Cnt w b cnt) (u : Value) (hb : b ≠ c) : Cnt (w.setCell ⟨c, o, none⟩ u) b cnt := by
  obtain ⟨cs, h1, h2, h3⟩ := h
  exact ⟨cs, (heap_setCell_other w ⟨c, o, none⟩ b u hb).trans h1, h2, h3⟩

/-- Only blocks b and c may have turned. -/
structure Kept (b c : Nat) (w w' : World) : Prop where
  os : w'.os = w.os
  tape : w'.tape = w.tape
  output : w'.output = w.output
  size : w'.heap.size = w.heap.size
  block : ∀ k, k ≠ b → k ≠ c → w'.heap[k]? = w.heap[k]?
theorem Kept.refl (b c : Nat) (w : World) : Kept b c w w := ⟨rfl, rfl, rfl, rfl, fun _ _ _ => rfl⟩
theorem Kept.drew {b c : Nat} {w w' : World} (h : Kept b c w w') (q : Nat) : Kept b c w (w'.drewN q) := ⟨h.os, h.tape, h.output, h.size, h.block⟩
theorem Kept.putb {b c : Nat} {w w' : World} (h : Kept b c w w') (o : Nat) (v : Value) : Kept b c w (w'.setCell ⟨b, o, none⟩ v) :=
  ⟨h.os, h.tape, h.output, by simpa [World.setCell] using h.size, fun k hk hk2 => (heap_setCell_other w' ⟨b, o, none⟩ k v hk).trans (h.block k hk hk2)⟩
theorem Kept.putc {b c : Nat} {w w' : World} (h : Kept b c w w') (o : Nat) (v : Value) : Kept b c w (w'.setCell ⟨c, o, none⟩ v) :=
  ⟨h.os, h.tape, h.output, by simpa [World.setCell] using h.size, fun k hk hk2 => (heap_setCell_other w' ⟨c, o, none⟩ k v hk2).trans (h.block k hk hk2)⟩
theorem Kept.trans {b c : Nat} {w w' w'' : World} (h : Kept b c w w') (h' : Kept b c w' w'') : Kept b c w w'' :=
  ⟨h'.os.trans h.os, h'.tape.trans h.tape, h'.output.trans h.output, h'.size.trans h.size, fun k hk hk2 => (h'.block k hk hk2).trans (h.block k hk hk2)⟩
theorem Kept.one {b c k : Nat} {w w' : World} {v : Value} {t : TypeId} (h : Kept b c w w') (o : One w k v t) (h1 : k ≠ b) (h2 : k ≠ c) : One w' k v t := (h.block k h1 h2).trans o

/-- The blocks that the closure sees: the Rationing g; the variables r (bp), found (bf), prefix (bx), shift (bs), which it only reads; given (bg) and count (bc) apart from them all. -/
structure Eyes (w : World) (g bp bg bf bx bc bs asked acc least ties found prf sh : Nat) : Prop where
  rat : w.heap[g]? = some (.cells #[.int .u64 asked, .int .u64 acc, .int .u64 least, .int .u64 ties] 39)
  p : One w bp (.pointer (some ⟨g, 0, none⟩)) 29
  fd : One w bf (.int .u64 found) 24
  px : One w bx (.int .u64 prf) 24
  sh : One w bs (.int .i64 sh) 3
  ng : g ≠ bg ∧ g ≠ bc
  np : bp ≠ bg ∧ bp ≠ bc
  nf : bf ≠ bg ∧ bf ≠ bc
  nx : bx ≠ bg ∧ bx ≠ bc
  ns : bs ≠ bg ∧ bs ≠ bc
  nn : bg ≠ bc
theorem Eyes.kept {w w' : World} {g bp bg bf bx bc bs asked acc least ties found prf sh : Nat} (e : Eyes w g bp bg bf bx bc bs asked acc least ties found prf sh) (h : Kept bg bc w w') : Eyes w' g bp bg bf bx bc bs asked acc least ties found prf sh :=
  ⟨(h.block g e.ng.1 e.ng.2).trans e.rat, h.one e.p e.np.1 e.np.2, h.one e.fd e.nf.1 e.nf.2, h.one e.px e.nx.1 e.nx.2, h.one e.sh e.ns.1 e.ns.2, e.ng, e.np, e.nf, e.nx, e.ns, e.nn⟩
theorem Eyes.ratAt {w : World} {g bp bg bf bx bc bs asked acc least ties found prf sh : Nat} (e : Eyes w g bp bg bf bx bc bs asked acc least ties found prf sh) : RatAt w g asked acc least ties :=
  ⟨by rw [cell_of_row w g 0 _ _ _ e.rat]; rfl, by rw [cell_of_row w g 1 _ _ _ e.rat]; rfl, by rw [cell_of_row w g 2 _ _ _ e.rat]; rfl, by rw [cell_of_row w g 3 _ _ _ e.rat]; rfl⟩

theorem and_idx (a s : Nat) (ha : a < 18446744073709551616) : bits .and .u64 ((a : Int) / 2 ^ s) 65535 = ((a / 2 ^ s % 65536 : Nat) : Int) := by
  have hl : a / 2 ^ s ≤ a := Nat.div_le_self _ _
  have h := bits_and_u64_nat (a / 2 ^ s) 65535 (by omega) (by omega)
  rw [show (65535 : Nat) = 2 ^ 16 - 1 from rfl, Nat.and_two_pow_sub_one_eq_mod] at h
  rw [div_pow]
  exact h

set_option maxRecDepth 100000 in
set_option maxHeartbeats 1000000 in
theorem each_any (g bp bg bf bx bc bs asked acc least ties found prf sh given x : Nat) (cnt : Nat → Nat) (w : World) (E : Eyes w g bp bg bf bx bc bs asked acc least ties found prf sh) (hg : One w bg (.int .u64 given) 24) (hc : Cnt w bc cnt)
    (hx : x < 9223372036854775808) (hacc : acc < 9223372036854775808) (ha : asked < 18446744073709551616) (hxa : x ≤ asked) (ha0 : 0 < asked) (hfd : found < 18446744073709551616) (hsh : sh ≤ 63) (hcb : Hid (∀ i, cnt i < 4294967296)) :
    Calls Try.prog 20 #[.int .i64 x, .pointer (some ⟨bp, 0, none⟩), .pointer (some ⟨bg, 0, none⟩), .pointer (some ⟨bf, 0, none⟩), .pointer (some ⟨bx, 0, none⟩), .pointer (some ⟨bc, 0, none⟩), .pointer (some ⟨bs, 0, none⟩)] w fun e w' => e = .returned (.tuple #[]) ∧ Kept bg bc w w' ∧
      One w' bg (.int .u64 (((given + x * acc / asked) % 18446744073709551616 : Nat) : Int)) 24 ∧ Cnt w' bc (if (x * acc % asked) &&& found = prf then bump cnt (x * acc % asked / 2 ^ sh % 65536) else cnt) := by
  have cD := divide_any g asked acc least ties x w E.ratAt hx hacc ha hxa ha0
  have cp := E.p.cell
  obtain ⟨part, hpart⟩ : ∃ z, x * acc / asked = z := ⟨_, rfl⟩
  obtain ⟨cut, hcut⟩ : ∃ z, x * acc % asked = z := ⟨_, rfl⟩
  have hcl : cut < 18446744073709551616 := by rw [← hcut]; exact Nat.lt_trans (Nat.mod_lt _ ha0) ha
  rw [hpart, hcut] at cD
  rw [hpart, hcut]
  clear hpart hcut
  obtain ⟨gv, eg, Hg⟩ : ∃ gv : Nat, IntKind.u64.wrap ((given : Int) + part) = (gv : Int) ∧ Hid (gv = (given + part) % 18446744073709551616) := ⟨_, by rw [IntKind.wrap_u64]; omega, rfl⟩
  obtain ⟨m, em, Hm⟩ : ∃ m : Nat, bits .and .u64 (cut : Int) (found : Int) = (m : Int) ∧ Hid (m = cut &&& found) := ⟨_, bits_and_u64_nat cut found hcl hfd, rfl⟩
  obtain ⟨ix, ei, Hi⟩ : ∃ ix : Nat, bits .and .u64 ((cut : Int) / 2 ^ sh) 65535 = (ix : Int) ∧ Hid (ix = cut / 2 ^ sh % 65536) := ⟨_, and_idx cut sh hcl, rfl⟩
  have hix : ix < 65536 := by rw [Hi.out]; exact Nat.mod_lt _ (by omega)
  rw [← Hg.out, ← Hm.out, ← Hi.out]
  obtain ⟨cv, hcv⟩ : ∃ cv, cnt ix = cv := ⟨_, rfl⟩
  have ec : IntKind.u64.wrap ((cv : Int) + 1) = ((cv + 1 : Nat) : Int) := by rw [IntKind.wrap_u64]; have := hcb.out ix; omega
  obtain ⟨cv1, hcv1⟩ : ∃ z, cv + 1 = z := ⟨_, rfl⟩
  rw [hcv1] at ec
  have Hc1 : Hid (cnt ix + 1 = cv1) := by show _ = _; rw [hcv]; exact hcv1
  have Hc0 : Hid (cnt ix = cv) := hcv
  clear hcv hcv1
  by_cases t : m = prf
  · have t' : ((m : Int) == (prf : Int)) = true := by simp; omega
    rw [if_pos t]
    clear t
    go_enter Try.func20, Try.ntmps20
    go_wp2_with fail
    refine cD.mono ?_
    rintro e w1 ⟨rfl, q, rfl⟩
    have k0 : Kept bg bc w (w.drewN q) := (Kept.refl _ _ w).drew q
    have cg : (w.drewN q).cell? ⟨bg, 0, none⟩ = some (.int .u64 given) := hg.cell
    have fg : (w.drewN q).frozen? ⟨bg, 0, none⟩ = false := hg.frozen
    have og : One ((w.drewN q).setCell ⟨bg, 0, none⟩ (.int .u64 gv)) bg (.int .u64 gv) 24 := One.put (w := w.drewN q) hg _
    have k1 : Kept bg bc w ((w.drewN q).setCell ⟨bg, 0, none⟩ (.int .u64 gv)) := k0.putb 0 _
    have oc : Cnt ((w.drewN q).setCell ⟨bg, 0, none⟩ (.int .u64 gv)) bc cnt := Cnt.other (w := w.drewN q) hc _ E.nn.symm
    obtain ⟨W1, hW1⟩ : ∃ W, (w.drewN q).setCell ⟨bg, 0, none⟩ (.int .u64 gv) = W := ⟨_, rfl⟩
    rw [hW1] at og k1 oc
    have E1 := E.kept k1
    have c2 := E1.fd.cell
    have c3 := E1.px.cell
    have c4 := E1.sh.cell
    have c5 := oc.cell hix
    rw [Hc0.out] at c5
    have f5 := oc.frozen ix
    have o5 := oc.put hix
    rw [Hc1.out] at o5
    have k5 := k1.putc ix (.int .u64 (cv1 : Int))
    have g5 := og.other (c := bc) (o := ix) (.int .u64 (cv1 : Int)) E.nn
    go_wp2_with fail
    (try simp only [Exit.inBlock, Exit.then])
    refine bodyPost_end (results_none rfl _ _ _) rfl ?_
    exact ⟨rfl, k5, g5, o5⟩
  · have t' : ((m : Int) == (prf : Int)) = false := by simp; omega
    rw [if_neg t]
    clear t
    go_enter Try.func20, Try.ntmps20
    go_wp2_with fail
    refine cD.mono ?_
    rintro e w1 ⟨rfl, q, rfl⟩
    have k0 : Kept bg bc w (w.drewN q) := (Kept.refl _ _ w).drew q
    have cg : (w.drewN q).cell? ⟨bg, 0, none⟩ = some (.int .u64 given) := hg.cell
    have fg : (w.drewN q).frozen? ⟨bg, 0, none⟩ = false := hg.frozen
    have og : One ((w.drewN q).setCell ⟨bg, 0, none⟩ (.int .u64 gv)) bg (.int .u64 gv) 24 := One.put (w := w.drewN q) hg _
    have k1 : Kept bg bc w ((w.drewN q).setCell ⟨bg, 0, none⟩ (.int .u64 gv)) := k0.putb 0 _
    have oc : Cnt ((w.drewN q).setCell ⟨bg, 0, none⟩ (.int .u64 gv)) bc cnt := Cnt.other (w := w.drewN q) hc _ E.nn.symm
    obtain ⟨W1, hW1⟩ : ∃ W, (w.drewN q).setCell ⟨bg, 0, none⟩ (.int .u64 gv) = W := ⟨_, rfl⟩
    rw [hW1] at og k1 oc
    have E1 := E.kept k1
    have c2 := E1.fd.cell
    have c3 := E1.px.cell
    have c4 := E1.sh.cell
    go_wp2_with fail
    (try simp only [Exit.inBlock, Exit.then])
    refine bodyPost_end (results_none rfl _ _ _) rfl ?_
    exact ⟨rfl, k1, og, oc⟩
end Go.Proofs.Qxb6614430a
