/-
  THE WALK of lastMissingCut.
-/
import Derived.Test.Qxb6614430aMK
import Derived.Laws.CopyOwn
import Derived.Deep.OwnRows
set_option linter.unusedVariables false
namespace Go.Proofs.Qxb6614430a
open Go.RowKit

/-- Block b holds the words L. -/
def RowN (w : World) (b : Nat) (L : List Nat) : Prop := w.heap[b]? = some (.cells (L.map (fun x : Nat => Value.int .u64 (x : Int))).toArray 24)
theorem RowN.cell {w : World} {b : Nat} {L : List Nat} (h : RowN w b L) {j x : Nat} (hx : L[j]? = some x) : w.cell? ⟨b, j, none⟩ = some (.int .u64 (x : Int)) := by
  rw [cell_of_row w b j _ _ _ h]
  simp [hx]
theorem RowN.frozen {w : World} {b : Nat} {L : List Nat} (h : RowN w b L) (j : Nat) : w.frozen? ⟨b, j, none⟩ = false := frozen_of_row w b j _ _ h
theorem RowN.put {w : World} {b : Nat} {A : List Nat} {x : Nat} {C : List Nat} (h : RowN w b (A ++ x :: C)) (y : Nat) : RowN (w.setCell ⟨b, A.length, none⟩ (.int .u64 (y : Int))) b (A ++ y :: C) := by
  unfold RowN
  rw [heap_setCell_same w b A.length _ _ _ h]
  simp

theorem info24 : (Try.prog.info? 24).map (fun i => (i.zero, i.size, i.bytes)) = some (some (.int .u64 0), 1, 8) := by kernel_rfl

/-- The counts that the law's own search takes. -/
def over (cs : List Nat) (v : Nat) : Nat := cs.countP (fun c => decide (v < c))
def least' (cs : List Nat) (v : Nat) : Nat := cs.countP (fun c => decide (v ≤ c))
def LastPost (cs : List Nat) (M asked l t : Nat) : Prop := (M = 0 ∧ asked = 1 ∧ l = 0 ∧ t = 0) ∨ (M = 0 ∧ asked ≠ 1 ∧ l = 18446744073709551615 ∧ t = 0) ∨ (M ≠ 0 ∧ l ∈ cs ∧ over cs l < M ∧ M ≤ least' cs l ∧ t = M - over cs l)

theorem made_rep (z : Value) (n : Nat) : madeCells #[z] n = Array.replicate n z := by
  apply Array.ext
  · simp [madeCells]
  · intro i h1 h2
    simp [madeCells]
    have : i % 1 = 0 := Nat.mod_one i
    simp [this]

/-- What the first loop keeps. -/
structure Fill (w wr : World) (cs ps : List Nat) (n k gv : Nat) : Prop where
  row : RowN wr w.heap.size (cs.take k ++ List.replicate (n - k) 0)
  below : Below w.heap.size w wr
  g : gv = (ps.take k).sum
theorem take_nextN {zs : List Nat} {k : Nat} {x : Nat} (h : zs[k]? = some x) : zs.take (k + 1) = zs.take k ++ [x] := by
  rw [List.take_add_one, h]
  rfl
theorem Fill.next {w wr : World} {cs ps : List Nat} {n k gv c p gw : Nat} (h : Fill w wr cs ps n k gv) (hk : k < n) (hl : cs.length = n) (hc : cs[k]? = some c) (hp : ps[k]? = some p) (hg : gw = gv + p) : Fill w (wr.setCell ⟨w.heap.size, k, none⟩ (.int .u64 (c : Int))) cs ps n (k + 1) gw := by
  obtain ⟨h1, h2, h3⟩ := h
  refine ⟨?_, h2.setCell (Nat.le_refl _) _, ?_⟩
  · rw [show n - k = (n - (k + 1)) + 1 by omega, List.replicate_succ] at h1
    have h4 := h1.put c
    rw [List.length_take, hl, Nat.min_eq_left (by omega)] at h4
    rw [take_nextN hc]
    simpa using h4
  · rw [take_nextN hp, List.sum_append, hg, h3]
    simp

theorem sum_take_le : ∀ (l : List Nat) (k : Nat), (l.take k).sum ≤ l.sum
  | [], k => by simp
  | a :: l, 0 => by simp
  | a :: l, k + 1 => by
    have := sum_take_le l k
    simp
    omega

/-- The counts over the first kk cuts. -/
def Part (cs : List Nat) (v kk a l : Nat) : Prop := (a = over (cs.take kk) v ∧ l = least' (cs.take kk) v) ∧ a ≤ kk ∧ l ≤ kk
theorem Part.next {cs : List Nat} {v kk a l c : Nat} (h : Part cs v kk a l) (hc : cs[kk]? = some c) : Part cs v (kk + 1) (a + if v < c then 1 else 0) (l + if v ≤ c then 1 else 0) := by
  obtain ⟨⟨h1, h2⟩, h3, h4⟩ := h
  refine ⟨⟨?_, ?_⟩, ?_, ?_⟩
  · rw [take_nextN hc, h1]
    unfold over
    rw [List.countP_append, List.countP_singleton]
    simp
  · rw [take_nextN hc, h2]
    unfold least'
    rw [List.countP_append, List.countP_singleton]
    simp
  · split <;> omega
  · split <;> omega

set_option maxRecDepth 100000 in
set_option maxHeartbeats 4000000 in
theorem last_walk (r0 n cap asked acc M : Nat) (xs cs ps : List Nat) (w : World) (HR : Hid (∀ j x : Nat, xs[j]? = some x → w.cell? ⟨r0, j, none⟩ = some (.int .i64 (x : Int)))) (hr0 : r0 < w.heap.size) (hl : Hid (xs.length = n ∧ cs.length = n ∧ ps.length = n)) (hn0 : 1 ≤ n) (hn : n ≤ 4096)
    (HC : Hid (∀ j x : Nat, xs[j]? = some x → cs[j]? = some (cutOf asked acc x) ∧ ps[j]? = some (partOf asked acc x))) (hx : Hid (∀ x ∈ xs, x < 9223372036854775808 ∧ x ≤ asked)) (hacc : acc < 9223372036854775808) (Ha : Hid (asked < 18446744073709551616 ∧ 0 < asked))
    (HP : Hid (ps.sum + M = acc)) (HG : Hid (M ≠ 0 → ∃ v ∈ cs, over cs v < M ∧ M ≤ least' cs v)) :
    Calls Try.prog 12 #[.slice (some ⟨r0, 0, none⟩) n cap, .int .u64 acc, .int .u64 asked] w fun e w' => (∃ l t : Nat, e = .returned (.tuple #[.int .u64 l, .int .u64 t]) ∧ Hid (LastPost cs M asked l t)) ∧ Below w.heap.size w w' := by
  have hmk := run_make_row' (P := Try.prog) 43 24 (.int .u64 0) 8 Try.underlying43 info24 rfl .i64 .i64 n (by omega) (by omega)
  have hF : Fill w (w.alloc (.cells (madeCells #[.int .u64 0] n) 24)) cs ps n 0 0 := by
    refine ⟨?_, (Below.refl _ _).alloc (Nat.le_refl _) _, by simp⟩
    unfold RowN
    rw [heap_alloc_new]
    rw [made_rep]
    simp
  go_enter Try.func12, Try.ntmps12
  go_wp2_with fail
  clear hmk
  go_loopw [10, 11] (fun gv jv wr => ∃ k gn : Nat, k ≤ n ∧ jv = .int .i64 k ∧ gv = .int .u64 gn ∧ Fill w wr cs ps n k gn) (fun _ jv _ => n - (intOf jv).toNat)
  case atStart => exact ⟨0, 0, by omega, rfl, rfl, hF⟩
  case round =>
    clear hF
    obtain ⟨k, gn, hk, rfl, rfl, F⟩ := hrel
    by_cases hlt : k < n
    · have hkk : (k : Int) < n := by omega
      obtain ⟨x, hxk⟩ : ∃ y, Hid (xs[k]? = some y) := ⟨xs[k]'(by have := hl.out.1; omega), List.getElem?_eq_getElem _⟩
      have hxx := hx.out x (List.mem_of_getElem? hxk.out)
      obtain ⟨hc, hp⟩ := HC.out k x hxk.out
      have cx : wr.cell? ⟨r0, k, none⟩ = some (.int .i64 (x : Int)) := (F.below.cell (p := ⟨r0, k, none⟩) hr0).trans (HR.out k x hxk.out)
      have hN : x * acc < asked * 18446744073709551616 := by
        have h1 : x * acc ≤ asked * acc := Nat.mul_le_mul_right _ hxx.2
        have h2 : asked * acc < asked * 18446744073709551616 := Nat.mul_lt_mul_of_pos_left (by omega) Ha.out.2
        omega
      have cM := long_any x acc asked (by omega) (by omega) Ha.out.2 Ha.out.1 hN wr
      obtain ⟨q, hq⟩ : ∃ q, x * acc / asked = q := ⟨_, rfl⟩
      obtain ⟨r, hr⟩ : ∃ r, x * acc % asked = r := ⟨_, rfl⟩
      rw [hq, hr] at cM
      have hc' : Hid (cs[k]? = some r) := by show _ = _; rw [← hr]; exact hc
      have hp' : Hid (ps[k]? = some q) := by show _ = _; rw [← hq]; exact hp
      obtain ⟨gw, eg, Hg⟩ : ∃ gw : Nat, IntKind.u64.wrap ((gn : Int) + q) = (gw : Int) ∧ Hid (gw = gn + q) := ⟨gn + q, by
        have h1 := F.g
        have h2 : (ps.take (k + 1)).sum ≤ ps.sum := sum_take_le ps (k + 1)
        rw [take_nextN hp'.out, List.sum_append] at h2
        simp at h2
        have h3 := HP.out
        rw [IntKind.wrap_u64]
        omega, rfl⟩
      have hwx : IntKind.u64.wrap (x : Int) = (x : Int) := by rw [IntKind.wrap_u64]; omega
      have hcc : ∃ u, wr.cell? ⟨w.heap.size, k, none⟩ = some u := ⟨_, by
        rw [cell_of_row wr w.heap.size k _ _ _ F.row, Array.getElem?_eq_getElem (by simp; have := hl.out.2.1; omega)]⟩
      obtain ⟨u, cu⟩ := hcc
      have fu := F.row.frozen k
      have F' := F.next hlt hl.out.2.1 hc'.out hp'.out Hg.out
      clear hc hp hq hr hxx hN
      go_wp2_with fail
      refine cM.mono ?_
      rintro e w1 ⟨rfl, rfl⟩
      clear cM
      go_wp2_with fail
      go_roundw
      case rel => exact ⟨k + 1, gw, by omega, by go_num, rfl, F'⟩
      case measure => (simp [intOf]; omega)
    · have hk' : k = n := by omega
      subst hk'
      have R : RowN wr w.heap.size cs := by
        have h1 := F.row
        rw [Nat.sub_self, List.take_of_length_le (by have := hl.out.2.1; omega)] at h1
        simpa using h1
      have b := F.below
      obtain ⟨M', eM, HMM⟩ : ∃ M' : Nat, IntKind.u64.wrap ((acc : Int) - gn) = (M' : Int) ∧ Hid (M' = M) := ⟨M, by
        have h1 := F.g
        rw [List.take_of_length_le (by have := hl.out.2.2; omega)] at h1
        have h2 := HP.out
        rw [IntKind.wrap_u64]
        omega, rfl⟩
      obtain rfl : M' = M := HMM.out
      clear F HMM
      by_cases hM : M' = 0
      · have hM' : ((M' : Int) == 0) = true := by simp; omega
        by_cases h1 : asked = 1
        · have h1' : ((asked : Int) == 1) = true := by simp; omega
          have HL : Hid (LastPost cs M' asked 0 0) := .inl ⟨hM, h1, rfl, rfl⟩
          clear hM h1
          go_wp2_with fail
          go_ret2
          exact ⟨⟨0, 0, rfl, HL⟩, b⟩
        · have h1' : ((asked : Int) == 1) = false := by simp; omega
          have HL : Hid (LastPost cs M' asked 18446744073709551615 0) := .inr (.inl ⟨hM, h1, rfl, rfl⟩)
          clear hM h1
          go_wp2_with fail
          go_ret2
          exact ⟨⟨18446744073709551615, 0, rfl, HL⟩, b⟩
      · have hM' : ((M' : Int) == 0) = false := by simp; omega
        have HG' : Hid (∃ v ∈ cs, over cs v < M' ∧ M' ≤ least' cs v) := HG.out hM
        have HM0 : Hid (M' ≠ 0) := hM
        clear hM
        go_wp2_with fail
        clear hM' eM
        go_loopw [15] (fun jv w2 => ∃ j q : Nat, j ≤ k ∧ jv = .int .i64 j ∧ w2 = wr.drewN q ∧ Hid (∀ i v, i < j → cs[i]? = some v → ¬ (over cs v < M' ∧ M' ≤ least' cs v))) (fun jv _ => k - (intOf jv).toNat)
        case atStart => exact ⟨0, 0, by omega, rfl, rfl, fun i v hi => by omega⟩
        case round =>
          obtain ⟨j, q, hj, rfl, rfl, HJ⟩ := hrel
          by_cases hjn : j < k
          · have hjj : (j : Int) < k := by omega
            obtain ⟨v, hv⟩ : ∃ y, Hid (cs[j]? = some y) := ⟨cs[j]'(by have := hl.out.2.1; omega), List.getElem?_eq_getElem _⟩
            have cj := R.cell hv.out
            go_wp2_with fail
            go_loopw [16, 17, 18] (fun av lv kv w3 => ∃ kk a l q2 : Nat, kk ≤ k ∧ kv = .int .i64 kk ∧ av = .int .u64 a ∧ lv = .int .u64 l ∧ w3 = wr.drewN q2 ∧ Hid (Part cs v kk a l)) (fun _ _ kv _ => k - (intOf kv).toNat)
            case atStart => exact ⟨0, 0, 0, q, by omega, rfl, rfl, rfl, rfl, ⟨⟨rfl, rfl⟩, by omega, by omega⟩⟩
            case round =>
              obtain ⟨kk, a, l, q2, hkk, rfl, rfl, rfl, rfl, HA⟩ := hrel
              by_cases hkn : kk < k
              · have hkk' : (kk : Int) < k := by omega
                obtain ⟨c, hc⟩ : ∃ y, Hid (cs[kk]? = some y) := ⟨cs[kk]'(by have := hl.out.2.1; omega), List.getElem?_eq_getElem _⟩
                have ck := R.cell hc.out
                have ba := HA.out.2.1
                have bl := HA.out.2.2
                have i0 : (0 : Int) ≤ kk := by omega
                have j0 : (0 : Int) ≤ j := by omega
                by_cases t1 : v < c
                · have k1 : (v : Int) < c := by omega
                  have k2 : (v : Int) ≤ c := by omega
                  have HN : Hid (Part cs v (kk + 1) (a + 1) (l + 1)) := by have h1 := HA.out.next hc.out; rw [if_pos t1, if_pos (by omega)] at h1; exact h1
                  go_wp2_with fail
                  go_quiet (fail)
                  go_wp2_with fail
                  go_quiet (fail)
                  go_wp2_with fail
                  go_roundw
                  case rel => exact ⟨kk + 1, a + 1, l + 1, _, by omega, by go_num, by go_num, by go_num, rfl, HN⟩
                  case measure => (simp [intOf]; omega)
                · by_cases t2 : v ≤ c
                  · have k1 : ¬ (v : Int) < c := by omega
                    have k2 : (v : Int) ≤ c := by omega
                    have HN : Hid (Part cs v (kk + 1) a (l + 1)) := by have h1 := HA.out.next hc.out; rw [if_neg t1, if_pos t2] at h1; exact h1
                    go_wp2_with fail
                    go_quiet (fail)
                    go_wp2_with fail
                    go_quiet (fail)
                    go_wp2_with fail
                    go_roundw
                    case rel => exact ⟨kk + 1, a, l + 1, _, by omega, by go_num, rfl, by go_num, rfl, HN⟩
                    case measure => (simp [intOf]; omega)
                  · have k1 : ¬ (v : Int) < c := by omega
                    have k2 : ¬ (v : Int) ≤ c := by omega
                    have HN : Hid (Part cs v (kk + 1) a l) := by have h1 := HA.out.next hc.out; rw [if_neg t1, if_neg t2] at h1; exact h1
                    go_wp2_with fail
                    go_quiet (fail)
                    go_wp2_with fail
                    go_quiet (fail)
                    go_wp2_with fail
                    go_roundw
                    case rel => exact ⟨kk + 1, a, l, _, by omega, by go_num, rfl, rfl, rfl, HN⟩
                    case measure => (simp [intOf]; omega)
              · have HA' : Hid (a = over cs v ∧ l = least' cs v) := by
                  have h1 := HA.out.1
                  rw [List.take_of_length_le (by have := hl.out.2.1; omega)] at h1
                  exact h1
                have ba := HA.out.2.1
                by_cases g1 : a < M'
                · have g1' : (a : Int) < M' := by omega
                  by_cases g2 : M' ≤ l
                  · have g2' : (M' : Int) ≤ l := by omega
                    obtain ⟨tt, et, Ht⟩ : ∃ tt : Nat, IntKind.u64.wrap ((M' : Int) - a) = (tt : Int) ∧ Hid (tt = M' - a) := ⟨M' - a, by have := HP.out; rw [IntKind.wrap_u64]; omega, rfl⟩
                    have HL : Hid (LastPost cs M' asked v tt) := .inr (.inr ⟨HM0.out, List.mem_of_getElem? hv.out, by rw [← HA'.out.1]; exact g1, by rw [← HA'.out.2]; exact g2, by rw [← HA'.out.1]; exact Ht.out⟩)
                    have j0 : (0 : Int) ≤ j := by omega
                    clear g1 g2
                    go_wp2_with fail
                    go_ret2
                    exact ⟨⟨v, tt, rfl, HL⟩, below_drewN b _⟩
                  · have g2' : ¬ (M' : Int) ≤ l := by omega
                    have HJ' : Hid (∀ i u, i < j + 1 → cs[i]? = some u → ¬ (over cs u < M' ∧ M' ≤ least' cs u)) := by
                      intro i u hi hu
                      by_cases e : i = j
                      · subst e
                        obtain rfl : v = u := Option.some.inj (hv.out.symm.trans hu)
                        rw [← HA'.out.1, ← HA'.out.2]
                        omega
                      · exact HJ.out i u (by omega) hu
                    go_wp2_with fail
                    go_roundw
                    case rel => exact ⟨j + 1, q2, by omega, by go_num, rfl, HJ'⟩
                    case measure => (simp [intOf]; omega)
                · have g1' : ¬ (a : Int) < M' := by omega
                  have HJ' : Hid (∀ i u, i < j + 1 → cs[i]? = some u → ¬ (over cs u < M' ∧ M' ≤ least' cs u)) := by
                    intro i u hi hu
                    by_cases e : i = j
                    · subst e
                      obtain rfl : v = u := Option.some.inj (hv.out.symm.trans hu)
                      rw [← HA'.out.1, ← HA'.out.2]
                      omega
                    · exact HJ.out i u (by omega) hu
                  go_wp2_with fail
                  go_roundw
                  case rel => exact ⟨j + 1, q2, by omega, by go_num, rfl, HJ'⟩
                  case measure => (simp [intOf]; omega)
          · exfalso
            obtain ⟨v, hv, hgood⟩ := HG'.out
            obtain ⟨i, hi⟩ := List.mem_iff_getElem?.1 hv
            have hil : i < cs.length := by
              rcases Nat.lt_or_ge i cs.length with h1 | h1
              · exact h1
              · rw [List.getElem?_eq_none h1] at hi; cases hi
            exact HJ.out i v (by have := hl.out.2.1; omega) hi hgood
end Go.Proofs.Qxb6614430a
