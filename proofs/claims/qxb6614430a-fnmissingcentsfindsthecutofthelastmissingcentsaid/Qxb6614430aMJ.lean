/-
  THE WALK of missingCents.
-/
import Derived.Test.Qxb6614430aMI
import Derived.Deep.LoopGhost
import Derived.Deep.QuietTactic
import Derived.BigQuiet
import Derived.RegionTactic
import Derived.ChangeAlike
import Derived.BigRegion
set_option linter.unusedVariables false
namespace Go.Proofs.Qxb6614430a
open Go.RowKit

theorem Lone.drew {b : Nat} {w w' : World} (h : Lone b w w') : Lone b w w'.drew := ⟨h.os, h.tape, h.output, h.size, h.block⟩

/-- What the search is for, as the loop over the digits keeps it. -/
structure Seek (C : List Nat) (M top s prf found P m : Nat) : Prop where
  le : s ≤ top
  f : found = mask top s
  x : prf = P * 2 ^ s
  mid : s < top → MI C M top s P m
  top : s = top → P = 0 ∧ m = 0


/-- Memory behind missingCents: the Rationing has its answer; all else of old is as it was. -/
structure MissEnd (w w' : World) (g asked acc l t : Nat) : Prop where
  rat : w'.heap[g]? = some (.cells #[.int .u64 asked, .int .u64 acc, .int .u64 l, .int .u64 t] 39)
  os : w'.os = w.os
  tape : w'.tape = w.tape
  output : w'.output = w.output
  size : w.heap.size ≤ w'.heap.size
  block : ∀ k, k < w.heap.size → k ≠ g → w'.heap[k]? = w.heap[k]?
theorem MissEnd.drew {w w' : World} {g asked acc l t : Nat} (h : MissEnd w w' g asked acc l t) : MissEnd w w'.drew g asked acc l t := ⟨h.rat, h.os, h.tape, h.output, h.size, h.block⟩
/-- The answer. -/
def Found (C : List Nat) (M asked l0 t0 l t : Nat) : Prop := (asked = 1 ∧ l = 0 ∧ t = 0) ∨ (asked ≠ 1 ∧ M = 0 ∧ l = l0 ∧ t = t0) ∨ (asked ≠ 1 ∧ ∃ top, MI C M top 0 l t)
def MissPost (C : List Nat) (M asked acc l0 t0 g : Nat) (w w' : World) : Prop := ∃ l t, MissEnd w w' g asked acc l t ∧ Found C M asked l0 t0 l t

theorem found_none {C : List Nat} {M asked l0 t0 : Nat} (h : M = 0) (ha : asked ≠ 1) : Found C M asked l0 t0 l0 t0 := .inr (.inl ⟨ha, h, rfl, rfl⟩)
theorem found_last {C : List Nat} {M T asked l0 t0 prf found P m : Nat} (S : Seek C M (16 * T) (16 * 0) prf found P m) (h : T = 0 ↔ asked = 1) : Found C M asked l0 t0 prf m := by
  have hx : prf = P := by rw [S.x]; simp
  by_cases hT : T = 0
  · have := S.top (by omega)
    exact .inl ⟨h.1 hT, by omega, this.2⟩
  · refine .inr (.inr ⟨fun h1 => hT (h.2 h1), 16 * T, ?_⟩)
    rw [hx]
    exact S.mid (by omega)
theorem ends_none {w w4 : World} {g bv r0 n cap asked acc least ties : Nat} {xs : List Nat} (b : Below w.heap.size w w4) (L : Laid w g bv r0 n cap asked acc least ties xs) (q : Nat) : MissEnd w (w4.drewN q) g asked acc least ties :=
  ⟨(L.below b).rat, b.os, b.tape, b.output, b.size, fun k hk _ => b.block k hk⟩
theorem ends_last {w wr : World} {g bv r0 n cap asked acc least ties : Nat} {xs : List Nat} (b : Below w.heap.size w wr) (L : Laid w g bv r0 n cap asked acc least ties xs) (l t : Nat) : MissEnd w ((wr.setCell ⟨g, 2, none⟩ (.int .u64 (l : Int))).setCell ⟨g, 3, none⟩ (.int .u64 (t : Int))) g asked acc l t := by
  have h1 := heap_setCell_same wr g 2 _ _ (.int .u64 (l : Int)) (L.below b).rat
  have h2 := heap_setCell_same _ g 3 _ _ (.int .u64 (t : Int)) h1
  have l2 := (Lone.put g wr 2 (.int .u64 (l : Int))).trans (Lone.put g _ 3 (.int .u64 (t : Int)))
  exact ⟨by rw [h2]; rfl, l2.os.trans b.os, l2.tape.trans b.tape, l2.output.trans b.output, by rw [l2.size]; exact b.size, fun k hk hne => (l2.block k hne).trans (b.block k hk)⟩

theorem upTo_le (C : List Nat) (s A d : Nat) : upTo C s A d ≤ C.length := List.countP_le_length
theorem shl_lt (d s : Nat) (hd : d < 65536) (hs : s ≤ 48) : d * 2 ^ s < 18446744073709551616 := by
  have h1 : 2 ^ s ≤ 2 ^ 48 := Nat.pow_le_pow_right (by omega) hs
  have h2 : d * 2 ^ s ≤ 65535 * 2 ^ 48 := Nat.mul_le_mul (by omega) h1
  exact Nat.lt_of_le_of_lt h2 (by decide)
theorem wrap_shl (d s : Nat) (hd : d < 65536) (hs : s ≤ 48) : IntKind.u64.wrap ((d : Int) * 2 ^ s) = ((d * 2 ^ s : Nat) : Int) := by
  have h := shl_lt d s hd hs
  rw [show (d : Int) * 2 ^ s = ((d * 2 ^ s : Nat) : Int) by rw [Int.natCast_mul, Int.natCast_pow]; rfl, IntKind.wrap_u64]
  generalize d * 2 ^ s = x at h
  omega
theorem MI.bound {C : List Nat} {M top s P m T : Nat} (h : MI C M top s P m) (hC : ∀ c ∈ C, c < 2 ^ (16 * T)) (hT : T ≤ 4) : P * 2 ^ s < 18446744073709551616 := by
  have h1 : 0 < atP C s P := Nat.lt_of_lt_of_le h.pos h.le
  obtain ⟨c, hc, hp⟩ := List.countP_pos_iff.1 h1
  have hp' : c / 2 ^ s = P := by simpa using hp
  have h2 : P * 2 ^ s ≤ c := by rw [← hp']; exact Nat.div_mul_le_self _ _
  have h3 : 2 ^ (16 * T) ≤ 2 ^ 64 := Nat.pow_le_pow_right (by omega) (by omega)
  have h4 := hC c hc
  exact Nat.lt_of_le_of_lt h2 (Nat.lt_of_lt_of_le h4 h3)

set_option maxRecDepth 100000 in
set_option maxHeartbeats 4000000 in
theorem miss_walk (g bv r0 n cap asked acc least ties a1 T : Nat) (xs : List Nat) (Z : Array Value) (hZ : ∀ w, (zeroValue 47).run Try.prog w = .ok (.agg Z) w) (w W0 : World)
   (L : Laid w g bv r0 n cap asked acc least ties xs) (hl : Hid (xs.length = n)) (hn : n ≤ 4096) (hx : Hid (∀ x ∈ xs, x < 9223372036854775808 ∧ x ≤ asked)) (hacc : acc < 9223372036854775808) (Ha : Hid (asked < 18446744073709551616 ∧ 0 < asked)) (hT : T ≤ 4) (C : List Nat) (MM : Nat) (HC : Hid (xs.map (cutOf asked acc) = C)) (HM : Hid (acc - (xs.map (partOf asked acc)).sum = MM)) (HCT : Hid (∀ c ∈ C, c < 2 ^ (16 * T))) (HML : Hid (MM ≤ C.length)) (HCL : Hid (C.length ≤ 4096)) (HP : Hid ((xs.map (partOf asked acc)).sum ≤ acc)) (HT0 : Hid (T = 0 ↔ asked = 1))
   (hW : (((w.alloc (.cells #[.pointer (some ⟨g, 0, none⟩)] 29)).alloc (.cells Z 47)).alloc (.cells #[.int .u64 0] 24)).alloc (.cells #[.int .u64 0] 24) = W0)
   (cp : W0.cell? ⟨w.heap.size, 0, none⟩ = some (.pointer (some ⟨g, 0, none⟩))) (c0 : W0.cell? ⟨g, 0, none⟩ = some (.int .u64 asked)) (hs : W0.heap.size = w.heap.size + 4) (e1 : IntKind.u64.wrap ((asked : Int) - 1) = (a1 : Int)) 
   (b0 : Below w.heap.size w W0) (Ln : Nat) (hLn : Ln ≤ 64) (HT : Hid (((Ln : Int) + 16 - 1) / 16 * 16 = ((16 * T : Nat) : Int)))
   (H0 : Head w (W0.alloc (.cells #[.int .i64 ((16 * T : Nat) : Int)] 3)) g (w.heap.size + 4) 0 0 ((16 * T : Nat) : Int))
   (cL : Calls Try.prog 19 #[.int .u64 a1] W0 fun e w' => e = .returned (.int .i64 Ln) ∧ w' = W0) :
    Calls Try.prog 14 #[.pointer (some ⟨g, 0, none⟩), .func (.func 15) #[] #[.pointer (some ⟨bv, 0, none⟩)]] w fun e w' => e = .returned .nilIface ∧ MissPost C MM asked acc least ties g w w' := by
  go_enter Try.func14, Try.ntmps14
  go_wp2_with fail
  refine cL.mono ?_
  rintro e w1 ⟨rfl, rfl⟩
  go_wp2_with fail
  rw [HT.out]
  clear cL hW cp c0 hs e1 b0
  go_loopg [6, 9] T (fun gf mv bw wr => ∃ bs prf found m P : Nat, bw = .pointer (some ⟨bs, 0, none⟩) ∧ mv = .int .u64 m ∧ Head w wr g bs prf found ((16 * gf : Nat) : Int) ∧ Hid (Seek C MM (16 * T) (16 * gf) prf found P m))
  case atStart => exact ⟨w.heap.size + 4, 0, 0, 0, 0, rfl, rfl, H0, ⟨Nat.le_refl _, (mask_top _).symm, by simp, fun h => absurd h (Nat.lt_irrefl _), fun _ => ⟨rfl, rfl⟩⟩⟩
  case round =>
    obtain ⟨bs, prf, found, m, P, rfl, rfl, H, S⟩ := hrel
    cases gk with
    | zero =>
      have h0 : wr.cell? ⟨bs, 0, none⟩ = some (.int .i64 0) := H.sh.cell
      have hp := H.p.cell
      have hx := H.px.cell
      have hr := (L.below H.below).rat
      have c2 : wr.cell? ⟨g, 2, none⟩ = some (.int .u64 least) := by rw [cell_of_row wr g 2 _ _ _ hr]; rfl
      have c3 : wr.cell? ⟨g, 3, none⟩ = some (.int .u64 ties) := by rw [cell_of_row wr g 3 _ _ _ hr]; rfl
      have f2 : wr.frozen? ⟨g, 2, none⟩ = false := frozen_of_row wr g 2 _ _ hr
      have f3 : wr.frozen? ⟨g, 3, none⟩ = false := frozen_of_row wr g 3 _ _ hr
      have hE := ends_last H.below L prf m
      have hF : Found C MM asked least ties prf m := found_last S.out HT0.out
      clear hr
      go_wp2_with fail
      go_region
      go_wp2_with fail
      go_ret
      exact ⟨rfl, _, _, hE.drew, hF⟩
    | succ k =>
      obtain ⟨s, hs⟩ : ∃ s, 16 * k = s := ⟨_, rfl⟩
      have H' : Head w wr g bs prf found ((s : Int) + 16) := by rw [show ((s : Int) + 16) = ((16 * (k + 1) : Nat) : Int) by omega]; exact H
      obtain ⟨W2, W3, hcl, hal, hsz, E3, g3, c3, b3, z3⟩ := H'.prep L
      have cs := H'.sh.cell
      have fs := H'.sh.frozen
      have HS : Hid (16 * k = s) := hs
      have hsb : s ≤ 48 := by have := S.out.le; omega
      have hr0 : r0 ≠ wr.heap.size ∧ r0 ≠ w.heap.size + 1 := by have h1 := L.lt; have h2 := H'.below.size; omega
      have hfd : found < 18446744073709551616 := by rw [S.out.f]; exact mask_lt _ _ S.out.le (by omega)
      have cA := asks_any g w.heap.size wr.heap.size (w.heap.size + 1 + 1 + 1) (w.heap.size + 1 + 1) (w.heap.size + 1) bs bv r0 n cap asked acc least ties found prf s xs W3 E3 g3 c3 (L.below b3).v hl hn hr0 (fun j x h => (L.below b3).cell j x h) hx hacc Ha.out.1 Ha.out.2 hfd (by omega)
      obtain ⟨GZ, hGZ⟩ : ∃ z, (xs.map (partOf asked acc)).sum % 18446744073709551616 = z := ⟨_, rfl⟩
      rw [hGZ, HC.out] at cA
      have HGZ : Hid ((xs.map (partOf asked acc)).sum % 18446744073709551616 = GZ) := hGZ
      clear hs H hr0 hGZ
      go_wp2_with fail
      refine cA.mono ?_
      rintro e w4 ⟨rfl, K4, g4, c4⟩
      have E4 := E3.kept K4
      have b4 : Below w.heap.size w w4 := Below.kept b3 K4 (by have := H'.below.size; omega) (by omega)
      have fd4 := E4.fd.cell
      by_cases hf : found = 0
      · have hf' : ((found : Int) == 0) = true := by simp; omega
        have cp4 := E4.p.cell
        have ca4 := E4.ratAt.c1
        have cg4 := g4.cell
        obtain ⟨M, eM, HMM⟩ : ∃ M : Nat, IntKind.u64.wrap ((acc : Int) - GZ) = (M : Int) ∧ Hid (M = MM) := ⟨MM, by have h1 := HGZ.out; have h2 := HP.out; have h3 := HM.out; rw [IntKind.wrap_u64]; omega, rfl⟩
        go_wp2_with fail
        go_quiet (fail)
        by_cases hM0 : M = 0
        · have hM0' : ((M : Int) == 0) = true := by simp; omega
          have hE := ends_none b4 L nq
          have hF : Found C MM asked least ties least ties := found_none (by have := HMM.out; omega) (fun h => by have h1 := HT0.out.2 h; have h2 := S.out.le; omega)
          go_wp2_with fail
          go_ret
          exact ⟨rfl, _, _, hE, hF⟩
        · have hM0' : ((M : Int) == 0) = false := by simp; omega
          have HSf : Hid (found = mask (16 * T) (s + 16) ∧ prf = P * 2 ^ (s + 16) ∧ s + 16 ≤ 16 * T) := by
            have h1 := S.out.f; have h2 := S.out.x; have h3 := S.out.le
            rw [show 16 * (k + 1) = s + 16 by have := HS.out; omega] at h1 h2 h3
            exact ⟨h1, h2, h3⟩
          have HMI : Hid (MI C MM (16 * T) (s + 16) P M) := by
            have h1 : s + 16 = 16 * T := by
              rcases Nat.lt_or_ge (s + 16) (16 * T) with h2 | h2
              · exact absurd (HSf.out.1.symm.trans hf) (mask_pos _ _ h2)
              · have := HSf.out.2.2; omega
            have h2 : P = 0 := (S.out.top (by have := HS.out; omega)).1
            show MI _ _ _ _ _ _
            rw [h1, h2, HMM.out]
            exact MI.start C MM _ HCT.out (by have := HMM.out; omega) HML.out
          go_wp2_with fail
          have E4 : Eyes (w4.drewN nq) g w.heap.size wr.heap.size (w.heap.size + 1 + 1 + 1) (w.heap.size + 1 + 1) (w.heap.size + 1) bs asked acc least ties found prf s := E4.kept ((Kept.refl _ _ _).drew nq)
          have c4 : Cnt (w4.drewN nq) (w.heap.size + 1) (hist found prf s C) := c4
          have b4 : Below w.heap.size w (w4.drewN nq) := below_drewN b4 nq
          generalize w4.drewN nq = w5 at E4 c4 b4 ⊢
          clear hf hf' cA g3 c3 b3 z3 hal hcl E3 hsz cs fs fd4 cp4 ca4 cg4 eM hM0 hM0'
          go_loop [6, 12] (fun mv dv => ∃ mm d : Nat, mv = .int .u64 mm ∧ dv = .int .i64 d ∧ d ≤ 65535 ∧ Hid (DI C MM s (P * 65536) d mm)) (fun _ dv => (intOf dv).toNat)
          case atStart => exact ⟨M, 65535, rfl, rfl, by omega, HMI.out.digit⟩
          case round =>
            obtain ⟨mm, d, rfl, rfl, hd, D⟩ := hrel
            have hd' : d < 65536 := by omega
            have cd := c4.cell hd'
            obtain ⟨cv, hcv⟩ : ∃ z, hist found prf s C d = z := ⟨_, rfl⟩
            have HV : Hid (cv = atP C s (P * 65536 + d)) := by
              show _ = _
              rw [← hcv, HSf.out.1, HSf.out.2.1]
              exact hist_at C (16 * T) s P d HSf.out.2.2 HCT.out hd'
            rw [hcv] at cd
            clear hcv
            by_cases t : cv < mm
            · have t' : (cv : Int) < mm := by omega
              have hd1 : 1 ≤ d := D.out.pos_of (by rw [← HV.out]; exact t)
              obtain ⟨m', em, Hm⟩ : ∃ m' : Nat, IntKind.u64.wrap ((mm : Int) - cv) = (m' : Int) ∧ Hid (m' = mm - cv) := ⟨mm - cv, by rw [IntKind.wrap_u64]; have h1 := D.out.le; have h2 := upTo_le C s (P * 65536) d; have h3 := HCL.out; omega, rfl⟩
              have D' : Hid (DI C MM s (P * 65536) (d - 1) m') := by
                obtain ⟨e, rfl⟩ : ∃ e, d = e + 1 := ⟨d - 1, by omega⟩
                show DI _ _ _ _ _ _
                rw [Hm.out, HV.out]
                exact D.out.next (by rw [← HV.out]; exact t)
              go_wp2_with fail
              go_round
              case rel => exact ⟨m', d - 1, rfl, by go_num, by omega, D'⟩
              case measure => (simp [intOf]; omega)
            · have t' : ¬ (cv : Int) < mm := by omega
              have MI' : Hid (MI C MM (16 * T) s (P * 65536 + d) mm) := D.out.done (by rw [← HV.out]; omega)
              have cx := E4.px.cell
              have fx := E4.px.frozen
              have ch := E4.sh.cell
              obtain ⟨ds, ed, Hd⟩ : ∃ ds : Nat, IntKind.u64.wrap ((d : Int) * 2 ^ s) = (ds : Int) ∧ Hid (ds = d * 2 ^ s) := ⟨d * 2 ^ s, wrap_shl d s hd' hsb, rfl⟩
              obtain ⟨pr2, eo, Ho⟩ : ∃ pr2 : Nat, bits .or .u64 (prf : Int) (ds : Int) = (pr2 : Int) ∧ Hid (pr2 = (P * 65536 + d) * 2 ^ s) := ⟨_, by rw [HSf.out.2.1, Hd.out, bits_or_u64_nat _ _ (HMI.out.bound HCT.out hT) (shl_lt d s hd' hsb), prefix_next P d s hd'], rfl⟩
              go_wp2_with fail
              go_region
              have l5 : Lone (w.heap.size + 1 + 1) w5 (w5.setCell ⟨w.heap.size + 1 + 1, 0, none⟩ (.int .u64 (pr2 : Int))).drew := (Lone.put _ _ _ _).drew
              have x5 : One (w5.setCell ⟨w.heap.size + 1 + 1, 0, none⟩ (.int .u64 (pr2 : Int))).drew (w.heap.size + 1 + 1) (.int .u64 (pr2 : Int)) 24 := E4.px.put _
              obtain ⟨W5, hW5⟩ : ∃ W, (w5.setCell ⟨w.heap.size + 1 + 1, 0, none⟩ (.int .u64 (pr2 : Int))).drew = W := ⟨_, rfl⟩
              rw [hW5] at l5 x5
              have hbs : w.heap.size + 4 ≤ bs := H'.ge
              have f5 := l5.one E4.fd (by omega)
              have s5 := l5.one E4.sh (by omega)
              have p5 := l5.one E4.p (by omega)
              have r5 := l5.room c4.room (by omega)
              have b5 := b4.trans (l5.below (B := w.heap.size) (by omega))
              have cf5 := f5.cell
              have ff5 := f5.frozen
              have cs5 := s5.cell
              obtain ⟨fs, ef, Hf⟩ : ∃ fs : Nat, IntKind.u64.wrap (65535 * 2 ^ s) = (fs : Int) ∧ Hid (fs = 65535 * 2 ^ s) := ⟨65535 * 2 ^ s, wrap_shl 65535 s (by omega) hsb, rfl⟩
              obtain ⟨fd2, eo2, Ho2⟩ : ∃ fd2 : Nat, bits .or .u64 (found : Int) (fs : Int) = (fd2 : Int) ∧ Hid (fd2 = mask (16 * T) s) := ⟨_, by rw [HSf.out.1, Hf.out, bits_or_u64_nat _ _ (mask_lt _ _ HSf.out.2.2 (by omega)) (shl_lt 65535 s (by omega) hsb), mask_next _ _ HSf.out.2.2], rfl⟩
              clear cx fx ch ed eo cd
              go_wp2_with fail
              go_region
              have l6 : Lone (w.heap.size + 1 + 1 + 1) W5 (W5.setCell ⟨w.heap.size + 1 + 1 + 1, 0, none⟩ (.int .u64 (fd2 : Int))).drew := (Lone.put _ _ _ _).drew
              have f6 : One (W5.setCell ⟨w.heap.size + 1 + 1 + 1, 0, none⟩ (.int .u64 (fd2 : Int))).drew (w.heap.size + 1 + 1 + 1) (.int .u64 (fd2 : Int)) 24 := f5.put _
              obtain ⟨W6, hW6⟩ : ∃ W, (W5.setCell ⟨w.heap.size + 1 + 1 + 1, 0, none⟩ (.int .u64 (fd2 : Int))).drew = W := ⟨_, rfl⟩
              rw [hW6] at l6 f6
              have s6 := l6.one s5 (by omega)
              have cs6 := s6.cell
              have p6 := l6.one p5 (by omega)
              have x6 := l6.one x5 (by omega)
              have r6 := l6.room r5 (by omega)
              have b6 := b5.trans (l6.below (B := w.heap.size) (by omega))
              have H7 : Head w (W6.alloc (.cells #[.int .i64 (s : Int)] 3)) g W6.heap.size pr2 fd2 ((16 * k : Nat) : Int) := by
                have h1 := One.new W6 (.int .i64 (s : Int)) 3
                have h2 := s6.lt
                rw [HS.out]
                exact ⟨b6.alloc (by omega) _, p6.alloc _, r6.alloc _, x6.alloc _, f6.alloc _, h1, by omega⟩
              have S7 : Hid (Seek C MM (16 * T) (16 * k) pr2 fd2 (P * 65536 + d) mm) := by
                have h1 := HSf.out.2.2
                rw [HS.out]
                exact ⟨by omega, Ho2.out, Ho.out, fun _ => MI'.out, fun h => by omega⟩
              clear cs5 cf5 ff5
              go_wp2_with fail
              go_roundg k
              case measure => omega
              case rel => exact ⟨W6.heap.size, pr2, fd2, mm, P * 65536 + d, rfl, rfl, H7, S7⟩
      · have hf' : ((found : Int) == 0) = false := by simp; omega
        have HMI : Hid (MI C MM (16 * T) (s + 16) P m) := by
          have h1 := S.out.mid
          rw [show 16 * (k + 1) = s + 16 by have := HS.out; omega] at h1
          refine h1 ?_
          rcases Nat.lt_or_ge (s + 16) (16 * T) with h2 | h2
          · exact h2
          · have h3 := S.out.le
            have h4 := S.out.f
            rw [show 16 * (k + 1) = 16 * T by have := HS.out; omega, mask_top] at h4
            exact absurd h4 hf
        have HSf : Hid (found = mask (16 * T) (s + 16) ∧ prf = P * 2 ^ (s + 16) ∧ s + 16 ≤ 16 * T) := by
          have h1 := S.out.f; have h2 := S.out.x; have h3 := S.out.le
          rw [show 16 * (k + 1) = s + 16 by have := HS.out; omega] at h1 h2 h3
          exact ⟨h1, h2, h3⟩
        go_wp2_with fail
        clear hf hf' cA g3 c3 b3 z3 hal hcl E3 hsz cs fs fd4
        go_loop [6, 12] (fun mv dv => ∃ mm d : Nat, mv = .int .u64 mm ∧ dv = .int .i64 d ∧ d ≤ 65535 ∧ Hid (DI C MM s (P * 65536) d mm)) (fun _ dv => (intOf dv).toNat)
        case atStart => exact ⟨m, 65535, rfl, rfl, by omega, HMI.out.digit⟩
        case round =>
          obtain ⟨mm, d, rfl, rfl, hd, D⟩ := hrel
          have hd' : d < 65536 := by omega
          have cd := c4.cell hd'
          obtain ⟨cv, hcv⟩ : ∃ z, hist found prf s C d = z := ⟨_, rfl⟩
          have HV : Hid (cv = atP C s (P * 65536 + d)) := by
            show _ = _
            rw [← hcv, HSf.out.1, HSf.out.2.1]
            exact hist_at C (16 * T) s P d HSf.out.2.2 HCT.out hd'
          rw [hcv] at cd
          clear hcv
          by_cases t : cv < mm
          · have t' : (cv : Int) < mm := by omega
            have hd1 : 1 ≤ d := D.out.pos_of (by rw [← HV.out]; exact t)
            obtain ⟨m', em, Hm⟩ : ∃ m' : Nat, IntKind.u64.wrap ((mm : Int) - cv) = (m' : Int) ∧ Hid (m' = mm - cv) := ⟨mm - cv, by rw [IntKind.wrap_u64]; have h1 := D.out.le; have h2 := upTo_le C s (P * 65536) d; have h3 := HCL.out; omega, rfl⟩
            have D' : Hid (DI C MM s (P * 65536) (d - 1) m') := by
              obtain ⟨e, rfl⟩ : ∃ e, d = e + 1 := ⟨d - 1, by omega⟩
              show DI _ _ _ _ _ _
              rw [Hm.out, HV.out]
              exact D.out.next (by rw [← HV.out]; exact t)
            go_wp2_with fail
            go_round
            case rel => exact ⟨m', d - 1, rfl, by go_num, by omega, D'⟩
            case measure => (simp [intOf]; omega)
          · have t' : ¬ (cv : Int) < mm := by omega
            have MI' : Hid (MI C MM (16 * T) s (P * 65536 + d) mm) := D.out.done (by rw [← HV.out]; omega)
            have cx := E4.px.cell
            have fx := E4.px.frozen
            have ch := E4.sh.cell
            obtain ⟨ds, ed, Hd⟩ : ∃ ds : Nat, IntKind.u64.wrap ((d : Int) * 2 ^ s) = (ds : Int) ∧ Hid (ds = d * 2 ^ s) := ⟨d * 2 ^ s, wrap_shl d s hd' hsb, rfl⟩
            obtain ⟨pr2, eo, Ho⟩ : ∃ pr2 : Nat, bits .or .u64 (prf : Int) (ds : Int) = (pr2 : Int) ∧ Hid (pr2 = (P * 65536 + d) * 2 ^ s) := ⟨_, by rw [HSf.out.2.1, Hd.out, bits_or_u64_nat _ _ (HMI.out.bound HCT.out hT) (shl_lt d s hd' hsb), prefix_next P d s hd'], rfl⟩
            go_wp2_with fail
            go_region
            have l5 : Lone (w.heap.size + 1 + 1) w4 (w4.setCell ⟨w.heap.size + 1 + 1, 0, none⟩ (.int .u64 (pr2 : Int))).drew := (Lone.put _ _ _ _).drew
            have x5 : One (w4.setCell ⟨w.heap.size + 1 + 1, 0, none⟩ (.int .u64 (pr2 : Int))).drew (w.heap.size + 1 + 1) (.int .u64 (pr2 : Int)) 24 := E4.px.put _
            obtain ⟨W5, hW5⟩ : ∃ W, (w4.setCell ⟨w.heap.size + 1 + 1, 0, none⟩ (.int .u64 (pr2 : Int))).drew = W := ⟨_, rfl⟩
            rw [hW5] at l5 x5
            have hbs : w.heap.size + 4 ≤ bs := H'.ge
            have f5 := l5.one E4.fd (by omega)
            have s5 := l5.one E4.sh (by omega)
            have p5 := l5.one E4.p (by omega)
            have r5 := l5.room c4.room (by omega)
            have b5 := b4.trans (l5.below (B := w.heap.size) (by omega))
            have cf5 := f5.cell
            have ff5 := f5.frozen
            have cs5 := s5.cell
            obtain ⟨fs, ef, Hf⟩ : ∃ fs : Nat, IntKind.u64.wrap (65535 * 2 ^ s) = (fs : Int) ∧ Hid (fs = 65535 * 2 ^ s) := ⟨65535 * 2 ^ s, wrap_shl 65535 s (by omega) hsb, rfl⟩
            obtain ⟨fd2, eo2, Ho2⟩ : ∃ fd2 : Nat, bits .or .u64 (found : Int) (fs : Int) = (fd2 : Int) ∧ Hid (fd2 = mask (16 * T) s) := ⟨_, by rw [HSf.out.1, Hf.out, bits_or_u64_nat _ _ (mask_lt _ _ HSf.out.2.2 (by omega)) (shl_lt 65535 s (by omega) hsb), mask_next _ _ HSf.out.2.2], rfl⟩
            clear cx fx ch ed eo cd
            go_wp2_with fail
            go_region
            have l6 : Lone (w.heap.size + 1 + 1 + 1) W5 (W5.setCell ⟨w.heap.size + 1 + 1 + 1, 0, none⟩ (.int .u64 (fd2 : Int))).drew := (Lone.put _ _ _ _).drew
            have f6 : One (W5.setCell ⟨w.heap.size + 1 + 1 + 1, 0, none⟩ (.int .u64 (fd2 : Int))).drew (w.heap.size + 1 + 1 + 1) (.int .u64 (fd2 : Int)) 24 := f5.put _
            obtain ⟨W6, hW6⟩ : ∃ W, (W5.setCell ⟨w.heap.size + 1 + 1 + 1, 0, none⟩ (.int .u64 (fd2 : Int))).drew = W := ⟨_, rfl⟩
            rw [hW6] at l6 f6
            have s6 := l6.one s5 (by omega)
            have cs6 := s6.cell
            have p6 := l6.one p5 (by omega)
            have x6 := l6.one x5 (by omega)
            have r6 := l6.room r5 (by omega)
            have b6 := b5.trans (l6.below (B := w.heap.size) (by omega))
            have H7 : Head w (W6.alloc (.cells #[.int .i64 (s : Int)] 3)) g W6.heap.size pr2 fd2 ((16 * k : Nat) : Int) := by
              have h1 := One.new W6 (.int .i64 (s : Int)) 3
              have h2 := s6.lt
              rw [HS.out]
              exact ⟨b6.alloc (by omega) _, p6.alloc _, r6.alloc _, x6.alloc _, f6.alloc _, h1, by omega⟩
            have S7 : Hid (Seek C MM (16 * T) (16 * k) pr2 fd2 (P * 65536 + d) mm) := by
              have h1 := HSf.out.2.2
              rw [HS.out]
              exact ⟨by omega, Ho2.out, Ho.out, fun _ => MI'.out, fun h => by omega⟩
            clear cs5 cf5 ff5
            go_wp2_with fail
            go_roundg k
            case measure => omega
            case rel => exact ⟨W6.heap.size, pr2, fd2, mm, P * 65536 + d, rfl, rfl, H7, S7⟩
end Go.Proofs.Qxb6614430a
