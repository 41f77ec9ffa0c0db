import Derived.Test.Qxb6615905aTB
import Derived.Deep.RegionHeld3
import Derived.Deep.DeepCutAuto
namespace Go.Proofs.Qxb6615905a
open Go.RowKit

/-- The day's box (block B), and all below w's size as it was. -/
structure SR (w wr : World) (B : Nat) (s : Int) : Prop where
  c0 : wr.cell? ⟨B, 0, none⟩ = some (.int .u64 0)
  c1 : wr.cell? ⟨B, 1, none⟩ = some (.int .i64 s)
  c2 : wr.cell? ⟨B, 2, none⟩ = some (.pointer none)
  c3 : wr.cell? ⟨B, 3, none⟩ = some (.bool true)
  sz : B < wr.heap.size
  bel : Below w.heap.size w wr

theorem SR.on {w wr w1 : World} {B : Nat} {s : Int} (h : SR w wr B s) (hb : Below wr.heap.size wr w1) : SR w w1 B s := by
  have hz := h.sz
  have hz1 := hb.size
  have hz2 := h.bel.size
  exact ⟨(hb.cell (p := ⟨B, 0, none⟩) hz).trans h.c0, (hb.cell (p := ⟨B, 1, none⟩) hz).trans h.c1, (hb.cell (p := ⟨B, 2, none⟩) hz).trans h.c2, (hb.cell (p := ⟨B, 3, none⟩) hz).trans h.c3, by omega, h.bel.trans (hb.mono (by omega))⟩
theorem SR.drew {w wr : World} {B : Nat} {s : Int} (h : SR w wr B s) : SR w wr.drew B s := ⟨h.c0, h.c1, h.c2, h.c3, h.sz, h.bel.drew⟩

abbrev SRs (w : World) (B : Nat) (s : Int) (w' : World) : Prop := w'.cell? ⟨B, 0, none⟩ = some (.int .u64 0) ∧ w'.cell? ⟨B, 1, none⟩ = some (.int .i64 s) ∧ w'.cell? ⟨B, 2, none⟩ = some (.pointer none) ∧ w'.cell? ⟨B, 3, none⟩ = some (.bool true) ∧ SR w w' B s
theorem SR.limbs {w wr : World} {B : Nat} {s : Int} (h : SR w wr B s) : SRs w B s wr := ⟨h.c0, h.c1, h.c2, h.c3, h⟩

theorem wrapOf (n : Int) (h0 : 0 ≤ n) (h1 : n ≤ 5000000) : IntKind.i64.wrap n = n := by
  rw [IntKind.wrap_i64]
  omega
/-- In a region that draws the number stands wrapped. -/
theorem day_wrapped (n : Int) (h0 : 0 ≤ n) (h1 : n ≤ 5000000) (w : World) :
    Calls Try.prog 6 #[.int .i64 (IntKind.i64.wrap n)] w fun e w' => e = .returned (.agg #[.int .u64 0, .int .i64 (n * 86400), .pointer none, .bool true]) ∧ Below w.heap.size w w' := by
  rw [wrapOf n h0 h1]
  exact day_any n h0 h1 w

set_option maxHeartbeats 400000 in
theorem adj_any (f t d : Int) (f1 : 1 ≤ f) (f2 : f ≤ 4194303) (t1 : f ≤ t) (t2 : t ≤ 4194303) (d1 : 0 ≤ d) (d2 : d ≤ 4194304) (w : World) :
    Calls Try.prog 4 #[.int .i64 f, .int .i64 t, .int .i64 d] w fun e w' => e = .returned (.bool true) ∧ Below w.heap.size w w' := by
  go_enter Try.func4, Try.ntmps4
  go_wp2_with (go_at_call 6; refine (day_any d d1 (by omega) _).mono ?_; rintro e w1 ⟨rfl, hb⟩)
  have hS : SR w (w1.alloc (.cells #[.int .u64 0, .int .i64 (d * 86400), .pointer none, .bool true] 27)) w1.heap.size (d * 86400) :=
    ⟨by simp [go_sem], by simp [go_sem], by simp [go_sem], by simp [go_sem], by simp, hb.alloc hb.size _⟩
  go_cut [8] (fun b wc => b = .bool (conB 0 ((f - 1) * 86400) (d * 86400) false true) ∧ SR w wc w1.heap.size (d * 86400))
  case first =>
    clear hb
    generalize (w1.alloc (.cells #[.int .u64 0, .int .i64 (d * 86400), .pointer none, .bool true] 27)) = W at hS ⊢
    have ⟨c0, c1, c2, c3, _, _⟩ := hS
    have hf1 : 0 ≤ f - 1 := by omega
    go_region_held3 (fun w' => w'.cell? ⟨w1.heap.size, 0, none⟩ = some (.int .u64 0) ∧ w'.cell? ⟨w1.heap.size, 1, none⟩ = some (.int .i64 (d * 86400)) ∧ w'.cell? ⟨w1.heap.size, 2, none⟩ = some (.pointer none) ∧ w'.cell? ⟨w1.heap.size, 3, none⟩ = some (.bool true) ∧ SR w w' w1.heap.size (d * 86400)) (exact SR.limbs (by first | assumption | exact SR.drew (by assumption))) (first
      | (go_at_call 6; refine (day_wrapped _ hf1 (by omega) _).mono ?_; rintro e w2 ⟨rfl, hb2⟩; have hS2 := SR.on (by first | assumption | exact SR.drew (by assumption)) hb2; clear hb2)
      | (go_at_call 7; refine (con_any _ _ _ _ _ _ _).mono ?_; rintro e w2 ⟨rfl, hb2⟩; have hS2 := SR.on (by first | assumption | exact SR.drew (by assumption)) hb2; clear hb2))
    go_wp2
    go_meet
    case rel => exact ⟨rfl, by assumption⟩
  case rest =>
    obtain ⟨rfl, hS⟩ := hcut
    clear hb
    go_wp2
    go_cut [9] (fun b wc => b = .bool (conB (f * 86400) (t * 86400) (d * 86400) true true) ∧ SR w wc w1.heap.size (d * 86400))
    case first =>
      have ⟨c0, c1, c2, c3, _, _⟩ := hS
      go_region_held3 (fun w' => w'.cell? ⟨w1.heap.size, 0, none⟩ = some (.int .u64 0) ∧ w'.cell? ⟨w1.heap.size, 1, none⟩ = some (.int .i64 (d * 86400)) ∧ w'.cell? ⟨w1.heap.size, 2, none⟩ = some (.pointer none) ∧ w'.cell? ⟨w1.heap.size, 3, none⟩ = some (.bool true) ∧ SR w w' w1.heap.size (d * 86400)) (exact SR.limbs (by first | assumption | exact SR.drew (by assumption))) (first
        | (go_at_call 6; refine (day_any _ (by omega) (by omega) _).mono ?_; rintro e w2 ⟨rfl, hb2⟩; have hS2 := SR.on (by first | assumption | exact SR.drew (by assumption)) hb2; clear hb2)
        | (go_at_call 7; refine (con_any _ _ _ _ _ _ _).mono ?_; rintro e w2 ⟨rfl, hb2⟩; have hS2 := SR.on (by first | assumption | exact SR.drew (by assumption)) hb2; clear hb2))
      go_wp2
      go_meet
      case rel => exact ⟨rfl, by assumption⟩
    case rest =>
      clear hS
      obtain ⟨rfl, hS⟩ := hcut
      go_wp2
      go_cut [10] (fun b wc => b = .bool (conB ((t + 1) * 86400) 0 (d * 86400) true false) ∧ SR w wc w1.heap.size (d * 86400))
      case first =>
        have ⟨c0, c1, c2, c3, _, _⟩ := hS
        go_region_held3 (fun w' => w'.cell? ⟨w1.heap.size, 0, none⟩ = some (.int .u64 0) ∧ w'.cell? ⟨w1.heap.size, 1, none⟩ = some (.int .i64 (d * 86400)) ∧ w'.cell? ⟨w1.heap.size, 2, none⟩ = some (.pointer none) ∧ w'.cell? ⟨w1.heap.size, 3, none⟩ = some (.bool true) ∧ SR w w' w1.heap.size (d * 86400)) (exact SR.limbs (by first | assumption | exact SR.drew (by assumption))) (first
          | (go_at_call 6; refine (day_wrapped _ (by omega) (by omega) _).mono ?_; rintro e w2 ⟨rfl, hb2⟩; have hS2 := SR.on (by first | assumption | exact SR.drew (by assumption)) hb2; clear hb2)
          | (go_at_call 7; refine (con_any _ _ _ _ _ _ _).mono ?_; rintro e w2 ⟨rfl, hb2⟩; have hS2 := SR.on (by first | assumption | exact SR.drew (by assumption)) hb2; clear hb2))
        go_wp2
        go_meet
        case rel => exact ⟨rfl, by assumption⟩
      case rest =>
        clear hS
        obtain ⟨rfl, hS⟩ := hcut
        have hB := hS.bel
        clear hS
        by_cases k1 : d < f
        · have e1 : conB 0 ((f - 1) * 86400) (d * 86400) false true = true := by simp [conB]; omega
          have e2 : conB (f * 86400) (t * 86400) (d * 86400) true true = false := by simp [conB]; omega
          have e3 : conB ((t + 1) * 86400) 0 (d * 86400) true false = false := by simp [conB]; omega
          have g1 : decide (f ≤ d) = false := by simp; omega
          rw [e1, e2, e3]
          clear e1 e2 e3
          go_wp2
          go_ret
          exact ⟨rfl, hB⟩
        · by_cases k2 : d ≤ t
          · have e1 : conB 0 ((f - 1) * 86400) (d * 86400) false true = false := by simp [conB]; omega
            have e2 : conB (f * 86400) (t * 86400) (d * 86400) true true = true := by simp [conB]; omega
            have e3 : conB ((t + 1) * 86400) 0 (d * 86400) true false = false := by simp [conB]; omega
            have g1 : decide (f ≤ d) = true := by simp; omega
            rw [e1, e2, e3]
            clear e1 e2 e3
            go_wp2
            go_ret
            exact ⟨rfl, hB⟩
          · have e1 : conB 0 ((f - 1) * 86400) (d * 86400) false true = false := by simp [conB]; omega
            have e2 : conB (f * 86400) (t * 86400) (d * 86400) true true = false := by simp [conB]; omega
            have e3 : conB ((t + 1) * 86400) 0 (d * 86400) true false = true := by simp [conB]; omega
            have g1 : decide (f ≤ d) = true := by simp; omega
            rw [e1, e2, e3]
            clear e1 e2 e3
            go_wp2
            go_ret
            exact ⟨rfl, hB⟩

set_option maxHeartbeats 400000 in
theorem adj_walk (a0 a1 a2 : Int) (w : World) :
    Calls Try.prog 4 #[.int .i64 a0, .int .i64 a1, .int .i64 a2] w fun e w' => e = .returned (.bool true) ∧ Below w.heap.size w w' := by
  by_cases f1 : a0 < 1
  · go_enter Try.func4, Try.ntmps4
    go_wp2
    go_ret
    exact ⟨rfl, Below.refl _ _⟩
  by_cases f2 : 4194303 < a0
  · go_enter Try.func4, Try.ntmps4
    go_wp2
    go_ret
    exact ⟨rfl, Below.refl _ _⟩
  by_cases t1 : a1 < a0
  · go_enter Try.func4, Try.ntmps4
    go_wp2
    go_ret
    exact ⟨rfl, Below.refl _ _⟩
  by_cases t2 : 4194303 < a1
  · go_enter Try.func4, Try.ntmps4
    go_wp2
    go_ret
    exact ⟨rfl, Below.refl _ _⟩
  by_cases d1 : a2 < 0
  · go_enter Try.func4, Try.ntmps4
    go_wp2
    go_ret
    exact ⟨rfl, Below.refl _ _⟩
  by_cases d2 : 4194304 < a2
  · go_enter Try.func4, Try.ntmps4
    go_wp2
    go_ret
    exact ⟨rfl, Below.refl _ _⟩
  exact adj_any a0 a1 a2 (by omega) (by omega) (by omega) (by omega) (by omega) (by omega) w

end Go.Proofs.Qxb6615905a
