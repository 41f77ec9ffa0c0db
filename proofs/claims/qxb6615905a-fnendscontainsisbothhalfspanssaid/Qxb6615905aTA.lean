import Derived.Test.Qxb6615905aRows
import Derived.WalkKit
import Derived.WalkSpells
import Derived.WalkLawsBesides
namespace Go.Proofs.Qxb6615905a
open Go.RowKit

theorem ret_bool {a b : Bool} (h : a = b) : Ending.returned (.bool a) = .returned (.bool b) := by rw [h]
theorem bit1 : (bits BinOp.and IntKind.u64 0 9223372036854775808 != 0) = false := by decide +kernel
theorem bit2 : (bits BinOp.and IntKind.u64 (bits BinOp.and IntKind.u64 0 0) 9223372036854775808 != 0) = false := by decide +kernel
theorem bit3 : bits BinOp.and IntKind.u64 0 1073741823 = 0 := by decide +kernel
theorem bit4 : bits BinOp.andNot IntKind.u64 0 1073741823 = 0 := by decide +kernel
theorem bit5 : bits BinOp.or IntKind.u64 0 0 = 0 := by decide +kernel

set_option maxHeartbeats 400000 in
theorem before_any (s u : Int) (w : World) :
    Calls Try.prog 17 #[.agg #[.int .u64 0, .int .i64 s, .pointer none], .agg #[.int .u64 0, .int .i64 u, .pointer none]] w fun e w' => e = .returned (.bool (decide (s < u))) ∧ Below w.heap.size w w' := by
  have q1 := bit1
  have q2 := bit2
  go_enter Try.func17, Try.ntmps17
  go_wp2
  all_goals go_ret
  all_goals refine ⟨ret_bool ?_, ((Below.refl _ _).alloc (Nat.le_refl _) _).alloc (by simp) _⟩
  all_goals simp
  all_goals omega

set_option maxHeartbeats 400000 in
theorem after_any (s u : Int) (w : World) :
    Calls Try.prog 18 #[.agg #[.int .u64 0, .int .i64 s, .pointer none], .agg #[.int .u64 0, .int .i64 u, .pointer none]] w fun e w' => e = .returned (.bool (decide (u < s))) ∧ Below w.heap.size w w' := by
  have q1 := bit1
  have q2 := bit2
  go_enter Try.func18, Try.ntmps18
  go_wp2
  all_goals go_ret
  all_goals refine ⟨ret_bool ?_, ((Below.refl _ _).alloc (Nat.le_refl _) _).alloc (by simp) _⟩
  all_goals simp
  all_goals omega

set_option maxHeartbeats 400000 in
theorem add_pos (s d q : Int) (hs : 0 ≤ s) (hs' : s ≤ 1000000000000) (hd : 0 < d) (hd' : d ≤ 8640000000000000000) (hq : d / 1000000000 = q) (hr : d % 1000000000 = 0) (hn : 0 < q) (_hn' : q ≤ 8640000000) (w : World) :
    Calls Try.prog 8 #[.agg #[.int .u64 0, .int .i64 s, .pointer none], .int .i64 d] w fun e w' => e = .returned (.agg #[.int .u64 0, .int .i64 (s + q), .pointer none]) ∧ Below w.heap.size w w' := by
  have q1 := bit1
  have q3 := bit3
  have q4 := bit4
  have q5 := bit5
  go_enter Try.func8, Try.ntmps8
  go_wp2
  go_end0
  go_wp2
  exact bodyPost_ret (v := .agg #[.int .u64 0, .int .i64 (s + q), .pointer none]) (by simp [results, Try.results8, go_sem]) rfl ⟨rfl, ((Below.refl _ _).alloc (Nat.le_refl _) _).alloc (by simp) _⟩

set_option maxHeartbeats 400000 in
theorem add_zero (s : Int) (hs : 0 ≤ s) (hs' : s ≤ 1000000000000) (w : World) :
    Calls Try.prog 8 #[.agg #[.int .u64 0, .int .i64 s, .pointer none], .int .i64 0] w fun e w' => e = .returned (.agg #[.int .u64 0, .int .i64 s, .pointer none]) ∧ Below w.heap.size w w' := by
  have q1 := bit1
  have q3 := bit3
  have q4 := bit4
  have q5 := bit5
  go_enter Try.func8, Try.ntmps8
  go_wp2
  go_end0
  go_wp2
  exact bodyPost_ret (v := .agg #[.int .u64 0, .int .i64 s, .pointer none]) (by simp [results, Try.results8, go_sem]) rfl ⟨rfl, ((Below.refl _ _).alloc (Nat.le_refl _) _).alloc (by simp) _⟩

theorem add_any (s n : Int) (hs : 0 ≤ s) (hs' : s ≤ 1000000000000) (hn : 0 ≤ n) (hn' : n ≤ 100000) (w : World) :
    Calls Try.prog 8 #[.agg #[.int .u64 0, .int .i64 s, .pointer none], .int .i64 (n * 86400000000000)] w fun e w' => e = .returned (.agg #[.int .u64 0, .int .i64 (s + n * 86400), .pointer none]) ∧ Below w.heap.size w w' := by
  by_cases h : n = 0
  · subst h
    simpa using add_zero s hs hs' w
  · exact add_pos s _ (n * 86400) hs hs' (by omega) (by omega) (by omega) (by omega) (by omega) (by omega) w

theorem add_step (s : Int) (hs : 0 ≤ s) (hs' : s ≤ 1000000000000) (w : World) :
    Calls Try.prog 8 #[.agg #[.int .u64 0, .int .i64 s, .pointer none], .int .i64 8640000000000000000] w fun e w' => e = .returned (.agg #[.int .u64 0, .int .i64 (s + 8640000000), .pointer none]) ∧ Below w.heap.size w w' :=
  add_pos s _ 8640000000 hs hs' (by omega) (by omega) (by omega) (by omega) (by omega) (by omega) w

/-- A Date: the cells lie flat: wall, ext (seconds), loc, valid. -/
abbrev dt (s : Int) (v : Bool) : Value := .agg #[.int .u64 0, .int .i64 s, .pointer none, .bool v]

set_option maxHeartbeats 400000 in
theorem zzat_any (s : Int) (w : World) :
    Calls Try.prog 9 #[.agg #[.int .u64 0, .int .i64 s, .pointer none]] w fun e w' => e = .returned (.agg #[.int .u64 0, .int .i64 s, .pointer none, .bool true]) ∧ Below w.heap.size w w' := by
  go_enter Try.func9, Try.ntmps9
  go_wp2
  exact bodyPost_ret (v := .agg #[.int .u64 0, .int .i64 s, .pointer none, .bool true]) (by simp [results, Try.results9, go_sem]) rfl ⟨rfl, ((Below.refl _ _).alloc (Nat.le_refl _) _).alloc (by simp) _⟩

theorem bcell {W w1 : World} (hb : Below W.heap.size W w1) : (∀ b o, b < W.heap.size → w1.cell? ⟨b, o, none⟩ = W.cell? ⟨b, o, none⟩) ∧ (∀ b o, b < W.heap.size → w1.frozen? ⟨b, o, none⟩ = W.frozen? ⟨b, o, none⟩) :=
  ⟨fun b o h => hb.cell (p := ⟨b, o, none⟩) h, fun b o h => hb.frozen (p := ⟨b, o, none⟩) h⟩

/-- What the loop of zzDayDate keeps: the box of t (block B + 1), the result's box (block B), and all below B as it was. -/
structure DR (w wr : World) (s : Int) : Prop where
  c0 : wr.cell? ⟨w.heap.size + 1, 0, none⟩ = some (.int .u64 0)
  c1 : wr.cell? ⟨w.heap.size + 1, 1, none⟩ = some (.int .i64 s)
  c2 : wr.cell? ⟨w.heap.size + 1, 2, none⟩ = some (.pointer none)
  cf : ∀ o, wr.frozen? ⟨w.heap.size + 1, o, none⟩ = false
  r0 : wr.cell? ⟨w.heap.size, 0, none⟩ = some (.int .u64 0)
  r1 : wr.cell? ⟨w.heap.size, 1, none⟩ = some (.int .i64 0)
  r2 : wr.cell? ⟨w.heap.size, 2, none⟩ = some (.pointer none)
  r3 : wr.cell? ⟨w.heap.size, 3, none⟩ = some (.bool false)
  rf : ∀ o, wr.frozen? ⟨w.heap.size, o, none⟩ = false
  sz : w.heap.size + 2 ≤ wr.heap.size
  bel : Below w.heap.size w wr

theorem DR.start (w : World) : DR w ((w.alloc (.cells #[.int .u64 0, .int .i64 0, .pointer none, .bool false] 27)).alloc (.cells #[.int .u64 0, .int .i64 0, .pointer none] 25)) 0 :=
  ⟨by simp [go_sem], by simp [go_sem], by simp [go_sem], fun o => by simp [go_sem], by simp [go_sem], by simp [go_sem], by simp [go_sem], by simp [go_sem], fun o => by simp [go_sem], by simp, ((Below.refl _ _).alloc (Nat.le_refl _) _).alloc (by simp) _⟩

theorem DR.on {w wr w1 : World} {s : Int} (h : DR w wr s) (hb : Below wr.heap.size wr w1) : DR w w1 s := by
  have hz := h.sz
  have hz1 := hb.size
  exact ⟨(hb.cell (p := ⟨w.heap.size + 1, 0, none⟩) (by simp; omega)).trans h.c0, (hb.cell (p := ⟨w.heap.size + 1, 1, none⟩) (by simp; omega)).trans h.c1, (hb.cell (p := ⟨w.heap.size + 1, 2, none⟩) (by simp; omega)).trans h.c2,
    fun o => (hb.frozen (p := ⟨w.heap.size + 1, o, none⟩) (by simp; omega)).trans (h.cf o),
    (hb.cell (p := ⟨w.heap.size, 0, none⟩) (by simp; omega)).trans h.r0, (hb.cell (p := ⟨w.heap.size, 1, none⟩) (by simp; omega)).trans h.r1, (hb.cell (p := ⟨w.heap.size, 2, none⟩) (by simp; omega)).trans h.r2, (hb.cell (p := ⟨w.heap.size, 3, none⟩) (by simp; omega)).trans h.r3,
    fun o => (hb.frozen (p := ⟨w.heap.size, o, none⟩) (by simp; omega)).trans (h.rf o), by omega, h.bel.trans (hb.mono (by omega))⟩

theorem DR.put {w wr : World} {s : Int} (h : DR w wr s) (u : Int) : DR w (((wr.setCell ⟨w.heap.size + 1, 0, none⟩ (.int .u64 0)).setCell ⟨w.heap.size + 1, 1, none⟩ (.int .i64 u)).setCell ⟨w.heap.size + 1, 2, none⟩ (.pointer none)) u := by
  obtain ⟨c0, c1, c2, cf, r0, r1, r2, r3, rf, sz, bel⟩ := h
  refine ⟨?_, ?_, ?_, ?_, ?_, ?_, ?_, ?_, ?_, ?_, ((bel.setCell (by simp) _).setCell (by simp) _).setCell (by simp) _⟩
  all_goals first | (simp [go_sem, *]; done) | (simp [World.setCell]; omega)

set_option maxHeartbeats 400000 in
theorem day_any (n : Int) (h0 : 0 ≤ n) (h1 : n ≤ 5000000) (w : World) :
    Calls Try.prog 6 #[.int .i64 n] w fun e w' => e = .returned (.agg #[.int .u64 0, .int .i64 (n * 86400), .pointer none, .bool true]) ∧ Below w.heap.size w w' := by
  go_enter Try.func6, Try.ntmps6
  go_wp2
  go_loopw [0] (fun i wr => ∃ m : Int, 0 ≤ m ∧ m ≤ n ∧ i = .int .i64 m ∧ DR w wr ((n - m) * 86400)) (fun i _ => (intOf i).toNat)
  case atStart => exact ⟨n, h0, Int.le_refl _, rfl, by simpa using DR.start w⟩
  case round =>
    obtain ⟨m, hm0, hm1, rfl, hD⟩ := hrel
    by_cases hlt : 100000 ≤ m
    · have ⟨c0, c1, c2, _, _, _, _, _, _, _, _⟩ := hD
      go_wp2_with fail
      refine (add_step ((n - m) * 86400) (by omega) (by omega) _).mono ?_
      rintro e w1 ⟨rfl, hb1⟩
      have hD1 := hD.on hb1
      clear c0 c1 c2 hD hb1
      have ⟨c0, c1, c2, cf, _, _, _, _, _, _, _⟩ := hD1
      go_wp2_with fail
      clear c0 c1 c2 cf
      go_roundw
      case rel =>
        refine ⟨m - 100000, by omega, by omega, rfl, ?_⟩
        have e : (n - (m - 100000)) * 86400 = (n - m) * 86400 + 8640000000 := by omega
        rw [e]
        exact hD1.put _
      case measure => simp [intOf]; omega
    · have ⟨c0, c1, c2, _, _, _, _, _, _, _, _⟩ := hD
      go_wp2_with fail
      have e : m * 24 * 3600000000000 = m * 86400000000000 := by omega
      rw [e]
      refine (add_any ((n - m) * 86400) m (by omega) (by omega) hm0 (by omega) _).mono ?_
      rintro e w1 ⟨rfl, hb1⟩
      have hD1 := hD.on hb1
      clear c0 c1 c2 hD hb1
      have ⟨c0, c1, c2, cf, _, _, _, _, _, _, _⟩ := hD1
      clear e
      go_wp2_with fail
      have hD2 := hD1.put ((n - m) * 86400 + m * 86400)
      clear c0 c1 c2 cf hD1
      refine (zzat_any _ _).mono ?_
      rintro e w2 ⟨rfl, hb2⟩
      have hD3 := hD2.on hb2
      clear hD2 hb2
      have ⟨c0, c1, c2, cf, r0, r1, r2, r3, rf, _, hbel⟩ := hD3
      go_wp2_with fail
      have e2 : (n - m) * 86400 + m * 86400 = n * 86400 := by omega
      refine bodyPost_ret (v := .agg #[.int .u64 0, .int .i64 ((n - m) * 86400 + m * 86400), .pointer none, .bool true]) (by simp [results, Try.results6, go_sem, r0, r1, r2, r3]) rfl ⟨by rw [e2], ?_⟩
      exact (((hbel.setCell (by simp) _).setCell (by simp) _).setCell (by simp) _).setCell (by simp) _
end Go.Proofs.Qxb6615905a
