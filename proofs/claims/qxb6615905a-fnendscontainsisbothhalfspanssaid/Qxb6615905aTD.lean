import Derived.Test.Qxb6615905aTB
namespace Go.Proofs.Qxb6615905a
open Go.RowKit

def sideS (o : Bool) (n : Int) : Int := if o then 0 else n * 86400

set_option maxHeartbeats 400000 in
theorem side_any (o : Bool) (n : Int) (h0 : 0 ≤ n) (h1 : n ≤ 5000000) (w : World) :
    Calls Try.prog 5 #[.bool o, .int .i64 n] w fun e w' => e = .returned (.agg #[.int .u64 0, .int .i64 (sideS o n), .pointer none, .bool (!o)]) ∧ Below w.heap.size w w' := by
  cases o
  · go_enter Try.func5, Try.ntmps5
    go_wp2_with (go_at_call 6; refine (day_any n h0 h1 _).mono ?_; rintro e w1 ⟨rfl, hb⟩; obtain ⟨hc, hf⟩ := bcell hb; have hz : w.heap.size < w1.heap.size := (by have := hb.size; simp at this; omega))
    refine bodyPost_ret (v := .agg #[.int .u64 0, .int .i64 (n * 86400), .pointer none, .bool true]) (by simp [results, Try.results5, go_sem, hc]) rfl ⟨by simp [sideS], ?_⟩
    refine Below.setCell (Below.setCell (Below.setCell (Below.setCell (Below.trans ?_ (hb.mono (by simp))) (by simp) _) (by simp) _) (by simp) _) (by simp) _
    exact (Below.refl _ _).alloc (Nat.le_refl _) _
  · go_enter Try.func5, Try.ntmps5
    go_wp2
    exact bodyPost_ret (v := .agg #[.int .u64 0, .int .i64 0, .pointer none, .bool false]) (by simp [results, Try.results5, go_sem]) rfl ⟨by simp [sideS], (Below.refl _ _).alloc (Nat.le_refl _) _⟩

/-- A Date's box. -/
structure DB (wr : World) (B : Nat) (s : Int) (v : Bool) : Prop where
  c0 : wr.cell? ⟨B, 0, none⟩ = some (.int .u64 0)
  c1 : wr.cell? ⟨B, 1, none⟩ = some (.int .i64 s)
  c2 : wr.cell? ⟨B, 2, none⟩ = some (.pointer none)
  c3 : wr.cell? ⟨B, 3, none⟩ = some (.bool v)
  sz : B < wr.heap.size

theorem DB.on {wr w1 : World} {B : Nat} {s : Int} {v : Bool} (h : DB wr B s v) (hb : Below wr.heap.size wr w1) : DB w1 B s v := by
  have hz := h.sz
  have hz1 := hb.size
  exact ⟨(hb.cell (p := ⟨B, 0, none⟩) hz).trans h.c0, (hb.cell (p := ⟨B, 1, none⟩) hz).trans h.c1, (hb.cell (p := ⟨B, 2, none⟩) hz).trans h.c2, (hb.cell (p := ⟨B, 3, none⟩) hz).trans h.c3, by omega⟩
theorem DB.new (w : World) (s : Int) (v : Bool) : DB (w.alloc (.cells #[.int .u64 0, .int .i64 s, .pointer none, .bool v] 27)) w.heap.size s v :=
  ⟨by simp [go_sem], by simp [go_sem], by simp [go_sem], by simp [go_sem], by simp⟩
theorem DB.al {wr : World} {B : Nat} {s : Int} {v : Bool} (h : DB wr B s v) (o : Obj) : DB (wr.alloc o) B s v :=
  h.on ((Below.refl _ _).alloc (Nat.le_refl _) _)

theorem conL (f d : Int) (fo : Bool) : conB (sideS fo f) 0 (d * 86400) (!fo) false = (fo || decide (f ≤ d)) := by
  cases fo <;> simp [conB, sideS] <;> omega
theorem conU (t d : Int) (to : Bool) : conB 0 (sideS to t) (d * 86400) false (!to) = (to || decide (d ≤ t)) := by
  cases to <;> simp [conB, sideS] <;> omega
theorem conW (f t d : Int) (fo to : Bool) : conB (sideS fo f) (sideS to t) (d * 86400) (!fo) (!to) = ((fo || decide (f ≤ d)) && (to || decide (d ≤ t))) := by
  rw [← conL f d fo, ← conU t d to]
  simp [conB]

set_option maxHeartbeats 400000 in
theorem half_any (f t d : Int) (fo to : Bool) (f1 : 0 ≤ f) (f2 : f ≤ 4194304) (t1 : 0 ≤ t) (t2 : t ≤ 4194304) (d1 : 0 ≤ d) (d2 : d ≤ 4194304) (w : World) :
    Calls Try.prog 3 #[.int .i64 f, .int .i64 t, .bool fo, .bool to, .int .i64 d] w fun e w' => e = .returned (.bool true) ∧ Below w.heap.size w w' := by
  go_enter Try.func3, Try.ntmps3
  go_wp2_with fail
  refine (side_any fo f f1 (by omega) _).mono ?_
  rintro e w1 ⟨rfl, hb⟩
  go_wp2_with fail
  refine (side_any to t t1 (by omega) _).mono ?_
  rintro e w2 ⟨rfl, hb2⟩
  go_wp2_with fail
  refine (day_any d d1 (by omega) _).mono ?_
  rintro e w3 ⟨rfl, hb3⟩
  have D1 := (((DB.new w1 (sideS fo f) (!fo)).on hb2).al (.cells #[.int .u64 0, .int .i64 (sideS to t), .pointer none, .bool (!to)] 27)).on hb3
  have D2 := (DB.new w2 (sideS to t) (!to)).on hb3
  have B3 : Below w.heap.size w w3 := by
    have z1 := hb.size
    have z2 := hb2.size
    simp at z2
    exact ((((hb.alloc z1 _).trans (hb2.mono (by simp; omega))).alloc (by omega) _).trans (hb3.mono (by simp; omega)))
  clear hb hb2 hb3
  have z3 := B3.size
  have ⟨a0, a1, a2, a3, a4⟩ := D1
  have ⟨b0, b1, b2, b3, b4⟩ := D2
  go_wp2_with fail
  refine (con_any _ _ _ _ _ _ _).mono ?_
  rintro e w4 ⟨rfl, hb4⟩
  have E1 := (D1.al (.cells #[.int .u64 0, .int .i64 (d * 86400), .pointer none, .bool true] 27)).on hb4
  have E2 := (D2.al (.cells #[.int .u64 0, .int .i64 (d * 86400), .pointer none, .bool true] 27)).on hb4
  have E3 := (DB.new w3 (d * 86400) true).on hb4
  have B4 : Below w.heap.size w w4 := (B3.alloc z3 _).trans (hb4.mono (by simp; omega))
  clear D1 D2 a0 a1 a2 a3 a4 b0 b1 b2 b3 b4 B3 z3 hb4
  have ⟨a0, a1, a2, a3, _⟩ := E1
  have ⟨b0, b1, b2, b3, _⟩ := E2
  have ⟨c0, c1, c2, c3, _⟩ := E3
  go_wp2_with fail
  refine (con_any _ _ _ _ _ _ _).mono ?_
  rintro e w5 ⟨rfl, hb5⟩
  have F2 := E2.on hb5
  have F3 := E3.on hb5
  have B5 := B4.trans (hb5.mono B4.size)
  clear E1 E2 E3 a0 a1 a2 a3 b0 b1 b2 b3 c0 c1 c2 c3 B4 hb5
  have ⟨b0, b1, b2, b3, _⟩ := F2
  have ⟨c0, c1, c2, c3, _⟩ := F3
  go_wp2_with fail
  refine (con_any _ _ _ _ _ _ _).mono ?_
  rintro e w6 ⟨rfl, hb6⟩
  have B6 := B5.trans (hb6.mono B5.size)
  clear F2 F3 b0 b1 b2 b3 c0 c1 c2 c3 B5 hb6
  rw [conL, conU, conW]
  cases fo <;> cases to
  · by_cases kf : f ≤ d <;> by_cases kt : d ≤ t
    all_goals simp only [kf, kt, decide_true, decide_false, Bool.false_or, Bool.true_and, Bool.false_and]
    all_goals go_wp2
    all_goals go_ret
    all_goals exact ⟨rfl, B6⟩
  · by_cases kf : f ≤ d
    all_goals simp only [kf, decide_true, decide_false, Bool.false_or, Bool.true_or, Bool.true_and, Bool.false_and]
    all_goals go_wp2
    all_goals go_ret
    all_goals exact ⟨rfl, B6⟩
  · by_cases kt : d ≤ t
    all_goals simp only [kt, decide_true, decide_false, Bool.false_or, Bool.true_or, Bool.true_and]
    all_goals go_wp2
    all_goals go_ret
    all_goals exact ⟨rfl, B6⟩
  · simp only [Bool.true_or, Bool.true_and]
    go_wp2
    go_ret
    exact ⟨rfl, B6⟩

set_option maxHeartbeats 400000 in
theorem half_walk (a0 a1 : Int) (a2 a3 : Bool) (a4 : Int) (w : World) :
    Calls Try.prog 3 #[.int .i64 a0, .int .i64 a1, .bool a2, .bool a3, .int .i64 a4] w fun e w' => e = .returned (.bool true) ∧ Below w.heap.size w w' := by
  by_cases f1 : a0 < 0
  · go_enter Try.func3, Try.ntmps3
    go_wp2
    go_ret
    exact ⟨rfl, Below.refl _ _⟩
  by_cases f2 : 4194304 < a0
  · go_enter Try.func3, Try.ntmps3
    go_wp2
    go_ret
    exact ⟨rfl, Below.refl _ _⟩
  by_cases t1 : a1 < 0
  · go_enter Try.func3, Try.ntmps3
    go_wp2
    go_ret
    exact ⟨rfl, Below.refl _ _⟩
  by_cases t2 : 4194304 < a1
  · go_enter Try.func3, Try.ntmps3
    go_wp2
    go_ret
    exact ⟨rfl, Below.refl _ _⟩
  by_cases d1 : a4 < 0
  · go_enter Try.func3, Try.ntmps3
    go_wp2
    go_ret
    exact ⟨rfl, Below.refl _ _⟩
  by_cases d2 : 4194304 < a4
  · go_enter Try.func3, Try.ntmps3
    go_wp2
    go_ret
    exact ⟨rfl, Below.refl _ _⟩
  exact half_any a0 a1 a4 a2 a3 (by omega) (by omega) (by omega) (by omega) (by omega) (by omega) w

end Go.Proofs.Qxb6615905a
