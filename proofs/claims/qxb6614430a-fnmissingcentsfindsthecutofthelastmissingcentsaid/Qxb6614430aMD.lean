/-
  THE WALKS of divide, ZZnewRationing, ZZrationingFields, sumShares, the guard on lengths.
-/
import Derived.Test.Qxb6614430aMC
import Derived.Deep.QuietTactic
import Derived.BigQuiet
set_option linter.unusedVariables false
namespace Go.Proofs.Qxb6614430a
open Go.RowKit

theorem results_tmp4 {fn : Func} {t u v x : Tmp} (h : fn.results = #[.tmp t, .tmp u, .tmp v, .tmp x]) (tmps : Array Value) (P : Program) (w : World) :
    (results fn tmps).run P w = .ok (.tuple #[tmps.getD t undef, tmps.getD u undef, tmps.getD v undef, tmps.getD x undef]) w := by
  simp [results, h]

/-- The cells of a Rationing. -/
structure RatAt (w : World) (g asked acc least ties : Nat) : Prop where
  c0 : w.cell? ⟨g, 0, none⟩ = some (.int .u64 asked)
  c1 : w.cell? ⟨g, 1, none⟩ = some (.int .u64 acc)
  c2 : w.cell? ⟨g, 2, none⟩ = some (.int .u64 least)
  c3 : w.cell? ⟨g, 3, none⟩ = some (.int .u64 ties)

set_option maxRecDepth 100000 in
set_option maxHeartbeats 1000000 in
theorem divide_any (g asked acc least ties x : Nat) (w : World) (hR : RatAt w g asked acc least ties) (hx : x < 9223372036854775808) (hacc : acc < 9223372036854775808) (ha : asked < 18446744073709551616) (hxa : x ≤ asked) (ha0 : 0 < asked) :
    Calls Try.prog 21 #[.pointer (some ⟨g, 0, none⟩), .int .i64 x] w fun e w' => e = .returned (.tuple #[.int .u64 ((x * acc / asked : Nat) : Int), .int .u64 ((x * acc % asked : Nat) : Int)]) ∧ ∃ q, w' = w.drewN q := by
  obtain ⟨c0, c1, c2, c3⟩ := hR
  have cM := Try.bits_Mul64 x acc (by omega) (by omega) w
  obtain ⟨H, hH⟩ : ∃ H, x * acc / 18446744073709551616 = H := ⟨_, rfl⟩
  obtain ⟨L, hL⟩ : ∃ L, x * acc % 18446744073709551616 = L := ⟨_, rfl⟩
  have hlt : x * acc < asked * 18446744073709551616 := by
    have h1 : x * acc ≤ asked * acc := Nat.mul_le_mul_right _ hxa
    have h2 : asked * acc < asked * 18446744073709551616 := Nat.mul_lt_mul_of_pos_left (by omega) ha0
    omega
  have hHa : H < asked := by rw [← hH, Nat.div_lt_iff_lt_mul (by omega)]; exact hlt
  have cD := div_any H L asked hHa ha (by rw [← hL]; exact Nat.mod_lt _ (by omega)) w
  rw [show H * 18446744073709551616 + L = x * acc by rw [← hH, ← hL, Nat.mul_comm]; exact Nat.div_add_mod _ _] at cD
  rw [hH, hL] at cM
  obtain ⟨QZ, hQZ⟩ : ∃ z, x * acc / asked = z := ⟨_, rfl⟩
  obtain ⟨RZ, hRZ⟩ : ∃ z, x * acc % asked = z := ⟨_, rfl⟩
  rw [hQZ, hRZ] at cD
  rw [hQZ, hRZ]
  clear hQZ hRZ hH hL hlt c2 c3
  go_enter Try.func21, Try.ntmps21
  go_wp2_with fail
  refine cM.mono ?_
  rintro e w1 ⟨rfl, rfl⟩
  go_wp2_with fail
  refine cD.mono ?_
  rintro e w1 ⟨rfl, q, rfl⟩
  go_wp2_with fail
  go_ret2
  exact ⟨rfl, q, rfl⟩

set_option maxHeartbeats 400000 in
theorem new_any (asked acc least ties : Nat) (w : World) :
    Calls Try.prog 9 #[.int .u64 asked, .int .u64 acc, .int .u64 least, .int .u64 ties] w fun e w' => e = .returned (.pointer (some ⟨w.heap.size, 0, none⟩)) ∧ w' = w.alloc (.cells #[.int .u64 asked, .int .u64 acc, .int .u64 least, .int .u64 ties] 39) := by
  go_enter Try.func9, Try.ntmps9
  go_wp2_with fail
  go_ret
  exact ⟨rfl, rfl⟩

set_option maxHeartbeats 400000 in
theorem fields_any (g asked acc least ties : Nat) (w : World) (hR : RatAt w g asked acc least ties) :
    Calls Try.prog 11 #[.pointer (some ⟨g, 0, none⟩)] w fun e w' => e = .returned (.tuple #[.int .u64 asked, .int .u64 acc, .int .u64 least, .int .u64 ties]) ∧ ∃ q, w' = w.drewN q := by
  obtain ⟨c0, c1, c2, c3⟩ := hR
  go_enter Try.func11, Try.ntmps11
  go_wp2_with fail
  go_quiet (fail)
  go_wp2_with fail
  (try simp only [Exit.inBlock, Exit.then])
  refine bodyPost_ret (results_tmp4 rfl _ _ _) rfl ?_
  exact ⟨rfl, _, rfl⟩

set_option maxHeartbeats 400000 in
theorem bytes7 (a1 a2 : Int) (a : Option Addr) (n c : Nat) (hn : n ≤ 9223372036854775807) (w : World) :
    Calls Try.prog 7 #[.int .u64 a1, .int .u64 a2, .slice a n c] w fun e w' => e = .returned (.bool (decide (n ≤ 1048576))) ∧ w' = w := by
  by_cases h : n ≤ 1048576
  · have h' : ¬ (1048576 : Int) < n := by omega
    go_enter Try.func7, Try.ntmps7
    go_wp2
    go_ret
    exact ⟨by simp, rfl⟩
  · have h' : (1048576 : Int) < n := by omega
    go_enter Try.func7, Try.ntmps7
    go_wp2
    go_ret
    exact ⟨by simp; omega, rfl⟩

/-- What the sum tells. -/
def SumOk (zs : List Int) (S : Int) (ng ov : Bool) : Prop := (0 ≤ S ∧ S < 18446744073709551616) ∧ (ng = false → ov = false → (∀ x ∈ zs, 0 ≤ x) ∧ S = zs.sum)

/-- What sumShares returns. -/
def SumRes (zs : List Int) (e : Ending) : Prop := ∃ S ng ov, e = .returned (.tuple #[.int .u64 S, .bool ng, .bool ov]) ∧ SumOk zs S ng ov

theorem SumOk.nil : SumOk [] 0 false false := ⟨by omega, fun _ _ => ⟨by simp, rfl⟩⟩
theorem SumOk.neg {zs : List Int} {S : Int} {ng ov : Bool} (h : SumOk zs S ng ov) (x s : Int) (hs : s = (S + x) % 18446744073709551616) (b : Bool) : SumOk (zs ++ [x]) s true b :=
  ⟨by omega, fun h => by cases h⟩
theorem SumOk.over {zs : List Int} {S : Int} {ng ov : Bool} (h : SumOk zs S ng ov) (x s : Int) (hs : s = (S + x) % 18446744073709551616) (b : Bool) : SumOk (zs ++ [x]) s b true :=
  ⟨by omega, fun _ h => by cases h⟩
theorem SumOk.add {zs : List Int} {S : Int} {ng ov : Bool} (h : SumOk zs S ng ov) (x s : Int) (hx : 0 ≤ x) (hx1 : x < 9223372036854775808) (hs : s = (S + x) % 18446744073709551616) (hl : ¬ s < S) : SumOk (zs ++ [x]) s ng ov := by
  obtain ⟨⟨h0, h1⟩, h2⟩ := h
  refine ⟨by omega, fun a b => ?_⟩
  obtain ⟨h3, h4⟩ := h2 a b
  refine ⟨fun y hy => ?_, ?_⟩
  · rcases List.mem_append.1 hy with h | h
    · exact h3 y h
    · rw [List.mem_singleton.1 h]; exact hx
  · rw [List.sum_append, ← h4]
    simp
    omega

theorem take_next {zs : List Int} {k : Nat} {x : Int} (h : zs[k]? = some x) : zs.take (k + 1) = zs.take k ++ [x] := by
  rw [List.take_add_one, h]
  rfl

set_option maxRecDepth 100000 in
set_option maxHeartbeats 1000000 in
theorem sum_any (g n cap : Nat) (zs : List Int) (hl : Hid (zs.length = n)) (hn : n ≤ 4096) (hz : Hid (∀ x ∈ zs, -9223372036854775808 ≤ x ∧ x < 9223372036854775808)) (w : World) (hc : Hid (∀ j v, zs[j]? = some v → w.cell? ⟨g, j, none⟩ = some (.int .i64 v))) :
    Calls Try.prog 8 #[.slice (some ⟨g, 0, none⟩) n cap] w fun e w' => SumRes zs e ∧ w' = w := by
  go_enter Try.func8, Try.ntmps8
  go_wp2_with fail
  go_loop [2, 3, 4, 5] (fun sv nv ov jv => ∃ (k : Nat) (S : Int) (ng o : Bool), k ≤ n ∧ jv = .int .i64 k ∧ sv = .int .u64 S ∧ nv = .bool ng ∧ ov = .bool o ∧ Hid (SumOk (zs.take k) S ng o)) (fun _ _ _ jv => n - (intOf jv).toNat)
  case atStart => exact ⟨0, 0, false, false, by omega, rfl, rfl, rfl, rfl, SumOk.nil⟩
  case round =>
    obtain ⟨k, S, ng, o, hk, rfl, rfl, rfl, rfl, hS⟩ := hrel
    by_cases hlt : k < n
    · obtain ⟨x, hx⟩ : ∃ y, Hid (zs[k]? = some y) := ⟨zs[k]'(by have := hl.out; omega), List.getElem?_eq_getElem _⟩
      have hcx := hc.out k x hx.out
      have hx2 := hz.out x (List.mem_of_getElem? hx.out)
      have HX : Hid (-9223372036854775808 ≤ x ∧ x < 9223372036854775808) := hx2
      have hkk : (k : Int) < n := by omega
      obtain ⟨s, es, Hs⟩ : ∃ s, IntKind.u64.wrap (S + IntKind.u64.wrap x) = s ∧ Hid (s = (S + x) % 18446744073709551616) := ⟨_, rfl, by show _ = _; rw [IntKind.wrap_u64, IntKind.wrap_u64]; omega⟩
      clear hx2
      by_cases c1 : x < 0
      · by_cases c2 : s < S
        · have hS' : Hid (SumOk (zs.take (k + 1)) s true true) := by show SumOk _ _ _ _; rw [take_next hx.out]; exact hS.out.neg x s Hs.out _
          go_wp2_with fail
          go_round
          case rel => exact ⟨k + 1, s, true, true, by omega, by go_num, rfl, rfl, rfl, hS'⟩
          case measure => (simp [intOf]; omega)
        · have hS' : Hid (SumOk (zs.take (k + 1)) s true o) := by show SumOk _ _ _ _; rw [take_next hx.out]; exact hS.out.neg x s Hs.out _
          go_wp2_with fail
          go_round
          case rel => exact ⟨k + 1, s, true, o, by omega, by go_num, rfl, rfl, rfl, hS'⟩
          case measure => (simp [intOf]; omega)
      · by_cases c2 : s < S
        · have hS' : Hid (SumOk (zs.take (k + 1)) s ng true) := by show SumOk _ _ _ _; rw [take_next hx.out]; exact hS.out.over x s Hs.out _
          go_wp2_with fail
          go_round
          case rel => exact ⟨k + 1, s, ng, true, by omega, by go_num, rfl, rfl, rfl, hS'⟩
          case measure => (simp [intOf]; omega)
        · have hS' : Hid (SumOk (zs.take (k + 1)) s ng o) := by show SumOk _ _ _ _; rw [take_next hx.out]; exact hS.out.add x s (by omega) HX.out.2 Hs.out c2
          go_wp2_with fail
          go_round
          case rel => exact ⟨k + 1, s, ng, o, by omega, by go_num, rfl, rfl, rfl, hS'⟩
          case measure => (simp [intOf]; omega)
    · have hS' : Hid (SumOk zs S ng o) := by have := hS.out; rwa [List.take_of_length_le (by have := hl.out; omega)] at this
      go_wp2_with fail
      go_ret3
      exact ⟨⟨S, ng, o, rfl, hS'.out⟩, rfl⟩
set_option maxRecDepth 100000 in
set_option maxHeartbeats 1000000 in
theorem sum_none (a : Option Addr) (cap : Nat) (w : World) :
    Calls Try.prog 8 #[.slice a 0 cap] w fun e w' => e = .returned (.tuple #[.int .u64 0, .bool false, .bool false]) ∧ w' = w := by
  go_enter Try.func8, Try.ntmps8
  go_wp2_with fail
  go_loop [2, 3, 4, 5] (fun sv nv ov jv => jv = .int .i64 0 ∧ sv = .int .u64 0 ∧ nv = .bool false ∧ ov = .bool false) (fun _ _ _ jv => 0)
  case atStart => exact ⟨rfl, rfl, rfl, rfl⟩
  case round =>
    obtain ⟨rfl, rfl, rfl, rfl⟩ := hrel
    go_wp2_with fail
    go_ret3
    exact ⟨rfl, rfl⟩
end Go.Proofs.Qxb6614430a
