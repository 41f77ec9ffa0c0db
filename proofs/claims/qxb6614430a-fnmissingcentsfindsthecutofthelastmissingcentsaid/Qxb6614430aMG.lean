/-
  ONE WALK OVER THE ASKS: every ask counted.
-/
import Derived.Test.Qxb6614430aMF
set_option linter.unusedVariables false
namespace Go.Proofs.Qxb6614430a
open Go.RowKit

def partOf (asked acc x : Nat) : Nat := x * acc / asked
def cutOf (asked acc x : Nat) : Nat := x * acc % asked
/-- How many cuts that go on from prf have the digit i at sh. -/
def hist (found prf sh : Nat) (cs : List Nat) : Nat → Nat := fun i => cs.countP (fun c => decide (c &&& found = prf) && decide (c / 2 ^ sh % 65536 = i))

theorem hist_nil (found prf sh : Nat) : hist found prf sh [] = fun _ => 0 := rfl
theorem hist_le (found prf sh : Nat) (cs : List Nat) (i : Nat) : hist found prf sh cs i ≤ cs.length := List.countP_le_length
theorem hist_snoc (found prf sh : Nat) (cs : List Nat) (c : Nat) : hist found prf sh (cs ++ [c]) = (if c &&& found = prf then bump (hist found prf sh cs) (c / 2 ^ sh % 65536) else hist found prf sh cs) := by
  funext i
  unfold hist
  rw [List.countP_append, List.countP_singleton]
  by_cases h : c &&& found = prf
  · rw [if_pos h]
    unfold bump
    by_cases h2 : i = c / 2 ^ sh % 65536
    · subst h2; simp [h]
    · have h3 : ¬ c / 2 ^ sh % 65536 = i := fun e => h2 e.symm
      simp [h, h2, h3]
  · rw [if_neg h]
    simp [h]

theorem map_take_next {f : Nat → Nat} {xs : List Nat} {k x : Nat} (h : xs[k]? = some x) : (xs.take (k + 1)).map f = (xs.take k).map f ++ [f x] := by
  rw [List.take_add_one, h]
  simp

set_option maxRecDepth 100000 in
set_option maxHeartbeats 1000000 in
theorem asks_any (g bp bg bf bx bc bs bv r0 n cap asked acc least ties found prf sh : Nat) (xs : List Nat) (w : World) (E : Eyes w g bp bg bf bx bc bs asked acc least ties found prf sh) (hg : One w bg (.int .u64 0) 24) (hc : Cnt w bc (fun _ => 0))
    (hv : One w bv (.slice (some ⟨r0, 0, none⟩) n cap) 25) (hl : Hid (xs.length = n)) (hn : n ≤ 4096) (hr : Hid (r0 ≠ bg ∧ r0 ≠ bc)) (hz : Hid (∀ (j x : Nat), xs[j]? = some x → w.cell? ⟨r0, j, none⟩ = some (.int .i64 (x : Int))))
    (hx : Hid (∀ x ∈ xs, x < 9223372036854775808 ∧ x ≤ asked)) (hacc : acc < 9223372036854775808) (ha : asked < 18446744073709551616) (ha0 : 0 < asked) (hfd : found < 18446744073709551616) (hsh : sh ≤ 63) :
    Calls Try.prog 15 #[.func (.func 20) #[] #[.pointer (some ⟨bp, 0, none⟩), .pointer (some ⟨bg, 0, none⟩), .pointer (some ⟨bf, 0, none⟩), .pointer (some ⟨bx, 0, none⟩), .pointer (some ⟨bc, 0, none⟩), .pointer (some ⟨bs, 0, none⟩)], .pointer (some ⟨bv, 0, none⟩)] w fun e w' => e = .returned .nilIface ∧ Kept bg bc w w' ∧
      One w' bg (.int .u64 (((xs.map (partOf asked acc)).sum % 18446744073709551616 : Nat) : Int)) 24 ∧ Cnt w' bc (hist found prf sh (xs.map (cutOf asked acc))) := by
  have cv := hv.cell
  obtain ⟨GZ, hGZ⟩ : ∃ GZ, (xs.map (partOf asked acc)).sum % 18446744073709551616 = GZ := ⟨_, rfl⟩
  rw [hGZ]
  have HGZ : Hid ((xs.map (partOf asked acc)).sum % 18446744073709551616 = GZ) := hGZ
  clear hGZ
  go_enter Try.func15, Try.ntmps15
  go_wp2_with fail
  go_loopw [8] (fun iv wr => ∃ k gv : Nat, k ≤ n ∧ iv = .int .i64 k ∧ Kept bg bc w wr ∧ One wr bg (.int .u64 gv) 24 ∧ Cnt wr bc (hist found prf sh ((xs.take k).map (cutOf asked acc))) ∧ Hid (gv = ((xs.take k).map (partOf asked acc)).sum % 18446744073709551616)) (fun iv _ => n - (intOf iv).toNat)
  case atStart => exact ⟨0, 0, by omega, rfl, Kept.refl _ _ _, hg, hc, rfl⟩
  case round =>
    obtain ⟨k, gv, hk, rfl, hK, oG, oC, HG⟩ := hrel
    by_cases hlt : k < n
    · obtain ⟨x, hxk⟩ : ∃ y, Hid (xs[k]? = some y) := ⟨xs[k]'(by have := hl.out; omega), List.getElem?_eq_getElem _⟩
      have hxx := hx.out x (List.mem_of_getElem? hxk.out)
      have cx : wr.cell? ⟨r0, k, none⟩ = some (.int .i64 (x : Int)) := by
        have h1 := hz.out k x hxk.out
        unfold World.cell? at h1 ⊢
        simp only [hK.block r0 hr.out.1 hr.out.2]
        exact h1
      have cE := each_any g bp bg bf bx bc bs asked acc least ties found prf sh gv x _ wr (E.kept hK) oG oC hxx.1 hacc ha hxx.2 ha0 hfd hsh (fun i => Nat.lt_of_le_of_lt (hist_le _ _ _ _ _) (by rw [List.length_map, List.length_take]; omega))
      have hkk : (k : Int) < n := by omega
      go_wp2_with fail
      refine cE.mono ?_
      rintro e w2 ⟨rfl, k2, o2, c2⟩
      obtain ⟨gw, hgw⟩ : ∃ z, (gv + x * acc / asked) % 18446744073709551616 = z := ⟨_, rfl⟩
      rw [hgw] at o2
      have HW : Hid (gw = ((xs.take (k + 1)).map (partOf asked acc)).sum % 18446744073709551616) := by
        show _ = _
        rw [map_take_next hxk.out, List.sum_append, ← hgw, HG.out]
        simp only [List.sum_cons, List.sum_nil, partOf]
        omega
      have c3 : Cnt w2 bc (hist found prf sh ((xs.take (k + 1)).map (cutOf asked acc))) := by rw [map_take_next hxk.out, hist_snoc]; exact c2
      clear hgw c2 cE cx
      go_wp2_with fail
      go_roundw
      case rel => exact ⟨k + 1, gw, by omega, by go_num, hK.trans k2, o2, c3, HW⟩
      case measure => (simp [intOf]; omega)
    · have h1 : gv = GZ := by have := HG.out; rw [List.take_of_length_le (by have := hl.out; omega)] at this; exact this.trans HGZ.out
      have h2 : Cnt wr bc (hist found prf sh (xs.map (cutOf asked acc))) := by rwa [List.take_of_length_le (by have := hl.out; omega)] at oC
      rw [h1] at oG
      clear h1
      go_wp2_with fail
      go_ret
      exact ⟨rfl, hK, oG, h2⟩
end Go.Proofs.Qxb6614430a
