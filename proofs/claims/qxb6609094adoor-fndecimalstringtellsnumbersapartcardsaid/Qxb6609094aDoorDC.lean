/-
  THE WALKS of ZZdecimalString, decimalWellFormed and the guards on lengths.
-/
import Derived.Test.Qxb6609094aDoorDB
namespace Go.Proofs.Qxb6609094aDoor
open Go.RowKit

theorem empty_of (s : ByteArray) (h : s.data.toList = []) : s.toList.isEmpty = true := by
  rw [Lib.toList_data, h]; rfl
theorem nonempty_of (s : ByteArray) (h : s.data.toList ≠ []) : s.toList.isEmpty = false := by
  rw [Lib.toList_data]
  cases hl : s.data.toList with
  | nil => exact absurd hl h
  | cons a b => rfl

set_option maxHeartbeats 400000 in
theorem str_zero (neg : Bool) (d : ByteArray) (n : Int) (he : d.toList.isEmpty = true) (w : World) :
    Calls Tryd.prog 18 #[.agg #[.bool neg, .string d, .int .i64 n]] w fun e w' => e = .returned (.string ⟨#[48]⟩) ∧ Below w.heap.size w w' := by
  go_enter Tryd.func18, Tryd.ntmps18
  go_wp2
  go_ret
  exact ⟨rfl, (Below.refl _ _).alloc (Nat.le_refl _) _⟩

set_option maxHeartbeats 400000 in
theorem zdec_any (neg : Bool) (d : ByteArray) (n : Int) (hd : d.size ≤ 1048576) (hn0 : -9223372036854775808 < n) (hn1 : n ≤ 9223372036854775807) (w : World) (hp : Pow w) (hg : 1 < w.heap.size) :
    Calls Tryd.prog 9 #[.bool neg, .string d, .int .i64 n] w fun e w' => (∃ r : ByteArray, e = .returned (.string r) ∧ Hid (r.data.toList = render neg d.data.toList n)) ∧ Below w.heap.size w w' := by
  by_cases h : d.data.toList = []
  · have he := empty_of d h
    have HR : Hid (render neg d.data.toList n = [48]) := by show _ = _; simp [render, h]
    clear h hn0 hn1
    go_enter Tryd.func9, Tryd.ntmps9
    go_wp2_with (go_at_call 18; refine (str_zero neg d n he _).mono ?_; rintro e w1 ⟨rfl, hb⟩)
    go_ret
    exact ⟨⟨_, rfl, HR.out.symm⟩, hb⟩
  · have he := nonempty_of d h
    have HR : Hid (render neg d.data.toList n = sgn neg ++ body d.data.toList n) := by show _ = _; simp [render, h]
    have cS := str_any neg d n he hd hn0 hn1 w hp hg
    clear h hn0 hn1
    go_enter Tryd.func9, Tryd.ntmps9
    go_wp2_with fail
    refine cS.mono ?_
    rintro e w1 ⟨⟨r, rfl, hr⟩, hb⟩
    go_wp2_with fail
    go_ret
    exact ⟨⟨_, rfl, hr.out.trans HR.out.symm⟩, hb⟩

def ne48 (c : UInt8) : Bool := (c.toNat : Int) != 48
def wfB (neg : Bool) (D : List UInt8) (n : Int) : Bool :=
  D.all digB && (if D.isEmpty then !neg && decide (n = 0) else ((D.head?.map ne48).getD false && (D.getLast?.map ne48).getD false))

theorem get_l (s : ByteArray) (k : Nat) (h : k < s.size) : s.data.toList[k]? = some s[k] := by
  rw [List.getElem?_eq_getElem (by simpa using h)]
  rfl
theorem dig_false (s : ByteArray) (k : Nat) (h : k < s.size) (hd : digB s[k] = false) : s.data.toList.all digB = false := by
  rw [List.all_eq_false]
  exact ⟨s[k], List.mem_of_getElem? (get_l s k h), by simp [hd]⟩
theorem dig_next (s : ByteArray) (k : Nat) (h : k < s.size) (h0 : (s.data.toList.take k).all digB = true) (hd : digB s[k] = true) : (s.data.toList.take (k + 1)).all digB = true := by
  rw [List.take_add_one, get_l s k h, List.all_append, h0]
  simp [hd]

set_option maxHeartbeats 1000000 in
theorem wf_any (neg : Bool) (d : ByteArray) (n : Int) (hd : d.size ≤ 1048576) (w : World) :
    Calls Tryd.prog 8 #[.bool neg, .string d, .int .i64 n] w fun e w' => e = .returned (.bool (wfB neg d.data.toList n)) ∧ w' = w := by
  go_enter Tryd.func8, Tryd.ntmps8
  go_wp2
  go_loop [7] (fun iv => ∃ k : Nat, k ≤ d.size ∧ iv = .int .i64 k ∧ Hid ((d.data.toList.take k).all digB = true)) (fun iv => d.size - (intOf iv).toNat)
  case atStart => exact ⟨0, Nat.zero_le _, rfl, by simp [Hid]⟩
  case round =>
    obtain ⟨k, hk, rfl, hR⟩ := hrel
    by_cases hlt : k < d.size
    · have hlt' : (k : Int) < d.size := by omega
      go_wp2_with fail
      refine (isDigit_any d[k] _).mono ?_
      rintro e w1 ⟨rfl, rfl⟩
      cases hD : digB d[k]
      · have HF : Hid (wfB neg d.data.toList n = false) := by show _ = _; simp [wfB, dig_false d k hlt hD]
        clear hD
        go_wp2_with fail
        go_ret
        exact ⟨ret_b HF.out.symm, rfl⟩
      · have HN : Hid ((d.data.toList.take (k + 1)).all digB = true) := dig_next d k hlt hR.out hD
        clear hD
        go_wp2_with fail
        go_round
        case rel => exact ⟨k + 1, by omega, by go_num, HN⟩
        case measure => simp [intOf]; omega
    · have hlt' : ¬ (k : Int) < d.size := by omega
      have HA : Hid (d.data.toList.all digB = true) := by
        have := hR.out
        rwa [List.take_of_length_le (by rw [len_eq]; omega)] at this
      by_cases he : d.data.toList = []
      · have hem := empty_of d he
        have HF : Hid (wfB neg d.data.toList n = (!neg && decide (n = 0))) := by show _ = _; simp [wfB, he]
        clear he hR HA
        cases neg
        · by_cases h0 : n = 0
          · subst h0
            go_wp2_with fail
            go_ret
            exact ⟨ret_b (by rw [HF.out]; simp), rfl⟩
          · have h0' : (n == 0) = false := by simpa using h0
            go_wp2_with fail
            go_ret
            exact ⟨ret_b (by rw [HF.out]; simp [h0]), rfl⟩
        · go_wp2_with fail
          go_ret
          exact ⟨ret_b (by rw [HF.out]; simp), rfl⟩
      · have hem := nonempty_of d he
        have hpos : 0 < d.size := List.length_pos_iff.2 he
        have hpos' : (0 : Int) < d.size := by omega
        have HF : Hid (wfB neg d.data.toList n = (ne48 d[0] && ne48 d[d.size - 1])) := by
          show _ = _
          have e1 : d.data.toList.head? = some d[0] := by rw [List.head?_eq_getElem?]; exact get_l d 0 hpos
          have e2 : d.data.toList.getLast? = some (d[d.size - 1]'(by omega)) := by rw [List.getLast?_eq_getElem?]; exact get_l d (d.size - 1) (by omega)
          have e3 : d.data.toList.isEmpty = false := by cases hl : d.data.toList with | nil => exact absurd hl he | cons a b => rfl
          simp [wfB, HA.out, e1, e2, e3]
        clear he hR HA
        by_cases t : (d[0].toNat : Int) = 48
        · have HF2 : Hid (wfB neg d.data.toList n = false) := by show _ = _; rw [HF.out]; simp [ne48, t]
          clear HF
          go_wp2_with fail
          go_ret
          exact ⟨ret_b HF2.out.symm, rfl⟩
        · go_wp2_with fail
          go_ret
          exact ⟨ret_b (by rw [HF.out]; rfl), rfl⟩

set_option maxHeartbeats 400000 in
theorem bytes7 (neg : Bool) (s : ByteArray) (i : Int) (hn : s.size ≤ 9223372036854775807) (w : World) :
    Calls Tryd.prog 7 #[.bool neg, .string s, .int .i64 i] w fun e w' => e = .returned (.bool (decide (s.size ≤ 1048576))) ∧ w' = w := by
  by_cases h : s.size ≤ 1048576
  · have h' : ¬ (1048576 : Int) < s.size := by omega
    go_enter Tryd.func7, Tryd.ntmps7
    go_wp2
    go_ret
    exact ⟨ret_b (by simp), rfl⟩
  · have h' : (1048576 : Int) < s.size := by omega
    go_enter Tryd.func7, Tryd.ntmps7
    go_wp2
    go_ret
    exact ⟨ret_b (by simpa using h), rfl⟩
end Go.Proofs.Qxb6609094aDoor
