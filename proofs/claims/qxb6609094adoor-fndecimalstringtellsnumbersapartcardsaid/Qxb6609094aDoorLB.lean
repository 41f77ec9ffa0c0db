/-
  THE LAW 'FnDecimalStringTellsNumbersApart': her walk. That two unlike decimals have unlike texts: the reader reads each text back, and the machine is one function of its state ('Lib.agree').
-/
import Derived.Test.Qxb6609094aDoorLA
import Derived.Lib.Agree
set_option linter.unusedVariables false
namespace Go.Proofs.Qxb6609094aDoor
open Go.RowKit

def expoR (D : List UInt8) (n : Int) : Bool := if D = [] then false else expoB n
theorem read_wf (neg : Bool) (d r : ByteArray) (n : Int) (hd : d.size ≤ 1048576) (hn0 : -9223372036854775808 < n) (hn1 : n ≤ 9223372036854775807) (hwf : wfB neg d.data.toList n = true) (hr : r.data.toList = render neg d.data.toList n) (w : World) :
    Calls Tryd.prog 10 #[.string r] w fun e w' => e = .returned (.tuple #[.bool true, .bool neg, .string d, .int .i64 n, .bool (expoR d.data.toList n)]) ∧ Below w.heap.size w w' := by
  by_cases h : d.data.toList = []
  · obtain ⟨rfl, rfl⟩ := zero_of hwf h
    obtain rfl : d = ⟨#[]⟩ := ba_ext h
    exact read_zero r hr w
  · have e : expoR d.data.toList n = expoB n := by unfold expoR; rw [if_neg h]
    rw [e]
    exact read_back neg d r d.data.toList n (good_of hwf h) rfl (by rw [len_eq]; exact hd) hn0 hn1 (by rw [hr]; unfold render; rw [if_neg h]) w

theorem init10 : Tryd.prog.inits.idxOf? 10 = none := by kernel_rfl

/-- UNLIKE DECIMALS HAVE UNLIKE TEXTS. -/
theorem apart (neg1 neg2 : Bool) (d1 d2 r1 r2 : ByteArray) (n1 n2 : Int) (hd1 : d1.size ≤ 1048576) (ha0 : -9223372036854775808 < n1) (ha1 : n1 ≤ 9223372036854775807) (hw1 : wfB neg1 d1.data.toList n1 = true) (hr1 : r1.data.toList = render neg1 d1.data.toList n1)
    (hd2 : d2.size ≤ 1048576) (hb0 : -9223372036854775808 < n2) (hb1 : n2 ≤ 9223372036854775807) (hw2 : wfB neg2 d2.data.toList n2 = true) (hr2 : r2.data.toList = render neg2 d2.data.toList n2) (w : World) (h : ¬ (neg1 = neg2 ∧ d1 = d2 ∧ n1 = n2)) : (r1.toList == r2.toList) = false := by
  by_cases e : r1 = r2
  · subst e
    have c1 := read_wf neg1 d1 r1 n1 hd1 ha0 ha1 hw1 hr1 w
    have c2 := read_wf neg2 d2 r1 n2 hd2 hb0 hb1 hw2 hr2 w
    have := Lib.agree init10 c1 c2
    simp only [Value.tuple.injEq, Array.mk.injEq, List.cons.injEq, Value.bool.injEq, Value.string.injEq, Value.int.injEq, true_and] at this
    exact absurd ⟨this.1, this.2.1, this.2.2.1⟩ h
  · have : r1.toList ≠ r2.toList := fun h2 => e (ba_ext (by simpa [ByteArray.toList_eq] using h2))
    simpa using this

theorem bytes11 (neg1 neg2 : Bool) (s t : ByteArray) (i j : Int) (hn : s.size ≤ 9223372036854775807) (hm : t.size ≤ 9223372036854775807) (w : World) :
    Calls Tryd.prog 11 #[.bool neg1, .string s, .int .i64 i, .bool neg2, .string t, .int .i64 j] w fun e w' => e = .returned (.bool (decide (s.size + t.size ≤ 1048576))) ∧ w' = w := by
  by_cases h : s.size ≤ 1048576
  · have h' : ¬ (1048576 : Int) < s.size := by omega
    by_cases h2 : t.size ≤ 1048576
    · have h2' : ¬ (1048576 : Int) < t.size := by omega
      by_cases h3 : s.size + t.size ≤ 1048576
      · have h3' : ¬ (1048576 : Int) < s.size + t.size := by omega
        go_enter Tryd.func11, Tryd.ntmps11
        go_wp2
        go_ret
        exact ⟨ret_b (by simp), rfl⟩
      · have h3' : (1048576 : Int) < s.size + t.size := by omega
        go_enter Tryd.func11, Tryd.ntmps11
        go_wp2
        go_ret
        exact ⟨ret_b (by simp), rfl⟩
    · have h2' : (1048576 : Int) < t.size := by omega
      go_enter Tryd.func11, Tryd.ntmps11
      go_wp2
      go_ret
      exact ⟨ret_b (by simp; omega), rfl⟩
  · have h' : (1048576 : Int) < s.size := by omega
    go_enter Tryd.func11, Tryd.ntmps11
    go_wp2
    go_ret
    exact ⟨ret_b (by simp; omega), rfl⟩

theorem ne_str {d1 d2 : ByteArray} (h : d1 ≠ d2) : (d1.toList == d2.toList) = false := by
  have : d1.toList ≠ d2.toList := fun h2 => h (ba_ext (by simpa [ByteArray.toList_eq] using h2))
  simpa using this

set_option maxRecDepth 100000 in
set_option maxHeartbeats 1000000 in
theorem apart_good (neg1 : Bool) (d1 : ByteArray) (n1 : Int) (neg2 : Bool) (d2 : ByteArray) (n2 : Int) (hd1 : d1.size ≤ 524288) (hd2 : d2.size ≤ 524288) (ha0 : -9223372036854775808 < n1) (ha1 : n1 ≤ 9223372036854775807) (hb0 : -9223372036854775808 < n2) (hb1 : n2 ≤ 9223372036854775807) (hw1 : wfB neg1 d1.data.toList n1 = true) (hw2 : wfB neg2 d2.data.toList n2 = true) (w : World) (hp : Pow w) (hg : 1 < w.heap.size) :
    Calls Tryd.prog 4 #[.bool neg1, .string d1, .int .i64 n1, .bool neg2, .string d2, .int .i64 n2] w fun e w' => e = .returned (.bool true) ∧ Below w.heap.size w w' := by
  have hmin1 : (n1 == -9223372036854775808) = false := by simp; omega
  have hmin2 : (n2 == -9223372036854775808) = false := by simp; omega
  have hlen1 : ¬ (524288 : Int) < d1.size := by omega
  have hlen2 : ¬ (524288 : Int) < d2.size := by omega
  have hm1 : d1.size ≤ 1048576 := by omega
  have hm2 : d2.size ≤ 1048576 := by omega
  have cB := bytes11 neg1 neg2 d1 d2 n1 n2 (by omega) (by omega) w
  rw [show decide (d1.size + d2.size ≤ 1048576) = true by simp; omega] at cB
  have cW1 := wf_any neg1 d1 n1 hm1 w
  rw [hw1] at cW1
  have cW2 := wf_any neg2 d2 n2 hm2 w
  rw [hw2] at cW2
  have cS := zdec_any neg1 d1 n1 hm1 ha0 ha1 w hp hg
  have HA0 : Hid (-9223372036854775808 < n1) := ha0
  have HA1 : Hid (n1 ≤ 9223372036854775807) := ha1
  have HB0 : Hid (-9223372036854775808 < n2) := hb0
  have HB1 : Hid (n2 ≤ 9223372036854775807) := hb1
  have HW1 : Hid (wfB neg1 d1.data.toList n1 = true) := hw1
  have HW2 : Hid (wfB neg2 d2.data.toList n2 = true) := hw2
  clear ha0 ha1 hb0 hb1 hw1 hw2
  go_enter Tryd.func4, Tryd.ntmps4
  go_wp2_with fail
  refine cB.mono ?_
  rintro e w1 ⟨rfl, rfl⟩
  go_wp2_with fail
  refine cW1.mono ?_
  rintro e w1 ⟨rfl, rfl⟩
  go_wp2_with fail
  refine cW2.mono ?_
  rintro e w1 ⟨rfl, rfl⟩
  go_wp2_with fail
  refine cS.mono ?_
  rintro e w2 ⟨⟨r1, rfl, hr1⟩, hb2⟩
  clear cB cW1 cW2 cS
  have cS2 := zdec_any neg2 d2 n2 hm2 HB0.out HB1.out w2 (pow_on hp hg hb2) (Nat.lt_of_lt_of_le hg hb2.size)
  go_wp2_with fail
  refine cS2.mono ?_
  rintro e w3 ⟨⟨r2, rfl, hr2⟩, hb3⟩
  clear cS2
  have hB3 := hb2.trans (hb3.mono hb2.size)
  clear hb2 hb3
  have cR := read_wf neg1 d1 r1 n1 hm1 HA0.out HA1.out HW1.out hr1.out w3
  go_wp2_with fail
  refine cR.mono ?_
  rintro e w4 ⟨rfl, hb4⟩
  clear cR
  have hB4 := hB3.trans (hb4.mono hB3.size)
  clear hB3 hb4
  by_cases hs : neg1 = neg2 ∧ d1 = d2 ∧ n1 = n2
  · obtain ⟨rfl, rfl, rfl⟩ := hs
    obtain rfl : r1 = r2 := ba_ext (hr1.out.trans hr2.out.symm)
    go_wp2_with fail
    go_ret
    exact ⟨rfl, hB4⟩
  · have hE := apart neg1 neg2 d1 d2 r1 r2 n1 n2 hm1 HA0.out HA1.out HW1.out hr1.out hm2 HB0.out HB1.out HW2.out hr2.out w4 hs
    by_cases q1 : neg1 = neg2
    · by_cases q2 : d1 = d2
      · have q3 : ¬ n1 = n2 := fun h => hs ⟨q1, q2, h⟩
        have k3 : (n1 == n2) = false := by simpa using q3
        clear hs q3
        subst q1
        subst q2
        go_wp2_with fail
        go_ret
        exact ⟨rfl, hB4⟩
      · have k2 := ne_str q2
        clear hs q2
        subst q1
        go_wp2_with fail
        go_ret
        exact ⟨rfl, hB4⟩
    · have k1 : (neg1 == neg2) = false := by simpa using q1
      clear hs q1
      go_wp2_with fail
      go_ret
      exact ⟨rfl, hB4⟩

set_option maxRecDepth 100000 in
set_option maxHeartbeats 1000000 in
theorem out_bytes (neg1 : Bool) (d1 : ByteArray) (n1 : Int) (neg2 : Bool) (d2 : ByteArray) (n2 : Int) (hz1 : d1.size ≤ 9223372036854775807) (hz2 : d2.size ≤ 9223372036854775807) (hB : ¬ d1.size + d2.size ≤ 1048576) (w : World) :
    Calls Tryd.prog 4 #[.bool neg1, .string d1, .int .i64 n1, .bool neg2, .string d2, .int .i64 n2] w fun e w' => e = .returned (.bool true) ∧ Below w.heap.size w w' := by
  have cB := bytes11 neg1 neg2 d1 d2 n1 n2 hz1 hz2 w
  rw [show decide (d1.size + d2.size ≤ 1048576) = false by simpa using hB] at cB
  clear hB
  go_enter Tryd.func4, Tryd.ntmps4
  go_wp2_with fail
  refine cB.mono ?_
  rintro e w1 ⟨rfl, rfl⟩
  go_wp2_with fail
  go_ret
  exact ⟨rfl, Below.refl _ _⟩

set_option maxRecDepth 100000 in
set_option maxHeartbeats 1000000 in
theorem out_len1 (neg1 : Bool) (d1 : ByteArray) (n1 : Int) (neg2 : Bool) (d2 : ByteArray) (n2 : Int) (hz1 : d1.size ≤ 9223372036854775807) (hz2 : d2.size ≤ 9223372036854775807) (hB : d1.size + d2.size ≤ 1048576) (h1 : (524288 : Int) < d1.size) (w : World) :
    Calls Tryd.prog 4 #[.bool neg1, .string d1, .int .i64 n1, .bool neg2, .string d2, .int .i64 n2] w fun e w' => e = .returned (.bool true) ∧ Below w.heap.size w w' := by
  have cB := bytes11 neg1 neg2 d1 d2 n1 n2 hz1 hz2 w
  rw [show decide (d1.size + d2.size ≤ 1048576) = true by simpa using hB] at cB
  clear hB
  go_enter Tryd.func4, Tryd.ntmps4
  go_wp2_with fail
  refine cB.mono ?_
  rintro e w1 ⟨rfl, rfl⟩
  go_wp2_with fail
  go_ret
  exact ⟨rfl, Below.refl _ _⟩

set_option maxRecDepth 100000 in
set_option maxHeartbeats 1000000 in
theorem out_len2 (neg1 : Bool) (d1 : ByteArray) (n1 : Int) (neg2 : Bool) (d2 : ByteArray) (n2 : Int) (hz1 : d1.size ≤ 9223372036854775807) (hz2 : d2.size ≤ 9223372036854775807) (hB : d1.size + d2.size ≤ 1048576) (h1 : ¬ (524288 : Int) < d1.size) (h2 : (524288 : Int) < d2.size) (w : World) :
    Calls Tryd.prog 4 #[.bool neg1, .string d1, .int .i64 n1, .bool neg2, .string d2, .int .i64 n2] w fun e w' => e = .returned (.bool true) ∧ Below w.heap.size w w' := by
  have cB := bytes11 neg1 neg2 d1 d2 n1 n2 hz1 hz2 w
  rw [show decide (d1.size + d2.size ≤ 1048576) = true by simpa using hB] at cB
  clear hB
  go_enter Tryd.func4, Tryd.ntmps4
  go_wp2_with fail
  refine cB.mono ?_
  rintro e w1 ⟨rfl, rfl⟩
  go_wp2_with fail
  go_ret
  exact ⟨rfl, Below.refl _ _⟩

set_option maxRecDepth 100000 in
set_option maxHeartbeats 1000000 in
theorem out_min1 (neg1 : Bool) (d1 : ByteArray) (n1 : Int) (neg2 : Bool) (d2 : ByteArray) (n2 : Int) (hz1 : d1.size ≤ 9223372036854775807) (hz2 : d2.size ≤ 9223372036854775807) (hB : d1.size + d2.size ≤ 1048576) (h1 : ¬ (524288 : Int) < d1.size) (h2 : ¬ (524288 : Int) < d2.size) (h3 : (n1 == -9223372036854775808) = true) (w : World) :
    Calls Tryd.prog 4 #[.bool neg1, .string d1, .int .i64 n1, .bool neg2, .string d2, .int .i64 n2] w fun e w' => e = .returned (.bool true) ∧ Below w.heap.size w w' := by
  have cB := bytes11 neg1 neg2 d1 d2 n1 n2 hz1 hz2 w
  rw [show decide (d1.size + d2.size ≤ 1048576) = true by simpa using hB] at cB
  clear hB
  go_enter Tryd.func4, Tryd.ntmps4
  go_wp2_with fail
  refine cB.mono ?_
  rintro e w1 ⟨rfl, rfl⟩
  go_wp2_with fail
  go_ret
  exact ⟨rfl, Below.refl _ _⟩

set_option maxRecDepth 100000 in
set_option maxHeartbeats 1000000 in
theorem out_min2 (neg1 : Bool) (d1 : ByteArray) (n1 : Int) (neg2 : Bool) (d2 : ByteArray) (n2 : Int) (hz1 : d1.size ≤ 9223372036854775807) (hz2 : d2.size ≤ 9223372036854775807) (hB : d1.size + d2.size ≤ 1048576) (h1 : ¬ (524288 : Int) < d1.size) (h2 : ¬ (524288 : Int) < d2.size) (h3 : (n1 == -9223372036854775808) = false) (h4 : (n2 == -9223372036854775808) = true) (w : World) :
    Calls Tryd.prog 4 #[.bool neg1, .string d1, .int .i64 n1, .bool neg2, .string d2, .int .i64 n2] w fun e w' => e = .returned (.bool true) ∧ Below w.heap.size w w' := by
  have cB := bytes11 neg1 neg2 d1 d2 n1 n2 hz1 hz2 w
  rw [show decide (d1.size + d2.size ≤ 1048576) = true by simpa using hB] at cB
  clear hB
  go_enter Tryd.func4, Tryd.ntmps4
  go_wp2_with fail
  refine cB.mono ?_
  rintro e w1 ⟨rfl, rfl⟩
  go_wp2_with fail
  go_ret
  exact ⟨rfl, Below.refl _ _⟩

set_option maxRecDepth 100000 in
set_option maxHeartbeats 1000000 in
theorem out_wf1 (neg1 : Bool) (d1 : ByteArray) (n1 : Int) (neg2 : Bool) (d2 : ByteArray) (n2 : Int) (hz1 : d1.size ≤ 9223372036854775807) (hz2 : d2.size ≤ 9223372036854775807) (hB : d1.size + d2.size ≤ 1048576) (h1 : ¬ (524288 : Int) < d1.size) (h2 : ¬ (524288 : Int) < d2.size) (h3 : (n1 == -9223372036854775808) = false) (h4 : (n2 == -9223372036854775808) = false) (h5 : wfB neg1 d1.data.toList n1 = false) (w : World) :
    Calls Tryd.prog 4 #[.bool neg1, .string d1, .int .i64 n1, .bool neg2, .string d2, .int .i64 n2] w fun e w' => e = .returned (.bool true) ∧ Below w.heap.size w w' := by
  have cB := bytes11 neg1 neg2 d1 d2 n1 n2 hz1 hz2 w
  rw [show decide (d1.size + d2.size ≤ 1048576) = true by simpa using hB] at cB
  have cW1 := wf_any neg1 d1 n1 (by omega) w
  rw [h5] at cW1
  clear hB h5
  go_enter Tryd.func4, Tryd.ntmps4
  go_wp2_with fail
  refine cB.mono ?_
  rintro e w1 ⟨rfl, rfl⟩
  go_wp2_with fail
  refine cW1.mono ?_
  rintro e w1 ⟨rfl, rfl⟩
  go_wp2_with fail
  go_ret
  exact ⟨rfl, Below.refl _ _⟩

set_option maxRecDepth 100000 in
set_option maxHeartbeats 1000000 in
theorem out_wf2 (neg1 : Bool) (d1 : ByteArray) (n1 : Int) (neg2 : Bool) (d2 : ByteArray) (n2 : Int) (hz1 : d1.size ≤ 9223372036854775807) (hz2 : d2.size ≤ 9223372036854775807) (hB : d1.size + d2.size ≤ 1048576) (h1 : ¬ (524288 : Int) < d1.size) (h2 : ¬ (524288 : Int) < d2.size) (h3 : (n1 == -9223372036854775808) = false) (h4 : (n2 == -9223372036854775808) = false) (h5 : wfB neg1 d1.data.toList n1 = true) (h6 : wfB neg2 d2.data.toList n2 = false) (w : World) :
    Calls Tryd.prog 4 #[.bool neg1, .string d1, .int .i64 n1, .bool neg2, .string d2, .int .i64 n2] w fun e w' => e = .returned (.bool true) ∧ Below w.heap.size w w' := by
  have cB := bytes11 neg1 neg2 d1 d2 n1 n2 hz1 hz2 w
  rw [show decide (d1.size + d2.size ≤ 1048576) = true by simpa using hB] at cB
  have cW1 := wf_any neg1 d1 n1 (by omega) w
  rw [h5] at cW1
  have cW2 := wf_any neg2 d2 n2 (by omega) w
  rw [h6] at cW2
  clear hB h5 h6
  go_enter Tryd.func4, Tryd.ntmps4
  go_wp2_with fail
  refine cB.mono ?_
  rintro e w1 ⟨rfl, rfl⟩
  go_wp2_with fail
  refine cW1.mono ?_
  rintro e w1 ⟨rfl, rfl⟩
  go_wp2_with fail
  refine cW2.mono ?_
  rintro e w1 ⟨rfl, rfl⟩
  go_wp2_with fail
  go_ret
  exact ⟨rfl, Below.refl _ _⟩

theorem apart_walk (neg1 : Bool) (d1 : ByteArray) (n1 : Int) (neg2 : Bool) (d2 : ByteArray) (n2 : Int) (hz1 : d1.size ≤ 9223372036854775807) (ha0 : -9223372036854775808 ≤ n1) (ha1 : n1 ≤ 9223372036854775807) (hz2 : d2.size ≤ 9223372036854775807) (hb0 : -9223372036854775808 ≤ n2) (hb1 : n2 ≤ 9223372036854775807) (w : World) (hp : Pow w) (hg : 1 < w.heap.size) :
    Calls Tryd.prog 4 #[.bool neg1, .string d1, .int .i64 n1, .bool neg2, .string d2, .int .i64 n2] w fun e w' => e = .returned (.bool true) ∧ Below w.heap.size w w' := by
  by_cases hB : d1.size + d2.size ≤ 1048576
  · by_cases h1 : (524288 : Int) < d1.size
    · exact out_len1 neg1 d1 n1 neg2 d2 n2 hz1 hz2 hB h1 w
    · by_cases h2 : (524288 : Int) < d2.size
      · exact out_len2 neg1 d1 n1 neg2 d2 n2 hz1 hz2 hB h1 h2 w
      · cases h3 : (n1 == -9223372036854775808)
        · cases h4 : (n2 == -9223372036854775808)
          · cases h5 : wfB neg1 d1.data.toList n1
            · exact out_wf1 neg1 d1 n1 neg2 d2 n2 hz1 hz2 hB h1 h2 h3 h4 h5 w
            · cases h6 : wfB neg2 d2.data.toList n2
              · exact out_wf2 neg1 d1 n1 neg2 d2 n2 hz1 hz2 hB h1 h2 h3 h4 h5 h6 w
              · have h3' : n1 ≠ -9223372036854775808 := by simpa using h3
                have h4' : n2 ≠ -9223372036854775808 := by simpa using h4
                exact apart_good neg1 d1 n1 neg2 d2 n2 (by omega) (by omega) (by omega) ha1 (by omega) hb1 h5 h6 w hp hg
          · exact out_min2 neg1 d1 n1 neg2 d2 n2 hz1 hz2 hB h1 h2 h3 h4 w
        · exact out_min1 neg1 d1 n1 neg2 d2 n2 hz1 hz2 hB h1 h2 h3 w
  · exact out_bytes neg1 d1 n1 neg2 d2 n2 hz1 hz2 hB w
end Go.Proofs.Qxb6609094aDoor
