/-
  THE LAW 'FnDecimalStringReadsBackAndNegates': her walk.
-/
import Derived.Test.Qxb6609094aDoorSR
set_option linter.unusedVariables false
namespace Go.Proofs.Qxb6609094aDoor
open Go.RowKit

theorem pow_on {w w' : World} (hp : Pow w) (hg : 1 < w.heap.size) (hb : Below w.heap.size w w') : Pow w' := var?_below hb (g := 1) (by kernel_rfl) hg hp

theorem read_zero (s : ByteArray) (hs : s.data.toList = [48]) (w : World) :
    Calls Tryd.prog 10 #[.string s] w fun e w' => e = .returned (.tuple #[.bool true, .bool false, .string ⟨#[]⟩, .int .i64 0, .bool false]) ∧ Below w.heap.size w w' := by
  have hz : s.size = 1 := size_l hs
  have h0 : 0 < s.size := by omega
  have e0 : s[0] = 48 := at_l hs 0 h0 rfl
  exact readZ s hz h0 (by rw [e0]; decide) (by rw [e0]; decide) (show _ = _ by rw [e0]; decide) (ba_ext (by rw [ext_l (A := []) (B := [48]) (C := []) (by rw [hs]; rfl) 0 1 rfl rfl, hs])) (isE hs (by simp)) (ba_ext (by rw [app_l]; simp)) w

theorem flip_pos (r r2 : ByteArray) (D : List UInt8) (n : Int) (hne : D ≠ []) (h1 : r.data.toList = sgn false ++ body D n) (h2 : r2.data.toList = render (!false) D n) : (r2.toList == (⟨#[45]⟩ ++ r : ByteArray).toList) = true := by
  have e : r2 = (⟨#[45]⟩ ++ r : ByteArray) := ba_ext (by rw [app_l, h1, h2]; unfold render; rw [if_neg hne]; rfl)
  rw [e]
  simp
theorem flip_neg (r r2 : ByteArray) (D : List UInt8) (n : Int) (hne : D ≠ []) (h1 : r.data.toList = sgn true ++ body D n) (h2 : r2.data.toList = render (!true) D n) : (r2.toList == (r.extract 1 r.size).toList) = true := by
  have e : r2 = r.extract 1 r.size := ba_ext (by
    rw [h2, ext_l (A := [45]) (B := body D n) (C := []) (by rw [h1]; simp [sgn]) 1 r.size rfl (by rw [size_l h1]; simp [sgn]; omega)]
    unfold render
    rw [if_neg hne]
    rfl)
  rw [e]
  simp

set_option maxRecDepth 100000 in
set_option maxHeartbeats 1000000 in
theorem back_good (neg : Bool) (d : ByteArray) (n : Int) (hd : d.size ≤ 1048576) (hn0 : -9223372036854775808 < n) (hn1 : n ≤ 9223372036854775807) (hwf : wfB neg d.data.toList n = true) (hne : d.data.toList ≠ []) (w : World) (hp : Pow w) (hg : 1 < w.heap.size) :
    Calls Tryd.prog 3 #[.bool neg, .string d, .int .i64 n] w fun e w' => e = .returned (.bool true) ∧ Below w.heap.size w w' := by
  have hG := good_of hwf hne
  have hemp := nonempty_of d hne
  have hmin : (n == -9223372036854775808) = false := by simp; omega
  have hlen : ¬ (1048576 : Int) < d.size := by omega
  have cB := bytes7 neg d n (by omega) w
  rw [show decide (d.size ≤ 1048576) = true by simpa using hd] at cB
  have cW := wf_any neg d n hd w
  rw [hwf] at cW
  have cS := zdec_any neg d n hd hn0 hn1 w hp hg
  have HN0 : Hid (-9223372036854775808 < n) := hn0
  have HN1 : Hid (n ≤ 9223372036854775807) := hn1
  clear hn0 hn1 hwf
  go_enter Tryd.func3, Tryd.ntmps3
  go_wp2_with fail
  refine cB.mono ?_
  rintro e w1 ⟨rfl, rfl⟩
  go_wp2_with fail
  refine cW.mono ?_
  rintro e w1 ⟨rfl, rfl⟩
  go_wp2_with fail
  refine cS.mono ?_
  rintro e w2 ⟨⟨r, rfl, hr⟩, hb2⟩
  have hr' : r.data.toList = sgn neg ++ body d.data.toList n := by rw [hr.out]; unfold render; rw [if_neg hne]
  have cR := read_back neg d r d.data.toList n hG rfl (by rw [len_eq]; exact hd) HN0.out HN1.out hr' w2
  have HR : Hid (r.data.toList = sgn neg ++ body d.data.toList n) := hr'
  clear hr hr' cB cW cS
  go_wp2_with fail
  refine cR.mono ?_
  rintro e w3 ⟨rfl, hb3⟩
  clear cR
  have hB3 := hb2.trans (hb3.mono hb2.size)
  have cS2 := zdec_any (!neg) d n hd HN0.out HN1.out w3 (pow_on hp hg hB3) (Nat.lt_of_lt_of_le hg hB3.size)
  clear hb2 hb3
  have hrz : r.size ≤ 2000000 := by
    have h1 := body_len d.data.toList n (by rw [len_eq]; exact hd) HN0.out HN1.out
    have h2 := sgn_len neg
    rw [size_l HR.out, List.length_append]
    omega
  by_cases t1 : -6 < n
  · by_cases t2 : n ≤ 21
    · have hx : expoB n = false := by unfold expoB; simp [t1, t2]
      rw [hx]
      clear hx
      go_wp2_with fail
      refine cS2.mono ?_
      rintro e w4 ⟨⟨r2, rfl, hr2⟩, hb4⟩
      clear cS2
      cases neg
      · have hE := flip_pos r r2 d.data.toList n hne HR.out hr2.out
        clear hr2
        go_wp2_with fail
        go_ret
        exact ⟨rfl, hB3.trans (hb4.mono hB3.size)⟩
      · have hE := flip_neg r r2 d.data.toList n hne HR.out hr2.out
        have hr1 : (1 : Int) ≤ r.size := by rw [size_l HR.out]; simp [sgn]; omega
        clear hr2
        go_wp2_with fail
        go_ret
        exact ⟨rfl, hB3.trans (hb4.mono hB3.size)⟩
    · have hx : expoB n = true := by unfold expoB; simp [t1]; omega
      rw [hx]
      clear hx
      go_wp2_with fail
      refine cS2.mono ?_
      rintro e w4 ⟨⟨r2, rfl, hr2⟩, hb4⟩
      clear cS2
      cases neg
      · have hE := flip_pos r r2 d.data.toList n hne HR.out hr2.out
        clear hr2
        go_wp2_with fail
        go_ret
        exact ⟨rfl, hB3.trans (hb4.mono hB3.size)⟩
      · have hE := flip_neg r r2 d.data.toList n hne HR.out hr2.out
        have hr1 : (1 : Int) ≤ r.size := by rw [size_l HR.out]; simp [sgn]; omega
        clear hr2
        go_wp2_with fail
        go_ret
        exact ⟨rfl, hB3.trans (hb4.mono hB3.size)⟩
  · have hx : expoB n = true := by unfold expoB; simp; omega
    rw [hx]
    clear hx
    go_wp2_with fail
    refine cS2.mono ?_
    rintro e w4 ⟨⟨r2, rfl, hr2⟩, hb4⟩
    clear cS2
    cases neg
    · have hE := flip_pos r r2 d.data.toList n hne HR.out hr2.out
      clear hr2
      go_wp2_with fail
      go_ret
      exact ⟨rfl, hB3.trans (hb4.mono hB3.size)⟩
    · have hE := flip_neg r r2 d.data.toList n hne HR.out hr2.out
      have hr1 : (1 : Int) ≤ r.size := by rw [size_l HR.out]; simp [sgn]; omega
      clear hr2
      go_wp2_with fail
      go_ret
      exact ⟨rfl, hB3.trans (hb4.mono hB3.size)⟩

set_option maxRecDepth 100000 in
set_option maxHeartbeats 1000000 in
theorem back_zero (d : ByteArray) (hd : d.data.toList = []) (w : World) (hp : Pow w) (hg : 1 < w.heap.size) :
    Calls Tryd.prog 3 #[.bool false, .string d, .int .i64 0] w fun e w' => e = .returned (.bool true) ∧ Below w.heap.size w w' := by
  obtain rfl : d = ⟨#[]⟩ := ba_ext hd
  have cB := bytes7 false ⟨#[]⟩ 0 (by decide) w
  rw [show decide ((⟨#[]⟩ : ByteArray).size ≤ 1048576) = true by decide] at cB
  have cW := wf_any false ⟨#[]⟩ 0 (by decide) w
  rw [show wfB false (⟨#[]⟩ : ByteArray).data.toList 0 = true by decide] at cW
  have cS := zdec_any false ⟨#[]⟩ 0 (by decide) (by decide) (by decide) w hp hg
  clear hd
  go_enter Tryd.func3, Tryd.ntmps3
  go_wp2_with fail
  refine cB.mono ?_
  rintro e w1 ⟨rfl, rfl⟩
  go_wp2_with fail
  refine cW.mono ?_
  rintro e w1 ⟨rfl, rfl⟩
  go_wp2_with fail
  refine cS.mono ?_
  rintro e w2 ⟨⟨r, rfl, hr⟩, hb2⟩
  have cR := read_zero r hr.out w2
  clear cB cW cS hr
  go_wp2_with fail
  refine cR.mono ?_
  rintro e w3 ⟨rfl, hb3⟩
  have hB3 := hb2.trans (hb3.mono hb2.size)
  clear cR hb2 hb3
  go_wp2_with fail
  go_ret
  exact ⟨rfl, hB3⟩

set_option maxRecDepth 100000 in
set_option maxHeartbeats 1000000 in
theorem back_walk (neg : Bool) (d : ByteArray) (n : Int) (hm : d.size ≤ 9223372036854775807) (hn0 : -9223372036854775808 ≤ n) (hn1 : n ≤ 9223372036854775807) (w : World) (hp : Pow w) (hg : 1 < w.heap.size) :
    Calls Tryd.prog 3 #[.bool neg, .string d, .int .i64 n] w fun e w' => e = .returned (.bool true) ∧ Below w.heap.size w w' := by
  have cB := bytes7 neg d n hm w
  by_cases hd : d.size ≤ 1048576
  · have hlen : ¬ (1048576 : Int) < d.size := by omega
    by_cases h0 : n = -9223372036854775808
    · rw [show decide (d.size ≤ 1048576) = true by simpa using hd] at cB
      have hmin : (n == -9223372036854775808) = true := by simpa using h0
      clear h0 hn0 hn1
      go_enter Tryd.func3, Tryd.ntmps3
      go_wp2_with fail
      refine cB.mono ?_
      rintro e w1 ⟨rfl, rfl⟩
      go_wp2_with fail
      go_ret
      exact ⟨rfl, Below.refl _ _⟩
    · cases hwf : wfB neg d.data.toList n
      · rw [show decide (d.size ≤ 1048576) = true by simpa using hd] at cB
        have cW := wf_any neg d n hd w
        rw [hwf] at cW
        have hmin : (n == -9223372036854775808) = false := by simpa using h0
        clear h0 hn0 hn1 hwf
        go_enter Tryd.func3, Tryd.ntmps3
        go_wp2_with fail
        refine cB.mono ?_
        rintro e w1 ⟨rfl, rfl⟩
        go_wp2_with fail
        refine cW.mono ?_
        rintro e w1 ⟨rfl, rfl⟩
        go_wp2_with fail
        go_ret
        exact ⟨rfl, Below.refl _ _⟩
      · by_cases hne : d.data.toList = []
        · obtain ⟨rfl, rfl⟩ := zero_of hwf hne
          exact back_zero d hne w hp hg
        · exact back_good neg d n hd (by omega) hn1 hwf hne w hp hg
  · rw [show decide (d.size ≤ 1048576) = false by simpa using hd] at cB
    clear hn0 hn1
    go_enter Tryd.func3, Tryd.ntmps3
    go_wp2_with fail
    refine cB.mono ?_
    rintro e w1 ⟨rfl, rfl⟩
    go_wp2_with fail
    go_ret
    exact ⟨rfl, Below.refl _ _⟩
end Go.Proofs.Qxb6609094aDoor
