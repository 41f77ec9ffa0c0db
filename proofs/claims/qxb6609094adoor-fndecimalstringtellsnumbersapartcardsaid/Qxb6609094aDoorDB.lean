/-
  THE WALK of decimal.String.
-/
import Derived.Test.Qxb6609094aDoorDA
import Derived.Test.Qxb6609094aDoorPlain
import Derived.Lib.AppendIntMem
namespace Go.Proofs.Qxb6609094aDoor
open Go.RowKit

def Pow (w : World) : Prop := Lib.TabIs Tryd.prog w "internal/strconv.uint64pow10" .u64 Lib.pow10Tab

theorem SB.start (w : World) (neg : Bool) (d : ByteArray) (n : Int) : SB w neg d n [] ((w.alloc (.cells #[.bool neg, .string d, .int .i64 n] 36)).alloc (.cells #[.pointer none, .slice none 0 0] 45)) := by
  refine ⟨by simp [go_sem], by simp [go_sem], by simp [go_sem], ?_, ((Below.refl _ _).alloc (Nat.le_refl _) _).alloc (by simp) _, by simp⟩
  refine .inl ⟨Nat.le_refl _, .slice none 0 0, ?_, World.ownsRow_nil _ _ _ _, by simp [Value.ownBlock]⟩
  have := Go.heap_alloc_new (w.alloc (.cells #[.bool neg, .string d, .int .i64 n] 36)) (.cells #[.pointer none, .slice none 0 0] 45)
  simpa using this

theorem SB.fin {w wr : World} {neg : Bool} {d : ByteArray} {n : Int} {l : List UInt8} (h : SB w neg d n l wr) (R : List UInt8) (hR : l = R) :
    Calls Tryd.prog 25 #[.pointer (some ⟨w.heap.size + 1, 0, none⟩)] wr fun e w' => (∃ r : ByteArray, e = .returned (.string r) ∧ Hid (r.data.toList = R)) ∧ Below w.heap.size w w' := by
  subst hR
  refine h.string.mono ?_
  rintro e w' ⟨rfl, hb⟩
  exact ⟨⟨_, rfl, rfl⟩, hb⟩

theorem SB.pow {w wr : World} {neg : Bool} {d : ByteArray} {n : Int} {l : List UInt8} (h : SB w neg d n l wr) (hp : Pow w) (hg : 1 < w.heap.size) : Pow wr :=
  var?_below h.bel (g := 1) (by kernel_rfl) hg hp
theorem itoa_any (n : Int) (h0 : -9223372036854775808 ≤ n) (h1 : n ≤ 9223372036854775807) (w : World) (hp : Pow w) :
    Calls Tryd.prog 24 #[.int .i64 n] w fun e w' => (∃ r : ByteArray, e = .returned (.string r) ∧ r.size ≤ 20 ∧ Hid (r.data.toList = Lib.itoa n)) ∧ Below w.heap.size w w' := by
  refine (Tryd.strconv_Itoa n h0 h1 w hp).mono ?_
  rintro e w' ⟨rfl, k, os, rfl⟩
  exact ⟨⟨_, rfl, itoa_le n h0 h1, rfl⟩, Lib.below_grow _ _ (Nat.le_refl _) _ _⟩

theorem len_eq (d : ByteArray) : d.data.toList.length = d.size := rfl
theorem ext_take (d : ByteArray) (m : Nat) : (d.extract 0 m).data.toList = d.data.toList.take m := by rw [Lib.extract_data]; simp
theorem ext_drop (d : ByteArray) (m : Nat) : (d.extract m d.size).data.toList = d.data.toList.drop m := by
  rw [Lib.extract_data, List.take_of_length_le]
  rw [List.length_drop]
  exact Nat.le_refl _
theorem sgn_len (neg : Bool) : (sgn neg).length ≤ 1 := by cases neg <;> simp [sgn]

theorem rep_list (m : Nat) : Lib.repeatL [48] m = List.replicate m 48 := by
  induction m with
  | zero => rfl
  | succ m ih => rw [Lib.repeatL, ih]; rfl
theorem rep_any (m : Nat) (hm : m ≤ 1000) (w : World) :
    Calls Tryd.prog 23 #[.string ⟨#[48]⟩, .int .i64 m] w fun e w' => (∃ r : ByteArray, e = .returned (.string r) ∧ r.size = m ∧ Hid (r.data.toList = List.replicate m 48)) ∧ Below w.heap.size w w' := by
  refine (Tryd.strings_Repeat ⟨#[48]⟩ m _ (by omega) (by show 1 * m ≤ _; omega)).mono ?_
  rintro e w2 ⟨rfl, hb2⟩
  refine ⟨⟨_, rfl, ?_, ?_⟩, hb2⟩
  · show (Lib.repeatL [48] m).toArray.size = m
    rw [rep_list]
    simp
  · show Lib.repeatL [48] m = List.replicate m 48
    exact rep_list m

set_option maxRecDepth 100000 in
set_option maxHeartbeats 1000000 in
theorem str_any (neg : Bool) (d : ByteArray) (n : Int) (he : d.toList.isEmpty = false) (hd : d.size ≤ 1048576) (hn0 : -9223372036854775808 < n) (hn1 : n ≤ 9223372036854775807) (w : World) (hp : Pow w) (hg : 1 < w.heap.size) :
    Calls Tryd.prog 18 #[.agg #[.bool neg, .string d, .int .i64 n]] w fun e w' => (∃ r : ByteArray, e = .returned (.string r) ∧ Hid (r.data.toList = sgn neg ++ body d.data.toList n)) ∧ Below w.heap.size w w' := by
  have H0 := SB.start w neg d n
  have hd0 : 0 < d.size := by
    rw [Lib.toList_data] at he
    rcases Nat.eq_zero_or_pos d.size with h | h
    · have : d.data.toList = [] := List.eq_nil_of_length_eq_zero h
      rw [this] at he
      cases he
    · exact h
  have hsl := sgn_len neg
  go_enter Tryd.func18, Tryd.ntmps18
  go_upto_if 10 with (fail)
  go_cut [] (fun wc => SB w neg d n (sgn neg) wc)
  case first =>
    clear hn0 hn1 hp hsl hd hd0 hg
    cases neg
    · go_wp2_with fail
      go_meet
      case rel => exact H0
    · go_wp2_with fail
      refine (H0.writeByte 45 (by simp)).mono ?_
      rintro e w1 ⟨rfl, h1⟩
      go_wp2_with fail
      go_meet
      case rel => exact h1
  case rest =>
    clear H0
    have ⟨c0, c1, c2, _, _, _⟩ := hcut
    go_wp2_with fail
    go_quiet (fail)
    have hcut := hcut.on (below_drewN (Below.refl _ _) nq)
    by_cases a1 : (d.size : Int) ≤ n ∧ n ≤ 21
    · obtain ⟨a1, a2⟩ := a1
      go_wp2_with fail
      refine (hcut.writeStr d (by omega)).mono ?_
      rintro e w1 ⟨rfl, h1⟩
      clear c0 c1 c2 hcut
      go_wp2_with fail
      obtain ⟨m, hm⟩ : ∃ m : Nat, n - d.size = m := ⟨(n - d.size).toNat, by omega⟩
      rw [hm]
      refine (rep_any m (by omega) _).mono ?_
      rintro e w2 ⟨⟨r, rfl, hrs, hrl⟩, hb2⟩
      have h2 := h1.on hb2
      have HM : Hid (n - d.size = m) := hm
      have HRS : Hid (r.size = m) := hrs
      clear hm h1 hb2 hrs
      go_wp2_with fail
      refine (h2.writeStr r (by rw [List.length_append, len_eq]; have := HRS.out; have := HM.out; omega)).mono ?_
      rintro e w3 ⟨rfl, h3⟩
      clear h2
      go_wp2_with fail
      refine (h3.fin (sgn neg ++ body d.data.toList n) (by
        unfold body
        rw [len_eq, if_pos ⟨a1, a2⟩, HM.out, hrl.out]
        simp)).mono ?_
      rintro e w4 ⟨⟨r, rfl, hr⟩, hb4⟩
      go_wp2_with fail
      go_ret
      exact ⟨⟨_, rfl, hr⟩, hb4⟩
    by_cases b1 : 0 < n ∧ n ≤ 21
    · obtain ⟨b1, b2⟩ := b1
      have b3 : ¬ (d.size : Int) ≤ n := by omega
      obtain ⟨m, rfl⟩ := Int.eq_ofNat_of_zero_le (show 0 ≤ n by omega)
      have hmd : m ≤ d.size := by omega
      have z1 : (d.extract 0 m).size ≤ 1048576 := by rw [ByteArray.size_extract]; omega
      have z2 : (d.extract m d.size).size ≤ 1048576 := by rw [ByteArray.size_extract]; omega
      go_wp2_with fail
      refine (hcut.writeStr (d.extract 0 m) (by omega)).mono ?_
      rintro e w1 ⟨rfl, h1⟩
      have L1 : Hid ((sgn neg ++ (d.extract 0 m).data.toList).length ≤ 1048577) := by show _ ≤ _; rw [List.length_append, len_eq]; omega
      clear c0 c1 c2 hcut
      go_wp2_with fail
      refine (h1.writeByte 46 (by have := L1.out; omega)).mono ?_
      rintro e w2 ⟨rfl, h2⟩
      have ⟨c0, c1, c2, _, _, _⟩ := h2
      go_wp2_with fail
      refine (h2.writeStr (d.extract m d.size) (by rw [List.length_append]; have := L1.out; simp only [List.length_singleton]; omega)).mono ?_
      rintro e w3 ⟨rfl, h3⟩
      clear h1 h2 c0 c1 c2
      go_wp2_with fail
      refine (h3.fin (sgn neg ++ body d.data.toList (m : Int)) (by
        unfold body
        rw [len_eq, if_neg (by omega), if_pos ⟨b1, b2⟩, ext_take, ext_drop]
        simp)).mono ?_
      rintro e w9 ⟨⟨r9, rfl, hr9⟩, hb9⟩
      go_wp2_with fail
      go_ret
      exact ⟨⟨_, rfl, hr9⟩, hb9⟩
    by_cases d1 : -6 < n ∧ n ≤ 0
    · obtain ⟨d1, d2⟩ := d1
      have d3 : ¬ (d.size : Int) ≤ n := by omega
      have d4 : ¬ 0 < n := by omega
      obtain ⟨m, hm⟩ : ∃ m : Nat, -n = m := ⟨(-n).toNat, by omega⟩
      have HM : Hid (-n = m) := hm
      clear hm
      go_wp2_with fail
      refine (hcut.writeStr ⟨#[48, 46]⟩ (by show _ + 2 ≤ _; omega)).mono ?_
      rintro e w1 ⟨rfl, h1⟩
      clear c0 c1 c2 hcut
      go_wp2_with fail
      rw [HM.out]
      refine (rep_any m (by have := HM.out; omega) _).mono ?_
      rintro e w2 ⟨⟨r, rfl, hrs, hrl⟩, hb2⟩
      have h2 := h1.on hb2
      have HRS : Hid (r.size = m) := hrs
      clear h1 hb2 hrs
      go_wp2_with fail
      refine (h2.writeStr r (by rw [List.length_append]; have := HRS.out; have := HM.out; simp only [List.length_cons, List.length_nil]; omega)).mono ?_
      rintro e w3 ⟨rfl, h3⟩
      have ⟨c0, c1, c2, _, _, _⟩ := h3
      clear h2
      go_wp2_with fail
      refine (h3.writeStr d (by rw [List.length_append, List.length_append, len_eq]; have := HRS.out; have := HM.out; simp only [List.length_cons, List.length_nil]; omega)).mono ?_
      rintro e w4 ⟨rfl, h4⟩
      clear h3 c0 c1 c2
      go_wp2_with fail
      refine (h4.fin (sgn neg ++ body d.data.toList n) (by
        unfold body
        rw [len_eq, if_neg (by omega), if_neg (by omega), if_pos ⟨d1, d2⟩, HM.out, hrl.out]
        simp)).mono ?_
      rintro e w9 ⟨⟨r9, rfl, hr9⟩, hb9⟩
      go_wp2_with fail
      go_ret
      exact ⟨⟨_, rfl, hr9⟩, hb9⟩
    have z1 : (d.extract 0 1).size = 1 := by rw [ByteArray.size_extract]; omega
    have z2 : (d.extract 1 d.size).size ≤ 1048576 := by rw [ByteArray.size_extract]; omega
    have HZ1 : Hid ((d.extract 0 1).size = 1) := z1
    clear z1
    by_cases q : 21 < n
    · have q2 : ¬ n ≤ 21 := by omega
      have q3 : ¬ n ≤ 0 := by omega
      have q4 : 0 < n := by omega
      have q5 : -6 < n := by omega
      have q6 : 0 ≤ n - 1 := by omega
      by_cases p : (d.size : Int) ≤ n
      · by_cases g1 : (1 : Int) < d.size
        · go_wp2_with fail
          refine (hcut.writeStr (d.extract 0 1) (by have := HZ1.out; omega)).mono ?_
          rintro e w1 ⟨rfl, h1⟩
          have L1 : Hid ((sgn neg ++ (d.extract 0 1).data.toList).length ≤ 2) := by show _ ≤ _; rw [List.length_append, len_eq, HZ1.out]; omega
          clear c0 c1 c2 hcut
          go_wp2_with fail
          refine (h1.writeByte 46 (by have := L1.out; omega)).mono ?_
          rintro e w2 ⟨rfl, h2⟩
          have ⟨c0, c1, c2, _, _, _⟩ := h2
          clear h1
          go_wp2_with fail
          refine (h2.writeStr (d.extract 1 d.size) (by rw [List.length_append]; have := L1.out; simp only [List.length_singleton]; omega)).mono ?_
          rintro e w3 ⟨rfl, h3⟩
          have L3 : Hid ((sgn neg ++ (d.extract 0 1).data.toList ++ [46] ++ (d.extract 1 d.size).data.toList).length ≤ 1048579) := by show _ ≤ _; rw [List.length_append, List.length_append, len_eq]; have := L1.out; simp only [List.length_singleton]; omega
          clear h2 c0 c1 c2 L1
          go_wp2_with fail
          refine (h3.writeByte 101 (by have := L3.out; omega)).mono ?_
          rintro e w4 ⟨rfl, h4⟩
          clear h3
          go_wp2_with fail
          refine (h4.writeByte 43 (by have := L3.out; simp only [List.length_append, List.length_singleton] at this ⊢; omega)).mono ?_
          rintro e w5 ⟨rfl, h5⟩
          clear h4
          go_wp2_with fail
          refine (itoa_any (n - 1) (by omega) (by omega) _ (h5.pow hp hg)).mono ?_
          rintro e w6 ⟨⟨r, rfl, hrs, hrl⟩, hb6⟩
          have h6 := h5.on hb6
          have HRS : Hid (r.size ≤ 20) := hrs
          clear hrs hb6 h5
          go_wp2_with fail
          refine (h6.writeStr r (by have := HRS.out; have := L3.out; simp only [List.length_append, List.length_singleton] at this ⊢; omega)).mono ?_
          rintro e w7 ⟨rfl, h7⟩
          clear h6
          go_wp2_with fail
          refine (h7.fin (sgn neg ++ body d.data.toList n) (by
            unfold body
            rw [len_eq, if_neg (by omega), if_neg (by omega), if_neg (by omega), if_pos (by omega), if_pos (by omega), ext_take, ext_drop, hrl.out]
            simp)).mono ?_
          rintro e w9 ⟨⟨r9, rfl, hr9⟩, hb9⟩
          go_wp2_with fail
          go_ret
          exact ⟨⟨_, rfl, hr9⟩, hb9⟩
        · go_wp2_with fail
          refine (hcut.writeStr (d.extract 0 1) (by have := HZ1.out; omega)).mono ?_
          rintro e w1 ⟨rfl, h3⟩
          have L3 : Hid ((sgn neg ++ (d.extract 0 1).data.toList).length ≤ 1048579) := by show _ ≤ _; rw [List.length_append, len_eq, HZ1.out]; omega
          clear c0 c1 c2 hcut
          go_wp2_with fail
          refine (h3.writeByte 101 (by have := L3.out; omega)).mono ?_
          rintro e w4 ⟨rfl, h4⟩
          clear h3
          go_wp2_with fail
          refine (h4.writeByte 43 (by have := L3.out; simp only [List.length_append, List.length_singleton] at this ⊢; omega)).mono ?_
          rintro e w5 ⟨rfl, h5⟩
          clear h4
          go_wp2_with fail
          refine (itoa_any (n - 1) (by omega) (by omega) _ (h5.pow hp hg)).mono ?_
          rintro e w6 ⟨⟨r, rfl, hrs, hrl⟩, hb6⟩
          have h6 := h5.on hb6
          have HRS : Hid (r.size ≤ 20) := hrs
          clear hrs hb6 h5
          go_wp2_with fail
          refine (h6.writeStr r (by have := HRS.out; have := L3.out; simp only [List.length_append, List.length_singleton] at this ⊢; omega)).mono ?_
          rintro e w7 ⟨rfl, h7⟩
          clear h6
          go_wp2_with fail
          refine (h7.fin (sgn neg ++ body d.data.toList n) (by
            unfold body
            rw [len_eq, if_neg (by omega), if_neg (by omega), if_neg (by omega), if_neg (by omega), if_pos (by omega), ext_take, hrl.out]
            simp)).mono ?_
          rintro e w9 ⟨⟨r9, rfl, hr9⟩, hb9⟩
          go_wp2_with fail
          go_ret
          exact ⟨⟨_, rfl, hr9⟩, hb9⟩
      · by_cases g1 : (1 : Int) < d.size
        · go_wp2_with fail
          refine (hcut.writeStr (d.extract 0 1) (by have := HZ1.out; omega)).mono ?_
          rintro e w1 ⟨rfl, h1⟩
          have L1 : Hid ((sgn neg ++ (d.extract 0 1).data.toList).length ≤ 2) := by show _ ≤ _; rw [List.length_append, len_eq, HZ1.out]; omega
          clear c0 c1 c2 hcut
          go_wp2_with fail
          refine (h1.writeByte 46 (by have := L1.out; omega)).mono ?_
          rintro e w2 ⟨rfl, h2⟩
          have ⟨c0, c1, c2, _, _, _⟩ := h2
          clear h1
          go_wp2_with fail
          refine (h2.writeStr (d.extract 1 d.size) (by rw [List.length_append]; have := L1.out; simp only [List.length_singleton]; omega)).mono ?_
          rintro e w3 ⟨rfl, h3⟩
          have L3 : Hid ((sgn neg ++ (d.extract 0 1).data.toList ++ [46] ++ (d.extract 1 d.size).data.toList).length ≤ 1048579) := by show _ ≤ _; rw [List.length_append, List.length_append, len_eq]; have := L1.out; simp only [List.length_singleton]; omega
          clear h2 c0 c1 c2 L1
          go_wp2_with fail
          refine (h3.writeByte 101 (by have := L3.out; omega)).mono ?_
          rintro e w4 ⟨rfl, h4⟩
          clear h3
          go_wp2_with fail
          refine (h4.writeByte 43 (by have := L3.out; simp only [List.length_append, List.length_singleton] at this ⊢; omega)).mono ?_
          rintro e w5 ⟨rfl, h5⟩
          clear h4
          go_wp2_with fail
          refine (itoa_any (n - 1) (by omega) (by omega) _ (h5.pow hp hg)).mono ?_
          rintro e w6 ⟨⟨r, rfl, hrs, hrl⟩, hb6⟩
          have h6 := h5.on hb6
          have HRS : Hid (r.size ≤ 20) := hrs
          clear hrs hb6 h5
          go_wp2_with fail
          refine (h6.writeStr r (by have := HRS.out; have := L3.out; simp only [List.length_append, List.length_singleton] at this ⊢; omega)).mono ?_
          rintro e w7 ⟨rfl, h7⟩
          clear h6
          go_wp2_with fail
          refine (h7.fin (sgn neg ++ body d.data.toList n) (by
            unfold body
            rw [len_eq, if_neg (by omega), if_neg (by omega), if_neg (by omega), if_pos (by omega), if_pos (by omega), ext_take, ext_drop, hrl.out]
            simp)).mono ?_
          rintro e w9 ⟨⟨r9, rfl, hr9⟩, hb9⟩
          go_wp2_with fail
          go_ret
          exact ⟨⟨_, rfl, hr9⟩, hb9⟩
        · exfalso
          omega
    · have q2 : n ≤ 21 := by omega
      have q4 : ¬ 0 < n := by omega
      have q5 : ¬ -6 < n := by omega
      have q6 : ¬ 0 ≤ n - 1 := by omega
      have p : ¬ (d.size : Int) ≤ n := by omega
      by_cases g1 : (1 : Int) < d.size
      · go_wp2_with fail
        refine (hcut.writeStr (d.extract 0 1) (by have := HZ1.out; omega)).mono ?_
        rintro e w1 ⟨rfl, h1⟩
        have L1 : Hid ((sgn neg ++ (d.extract 0 1).data.toList).length ≤ 2) := by show _ ≤ _; rw [List.length_append, len_eq, HZ1.out]; omega
        clear c0 c1 c2 hcut
        go_wp2_with fail
        refine (h1.writeByte 46 (by have := L1.out; omega)).mono ?_
        rintro e w2 ⟨rfl, h2⟩
        have ⟨c0, c1, c2, _, _, _⟩ := h2
        clear h1
        go_wp2_with fail
        refine (h2.writeStr (d.extract 1 d.size) (by rw [List.length_append]; have := L1.out; simp only [List.length_singleton]; omega)).mono ?_
        rintro e w3 ⟨rfl, h3⟩
        have L3 : Hid ((sgn neg ++ (d.extract 0 1).data.toList ++ [46] ++ (d.extract 1 d.size).data.toList).length ≤ 1048579) := by show _ ≤ _; rw [List.length_append, List.length_append, len_eq]; have := L1.out; simp only [List.length_singleton]; omega
        clear h2 c0 c1 c2 L1
        go_wp2_with fail
        refine (h3.writeByte 101 (by have := L3.out; omega)).mono ?_
        rintro e w4 ⟨rfl, h4⟩
        clear h3
        go_wp2_with fail
        refine (itoa_any (n - 1) (by omega) (by omega) _ (h4.pow hp hg)).mono ?_
        rintro e w6 ⟨⟨r, rfl, hrs, hrl⟩, hb6⟩
        have h6 := h4.on hb6
        have HRS : Hid (r.size ≤ 20) := hrs
        clear hrs hb6 h4
        go_wp2_with fail
        refine (h6.writeStr r (by have := HRS.out; have := L3.out; simp only [List.length_append, List.length_singleton] at this ⊢; omega)).mono ?_
        rintro e w7 ⟨rfl, h7⟩
        clear h6
        go_wp2_with fail
        refine (h7.fin (sgn neg ++ body d.data.toList n) (by
          unfold body
          rw [len_eq, if_neg (by omega), if_neg (by omega), if_neg (by omega), if_pos (by omega), if_neg (by omega), ext_take, ext_drop, hrl.out]
          simp)).mono ?_
        rintro e w9 ⟨⟨r9, rfl, hr9⟩, hb9⟩
        go_wp2_with fail
        go_ret
        exact ⟨⟨_, rfl, hr9⟩, hb9⟩
      · go_wp2_with fail
        refine (hcut.writeStr (d.extract 0 1) (by have := HZ1.out; omega)).mono ?_
        rintro e w1 ⟨rfl, h3⟩
        have L3 : Hid ((sgn neg ++ (d.extract 0 1).data.toList).length ≤ 1048579) := by show _ ≤ _; rw [List.length_append, len_eq, HZ1.out]; omega
        clear c0 c1 c2 hcut
        go_wp2_with fail
        refine (h3.writeByte 101 (by have := L3.out; omega)).mono ?_
        rintro e w4 ⟨rfl, h4⟩
        clear h3
        go_wp2_with fail
        refine (itoa_any (n - 1) (by omega) (by omega) _ (h4.pow hp hg)).mono ?_
        rintro e w6 ⟨⟨r, rfl, hrs, hrl⟩, hb6⟩
        have h6 := h4.on hb6
        have HRS : Hid (r.size ≤ 20) := hrs
        clear hrs hb6 h4
        go_wp2_with fail
        refine (h6.writeStr r (by have := HRS.out; have := L3.out; simp only [List.length_append, List.length_singleton] at this ⊢; omega)).mono ?_
        rintro e w7 ⟨rfl, h7⟩
        clear h6
        go_wp2_with fail
        refine (h7.fin (sgn neg ++ body d.data.toList n) (by
          unfold body
          rw [len_eq, if_neg (by omega), if_neg (by omega), if_neg (by omega), if_neg (by omega), if_neg (by omega), ext_take, hrl.out]
          simp)).mono ?_
        rintro e w9 ⟨⟨r9, rfl, hr9⟩, hb9⟩
        go_wp2_with fail
        go_ret
        exact ⟨⟨_, rfl, hr9⟩, hb9⟩
end Go.Proofs.Qxb6609094aDoor
