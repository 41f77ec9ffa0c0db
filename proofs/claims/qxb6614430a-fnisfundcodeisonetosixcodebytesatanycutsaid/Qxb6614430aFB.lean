import Derived.Test.Qxb6614430aFA
import Derived.Lib.Strings
import Derived.Deep.DeepCutAuto
import Derived.Deep.CutBlock
namespace Go.Proofs.Qxb6614430a
open Go.RowKit
set_option maxHeartbeats 1000000 in
theorem indexFunc_any (s : ByteArray) (w : World) :
    Calls Try.prog 26 #[.string s, .func (.func 17) #[] #[], .bool true] w fun e w' => (∃ v : Int, e = .returned (.int .i64 v) ∧ decide (0 ≤ v) = !codeL s.data.toList) ∧ Below w.heap.size w w' := by
  go_enter Try.func26, Try.ntmps26
  go_wp2
  go_loopg [] s.size (fun gf wx => ∃ pos : Nat, wx.heap[w.heap.size]? = some (.stringIter s pos) ∧ Below w.heap.size w wx ∧ Hid (codeL (s.data.toList.take pos) = true) ∧ s.size ≤ pos + gf)
  case atStart => exact ⟨0, World.iter_heap w s 0, (Below.refl _ w).alloc (Nat.le_refl _) _, by simp [codeL, Hid], by omega⟩
  case round =>
    obtain ⟨pos, hit, hbw, hleft, hfu⟩ := hrel
    by_cases hps : pos < s.size
    · obtain ⟨g', rfl⟩ : ∃ g', gk = g' + 1 := ⟨gk - 1, by omega⟩
      have hnx : ∀ ty, (Instr.next (.pointer (some ⟨w.heap.size, 0, none⟩)) true ty).run Try.prog wr = _ := fun ty => Lib.run_next_any_at wr w.heap.size s pos ty hit hps
      have hwd := Lib.width_pos s pos
      obtain ⟨R, hR⟩ : ∃ R, (Utf8.decode s pos).1 = R := ⟨_, rfl⟩
      obtain ⟨K, hK⟩ : ∃ K, (Utf8.decode s pos).2 = K := ⟨_, rfl⟩
      rw [hR, hK] at hnx
      rw [hK] at hwd
      have hit2 := Lib.iterAt_heap wr w.heap.size s pos (pos + K) hit
      have hbw2 := Lib.below_iterAt hbw (k := w.heap.size) (Nat.le_refl _) s (pos + K)
      obtain ⟨W, hWd⟩ : ∃ W, wr.iterAt w.heap.size s (pos + K) = W := ⟨_, rfl⟩
      rw [hWd] at hnx hit2 hbw2
      have HR : Hid ((Utf8.decode s pos).1 = R) := hR
      have HK : Hid ((Utf8.decode s pos).2 = K) := hK
      clear hR hK hWd
      have cS := notCode_any R W
      cases hc : codeN R
      · rw [hc] at cS
        have HC : Hid (codeL s.data.toList = false) := by
          refine codeL_false s pos hps ?_
          by_cases hl : (s.get! pos).toNat < 128
          · have := HR.out; rw [decode_lo s pos hl] at this; simp only at this; rw [this]; exact hc
          · exact codeN_hi _ (by omega)
        clear hc
        go_wp2_with fail
        refine cS.mono ?_
        rintro e W' ⟨rfl, rfl⟩
        go_wp2_with fail
        go_ret
        exact ⟨⟨_, rfl, by rw [HC.out]; simp⟩, hbw2⟩
      · rw [hc] at cS
        have hlo : (s.get! pos).toNat < 128 := by
          rcases Nat.lt_or_ge (s.get! pos).toNat 128 with h | h
          · exact h
          · have h1 := decode_hi s pos (by omega)
            rw [HR.out] at h1
            rw [codeN_hi R h1] at hc
            cases hc
        have e1 : R = (s.get! pos).toNat := by have := HR.out; rw [decode_lo s pos hlo] at this; exact this.symm
        have e2 : K = 1 := by have := HK.out; rw [decode_lo s pos hlo] at this; exact this.symm
        have HC : Hid (codeL (s.data.toList.take (pos + 1)) = true) := codeL_next s pos hps hleft.out (by rw [← e1]; exact hc)
        clear hc e1
        subst e2
        go_wp2_with fail
        refine cS.mono ?_
        rintro e W' ⟨rfl, rfl⟩
        go_wp2_with fail
        go_roundg g'
        case measure => omega
        case rel => exact ⟨pos + 1, hit2, hbw2, HC, by omega⟩
    · have hnx : ∀ ty, (Instr.next (.pointer (some ⟨w.heap.size, 0, none⟩)) true ty).run Try.prog wr = _ := fun ty => Lib.run_next_end_at wr w.heap.size s pos ty hit hps
      have HC : Hid (codeL s.data.toList = true) := codeL_all s pos hps hleft.out
      go_wp2
      go_ret
      exact ⟨⟨_, rfl, by rw [HC.out]; rfl⟩, hbw⟩

set_option maxHeartbeats 400000 in
theorem containsFunc_any (s : ByteArray) (w : World) :
    Calls Try.prog 18 #[.string s, .func (.func 17) #[] #[]] w fun e w' => e = .returned (.bool (!codeL s.data.toList)) ∧ Below w.heap.size w w' := by
  go_enter Try.func18, Try.ntmps18
  go_wp2_with (first | (go_at_call 26; refine (indexFunc_any s _).mono ?_; rintro e w1 ⟨⟨v, rfl, hv⟩, hb⟩; have HV : Hid (decide (0 ≤ v) = !codeL s.data.toList) := hv; clear hv) | go_in)
  go_ret
  exact ⟨ret_b HV.out, hb⟩

def isCode (s : ByteArray) : Bool := decide (1 ≤ s.size) && decide (s.size ≤ 6) && codeL s.data.toList

theorem empty_of (s : ByteArray) (h : s.size = 0) : s.toList.isEmpty = true := by
  rw [Lib.toList_data]
  have : s.data.toList.length = 0 := h
  simp [List.eq_nil_of_length_eq_zero this]
theorem nonempty_of (s : ByteArray) (h : ¬ s.size = 0) : s.toList.isEmpty = false := by
  rw [Lib.toList_data]
  have : s.data.toList.length ≠ 0 := h
  cases hl : s.data.toList with
  | nil => rw [hl] at this; simp at this
  | cons a b => rfl

set_option maxHeartbeats 400000 in
theorem isFund_any (s : ByteArray) (hs : s.size ≤ 1048576) (w : World) :
    Calls Try.prog 13 #[.string s] w fun e w' => e = .returned (.bool (isCode s)) ∧ Below w.heap.size w w' := by
  by_cases h0 : s.size = 0
  · have he := empty_of s h0
    have HI : Hid (isCode s = false) := by show _ = _; simp [isCode, h0]
    clear h0
    go_enter Try.func13, Try.ntmps13
    go_wp2
    go_ret
    exact ⟨ret_b HI.out.symm, Below.refl _ _⟩
  · have he := nonempty_of s h0
    by_cases h6 : s.size ≤ 6
    · have h6' : (s.size : Int) ≤ 6 := by omega
      have HI : Hid (isCode s = codeL s.data.toList) := by show _ = _; have : 1 ≤ s.size := by omega
                                                           simp [isCode, h6, this]
      go_enter Try.func13, Try.ntmps13
      go_wp2_with (go_at_call 18; refine (containsFunc_any s _).mono ?_; rintro e w1 ⟨rfl, hb⟩)
      go_ret
      exact ⟨ret_b (by rw [HI.out]), hb⟩
    · have h6' : ¬ (s.size : Int) ≤ 6 := by omega
      have HI : Hid (isCode s = false) := by show _ = _; simp [isCode, h6]
      go_enter Try.func13, Try.ntmps13
      go_wp2
      go_ret
      exact ⟨ret_b HI.out.symm, Below.refl _ _⟩

set_option maxHeartbeats 400000 in
theorem zfund_any (s : ByteArray) (hs : s.size ≤ 1048576) (w : World) :
    Calls Try.prog 6 #[.string s] w fun e w' => e = .returned (.bool (isCode s)) ∧ Below w.heap.size w w' := by
  go_enter Try.func6, Try.ntmps6
  go_wp2_with (go_at_call 13; refine (isFund_any s hs _).mono ?_; rintro e w1 ⟨rfl, hb⟩)
  go_ret
  exact ⟨rfl, hb⟩

set_option maxHeartbeats 400000 in
theorem bytes5 (s : ByteArray) (i : Int) (hn : s.size ≤ 9223372036854775807) (w : World) :
    Calls Try.prog 5 #[.string s, .int .i64 i] w fun e w' => e = .returned (.bool (decide (s.size ≤ 1048576))) ∧ w' = w := by
  by_cases h : s.size ≤ 1048576
  · have h' : ¬ (1048576 : Int) < s.size := by omega
    go_enter Try.func5, Try.ntmps5
    go_wp2
    go_ret
    exact ⟨ret_b (by simp), rfl⟩
  · have h' : (1048576 : Int) < s.size := by omega
    go_enter Try.func5, Try.ntmps5
    go_wp2
    go_ret
    exact ⟨ret_b (by simpa using h), rfl⟩

def szB (s : ByteArray) : Bool := decide (1 ≤ s.size) && decide (s.size ≤ 6)
theorem isCode_eq (s : ByteArray) : isCode s = (szB s && codeL s.data.toList) := rfl

theorem code_cut (s : ByteArray) (i : Nat) (h0 : 0 < i) (hi : i < s.size) : isCode s = (decide (s.size ≤ 6) && isCode (s.extract 0 i) && isCode (s.extract i s.size)) := by
  have e1 : (s.extract 0 i).data.toList = s.data.toList.take i := by rw [Lib.extract_data]; simp
  have e2 : (s.extract i s.size).data.toList = s.data.toList.drop i := by
    rw [Lib.extract_data, List.take_of_length_le]
    rw [List.length_drop]
    exact Nat.le_refl _
  have z1 : (s.extract 0 i).size = i := by
    have : (s.extract 0 i).data.toList.length = i := by rw [e1, List.length_take]; have : s.data.toList.length = s.size := rfl; omega
    exact this
  have z2 : (s.extract i s.size).size = s.size - i := by
    have : (s.extract i s.size).data.toList.length = s.size - i := by rw [e2, List.length_drop]; rfl
    exact this
  have e3 : codeL s.data.toList = (codeL (s.data.toList.take i) && codeL (s.data.toList.drop i)) := by
    unfold codeL
    rw [← List.all_append, List.take_append_drop]
  unfold isCode
  rw [z1, z2, e1, e2, e3]
  by_cases h6 : s.size ≤ 6
  · have a1 : 1 ≤ s.size := by omega
    have a2 : 1 ≤ i := by omega
    have a3 : i ≤ 6 := by omega
    have a4 : 1 ≤ s.size - i := by omega
    have a5 : s.size - i ≤ 6 := by omega
    have d4 : decide (1 ≤ s.size - i) = true := decide_eq_true a4
    simp [h6, a1, a2, a3, a5, d4]
  · simp [h6]

set_option maxHeartbeats 1000000 in
/-- The length is out of bounds. -/
theorem fund_bad (s : ByteArray) (i : Nat) (hs : s.size ≤ 1048576) (hi : i ≤ s.size) (hz : s.size = 0 ∨ 6 < s.size) (w : World) :
    Calls Try.prog 3 #[.string s, .int .i64 i] w fun e w' => e = .returned (.bool true) ∧ Below w.heap.size w w' := by
  have hi' : (i : Int) ≤ s.size := by omega
  have hI : isCode s = false := by
    unfold isCode
    rcases hz with h | h
    · simp [h]
    · have : ¬ s.size ≤ 6 := by omega
      simp [this]
  rcases hz with h | h
  · have h1 : ¬ (1 : Int) ≤ s.size := by omega
    have h2 : ¬ (0 : Int) < i := by omega
    go_enter Try.func3, Try.ntmps3
    go_wp2_with fail
    refine (bytes5 s i (by omega) _).mono ?_
    rintro e w1 ⟨rfl, rfl⟩
    rw [show decide (s.size ≤ 1048576) = true by simpa using hs]
    go_wp2_with fail
    refine (zfund_any s hs _).mono ?_
    rw [hI]
    rintro e w2 ⟨rfl, hb⟩
    go_wp2_with fail
    go_loop [6, 7] (fun v j => v = .bool false ∧ j = .int .i64 0) (fun _ _ => 0)
    case atStart => exact ⟨rfl, rfl⟩
    case round =>
      obtain ⟨rfl, rfl⟩ := hrel
      have h3 : ¬ (0 : Int) < s.size := by omega
      go_wp2_with fail
      go_ret
      exact ⟨rfl, hb⟩
  · have h1 : (1 : Int) ≤ s.size := by omega
    have h2 : decide ((s.size : Int) ≤ 6) = false := by simp; omega
    go_enter Try.func3, Try.ntmps3
    go_wp2_with fail
    refine (bytes5 s i (by omega) _).mono ?_
    rintro e w1 ⟨rfl, rfl⟩
    rw [show decide (s.size ≤ 1048576) = true by simpa using hs]
    go_wp2_with fail
    refine (zfund_any s hs _).mono ?_
    rw [hI]
    rintro e w2 ⟨rfl, hb⟩
    go_wp2_with fail
    go_loop [6, 7] (fun v j => v = .bool false ∧ j = .int .i64 0) (fun _ _ => 0)
    case atStart => exact ⟨rfl, rfl⟩
    case round =>
      obtain ⟨rfl, rfl⟩ := hrel
      have h3 : (0 : Int) < s.size := by omega
      by_cases k1 : (0 : Int) < i
      · by_cases k2 : (i : Int) < s.size
        · go_wp2_with fail
          go_ret
          exact ⟨rfl, hb⟩
        · go_wp2_with fail
          go_ret
          exact ⟨rfl, hb⟩
      · go_wp2_with fail
        go_ret
        exact ⟨rfl, hb⟩

/-- The tests on a byte, as the walk shows them. -/
theorem codeN_iff (r : Nat) : codeN r = ((decide ((48 : Int) ≤ r) && decide ((r : Int) ≤ 57)) || (decide ((65 : Int) ≤ r) && decide ((r : Int) ≤ 90))) := by
  unfold codeN
  have e1 : decide ((48 : Int) ≤ r) = decide (48 ≤ r) := by simp; omega
  have e2 : decide ((r : Int) ≤ 57) = decide (r ≤ 57) := by simp; omega
  have e3 : decide ((65 : Int) ≤ r) = decide (65 ≤ r) := by simp; omega
  have e4 : decide ((r : Int) ≤ 90) = decide (r ≤ 90) := by simp; omega
  rw [e1, e2, e3, e4]

end Go.Proofs.Qxb6614430a
