/-
  THE WALKS of isFundCode and of what it calls.
-/
import Derived.Test.Qxb6614430aRows
import Derived.WalkKit
import Derived.WalkSpells
import Derived.WalkLawsBesides
import Derived.Lib.OthersKept
import Derived.Lib.TrimU
import Derived.Deep.LoopGhost
namespace Go.Proofs.Qxb6614430a
open Go.RowKit

/-- A digit or an upper-case letter. -/
def codeN (r : Nat) : Bool := (48 ≤ r && r ≤ 57) || (65 ≤ r && r ≤ 90)
def codeL (l : List UInt8) : Bool := l.all (fun c => codeN c.toNat)

theorem decode_lo (s : ByteArray) (i : Nat) (h : (s.get! i).toNat < 128) : Utf8.decode s i = ((s.get! i).toNat, 1) := by
  simp [Utf8.decode, h]
theorem decode_hi (s : ByteArray) (i : Nat) (h : ¬ (s.get! i).toNat < 128) : 128 ≤ (Utf8.decode s i).1 := by
  simp only [Utf8.decode, Nat.add_zero, h, if_false]
  repeat' split
  all_goals first | omega | (simp_all; done) | (simp [Utf8.runeError]; done) | skip
  all_goals simp_all
  all_goals omega

theorem codeN_hi (r : Nat) (h : 128 ≤ r) : codeN r = false := by simp [codeN]; omega

theorem ret_b {a b : Bool} (h : a = b) : Ending.returned (.bool a) = .returned (.bool b) := by rw [h]

set_option maxHeartbeats 400000 in
theorem notCode_any (r : Nat) (w : World) :
    Calls Try.prog 17 #[.int .i32 (r : Int)] w fun e w' => e = .returned (.bool (!codeN r)) ∧ w' = w := by
  by_cases h1 : (48 : Int) ≤ r
  · by_cases h2 : (r : Int) ≤ 57
    · go_enter Try.func17, Try.ntmps17
      go_wp2
      go_ret
      exact ⟨ret_b (by simp [codeN]; omega), rfl⟩
    · by_cases h3 : (65 : Int) ≤ r
      · by_cases h4 : (r : Int) ≤ 90
        · go_enter Try.func17, Try.ntmps17
          go_wp2
          go_ret
          exact ⟨ret_b (by simp [codeN]; omega), rfl⟩
        · go_enter Try.func17, Try.ntmps17
          go_wp2
          go_ret
          exact ⟨ret_b (by simp [codeN]; omega), rfl⟩
      · go_enter Try.func17, Try.ntmps17
        go_wp2
        go_ret
        exact ⟨ret_b (by simp [codeN]; omega), rfl⟩
  · go_enter Try.func17, Try.ntmps17
    go_wp2
    go_ret
    exact ⟨ret_b (by simp [codeN]; omega), rfl⟩

theorem get_at (s : ByteArray) (i : Nat) (h : i < s.size) : s.data.toList[i]? = some (s.get! i) := by
  have h' : i < s.data.size := h
  rw [Array.getElem?_toList, Array.getElem?_eq_getElem h']
  simp [ByteArray.get!, getElem!_pos s.data i h']
theorem codeL_false (s : ByteArray) (i : Nat) (h : i < s.size) (hc : codeN (s.get! i).toNat = false) : codeL s.data.toList = false := by
  unfold codeL
  rw [List.all_eq_false]
  exact ⟨s.get! i, List.mem_of_getElem? (get_at s i h), by simp [hc]⟩
theorem take_at (l : List UInt8) (k : Nat) (x : UInt8) (h : l[k]? = some x) : l.take (k + 1) = l.take k ++ [x] := by
  rw [List.take_add_one, h]
  rfl
theorem codeL_next (s : ByteArray) (i : Nat) (h : i < s.size) (h0 : codeL (s.data.toList.take i) = true) (hc : codeN (s.get! i).toNat = true) : codeL (s.data.toList.take (i + 1)) = true := by
  rw [take_at _ _ _ (get_at s i h)]
  unfold codeL at *
  simp [List.all_append, h0, hc]
theorem codeL_all (s : ByteArray) (i : Nat) (h : ¬ i < s.size) (h0 : codeL (s.data.toList.take i) = true) : codeL s.data.toList = true := by
  rwa [List.take_of_length_le (by have : s.data.toList.length = s.size := rfl; omega)] at h0

end Go.Proofs.Qxb6614430a
