/-
  readNumeral reads back what String writes: the forms with an exponent.
-/
import Derived.Test.Qxb6609094aDoorSA
import Derived.Test.Qxb6609094aDoorRE
import Derived.Test.Qxb6609094aDoorRF
set_option linter.unusedVariables false
set_option linter.unusedSimpArgs false
set_option linter.unnecessarySimpa false
namespace Go.Proofs.Qxb6609094aDoor
open Go.RowKit

theorem dig_bounds {c : UInt8} (h : digB c = true) : 48 ≤ (c.toNat : Int) ∧ (c.toNat : Int) ≤ 57 := by
  simp only [digB, Bool.and_eq_true, decide_eq_true_eq] at h
  omega
theorem val_step (E : List UInt8) (k : Nat) (c : UInt8) (h : E[k]? = some c) : valL (E.take (k + 1)) = valL (E.take k) * 10 + ((c.toNat : Int) - 48) := by
  rw [List.take_add_one, h, ← valL_snoc]
  rfl
theorem val_lt (E : List UInt8) (hE : ∀ c ∈ E, digB c = true) (hl : E.length ≤ 19) (k : Nat) (hk : k < E.length) : 0 ≤ valL (E.take k) ∧ valL (E.take k) ≤ 999999999999999999 := by
  have h := valL_bound k (E.take k) (by rw [List.length_take]; omega) (fun c hc => hE c (List.mem_of_mem_take hc))
  have h2 : (10 : Nat) ^ k ≤ 10 ^ 18 := Nat.pow_le_pow_right (by omega) (by omega)
  have h4 : (10 : Int) ^ k = ((10 ^ k : Nat) : Int) := by rw [Int.natCast_pow]; rfl
  rw [h4] at h
  generalize 10 ^ k = q at h h2
  have h3 : (10 : Nat) ^ 18 = 1000000000000000000 := by decide
  omega

theorem rdE_nwq (s d : ByteArray) (c0 : UInt8) (u : Nat) (hc0 : digB c0 = true) (hc48 : ((c0.toNat : Int) == 48) = false) (hu2 : u ≤ 9223372036854775806) (hd : d.data.toList = [c0]) (hs : s.data.toList = ([45] : List UInt8) ++ [c0] ++ (101 :: 43 :: Lib.decDigits u)) (hz : s.size ≤ 3000000) (w : World) :
    Calls Tryd.prog 10 #[.string s] w fun e w' => e = .returned (.tuple #[.bool true, .bool true, .string d, .int .i64 ((u : Int) + 1), .bool true]) ∧ Below w.heap.size w w' := by
  have hEn := decDigits_ne u
  have hEd := decDigits_digits u
  have hE19 := decDigits_le u (by omega)
  have hEv := valL_decDigits u
  have hEh : 1 < (Lib.decDigits u).length → ∃ c, (Lib.decDigits u)[0]? = some c ∧ ((c.toNat : Int) == 48) = false := fun h => by
    obtain ⟨c, r, e, hc⟩ := decDigits_head u (decDigits_one_lt u h)
    exact ⟨c, by rw [e]; rfl, hc⟩
  generalize Lib.decDigits u = E at hEn hEd hE19 hEv hEh hs
  have hEl : 0 < E.length := List.length_pos_iff.2 hEn
  have hsz : s.size = (1 + 1) + (E.length + 2) := by rw [size_l hs]; simp only [List.length_append, List.length_cons, List.length_nil, List.length_replicate] <;> omega
  have hsz0 : 0 < s.size := by omega
  have hsA : s.data.toList = ([45] : List UInt8) ++ [c0] ++ (101 :: 43 :: E) := hs
  have hsB : s.data.toList = (([45] : List UInt8) ++ [c0]) ++ (101 :: 43 :: E) := hs
  have hsC : s.data.toList = (([45] : List UInt8) ++ [c0] ++ [101, 43]) ++ E ++ [] := by rw [hs]; simp
  have hwl : (s.extract 1 (1 + 1)).data.toList = [c0] := ext_l hsA _ _ rfl rfl
  have hws : (s.extract 1 (1 + 1)).size = 1 := size_l hwl
  have hel : (s.extract ((1 + 1) + 2) s.size).data.toList = E := ext_l hsC _ _ (by simp only [List.length_append, List.length_cons, List.length_nil, List.length_replicate] <;> omega) (by rw [hsz]; simp only [List.length_append, List.length_cons, List.length_nil, List.length_replicate] <;> omega)
  have hes : (s.extract ((1 + 1) + 2) s.size).size = E.length := size_l hel
  have hpe : s[(1 + 1)] = 101 := at_l hsB _ (by omega) (by rw [List.getElem?_append_right (by simp only [List.length_append, List.length_cons, List.length_nil, List.length_replicate] <;> omega), show (1 + 1) - (([45] : List UInt8) ++ [c0]).length = 0 by simp only [List.length_append, List.length_cons, List.length_nil, List.length_replicate] <;> omega]; rfl)
  have hsgn : s[(1 + 1) + 1] = 43 := at_l hsB _ (by omega) (by rw [List.getElem?_append_right (by simp only [List.length_append, List.length_cons, List.length_nil, List.length_replicate] <;> omega), show (1 + 1) + 1 - (([45] : List UInt8) ++ [c0]).length = 1 by simp only [List.length_append, List.length_cons, List.length_nil, List.length_replicate] <;> omega]; rfl)
  exact readE_nwq s (s.extract 1 (1 + 1)) (s.extract ((1 + 1) + 2) s.size) d (1 + 1) (u : Int) _ (fun k => valL (E.take k)) hz hsz0 (by rw [at_l hs 0 hsz0 (c := 45) rfl]; decide) (by omega) (by omega)
    (fun k h hk hk2 => by
      have hm := mem_l hsA k h
      rw [List.append_assoc, List.getElem?_append_right (by simpa using hk), List.getElem?_append_left (by simp only [List.length_append, List.length_cons, List.length_nil, List.length_replicate] <;> omega)] at hm
      have := mem_at hm
      simp only [List.mem_singleton] at this
      rw [show s[k] = c0 from this]
      exact hc0)
    (by rw [hpe]; decide) rfl (isE hwl (by simp)) hws (by omega) (by rw [at_l hwl 0 (by omega) (c := c0) rfl]; exact hc48)
    (by rw [hsgn]; decide)
    (fun k h hk => by
      have hm := mem_l hsC k h
      rw [List.append_nil, List.getElem?_append_right (by simp only [List.length_append, List.length_cons, List.length_nil, List.length_replicate] <;> omega)] at hm
      exact hEd _ (mem_at hm))
    rfl (isE hel hEn) (by omega) (by omega)
    (fun h => by
      obtain ⟨c, hc, hne⟩ := hEh (by omega)
      rw [at_l hel 0 (by omega) (c := c) hc]
      exact hne)
    (fun k h => dig_bounds (hEd _ (mem_at (mem_l hel k h))))
    rfl (fun k h => val_step E k _ (mem_l hel k h)) (fun k hk => val_lt E hEd hE19 k (by omega))
    (show valL (E.take _) = _ by rw [hes, List.take_length]; exact hEv) (by omega) (by omega) rfl
    (ba_ext (by rw [app_l, hwl, hd]; rfl)) w

theorem rdE_nwm (s d : ByteArray) (c0 : UInt8) (u : Nat) (hc0 : digB c0 = true) (hc48 : ((c0.toNat : Int) == 48) = false) (hu1 : 1 ≤ u) (hu2 : u ≤ 9223372036854775808) (hd : d.data.toList = [c0]) (hs : s.data.toList = ([45] : List UInt8) ++ [c0] ++ (101 :: 45 :: Lib.decDigits u)) (hz : s.size ≤ 3000000) (w : World) :
    Calls Tryd.prog 10 #[.string s] w fun e w' => e = .returned (.tuple #[.bool true, .bool true, .string d, .int .i64 (-((u : Int) - 1) - 1 + 1), .bool true]) ∧ Below w.heap.size w w' := by
  have hEn := decDigits_ne u
  have hEd := decDigits_digits u
  have hE19 := decDigits_le u (by omega)
  have hEv := valL_decDigits u
  have hEh : 1 < (Lib.decDigits u).length → ∃ c, (Lib.decDigits u)[0]? = some c ∧ ((c.toNat : Int) == 48) = false := fun h => by
    obtain ⟨c, r, e, hc⟩ := decDigits_head u (decDigits_one_lt u h)
    exact ⟨c, by rw [e]; rfl, hc⟩
  generalize Lib.decDigits u = E at hEn hEd hE19 hEv hEh hs
  have hEl : 0 < E.length := List.length_pos_iff.2 hEn
  have hsz : s.size = (1 + 1) + (E.length + 2) := by rw [size_l hs]; simp only [List.length_append, List.length_cons, List.length_nil, List.length_replicate] <;> omega
  have hsz0 : 0 < s.size := by omega
  have hsA : s.data.toList = ([45] : List UInt8) ++ [c0] ++ (101 :: 45 :: E) := hs
  have hsB : s.data.toList = (([45] : List UInt8) ++ [c0]) ++ (101 :: 45 :: E) := hs
  have hsC : s.data.toList = (([45] : List UInt8) ++ [c0] ++ [101, 45]) ++ E ++ [] := by rw [hs]; simp
  have hwl : (s.extract 1 (1 + 1)).data.toList = [c0] := ext_l hsA _ _ rfl rfl
  have hws : (s.extract 1 (1 + 1)).size = 1 := size_l hwl
  have hel : (s.extract ((1 + 1) + 2) s.size).data.toList = E := ext_l hsC _ _ (by simp only [List.length_append, List.length_cons, List.length_nil, List.length_replicate] <;> omega) (by rw [hsz]; simp only [List.length_append, List.length_cons, List.length_nil, List.length_replicate] <;> omega)
  have hes : (s.extract ((1 + 1) + 2) s.size).size = E.length := size_l hel
  have hpe : s[(1 + 1)] = 101 := at_l hsB _ (by omega) (by rw [List.getElem?_append_right (by simp only [List.length_append, List.length_cons, List.length_nil, List.length_replicate] <;> omega), show (1 + 1) - (([45] : List UInt8) ++ [c0]).length = 0 by simp only [List.length_append, List.length_cons, List.length_nil, List.length_replicate] <;> omega]; rfl)
  have hsgn : s[(1 + 1) + 1] = 45 := at_l hsB _ (by omega) (by rw [List.getElem?_append_right (by simp only [List.length_append, List.length_cons, List.length_nil, List.length_replicate] <;> omega), show (1 + 1) + 1 - (([45] : List UInt8) ++ [c0]).length = 1 by simp only [List.length_append, List.length_cons, List.length_nil, List.length_replicate] <;> omega]; rfl)
  exact readE_nwm s (s.extract 1 (1 + 1)) (s.extract ((1 + 1) + 2) s.size) d (1 + 1) (u : Int) _ (fun k => valL (E.take k)) hz hsz0 (by rw [at_l hs 0 hsz0 (c := 45) rfl]; decide) (by omega) (by omega)
    (fun k h hk hk2 => by
      have hm := mem_l hsA k h
      rw [List.append_assoc, List.getElem?_append_right (by simpa using hk), List.getElem?_append_left (by simp only [List.length_append, List.length_cons, List.length_nil, List.length_replicate] <;> omega)] at hm
      have := mem_at hm
      simp only [List.mem_singleton] at this
      rw [show s[k] = c0 from this]
      exact hc0)
    (by rw [hpe]; decide) rfl (isE hwl (by simp)) hws (by omega) (by rw [at_l hwl 0 (by omega) (c := c0) rfl]; exact hc48)
    (by rw [hsgn]; decide)
    (fun k h hk => by
      have hm := mem_l hsC k h
      rw [List.append_nil, List.getElem?_append_right (by simp only [List.length_append, List.length_cons, List.length_nil, List.length_replicate] <;> omega)] at hm
      exact hEd _ (mem_at hm))
    rfl (isE hel hEn) (by omega) (by omega)
    (fun h => by
      obtain ⟨c, hc, hne⟩ := hEh (by omega)
      rw [at_l hel 0 (by omega) (c := c) hc]
      exact hne)
    (fun k h => dig_bounds (hEd _ (mem_at (mem_l hel k h))))
    rfl (fun k h => val_step E k _ (mem_l hel k h)) (fun k hk => val_lt E hEd hE19 k (by omega))
    (show valL (E.take _) = _ by rw [hes, List.take_length]; exact hEv) (by omega) (by omega) rfl
    (ba_ext (by rw [app_l, hwl, hd]; rfl)) w

theorem rdE_nfq (s d : ByteArray) (c0 : UInt8) (u : Nat) (hc0 : digB c0 = true) (hc48 : ((c0.toNat : Int) == 48) = false) (F : List UInt8) (hFn : F ≠ []) (hFd : ∀ c ∈ F, digB c = true) (hFl : ∃ c, F[F.length - 1]? = some c ∧ ((c.toNat : Int) == 48) = false) (hu2 : u ≤ 9223372036854775806) (hd : d.data.toList = c0 :: F) (hs : s.data.toList = ([45] : List UInt8) ++ [c0] ++ (46 :: (F ++ 101 :: 43 :: Lib.decDigits u))) (hz : s.size ≤ 3000000) (w : World) :
    Calls Tryd.prog 10 #[.string s] w fun e w' => e = .returned (.tuple #[.bool true, .bool true, .string d, .int .i64 ((u : Int) + 1), .bool true]) ∧ Below w.heap.size w w' := by
  have hEn := decDigits_ne u
  have hEd := decDigits_digits u
  have hE19 := decDigits_le u (by omega)
  have hEv := valL_decDigits u
  have hEh : 1 < (Lib.decDigits u).length → ∃ c, (Lib.decDigits u)[0]? = some c ∧ ((c.toNat : Int) == 48) = false := fun h => by
    obtain ⟨c, r, e, hc⟩ := decDigits_head u (decDigits_one_lt u h)
    exact ⟨c, by rw [e]; rfl, hc⟩
  generalize Lib.decDigits u = E at hEn hEd hE19 hEv hEh hs
  have hEl : 0 < E.length := List.length_pos_iff.2 hEn
  have hFl0 : 0 < F.length := List.length_pos_iff.2 hFn
  have hsz : s.size = (1 + 1 + 1 + F.length) + (E.length + 2) := by rw [size_l hs]; simp only [List.length_append, List.length_cons, List.length_nil, List.length_replicate] <;> omega
  have hsz0 : 0 < s.size := by omega
  have hsA : s.data.toList = ([45] : List UInt8) ++ [c0] ++ (46 :: (F ++ 101 :: 43 :: E)) := hs
  have hsB : s.data.toList = (([45] : List UInt8) ++ [c0] ++ 46 :: F) ++ (101 :: 43 :: E) := by rw [hs]; simp
  have hsC : s.data.toList = (([45] : List UInt8) ++ [c0] ++ 46 :: F ++ [101, 43]) ++ E ++ [] := by rw [hs]; simp
  have hwl : (s.extract 1 (1 + 1)).data.toList = [c0] := ext_l hsA _ _ rfl rfl
  have hws : (s.extract 1 (1 + 1)).size = 1 := size_l hwl
  have hel : (s.extract ((1 + 1 + 1 + F.length) + 2) s.size).data.toList = E := ext_l hsC _ _ (by simp only [List.length_append, List.length_cons, List.length_nil, List.length_replicate] <;> omega) (by rw [hsz]; simp only [List.length_append, List.length_cons, List.length_nil, List.length_replicate] <;> omega)
  have hes : (s.extract ((1 + 1 + 1 + F.length) + 2) s.size).size = E.length := size_l hel
  have hpe : s[(1 + 1 + 1 + F.length)] = 101 := at_l hsB _ (by omega) (by rw [List.getElem?_append_right (by simp only [List.length_append, List.length_cons, List.length_nil, List.length_replicate] <;> omega), show (1 + 1 + 1 + F.length) - (([45] : List UInt8) ++ [c0] ++ 46 :: F).length = 0 by simp only [List.length_append, List.length_cons, List.length_nil, List.length_replicate] <;> omega]; rfl)
  have hsgn : s[(1 + 1 + 1 + F.length) + 1] = 43 := at_l hsB _ (by omega) (by rw [List.getElem?_append_right (by simp only [List.length_append, List.length_cons, List.length_nil, List.length_replicate] <;> omega), show (1 + 1 + 1 + F.length) + 1 - (([45] : List UInt8) ++ [c0] ++ 46 :: F).length = 1 by simp only [List.length_append, List.length_cons, List.length_nil, List.length_replicate] <;> omega]; rfl)
  have hsF : s.data.toList = (([45] : List UInt8) ++ [c0] ++ [46]) ++ F ++ (101 :: 43 :: E) := by rw [hs]; simp
  have hfl : (s.extract ((1 + 1) + 1) (1 + 1 + 1 + F.length)).data.toList = F := ext_l hsF _ _ (by simp only [List.length_append, List.length_cons, List.length_nil, List.length_replicate] <;> omega) (by simp only [List.length_append, List.length_cons, List.length_nil, List.length_replicate] <;> omega)
  have hfs : (s.extract ((1 + 1) + 1) (1 + 1 + 1 + F.length)).size = F.length := size_l hfl
  have hpt : s[(1 + 1)] = 46 := at_l hsA _ (by omega) (by rw [List.getElem?_append_right (by simp only [List.length_append, List.length_cons, List.length_nil, List.length_replicate] <;> omega), show (1 + 1) - (([45] : List UInt8) ++ [c0]).length = 0 by simp only [List.length_append, List.length_cons, List.length_nil, List.length_replicate] <;> omega]; rfl)
  exact readE_nfq s (s.extract 1 (1 + 1)) (s.extract ((1 + 1) + 1) (1 + 1 + 1 + F.length)) (s.extract ((1 + 1 + 1 + F.length) + 2) s.size) d (1 + 1) (1 + 1 + 1 + F.length) (u : Int) _ (fun k => valL (E.take k)) hz hsz0 (by rw [at_l hs 0 hsz0 (c := 45) rfl]; decide) (by omega) (by omega) (by omega)
    (fun k h hk hk2 => by
      have hm := mem_l hsA k h
      rw [List.append_assoc, List.getElem?_append_right (by simpa using hk), List.getElem?_append_left (by simp only [List.length_append, List.length_cons, List.length_nil, List.length_replicate] <;> omega)] at hm
      have := mem_at hm
      simp only [List.mem_singleton] at this
      rw [show s[k] = c0 from this]
      exact hc0)
    (by rw [hpt]; decide) 
    (fun k h hk hk2 => by
      have hm := mem_l hsF k h
      rw [List.append_assoc, List.getElem?_append_right (by simp only [List.length_append, List.length_cons, List.length_nil, List.length_replicate] <;> omega), List.getElem?_append_left (by simp only [List.length_append, List.length_cons, List.length_nil, List.length_replicate] <;> omega)] at hm
      exact hFd _ (mem_at hm))
    (by rw [hpe]; decide) rfl (isE hfl hFn) (show _ = _ by rw [hfs] <;> omega) (by omega)
    (by
      obtain ⟨c, hc, hne⟩ := hFl
      rw [at_l hfl ((s.extract ((1 + 1) + 1) (1 + 1 + 1 + F.length)).size - 1) (by omega) (c := c) (by rw [hfs]; exact hc)]
      exact hne)
    rfl (isE hwl (by simp)) hws (by omega) (by rw [at_l hwl 0 (by omega) (c := c0) rfl]; exact hc48)
    (by rw [hsgn]; decide)
    (fun k h hk => by
      have hm := mem_l hsC k h
      rw [List.append_nil, List.getElem?_append_right (by simp only [List.length_append, List.length_cons, List.length_nil, List.length_replicate] <;> omega)] at hm
      exact hEd _ (mem_at hm))
    rfl (isE hel hEn) (by omega) (by omega)
    (fun h => by
      obtain ⟨c, hc, hne⟩ := hEh (by omega)
      rw [at_l hel 0 (by omega) (c := c) hc]
      exact hne)
    (fun k h => dig_bounds (hEd _ (mem_at (mem_l hel k h))))
    rfl (fun k h => val_step E k _ (mem_l hel k h)) (fun k hk => val_lt E hEd hE19 k (by omega))
    (show valL (E.take _) = _ by rw [hes, List.take_length]; exact hEv) (by omega) (by omega) rfl
    (ba_ext (by rw [app_l, hwl, hfl, hd]; rfl)) w

theorem rdE_nfm (s d : ByteArray) (c0 : UInt8) (u : Nat) (hc0 : digB c0 = true) (hc48 : ((c0.toNat : Int) == 48) = false) (F : List UInt8) (hFn : F ≠ []) (hFd : ∀ c ∈ F, digB c = true) (hFl : ∃ c, F[F.length - 1]? = some c ∧ ((c.toNat : Int) == 48) = false) (hu1 : 1 ≤ u) (hu2 : u ≤ 9223372036854775808) (hd : d.data.toList = c0 :: F) (hs : s.data.toList = ([45] : List UInt8) ++ [c0] ++ (46 :: (F ++ 101 :: 45 :: Lib.decDigits u))) (hz : s.size ≤ 3000000) (w : World) :
    Calls Tryd.prog 10 #[.string s] w fun e w' => e = .returned (.tuple #[.bool true, .bool true, .string d, .int .i64 (-((u : Int) - 1) - 1 + 1), .bool true]) ∧ Below w.heap.size w w' := by
  have hEn := decDigits_ne u
  have hEd := decDigits_digits u
  have hE19 := decDigits_le u (by omega)
  have hEv := valL_decDigits u
  have hEh : 1 < (Lib.decDigits u).length → ∃ c, (Lib.decDigits u)[0]? = some c ∧ ((c.toNat : Int) == 48) = false := fun h => by
    obtain ⟨c, r, e, hc⟩ := decDigits_head u (decDigits_one_lt u h)
    exact ⟨c, by rw [e]; rfl, hc⟩
  generalize Lib.decDigits u = E at hEn hEd hE19 hEv hEh hs
  have hEl : 0 < E.length := List.length_pos_iff.2 hEn
  have hFl0 : 0 < F.length := List.length_pos_iff.2 hFn
  have hsz : s.size = (1 + 1 + 1 + F.length) + (E.length + 2) := by rw [size_l hs]; simp only [List.length_append, List.length_cons, List.length_nil, List.length_replicate] <;> omega
  have hsz0 : 0 < s.size := by omega
  have hsA : s.data.toList = ([45] : List UInt8) ++ [c0] ++ (46 :: (F ++ 101 :: 45 :: E)) := hs
  have hsB : s.data.toList = (([45] : List UInt8) ++ [c0] ++ 46 :: F) ++ (101 :: 45 :: E) := by rw [hs]; simp
  have hsC : s.data.toList = (([45] : List UInt8) ++ [c0] ++ 46 :: F ++ [101, 45]) ++ E ++ [] := by rw [hs]; simp
  have hwl : (s.extract 1 (1 + 1)).data.toList = [c0] := ext_l hsA _ _ rfl rfl
  have hws : (s.extract 1 (1 + 1)).size = 1 := size_l hwl
  have hel : (s.extract ((1 + 1 + 1 + F.length) + 2) s.size).data.toList = E := ext_l hsC _ _ (by simp only [List.length_append, List.length_cons, List.length_nil, List.length_replicate] <;> omega) (by rw [hsz]; simp only [List.length_append, List.length_cons, List.length_nil, List.length_replicate] <;> omega)
  have hes : (s.extract ((1 + 1 + 1 + F.length) + 2) s.size).size = E.length := size_l hel
  have hpe : s[(1 + 1 + 1 + F.length)] = 101 := at_l hsB _ (by omega) (by rw [List.getElem?_append_right (by simp only [List.length_append, List.length_cons, List.length_nil, List.length_replicate] <;> omega), show (1 + 1 + 1 + F.length) - (([45] : List UInt8) ++ [c0] ++ 46 :: F).length = 0 by simp only [List.length_append, List.length_cons, List.length_nil, List.length_replicate] <;> omega]; rfl)
  have hsgn : s[(1 + 1 + 1 + F.length) + 1] = 45 := at_l hsB _ (by omega) (by rw [List.getElem?_append_right (by simp only [List.length_append, List.length_cons, List.length_nil, List.length_replicate] <;> omega), show (1 + 1 + 1 + F.length) + 1 - (([45] : List UInt8) ++ [c0] ++ 46 :: F).length = 1 by simp only [List.length_append, List.length_cons, List.length_nil, List.length_replicate] <;> omega]; rfl)
  have hsF : s.data.toList = (([45] : List UInt8) ++ [c0] ++ [46]) ++ F ++ (101 :: 45 :: E) := by rw [hs]; simp
  have hfl : (s.extract ((1 + 1) + 1) (1 + 1 + 1 + F.length)).data.toList = F := ext_l hsF _ _ (by simp only [List.length_append, List.length_cons, List.length_nil, List.length_replicate] <;> omega) (by simp only [List.length_append, List.length_cons, List.length_nil, List.length_replicate] <;> omega)
  have hfs : (s.extract ((1 + 1) + 1) (1 + 1 + 1 + F.length)).size = F.length := size_l hfl
  have hpt : s[(1 + 1)] = 46 := at_l hsA _ (by omega) (by rw [List.getElem?_append_right (by simp only [List.length_append, List.length_cons, List.length_nil, List.length_replicate] <;> omega), show (1 + 1) - (([45] : List UInt8) ++ [c0]).length = 0 by simp only [List.length_append, List.length_cons, List.length_nil, List.length_replicate] <;> omega]; rfl)
  exact readE_nfm s (s.extract 1 (1 + 1)) (s.extract ((1 + 1) + 1) (1 + 1 + 1 + F.length)) (s.extract ((1 + 1 + 1 + F.length) + 2) s.size) d (1 + 1) (1 + 1 + 1 + F.length) (u : Int) _ (fun k => valL (E.take k)) hz hsz0 (by rw [at_l hs 0 hsz0 (c := 45) rfl]; decide) (by omega) (by omega) (by omega)
    (fun k h hk hk2 => by
      have hm := mem_l hsA k h
      rw [List.append_assoc, List.getElem?_append_right (by simpa using hk), List.getElem?_append_left (by simp only [List.length_append, List.length_cons, List.length_nil, List.length_replicate] <;> omega)] at hm
      have := mem_at hm
      simp only [List.mem_singleton] at this
      rw [show s[k] = c0 from this]
      exact hc0)
    (by rw [hpt]; decide) 
    (fun k h hk hk2 => by
      have hm := mem_l hsF k h
      rw [List.append_assoc, List.getElem?_append_right (by simp only [List.length_append, List.length_cons, List.length_nil, List.length_replicate] <;> omega), List.getElem?_append_left (by simp only [List.length_append, List.length_cons, List.length_nil, List.length_replicate] <;> omega)] at hm
      exact hFd _ (mem_at hm))
    (by rw [hpe]; decide) rfl (isE hfl hFn) (show _ = _ by rw [hfs] <;> omega) (by omega)
    (by
      obtain ⟨c, hc, hne⟩ := hFl
      rw [at_l hfl ((s.extract ((1 + 1) + 1) (1 + 1 + 1 + F.length)).size - 1) (by omega) (c := c) (by rw [hfs]; exact hc)]
      exact hne)
    rfl (isE hwl (by simp)) hws (by omega) (by rw [at_l hwl 0 (by omega) (c := c0) rfl]; exact hc48)
    (by rw [hsgn]; decide)
    (fun k h hk => by
      have hm := mem_l hsC k h
      rw [List.append_nil, List.getElem?_append_right (by simp only [List.length_append, List.length_cons, List.length_nil, List.length_replicate] <;> omega)] at hm
      exact hEd _ (mem_at hm))
    rfl (isE hel hEn) (by omega) (by omega)
    (fun h => by
      obtain ⟨c, hc, hne⟩ := hEh (by omega)
      rw [at_l hel 0 (by omega) (c := c) hc]
      exact hne)
    (fun k h => dig_bounds (hEd _ (mem_at (mem_l hel k h))))
    rfl (fun k h => val_step E k _ (mem_l hel k h)) (fun k hk => val_lt E hEd hE19 k (by omega))
    (show valL (E.take _) = _ by rw [hes, List.take_length]; exact hEv) (by omega) (by omega) rfl
    (ba_ext (by rw [app_l, hwl, hfl, hd]; rfl)) w

theorem rdE_pwq (s d : ByteArray) (c0 : UInt8) (u : Nat) (hc0 : digB c0 = true) (hc48 : ((c0.toNat : Int) == 48) = false) (hu2 : u ≤ 9223372036854775806) (hd : d.data.toList = [c0]) (hs : s.data.toList = ([] : List UInt8) ++ [c0] ++ (101 :: 43 :: Lib.decDigits u)) (hz : s.size ≤ 3000000) (w : World) :
    Calls Tryd.prog 10 #[.string s] w fun e w' => e = .returned (.tuple #[.bool true, .bool false, .string d, .int .i64 ((u : Int) + 1), .bool true]) ∧ Below w.heap.size w w' := by
  have hEn := decDigits_ne u
  have hEd := decDigits_digits u
  have hE19 := decDigits_le u (by omega)
  have hEv := valL_decDigits u
  have hEh : 1 < (Lib.decDigits u).length → ∃ c, (Lib.decDigits u)[0]? = some c ∧ ((c.toNat : Int) == 48) = false := fun h => by
    obtain ⟨c, r, e, hc⟩ := decDigits_head u (decDigits_one_lt u h)
    exact ⟨c, by rw [e]; rfl, hc⟩
  generalize Lib.decDigits u = E at hEn hEd hE19 hEv hEh hs
  have hEl : 0 < E.length := List.length_pos_iff.2 hEn
  have hsz : s.size = (0 + 1) + (E.length + 2) := by rw [size_l hs]; simp only [List.length_append, List.length_cons, List.length_nil, List.length_replicate] <;> omega
  have hsz0 : 0 < s.size := by omega
  have hsA : s.data.toList = ([] : List UInt8) ++ [c0] ++ (101 :: 43 :: E) := hs
  have hsB : s.data.toList = (([] : List UInt8) ++ [c0]) ++ (101 :: 43 :: E) := hs
  have hsC : s.data.toList = (([] : List UInt8) ++ [c0] ++ [101, 43]) ++ E ++ [] := by rw [hs]; simp
  have hwl : (s.extract 0 (0 + 1)).data.toList = [c0] := ext_l hsA _ _ rfl rfl
  have hws : (s.extract 0 (0 + 1)).size = 1 := size_l hwl
  have hel : (s.extract ((0 + 1) + 2) s.size).data.toList = E := ext_l hsC _ _ (by simp only [List.length_append, List.length_cons, List.length_nil, List.length_replicate] <;> omega) (by rw [hsz]; simp only [List.length_append, List.length_cons, List.length_nil, List.length_replicate] <;> omega)
  have hes : (s.extract ((0 + 1) + 2) s.size).size = E.length := size_l hel
  have hpe : s[(0 + 1)] = 101 := at_l hsB _ (by omega) (by rw [List.getElem?_append_right (by simp only [List.length_append, List.length_cons, List.length_nil, List.length_replicate] <;> omega), show (0 + 1) - (([] : List UInt8) ++ [c0]).length = 0 by simp only [List.length_append, List.length_cons, List.length_nil, List.length_replicate] <;> omega]; rfl)
  have hsgn : s[(0 + 1) + 1] = 43 := at_l hsB _ (by omega) (by rw [List.getElem?_append_right (by simp only [List.length_append, List.length_cons, List.length_nil, List.length_replicate] <;> omega), show (0 + 1) + 1 - (([] : List UInt8) ++ [c0]).length = 1 by simp only [List.length_append, List.length_cons, List.length_nil, List.length_replicate] <;> omega]; rfl)
  exact readE_pwq s (s.extract 0 (0 + 1)) (s.extract ((0 + 1) + 2) s.size) d (0 + 1) (u : Int) _ (fun k => valL (E.take k)) hz hsz0 (by rw [at_l hs 0 hsz0 (c := c0) rfl]; exact dig45 hc0) (by omega) (by omega)
    (fun k h hk hk2 => by
      have hm := mem_l hsA k h
      rw [List.append_assoc, List.getElem?_append_right (by simpa using hk), List.getElem?_append_left (by simp only [List.length_append, List.length_cons, List.length_nil, List.length_replicate] <;> omega)] at hm
      have := mem_at hm
      simp only [List.mem_singleton] at this
      rw [show s[k] = c0 from this]
      exact hc0)
    (by rw [hpe]; decide) rfl (isE hwl (by simp)) hws (by omega) (by rw [at_l hwl 0 (by omega) (c := c0) rfl]; exact hc48)
    (by rw [hsgn]; decide)
    (fun k h hk => by
      have hm := mem_l hsC k h
      rw [List.append_nil, List.getElem?_append_right (by simp only [List.length_append, List.length_cons, List.length_nil, List.length_replicate] <;> omega)] at hm
      exact hEd _ (mem_at hm))
    rfl (isE hel hEn) (by omega) (by omega)
    (fun h => by
      obtain ⟨c, hc, hne⟩ := hEh (by omega)
      rw [at_l hel 0 (by omega) (c := c) hc]
      exact hne)
    (fun k h => dig_bounds (hEd _ (mem_at (mem_l hel k h))))
    rfl (fun k h => val_step E k _ (mem_l hel k h)) (fun k hk => val_lt E hEd hE19 k (by omega))
    (show valL (E.take _) = _ by rw [hes, List.take_length]; exact hEv) (by omega) (by omega) rfl
    (ba_ext (by rw [app_l, hwl, hd]; rfl)) w

theorem rdE_pwm (s d : ByteArray) (c0 : UInt8) (u : Nat) (hc0 : digB c0 = true) (hc48 : ((c0.toNat : Int) == 48) = false) (hu1 : 1 ≤ u) (hu2 : u ≤ 9223372036854775808) (hd : d.data.toList = [c0]) (hs : s.data.toList = ([] : List UInt8) ++ [c0] ++ (101 :: 45 :: Lib.decDigits u)) (hz : s.size ≤ 3000000) (w : World) :
    Calls Tryd.prog 10 #[.string s] w fun e w' => e = .returned (.tuple #[.bool true, .bool false, .string d, .int .i64 (-((u : Int) - 1) - 1 + 1), .bool true]) ∧ Below w.heap.size w w' := by
  have hEn := decDigits_ne u
  have hEd := decDigits_digits u
  have hE19 := decDigits_le u (by omega)
  have hEv := valL_decDigits u
  have hEh : 1 < (Lib.decDigits u).length → ∃ c, (Lib.decDigits u)[0]? = some c ∧ ((c.toNat : Int) == 48) = false := fun h => by
    obtain ⟨c, r, e, hc⟩ := decDigits_head u (decDigits_one_lt u h)
    exact ⟨c, by rw [e]; rfl, hc⟩
  generalize Lib.decDigits u = E at hEn hEd hE19 hEv hEh hs
  have hEl : 0 < E.length := List.length_pos_iff.2 hEn
  have hsz : s.size = (0 + 1) + (E.length + 2) := by rw [size_l hs]; simp only [List.length_append, List.length_cons, List.length_nil, List.length_replicate] <;> omega
  have hsz0 : 0 < s.size := by omega
  have hsA : s.data.toList = ([] : List UInt8) ++ [c0] ++ (101 :: 45 :: E) := hs
  have hsB : s.data.toList = (([] : List UInt8) ++ [c0]) ++ (101 :: 45 :: E) := hs
  have hsC : s.data.toList = (([] : List UInt8) ++ [c0] ++ [101, 45]) ++ E ++ [] := by rw [hs]; simp
  have hwl : (s.extract 0 (0 + 1)).data.toList = [c0] := ext_l hsA _ _ rfl rfl
  have hws : (s.extract 0 (0 + 1)).size = 1 := size_l hwl
  have hel : (s.extract ((0 + 1) + 2) s.size).data.toList = E := ext_l hsC _ _ (by simp only [List.length_append, List.length_cons, List.length_nil, List.length_replicate] <;> omega) (by rw [hsz]; simp only [List.length_append, List.length_cons, List.length_nil, List.length_replicate] <;> omega)
  have hes : (s.extract ((0 + 1) + 2) s.size).size = E.length := size_l hel
  have hpe : s[(0 + 1)] = 101 := at_l hsB _ (by omega) (by rw [List.getElem?_append_right (by simp only [List.length_append, List.length_cons, List.length_nil, List.length_replicate] <;> omega), show (0 + 1) - (([] : List UInt8) ++ [c0]).length = 0 by simp only [List.length_append, List.length_cons, List.length_nil, List.length_replicate] <;> omega]; rfl)
  have hsgn : s[(0 + 1) + 1] = 45 := at_l hsB _ (by omega) (by rw [List.getElem?_append_right (by simp only [List.length_append, List.length_cons, List.length_nil, List.length_replicate] <;> omega), show (0 + 1) + 1 - (([] : List UInt8) ++ [c0]).length = 1 by simp only [List.length_append, List.length_cons, List.length_nil, List.length_replicate] <;> omega]; rfl)
  exact readE_pwm s (s.extract 0 (0 + 1)) (s.extract ((0 + 1) + 2) s.size) d (0 + 1) (u : Int) _ (fun k => valL (E.take k)) hz hsz0 (by rw [at_l hs 0 hsz0 (c := c0) rfl]; exact dig45 hc0) (by omega) (by omega)
    (fun k h hk hk2 => by
      have hm := mem_l hsA k h
      rw [List.append_assoc, List.getElem?_append_right (by simpa using hk), List.getElem?_append_left (by simp only [List.length_append, List.length_cons, List.length_nil, List.length_replicate] <;> omega)] at hm
      have := mem_at hm
      simp only [List.mem_singleton] at this
      rw [show s[k] = c0 from this]
      exact hc0)
    (by rw [hpe]; decide) rfl (isE hwl (by simp)) hws (by omega) (by rw [at_l hwl 0 (by omega) (c := c0) rfl]; exact hc48)
    (by rw [hsgn]; decide)
    (fun k h hk => by
      have hm := mem_l hsC k h
      rw [List.append_nil, List.getElem?_append_right (by simp only [List.length_append, List.length_cons, List.length_nil, List.length_replicate] <;> omega)] at hm
      exact hEd _ (mem_at hm))
    rfl (isE hel hEn) (by omega) (by omega)
    (fun h => by
      obtain ⟨c, hc, hne⟩ := hEh (by omega)
      rw [at_l hel 0 (by omega) (c := c) hc]
      exact hne)
    (fun k h => dig_bounds (hEd _ (mem_at (mem_l hel k h))))
    rfl (fun k h => val_step E k _ (mem_l hel k h)) (fun k hk => val_lt E hEd hE19 k (by omega))
    (show valL (E.take _) = _ by rw [hes, List.take_length]; exact hEv) (by omega) (by omega) rfl
    (ba_ext (by rw [app_l, hwl, hd]; rfl)) w

theorem rdE_pfq (s d : ByteArray) (c0 : UInt8) (u : Nat) (hc0 : digB c0 = true) (hc48 : ((c0.toNat : Int) == 48) = false) (F : List UInt8) (hFn : F ≠ []) (hFd : ∀ c ∈ F, digB c = true) (hFl : ∃ c, F[F.length - 1]? = some c ∧ ((c.toNat : Int) == 48) = false) (hu2 : u ≤ 9223372036854775806) (hd : d.data.toList = c0 :: F) (hs : s.data.toList = ([] : List UInt8) ++ [c0] ++ (46 :: (F ++ 101 :: 43 :: Lib.decDigits u))) (hz : s.size ≤ 3000000) (w : World) :
    Calls Tryd.prog 10 #[.string s] w fun e w' => e = .returned (.tuple #[.bool true, .bool false, .string d, .int .i64 ((u : Int) + 1), .bool true]) ∧ Below w.heap.size w w' := by
  have hEn := decDigits_ne u
  have hEd := decDigits_digits u
  have hE19 := decDigits_le u (by omega)
  have hEv := valL_decDigits u
  have hEh : 1 < (Lib.decDigits u).length → ∃ c, (Lib.decDigits u)[0]? = some c ∧ ((c.toNat : Int) == 48) = false := fun h => by
    obtain ⟨c, r, e, hc⟩ := decDigits_head u (decDigits_one_lt u h)
    exact ⟨c, by rw [e]; rfl, hc⟩
  generalize Lib.decDigits u = E at hEn hEd hE19 hEv hEh hs
  have hEl : 0 < E.length := List.length_pos_iff.2 hEn
  have hFl0 : 0 < F.length := List.length_pos_iff.2 hFn
  have hsz : s.size = (0 + 1 + 1 + F.length) + (E.length + 2) := by rw [size_l hs]; simp only [List.length_append, List.length_cons, List.length_nil, List.length_replicate] <;> omega
  have hsz0 : 0 < s.size := by omega
  have hsA : s.data.toList = ([] : List UInt8) ++ [c0] ++ (46 :: (F ++ 101 :: 43 :: E)) := hs
  have hsB : s.data.toList = (([] : List UInt8) ++ [c0] ++ 46 :: F) ++ (101 :: 43 :: E) := by rw [hs]; simp
  have hsC : s.data.toList = (([] : List UInt8) ++ [c0] ++ 46 :: F ++ [101, 43]) ++ E ++ [] := by rw [hs]; simp
  have hwl : (s.extract 0 (0 + 1)).data.toList = [c0] := ext_l hsA _ _ rfl rfl
  have hws : (s.extract 0 (0 + 1)).size = 1 := size_l hwl
  have hel : (s.extract ((0 + 1 + 1 + F.length) + 2) s.size).data.toList = E := ext_l hsC _ _ (by simp only [List.length_append, List.length_cons, List.length_nil, List.length_replicate] <;> omega) (by rw [hsz]; simp only [List.length_append, List.length_cons, List.length_nil, List.length_replicate] <;> omega)
  have hes : (s.extract ((0 + 1 + 1 + F.length) + 2) s.size).size = E.length := size_l hel
  have hpe : s[(0 + 1 + 1 + F.length)] = 101 := at_l hsB _ (by omega) (by rw [List.getElem?_append_right (by simp only [List.length_append, List.length_cons, List.length_nil, List.length_replicate] <;> omega), show (0 + 1 + 1 + F.length) - (([] : List UInt8) ++ [c0] ++ 46 :: F).length = 0 by simp only [List.length_append, List.length_cons, List.length_nil, List.length_replicate] <;> omega]; rfl)
  have hsgn : s[(0 + 1 + 1 + F.length) + 1] = 43 := at_l hsB _ (by omega) (by rw [List.getElem?_append_right (by simp only [List.length_append, List.length_cons, List.length_nil, List.length_replicate] <;> omega), show (0 + 1 + 1 + F.length) + 1 - (([] : List UInt8) ++ [c0] ++ 46 :: F).length = 1 by simp only [List.length_append, List.length_cons, List.length_nil, List.length_replicate] <;> omega]; rfl)
  have hsF : s.data.toList = (([] : List UInt8) ++ [c0] ++ [46]) ++ F ++ (101 :: 43 :: E) := by rw [hs]; simp
  have hfl : (s.extract ((0 + 1) + 1) (0 + 1 + 1 + F.length)).data.toList = F := ext_l hsF _ _ (by simp only [List.length_append, List.length_cons, List.length_nil, List.length_replicate] <;> omega) (by simp only [List.length_append, List.length_cons, List.length_nil, List.length_replicate] <;> omega)
  have hfs : (s.extract ((0 + 1) + 1) (0 + 1 + 1 + F.length)).size = F.length := size_l hfl
  have hpt : s[(0 + 1)] = 46 := at_l hsA _ (by omega) (by rw [List.getElem?_append_right (by simp only [List.length_append, List.length_cons, List.length_nil, List.length_replicate] <;> omega), show (0 + 1) - (([] : List UInt8) ++ [c0]).length = 0 by simp only [List.length_append, List.length_cons, List.length_nil, List.length_replicate] <;> omega]; rfl)
  exact readE_pfq s (s.extract 0 (0 + 1)) (s.extract ((0 + 1) + 1) (0 + 1 + 1 + F.length)) (s.extract ((0 + 1 + 1 + F.length) + 2) s.size) d (0 + 1) (0 + 1 + 1 + F.length) (u : Int) _ (fun k => valL (E.take k)) hz hsz0 (by rw [at_l hs 0 hsz0 (c := c0) rfl]; exact dig45 hc0) (by omega) (by omega) (by omega)
    (fun k h hk hk2 => by
      have hm := mem_l hsA k h
      rw [List.append_assoc, List.getElem?_append_right (by simpa using hk), List.getElem?_append_left (by simp only [List.length_append, List.length_cons, List.length_nil, List.length_replicate] <;> omega)] at hm
      have := mem_at hm
      simp only [List.mem_singleton] at this
      rw [show s[k] = c0 from this]
      exact hc0)
    (by rw [hpt]; decide) 
    (fun k h hk hk2 => by
      have hm := mem_l hsF k h
      rw [List.append_assoc, List.getElem?_append_right (by simp only [List.length_append, List.length_cons, List.length_nil, List.length_replicate] <;> omega), List.getElem?_append_left (by simp only [List.length_append, List.length_cons, List.length_nil, List.length_replicate] <;> omega)] at hm
      exact hFd _ (mem_at hm))
    (by rw [hpe]; decide) rfl (isE hfl hFn) (show _ = _ by rw [hfs] <;> omega) (by omega)
    (by
      obtain ⟨c, hc, hne⟩ := hFl
      rw [at_l hfl ((s.extract ((0 + 1) + 1) (0 + 1 + 1 + F.length)).size - 1) (by omega) (c := c) (by rw [hfs]; exact hc)]
      exact hne)
    rfl (isE hwl (by simp)) hws (by omega) (by rw [at_l hwl 0 (by omega) (c := c0) rfl]; exact hc48)
    (by rw [hsgn]; decide)
    (fun k h hk => by
      have hm := mem_l hsC k h
      rw [List.append_nil, List.getElem?_append_right (by simp only [List.length_append, List.length_cons, List.length_nil, List.length_replicate] <;> omega)] at hm
      exact hEd _ (mem_at hm))
    rfl (isE hel hEn) (by omega) (by omega)
    (fun h => by
      obtain ⟨c, hc, hne⟩ := hEh (by omega)
      rw [at_l hel 0 (by omega) (c := c) hc]
      exact hne)
    (fun k h => dig_bounds (hEd _ (mem_at (mem_l hel k h))))
    rfl (fun k h => val_step E k _ (mem_l hel k h)) (fun k hk => val_lt E hEd hE19 k (by omega))
    (show valL (E.take _) = _ by rw [hes, List.take_length]; exact hEv) (by omega) (by omega) rfl
    (ba_ext (by rw [app_l, hwl, hfl, hd]; rfl)) w

theorem rdE_pfm (s d : ByteArray) (c0 : UInt8) (u : Nat) (hc0 : digB c0 = true) (hc48 : ((c0.toNat : Int) == 48) = false) (F : List UInt8) (hFn : F ≠ []) (hFd : ∀ c ∈ F, digB c = true) (hFl : ∃ c, F[F.length - 1]? = some c ∧ ((c.toNat : Int) == 48) = false) (hu1 : 1 ≤ u) (hu2 : u ≤ 9223372036854775808) (hd : d.data.toList = c0 :: F) (hs : s.data.toList = ([] : List UInt8) ++ [c0] ++ (46 :: (F ++ 101 :: 45 :: Lib.decDigits u))) (hz : s.size ≤ 3000000) (w : World) :
    Calls Tryd.prog 10 #[.string s] w fun e w' => e = .returned (.tuple #[.bool true, .bool false, .string d, .int .i64 (-((u : Int) - 1) - 1 + 1), .bool true]) ∧ Below w.heap.size w w' := by
  have hEn := decDigits_ne u
  have hEd := decDigits_digits u
  have hE19 := decDigits_le u (by omega)
  have hEv := valL_decDigits u
  have hEh : 1 < (Lib.decDigits u).length → ∃ c, (Lib.decDigits u)[0]? = some c ∧ ((c.toNat : Int) == 48) = false := fun h => by
    obtain ⟨c, r, e, hc⟩ := decDigits_head u (decDigits_one_lt u h)
    exact ⟨c, by rw [e]; rfl, hc⟩
  generalize Lib.decDigits u = E at hEn hEd hE19 hEv hEh hs
  have hEl : 0 < E.length := List.length_pos_iff.2 hEn
  have hFl0 : 0 < F.length := List.length_pos_iff.2 hFn
  have hsz : s.size = (0 + 1 + 1 + F.length) + (E.length + 2) := by rw [size_l hs]; simp only [List.length_append, List.length_cons, List.length_nil, List.length_replicate] <;> omega
  have hsz0 : 0 < s.size := by omega
  have hsA : s.data.toList = ([] : List UInt8) ++ [c0] ++ (46 :: (F ++ 101 :: 45 :: E)) := hs
  have hsB : s.data.toList = (([] : List UInt8) ++ [c0] ++ 46 :: F) ++ (101 :: 45 :: E) := by rw [hs]; simp
  have hsC : s.data.toList = (([] : List UInt8) ++ [c0] ++ 46 :: F ++ [101, 45]) ++ E ++ [] := by rw [hs]; simp
  have hwl : (s.extract 0 (0 + 1)).data.toList = [c0] := ext_l hsA _ _ rfl rfl
  have hws : (s.extract 0 (0 + 1)).size = 1 := size_l hwl
  have hel : (s.extract ((0 + 1 + 1 + F.length) + 2) s.size).data.toList = E := ext_l hsC _ _ (by simp only [List.length_append, List.length_cons, List.length_nil, List.length_replicate] <;> omega) (by rw [hsz]; simp only [List.length_append, List.length_cons, List.length_nil, List.length_replicate] <;> omega)
  have hes : (s.extract ((0 + 1 + 1 + F.length) + 2) s.size).size = E.length := size_l hel
  have hpe : s[(0 + 1 + 1 + F.length)] = 101 := at_l hsB _ (by omega) (by rw [List.getElem?_append_right (by simp only [List.length_append, List.length_cons, List.length_nil, List.length_replicate] <;> omega), show (0 + 1 + 1 + F.length) - (([] : List UInt8) ++ [c0] ++ 46 :: F).length = 0 by simp only [List.length_append, List.length_cons, List.length_nil, List.length_replicate] <;> omega]; rfl)
  have hsgn : s[(0 + 1 + 1 + F.length) + 1] = 45 := at_l hsB _ (by omega) (by rw [List.getElem?_append_right (by simp only [List.length_append, List.length_cons, List.length_nil, List.length_replicate] <;> omega), show (0 + 1 + 1 + F.length) + 1 - (([] : List UInt8) ++ [c0] ++ 46 :: F).length = 1 by simp only [List.length_append, List.length_cons, List.length_nil, List.length_replicate] <;> omega]; rfl)
  have hsF : s.data.toList = (([] : List UInt8) ++ [c0] ++ [46]) ++ F ++ (101 :: 45 :: E) := by rw [hs]; simp
  have hfl : (s.extract ((0 + 1) + 1) (0 + 1 + 1 + F.length)).data.toList = F := ext_l hsF _ _ (by simp only [List.length_append, List.length_cons, List.length_nil, List.length_replicate] <;> omega) (by simp only [List.length_append, List.length_cons, List.length_nil, List.length_replicate] <;> omega)
  have hfs : (s.extract ((0 + 1) + 1) (0 + 1 + 1 + F.length)).size = F.length := size_l hfl
  have hpt : s[(0 + 1)] = 46 := at_l hsA _ (by omega) (by rw [List.getElem?_append_right (by simp only [List.length_append, List.length_cons, List.length_nil, List.length_replicate] <;> omega), show (0 + 1) - (([] : List UInt8) ++ [c0]).length = 0 by simp only [List.length_append, List.length_cons, List.length_nil, List.length_replicate] <;> omega]; rfl)
  exact readE_pfm s (s.extract 0 (0 + 1)) (s.extract ((0 + 1) + 1) (0 + 1 + 1 + F.length)) (s.extract ((0 + 1 + 1 + F.length) + 2) s.size) d (0 + 1) (0 + 1 + 1 + F.length) (u : Int) _ (fun k => valL (E.take k)) hz hsz0 (by rw [at_l hs 0 hsz0 (c := c0) rfl]; exact dig45 hc0) (by omega) (by omega) (by omega)
    (fun k h hk hk2 => by
      have hm := mem_l hsA k h
      rw [List.append_assoc, List.getElem?_append_right (by simpa using hk), List.getElem?_append_left (by simp only [List.length_append, List.length_cons, List.length_nil, List.length_replicate] <;> omega)] at hm
      have := mem_at hm
      simp only [List.mem_singleton] at this
      rw [show s[k] = c0 from this]
      exact hc0)
    (by rw [hpt]; decide) 
    (fun k h hk hk2 => by
      have hm := mem_l hsF k h
      rw [List.append_assoc, List.getElem?_append_right (by simp only [List.length_append, List.length_cons, List.length_nil, List.length_replicate] <;> omega), List.getElem?_append_left (by simp only [List.length_append, List.length_cons, List.length_nil, List.length_replicate] <;> omega)] at hm
      exact hFd _ (mem_at hm))
    (by rw [hpe]; decide) rfl (isE hfl hFn) (show _ = _ by rw [hfs] <;> omega) (by omega)
    (by
      obtain ⟨c, hc, hne⟩ := hFl
      rw [at_l hfl ((s.extract ((0 + 1) + 1) (0 + 1 + 1 + F.length)).size - 1) (by omega) (c := c) (by rw [hfs]; exact hc)]
      exact hne)
    rfl (isE hwl (by simp)) hws (by omega) (by rw [at_l hwl 0 (by omega) (c := c0) rfl]; exact hc48)
    (by rw [hsgn]; decide)
    (fun k h hk => by
      have hm := mem_l hsC k h
      rw [List.append_nil, List.getElem?_append_right (by simp only [List.length_append, List.length_cons, List.length_nil, List.length_replicate] <;> omega)] at hm
      exact hEd _ (mem_at hm))
    rfl (isE hel hEn) (by omega) (by omega)
    (fun h => by
      obtain ⟨c, hc, hne⟩ := hEh (by omega)
      rw [at_l hel 0 (by omega) (c := c) hc]
      exact hne)
    (fun k h => dig_bounds (hEd _ (mem_at (mem_l hel k h))))
    rfl (fun k h => val_step E k _ (mem_l hel k h)) (fun k hk => val_lt E hEd hE19 k (by omega))
    (show valL (E.take _) = _ by rw [hes, List.take_length]; exact hEv) (by omega) (by omega) rfl
    (ba_ext (by rw [app_l, hwl, hfl, hd]; rfl)) w

end Go.Proofs.Qxb6609094aDoor
