/-
  readNumeral reads back what String writes: the plain forms.
-/
import Derived.Test.Qxb6609094aDoorPlainB
import Derived.Test.Qxb6609094aDoorRA
import Derived.Test.Qxb6609094aDoorRB
set_option linter.unusedVariables false
set_option linter.unusedSimpArgs false
set_option linter.unnecessarySimpa false
namespace Go.Proofs.Qxb6609094aDoor
open Go.RowKit

/-- A well-formed list of digits: first and last are not 0. -/
structure Good (D : List UInt8) : Prop where
  dig : ∀ c ∈ D, digB c = true
  head : ∃ c r, D = c :: r ∧ ((c.toNat : Int) == 48) = false
  last : ∃ q c, D = q ++ [c] ∧ ((c.toNat : Int) == 48) = false

theorem Good.ne {D : List UInt8} (h : Good D) : D ≠ [] := by
  obtain ⟨c, r, e, _⟩ := h.head
  rw [e]; simp
theorem Good.len {D : List UInt8} (h : Good D) : 0 < D.length := List.length_pos_iff.2 h.ne
theorem Good.first {D : List UInt8} (h : Good D) : ∃ c, D[0]? = some c ∧ ((c.toNat : Int) == 48) = false := by
  obtain ⟨c, r, e, hc⟩ := h.head
  exact ⟨c, by rw [e]; rfl, hc⟩
theorem Good.final {D : List UInt8} (h : Good D) : ∃ c, D[D.length - 1]? = some c ∧ ((c.toNat : Int) == 48) = false := by
  obtain ⟨q, c, e, hc⟩ := h.last
  exact ⟨c, by rw [e]; simp, hc⟩
theorem dig45 {c : UInt8} (h : digB c = true) : ((c.toNat : Int) == 45) = false := by
  simp only [digB, Bool.and_eq_true, decide_eq_true_eq] at h
  simp only [beq_eq_false_iff_ne]
  omega
theorem dig48 : digB 48 = true := by decide
theorem mem_at {B : List UInt8} {k : Nat} {c : UInt8} (h : B[k]? = some c) : c ∈ B := List.mem_of_getElem? h
theorem rep_at {t k : Nat} {c : UInt8} (h : (List.replicate t (48 : UInt8))[k]? = some c) : c = 48 := List.eq_of_mem_replicate (mem_at h)

theorem rdA_neg (s d : ByteArray) (D : List UInt8) (t : Nat) (hg : Good D) (hd : d.data.toList = D) (hs : s.data.toList = [45] ++ (D ++ List.replicate t 48)) (hz : s.size ≤ 3000000) (w : World) :
    Calls Tryd.prog 10 #[.string s] w fun e w' => e = .returned (.tuple #[.bool true, .bool true, .string d, .int .i64 ((D.length : Int) + t), .bool false]) ∧ Below w.heap.size w w' := by
  have hlen := hg.len
  have hsz : s.size = 1 + (D.length + t) := by rw [size_l hs]; simp only [List.length_append, List.length_cons, List.length_nil, List.length_replicate] <;> omega
  have hsz0 : 0 < s.size := by omega
  have hB : ∀ c ∈ D ++ List.replicate t 48, digB c = true := by
    intro c hc
    rw [List.mem_append] at hc
    rcases hc with hc | hc
    · exact hg.dig c hc
    · rw [List.eq_of_mem_replicate hc]; exact dig48
  have hwl : (s.extract 1 s.size).data.toList = D ++ List.replicate t 48 := ext_l (A := [45]) (C := []) (by rw [hs]; simp) 1 s.size rfl (by rw [hsz]; simp only [List.length_append, List.length_cons, List.length_nil, List.length_replicate] <;> omega)
  have hws : (s.extract 1 s.size).size = D.length + t := by rw [size_l hwl]; simp
  have hal : (s.extract 1 s.size ++ ⟨#[]⟩).data.toList = D ++ List.replicate t 48 := by rw [app_l, hwl]; simp
  have has : (s.extract 1 s.size ++ ⟨#[]⟩).size = D.length + t := by rw [size_l hal]; simp
  have key := readA_neg s (s.extract 1 s.size) (s.extract 1 s.size ++ ⟨#[]⟩) d 0 D.length hz hsz0 (by rw [at_l hs 0 hsz0 (c := 45) rfl]; decide) (by omega)
    (fun k h hk => by
      have hm := mem_l hs k h
      rw [List.getElem?_append_right (by simpa using hk)] at hm
      exact hB _ (mem_at hm))
    rfl (isE hwl (by simp [hg.ne])) (show _ = _ by rw [hws, hsz]; omega) (by omega)
    (fun h => by
      obtain ⟨c, hc, hne⟩ := hg.first
      rw [at_l hwl 0 (by omega) (c := c) (by rw [List.getElem?_append_left (by omega)]; exact hc)]
      exact hne)
    rfl (show _ = _ by rw [has, hws]) hlen (by omega) (fun k h hk => by omega)
    (by
      obtain ⟨c, hc, hne⟩ := hg.first
      rw [at_l hal 0 (by omega) (c := c) (by rw [List.getElem?_append_left (by omega)]; exact hc)]
      exact hne)
    (fun k h hk => by
      have hm := mem_l hal k h
      rw [List.getElem?_append_right hk] at hm
      rw [rep_at hm]; decide)
    (by
      obtain ⟨c, hc, hne⟩ := hg.final
      rw [at_l hal (D.length - 1) (by omega) (c := c) (by rw [List.getElem?_append_left (by omega)]; exact hc)]
      exact hne)
    (ba_ext (by rw [ext_l (A := []) (B := D) (C := List.replicate t 48) (by rw [hal]; simp) 0 D.length rfl (by simp), hd])) w
  rw [hws] at key
  simpa using key

theorem rdB_neg (s d : ByteArray) (D W F : List UInt8) (z : Nat) (hg : Good D) (hd : d.data.toList = D) (hs : s.data.toList = [45] ++ (W ++ 46 :: F)) (hz : s.size ≤ 3000000) (hWn : W ≠ []) (hWd : ∀ c ∈ W, digB c = true) (hW1 : 1 < W.length → ∃ c, W[0]? = some c ∧ ((c.toNat : Int) == 48) = false)
    (hFn : F ≠ []) (hFd : ∀ c ∈ F, digB c = true) (hFl : ∃ c, F[F.length - 1]? = some c ∧ ((c.toNat : Int) == 48) = false) (hWF : W ++ F = List.replicate z 48 ++ D) (w : World) :
    Calls Tryd.prog 10 #[.string s] w fun e w' => e = .returned (.tuple #[.bool true, .bool true, .string d, .int .i64 ((W.length : Int) - z), .bool false]) ∧ Below w.heap.size w w' := by
  have hlen := hg.len
  have hWl : 0 < W.length := List.length_pos_iff.2 hWn
  have hFl0 : 0 < F.length := List.length_pos_iff.2 hFn
  have hsz : s.size = 1 + (W.length + (F.length + 1)) := by rw [size_l hs]; simp only [List.length_append, List.length_cons, List.length_nil, List.length_replicate] <;> omega
  have hsz0 : 0 < s.size := by omega
  have hs1 : s.data.toList = [45] ++ W ++ (46 :: F) := by rw [hs]; simp
  have hs2 : s.data.toList = ([45] ++ W ++ [46]) ++ F ++ [] := by rw [hs]; simp
  have hwl : (s.extract 1 (1 + W.length)).data.toList = W := ext_l hs1 _ _ rfl rfl
  have hws : (s.extract 1 (1 + W.length)).size = W.length := size_l hwl
  have hfl : (s.extract (1 + W.length + 1) s.size).data.toList = F := ext_l hs2 _ _ (by simp only [List.length_append, List.length_cons, List.length_nil, List.length_replicate] <;> omega) (by rw [hsz]; simp only [List.length_append, List.length_cons, List.length_nil, List.length_replicate] <;> omega)
  have hfs : (s.extract (1 + W.length + 1) s.size).size = F.length := size_l hfl
  have hal : (s.extract 1 (1 + W.length) ++ s.extract (1 + W.length + 1) s.size).data.toList = List.replicate z 48 ++ D := by rw [app_l, hwl, hfl, hWF]
  have has : (s.extract 1 (1 + W.length) ++ s.extract (1 + W.length + 1) s.size).size = z + D.length := by rw [size_l hal]; simp
  have hsum : W.length + F.length = z + D.length := by have := congrArg List.length hWF; simpa using this
  have hpt : s[1 + W.length] = 46 := at_l hs1 _ (by omega) (by rw [List.getElem?_append_right (by simp only [List.length_append, List.length_cons, List.length_nil, List.length_replicate] <;> omega), show 1 + W.length - (([45] : List UInt8) ++ W).length = 0 by simp only [List.length_append, List.length_cons, List.length_nil, List.length_replicate] <;> omega]; rfl)
  have key := readB_neg s (s.extract 1 (1 + W.length)) (s.extract (1 + W.length + 1) s.size) (s.extract 1 (1 + W.length) ++ s.extract (1 + W.length + 1) s.size) d (1 + W.length) z (z + D.length) hz hsz0 (by rw [at_l hs 0 hsz0 (c := 45) rfl]; decide) (by omega) (by omega)
    (fun k h hk hk2 => by
      have hm := mem_l hs k h
      rw [List.getElem?_append_right (by simpa using hk), List.getElem?_append_left (by simp only [List.length_append, List.length_cons, List.length_nil, List.length_replicate] <;> omega)] at hm
      exact hWd _ (mem_at hm))
    (show _ = _ by rw [hpt]; decide) (by rw [hpt]; decide)
    (fun k h hk => by
      have hm := mem_l hs2 k h
      rw [List.append_nil, List.getElem?_append_right (by simp only [List.length_append, List.length_cons, List.length_nil, List.length_replicate] <;> omega)] at hm
      exact hFd _ (mem_at hm))
    rfl (isE hwl hWn) (show _ = _ by rw [hws]; omega) (by omega)
    (fun h => by
      obtain ⟨c, hc, hne⟩ := hW1 (by omega)
      rw [at_l hwl 0 (by omega) (c := c) hc]
      exact hne)
    rfl (isE hfl hFn) (show _ = _ by rw [hfs, hsz]; omega) (by omega)
    (by
      obtain ⟨c, hc, hne⟩ := hFl
      rw [at_l hfl ((s.extract (1 + W.length + 1) s.size).size - 1) (by omega) (c := c) (by rw [hfs]; exact hc)]
      exact hne)
    rfl (show _ = _ by rw [has, hws, hfs]; omega) (by omega) (by omega)
    (fun k h hk => by
      have hm := mem_l hal k h
      rw [List.getElem?_append_left (by simpa using hk)] at hm
      rw [rep_at hm]; decide)
    (by
      obtain ⟨c, hc, hne⟩ := hg.first
      rw [at_l hal z (by omega) (c := c) (by rw [List.getElem?_append_right (by simp)]; simpa using hc)]
      exact hne)
    (fun k h hk => by omega)
    (by
      obtain ⟨c, hc, hne⟩ := hg.final
      rw [at_l hal (z + D.length - 1) (by omega) (c := c) (by
        rw [List.getElem?_append_right (by simp only [List.length_append, List.length_cons, List.length_nil, List.length_replicate] <;> omega)]
        simp only [List.length_replicate]
        rw [show z + D.length - 1 - z = D.length - 1 by omega]
        exact hc)]
      exact hne)
    (ba_ext (by rw [ext_l (A := List.replicate z 48) (B := D) (C := []) (by rw [hal]; simp) z (z + D.length) (by simp) (by simp), hd])) w
  rw [hws] at key
  exact key

theorem rdA_pos (s d : ByteArray) (D : List UInt8) (t : Nat) (hg : Good D) (hd : d.data.toList = D) (hs : s.data.toList = [] ++ (D ++ List.replicate t 48)) (hz : s.size ≤ 3000000) (w : World) :
    Calls Tryd.prog 10 #[.string s] w fun e w' => e = .returned (.tuple #[.bool true, .bool false, .string d, .int .i64 ((D.length : Int) + t), .bool false]) ∧ Below w.heap.size w w' := by
  have hlen := hg.len
  have hsz : s.size = 0 + (D.length + t) := by rw [size_l hs]; simp only [List.length_append, List.length_cons, List.length_nil, List.length_replicate] <;> omega
  have hsz0 : 0 < s.size := by omega
  have hB : ∀ c ∈ D ++ List.replicate t 48, digB c = true := by
    intro c hc
    rw [List.mem_append] at hc
    rcases hc with hc | hc
    · exact hg.dig c hc
    · rw [List.eq_of_mem_replicate hc]; exact dig48
  have hwl : (s.extract 0 s.size).data.toList = D ++ List.replicate t 48 := ext_l (A := []) (C := []) (by rw [hs]; simp) 0 s.size rfl (by rw [hsz]; simp only [List.length_append, List.length_cons, List.length_nil, List.length_replicate] <;> omega)
  have hws : (s.extract 0 s.size).size = D.length + t := by rw [size_l hwl]; simp
  have hal : (s.extract 0 s.size ++ ⟨#[]⟩).data.toList = D ++ List.replicate t 48 := by rw [app_l, hwl]; simp
  have has : (s.extract 0 s.size ++ ⟨#[]⟩).size = D.length + t := by rw [size_l hal]; simp
  have key := readA_pos s (s.extract 0 s.size) (s.extract 0 s.size ++ ⟨#[]⟩) d 0 D.length hz hsz0 (by
      obtain ⟨c, hc, _⟩ := (show ∃ c, (D ++ List.replicate t 48)[0]? = some c ∧ True from by obtain ⟨c, hc, _⟩ := hg.first; exact ⟨c, by rw [List.getElem?_append_left (by omega)]; exact hc, trivial⟩)
      rw [at_l hs 0 hsz0 (c := c) hc]
      exact dig45 (hB c (mem_at hc))) (by omega)
    (fun k h hk => by
      have hm := mem_l hs k h
      rw [List.getElem?_append_right (by simpa using hk)] at hm
      exact hB _ (mem_at hm))
    rfl (isE hwl (by simp [hg.ne])) (show _ = _ by rw [hws, hsz]; omega) (by omega)
    (fun h => by
      obtain ⟨c, hc, hne⟩ := hg.first
      rw [at_l hwl 0 (by omega) (c := c) (by rw [List.getElem?_append_left (by omega)]; exact hc)]
      exact hne)
    rfl (show _ = _ by rw [has, hws]) hlen (by omega) (fun k h hk => by omega)
    (by
      obtain ⟨c, hc, hne⟩ := hg.first
      rw [at_l hal 0 (by omega) (c := c) (by rw [List.getElem?_append_left (by omega)]; exact hc)]
      exact hne)
    (fun k h hk => by
      have hm := mem_l hal k h
      rw [List.getElem?_append_right hk] at hm
      rw [rep_at hm]; decide)
    (by
      obtain ⟨c, hc, hne⟩ := hg.final
      rw [at_l hal (D.length - 1) (by omega) (c := c) (by rw [List.getElem?_append_left (by omega)]; exact hc)]
      exact hne)
    (ba_ext (by rw [ext_l (A := []) (B := D) (C := List.replicate t 48) (by rw [hal]; simp) 0 D.length rfl (by simp), hd])) w
  rw [hws] at key
  simpa using key

theorem rdB_pos (s d : ByteArray) (D W F : List UInt8) (z : Nat) (hg : Good D) (hd : d.data.toList = D) (hs : s.data.toList = [] ++ (W ++ 46 :: F)) (hz : s.size ≤ 3000000) (hWn : W ≠ []) (hWd : ∀ c ∈ W, digB c = true) (hW1 : 1 < W.length → ∃ c, W[0]? = some c ∧ ((c.toNat : Int) == 48) = false)
    (hFn : F ≠ []) (hFd : ∀ c ∈ F, digB c = true) (hFl : ∃ c, F[F.length - 1]? = some c ∧ ((c.toNat : Int) == 48) = false) (hWF : W ++ F = List.replicate z 48 ++ D) (w : World) :
    Calls Tryd.prog 10 #[.string s] w fun e w' => e = .returned (.tuple #[.bool true, .bool false, .string d, .int .i64 ((W.length : Int) - z), .bool false]) ∧ Below w.heap.size w w' := by
  have hlen := hg.len
  have hWl : 0 < W.length := List.length_pos_iff.2 hWn
  have hFl0 : 0 < F.length := List.length_pos_iff.2 hFn
  have hsz : s.size = 0 + (W.length + (F.length + 1)) := by rw [size_l hs]; simp only [List.length_append, List.length_cons, List.length_nil, List.length_replicate] <;> omega
  have hsz0 : 0 < s.size := by omega
  have hs1 : s.data.toList = [] ++ W ++ (46 :: F) := by rw [hs]; simp
  have hs2 : s.data.toList = ([] ++ W ++ [46]) ++ F ++ [] := by rw [hs]; simp
  have hwl : (s.extract 0 (0 + W.length)).data.toList = W := ext_l hs1 _ _ rfl rfl
  have hws : (s.extract 0 (0 + W.length)).size = W.length := size_l hwl
  have hfl : (s.extract (0 + W.length + 1) s.size).data.toList = F := ext_l hs2 _ _ (by simp only [List.length_append, List.length_cons, List.length_nil, List.length_replicate] <;> omega) (by rw [hsz]; simp only [List.length_append, List.length_cons, List.length_nil, List.length_replicate] <;> omega)
  have hfs : (s.extract (0 + W.length + 1) s.size).size = F.length := size_l hfl
  have hal : (s.extract 0 (0 + W.length) ++ s.extract (0 + W.length + 1) s.size).data.toList = List.replicate z 48 ++ D := by rw [app_l, hwl, hfl, hWF]
  have has : (s.extract 0 (0 + W.length) ++ s.extract (0 + W.length + 1) s.size).size = z + D.length := by rw [size_l hal]; simp
  have hsum : W.length + F.length = z + D.length := by have := congrArg List.length hWF; simpa using this
  have hpt : s[0 + W.length] = 46 := at_l hs1 _ (by omega) (by rw [List.getElem?_append_right (by simp only [List.length_append, List.length_cons, List.length_nil, List.length_replicate] <;> omega), show 0 + W.length - (([] : List UInt8) ++ W).length = 0 by simp only [List.length_append, List.length_cons, List.length_nil, List.length_replicate] <;> omega]; rfl)
  have key := readB_pos s (s.extract 0 (0 + W.length)) (s.extract (0 + W.length + 1) s.size) (s.extract 0 (0 + W.length) ++ s.extract (0 + W.length + 1) s.size) d (0 + W.length) z (z + D.length) hz hsz0 (by
      obtain ⟨c, hc, hcW⟩ := (show ∃ c, (W ++ 46 :: F)[0]? = some c ∧ c ∈ W from by obtain ⟨a, b, rfl⟩ := List.exists_cons_of_ne_nil hWn; exact ⟨a, rfl, by simp⟩)
      rw [at_l hs 0 hsz0 (c := c) hc]
      exact dig45 (hWd c hcW)) (by omega) (by omega)
    (fun k h hk hk2 => by
      have hm := mem_l hs k h
      rw [List.getElem?_append_right (by simpa using hk), List.getElem?_append_left (by simp only [List.length_append, List.length_cons, List.length_nil, List.length_replicate] <;> omega)] at hm
      exact hWd _ (mem_at hm))
    (show _ = _ by rw [hpt]; decide) (by rw [hpt]; decide)
    (fun k h hk => by
      have hm := mem_l hs2 k h
      rw [List.append_nil, List.getElem?_append_right (by simp only [List.length_append, List.length_cons, List.length_nil, List.length_replicate] <;> omega)] at hm
      exact hFd _ (mem_at hm))
    rfl (isE hwl hWn) (show _ = _ by rw [hws]; omega) (by omega)
    (fun h => by
      obtain ⟨c, hc, hne⟩ := hW1 (by omega)
      rw [at_l hwl 0 (by omega) (c := c) hc]
      exact hne)
    rfl (isE hfl hFn) (show _ = _ by rw [hfs, hsz]; omega) (by omega)
    (by
      obtain ⟨c, hc, hne⟩ := hFl
      rw [at_l hfl ((s.extract (0 + W.length + 1) s.size).size - 1) (by omega) (c := c) (by rw [hfs]; exact hc)]
      exact hne)
    rfl (show _ = _ by rw [has, hws, hfs]; omega) (by omega) (by omega)
    (fun k h hk => by
      have hm := mem_l hal k h
      rw [List.getElem?_append_left (by simpa using hk)] at hm
      rw [rep_at hm]; decide)
    (by
      obtain ⟨c, hc, hne⟩ := hg.first
      rw [at_l hal z (by omega) (c := c) (by rw [List.getElem?_append_right (by simp)]; simpa using hc)]
      exact hne)
    (fun k h hk => by omega)
    (by
      obtain ⟨c, hc, hne⟩ := hg.final
      rw [at_l hal (z + D.length - 1) (by omega) (c := c) (by
        rw [List.getElem?_append_right (by simp only [List.length_append, List.length_cons, List.length_nil, List.length_replicate] <;> omega)]
        simp only [List.length_replicate]
        rw [show z + D.length - 1 - z = D.length - 1 by omega]
        exact hc)]
      exact hne)
    (ba_ext (by rw [ext_l (A := List.replicate z 48) (B := D) (C := []) (by rw [hal]; simp) z (z + D.length) (by simp) (by simp), hd])) w
  rw [hws] at key
  exact key

end Go.Proofs.Qxb6609094aDoor
