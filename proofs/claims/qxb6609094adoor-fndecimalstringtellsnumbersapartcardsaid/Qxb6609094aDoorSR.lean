/-
  readNumeral reads back what String writes: all forms together.
-/
import Derived.Test.Qxb6609094aDoorSE
import Derived.Test.Qxb6609094aDoorRZ
set_option linter.unusedVariables false
set_option linter.unusedSimpArgs false
namespace Go.Proofs.Qxb6609094aDoor
open Go.RowKit

theorem good_of {neg : Bool} {D : List UInt8} {n : Int} (h : wfB neg D n = true) (hne : D ≠ []) : Good D := by
  unfold wfB at h
  obtain ⟨c, r, e⟩ := List.exists_cons_of_ne_nil hne
  have hemp : D.isEmpty = false := by rw [e]; rfl
  rw [hemp] at h
  simp only [Bool.and_eq_true, List.all_eq_true, Bool.false_eq_true, if_false] at h
  obtain ⟨h1, h2, h3⟩ := h
  refine ⟨h1, ⟨c, r, e, ?_⟩, ⟨D.dropLast, D.getLast hne, (List.dropLast_concat_getLast hne).symm, ?_⟩⟩
  · rw [e] at h2
    simpa [ne48] using h2
  · rw [List.getLast?_eq_some_getLast hne] at h3
    simpa [ne48] using h3
theorem zero_of {neg : Bool} {D : List UInt8} {n : Int} (h : wfB neg D n = true) (he : D = []) : neg = false ∧ n = 0 := by
  subst he
  unfold wfB at h
  simpa using h

/-- Whether the text bears an exponent. -/
def expoB (n : Int) : Bool := !(decide (-6 < n) && decide (n ≤ 21))

theorem itoa_pos (n : Int) (h : 0 ≤ n) : Lib.itoa n = Lib.decDigits n.toNat := by
  unfold Lib.itoa
  rw [if_neg (by omega)]
theorem itoa_neg (n : Int) (h : n < 0) : Lib.itoa n = 45 :: Lib.decDigits n.natAbs := by
  unfold Lib.itoa
  rw [if_pos h]

theorem body_len (D : List UInt8) (n : Int) (hD : D.length ≤ 1048576) (hn0 : -9223372036854775808 < n) (hn1 : n ≤ 9223372036854775807) : (body D n).length ≤ 1048700 := by
  unfold body
  split
  · rename_i h; simp only [List.length_append, List.length_replicate]; omega
  · split
    · simp only [List.length_append, List.length_cons, List.length_take, List.length_drop]; omega
    · split
      · rename_i h; simp only [List.length_append, List.length_replicate, List.length_cons, List.length_nil]; omega
      · have hi := itoa_le (n - 1) (by omega) (by omega)
        have h2 : (if 1 < D.length then 46 :: D.drop 1 else []).length ≤ 1048577 := by split <;> simp <;> omega
        have h3 : (if 0 ≤ n - 1 then [43] else ([] : List UInt8)).length ≤ 1 := by split <;> simp
        simp only [List.length_append, List.length_cons, List.length_take]
        omega

theorem read_back (neg : Bool) (d s : ByteArray) (D : List UInt8) (n : Int) (hg : Good D) (hd : d.data.toList = D) (hD : D.length ≤ 1048576) (hn0 : -9223372036854775808 < n) (hn1 : n ≤ 9223372036854775807) (hs : s.data.toList = sgn neg ++ body D n) (w : World) :
    Calls Tryd.prog 10 #[.string s] w fun e w' => e = .returned (.tuple #[.bool true, .bool neg, .string d, .int .i64 n, .bool (expoB n)]) ∧ Below w.heap.size w w' := by
  have hz : s.size ≤ 3000000 := by
    have h1 := body_len D n hD hn0 hn1
    have h2 := sgn_len neg
    rw [size_l hs, List.length_append]
    omega
  have hlen := hg.len
  by_cases a : (D.length : Int) ≤ n ∧ n ≤ 21
  · have hb : body D n = D ++ List.replicate (n - D.length).toNat 48 := by unfold body; rw [if_pos a]
    have hx : expoB n = false := by unfold expoB; simp; omega
    have hn : (D.length : Int) + ((n - D.length).toNat : Int) = n := by omega
    rw [hx]
    rw [hb] at hs
    cases neg
    · have := rdA_pos s d D (n - D.length).toNat hg hd hs hz w
      rwa [hn] at this
    · have := rdA_neg s d D (n - D.length).toNat hg hd hs hz w
      rwa [hn] at this
  by_cases b : 0 < n ∧ n ≤ 21
  · have hb : body D n = D.take n.toNat ++ 46 :: D.drop n.toNat := by unfold body; rw [if_neg a, if_pos b]
    have hx : expoB n = false := by unfold expoB; simp; omega
    have hm : n.toNat < D.length := by omega
    have h1 : D.take n.toNat ≠ [] := by intro e; have := congrArg List.length e; rw [List.length_take] at this; simp only [List.length_nil] at this; omega
    have h2 : D.drop n.toNat ≠ [] := by intro e; have := congrArg List.length e; rw [List.length_drop] at this; simp only [List.length_nil] at this; omega
    have h3 : ∀ c ∈ D.take n.toNat, digB c = true := fun c hc => hg.dig c (List.mem_of_mem_take hc)
    have h4 : ∀ c ∈ D.drop n.toNat, digB c = true := fun c hc => hg.dig c (List.mem_of_mem_drop hc)
    have h5 : 1 < (D.take n.toNat).length → ∃ c, (D.take n.toNat)[0]? = some c ∧ ((c.toNat : Int) == 48) = false := fun _ => by
      obtain ⟨c, hc, hne⟩ := hg.first
      exact ⟨c, by rw [List.getElem?_take, if_pos (by omega)]; exact hc, hne⟩
    have h6 : ∃ c, (D.drop n.toNat)[(D.drop n.toNat).length - 1]? = some c ∧ ((c.toNat : Int) == 48) = false := by
      obtain ⟨c, hc, hne⟩ := hg.final
      refine ⟨c, ?_, hne⟩
      rw [List.getElem?_drop, List.length_drop, show n.toNat + (D.length - n.toNat - 1) = D.length - 1 by omega]
      exact hc
    have hn : ((D.take n.toNat).length : Int) - (0 : Nat) = n := by rw [List.length_take]; omega
    rw [hx]
    rw [hb] at hs
    cases neg
    · have := rdB_pos s d D (D.take n.toNat) (D.drop n.toNat) 0 hg hd hs hz h1 h3 h5 h2 h4 h6 (by simp) w
      rwa [hn] at this
    · have := rdB_neg s d D (D.take n.toNat) (D.drop n.toNat) 0 hg hd hs hz h1 h3 h5 h2 h4 h6 (by simp) w
      rwa [hn] at this
  by_cases c : -6 < n ∧ n ≤ 0
  · have hb : body D n = [48] ++ 46 :: (List.replicate (-n).toNat 48 ++ D) := by unfold body; rw [if_neg a, if_neg b, if_pos c]; simp
    have hx : expoB n = false := by unfold expoB; simp; omega
    have h2 : List.replicate (-n).toNat 48 ++ D ≠ [] := by simp [hg.ne]
    have h4 : ∀ c ∈ List.replicate (-n).toNat 48 ++ D, digB c = true := by
      intro c hc
      rw [List.mem_append] at hc
      rcases hc with hc | hc
      · rw [List.eq_of_mem_replicate hc]; exact dig48
      · exact hg.dig c hc
    have h6 : ∃ c, (List.replicate (-n).toNat 48 ++ D)[(List.replicate (-n).toNat 48 ++ D).length - 1]? = some c ∧ ((c.toNat : Int) == 48) = false := by
      obtain ⟨c, hc, hne⟩ := hg.final
      refine ⟨c, ?_, hne⟩
      rw [List.length_append, List.getElem?_append_right (by omega), show (List.replicate (-n).toNat (48 : UInt8)).length + D.length - 1 - (List.replicate (-n).toNat (48 : UInt8)).length = D.length - 1 by omega]
      exact hc
    have hn : ((([48] : List UInt8).length : Int) - ((-n).toNat + 1 : Nat)) = n := by simp; omega
    have hr : ([48] : List UInt8) ++ (List.replicate (-n).toNat 48 ++ D) = List.replicate ((-n).toNat + 1) 48 ++ D := by rw [List.replicate_succ]; simp
    rw [hx]
    rw [hb] at hs
    cases neg
    · have := rdB_pos s d D [48] (List.replicate (-n).toNat 48 ++ D) ((-n).toNat + 1) hg hd hs hz (by simp) (by intro c hc; simp only [List.mem_singleton] at hc; subst hc; exact dig48) (by simp) h2 h4 h6 hr w
      rwa [hn] at this
    · have := rdB_neg s d D [48] (List.replicate (-n).toNat 48 ++ D) ((-n).toNat + 1) hg hd hs hz (by simp) (by intro c hc; simp only [List.mem_singleton] at hc; subst hc; exact dig48) (by simp) h2 h4 h6 hr w
      rwa [hn] at this
  have hx : expoB n = true := by unfold expoB; simp; omega
  obtain ⟨c0, F, hDF, hc48⟩ := hg.head
  have hc0 : digB c0 = true := hg.dig c0 (by rw [hDF]; simp)
  have hFd : ∀ c ∈ F, digB c = true := fun c hc => hg.dig c (by rw [hDF]; simp [hc])
  by_cases p : 0 ≤ n - 1
  · have hn : ((n - 1).toNat : Int) + 1 = n := by omega
    have hu : (n - 1).toNat ≤ 9223372036854775806 := by omega
    rw [hx]
    cases F with
    | nil =>
      have hb : body D n = [c0] ++ (101 :: 43 :: Lib.decDigits (n - 1).toNat) := by unfold body; rw [if_neg a, if_neg b, if_neg c, if_pos p, itoa_pos _ p, hDF]; simp
      rw [hb] at hs
      rw [hDF] at hd
      cases neg
      · have := rdE_pwq s d c0 (n - 1).toNat hc0 hc48 hu hd hs hz w
        rwa [hn] at this
      · have := rdE_nwq s d c0 (n - 1).toNat hc0 hc48 hu hd (by rw [hs]; rfl) hz w
        rwa [hn] at this
    | cons f G =>
      have hb : body D n = [c0] ++ (46 :: ((f :: G) ++ 101 :: 43 :: Lib.decDigits (n - 1).toNat)) := by unfold body; rw [if_neg a, if_neg b, if_neg c, if_pos p, itoa_pos _ p, hDF]; simp
      have hFl : ∃ c, (f :: G)[(f :: G).length - 1]? = some c ∧ ((c.toNat : Int) == 48) = false := by
        obtain ⟨c, hc, hne⟩ := hg.final
        refine ⟨c, ?_, hne⟩
        rw [hDF] at hc
        simpa using hc
      rw [hb] at hs
      rw [hDF] at hd
      cases neg
      · have := rdE_pfq s d c0 (n - 1).toNat hc0 hc48 (f :: G) (by simp) hFd hFl hu hd hs hz w
        rwa [hn] at this
      · have := rdE_nfq s d c0 (n - 1).toNat hc0 hc48 (f :: G) (by simp) hFd hFl hu hd (by rw [hs]; rfl) hz w
        rwa [hn] at this
  · have hn : -(((n - 1).natAbs : Int) - 1) - 1 + 1 = n := by omega
    have hu1 : 1 ≤ (n - 1).natAbs := by omega
    have hu : (n - 1).natAbs ≤ 9223372036854775808 := by omega
    rw [hx]
    cases F with
    | nil =>
      have hb : body D n = [c0] ++ (101 :: 45 :: Lib.decDigits (n - 1).natAbs) := by unfold body; rw [if_neg a, if_neg b, if_neg c, if_neg p, itoa_neg _ (by omega), hDF]; simp
      rw [hb] at hs
      rw [hDF] at hd
      cases neg
      · have := rdE_pwm s d c0 (n - 1).natAbs hc0 hc48 hu1 hu hd hs hz w
        rwa [hn] at this
      · have := rdE_nwm s d c0 (n - 1).natAbs hc0 hc48 hu1 hu hd (by rw [hs]; rfl) hz w
        rwa [hn] at this
    | cons f G =>
      have hb : body D n = [c0] ++ (46 :: ((f :: G) ++ 101 :: 45 :: Lib.decDigits (n - 1).natAbs)) := by unfold body; rw [if_neg a, if_neg b, if_neg c, if_neg p, itoa_neg _ (by omega), hDF]; simp
      have hFl : ∃ c, (f :: G)[(f :: G).length - 1]? = some c ∧ ((c.toNat : Int) == 48) = false := by
        obtain ⟨c, hc, hne⟩ := hg.final
        refine ⟨c, ?_, hne⟩
        rw [hDF] at hc
        simpa using hc
      rw [hb] at hs
      rw [hDF] at hd
      cases neg
      · have := rdE_pfm s d c0 (n - 1).natAbs hc0 hc48 (f :: G) (by simp) hFd hFl hu1 hu hd hs hz w
        rwa [hn] at this
      · have := rdE_nfm s d c0 (n - 1).natAbs hc0 hc48 (f :: G) (by simp) hFd hFl hu1 hu hd (by rw [hs]; rfl) hz w
        rwa [hn] at this
end Go.Proofs.Qxb6609094aDoor
