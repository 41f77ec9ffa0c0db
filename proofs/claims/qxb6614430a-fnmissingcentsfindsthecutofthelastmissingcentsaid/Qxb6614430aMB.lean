/-
  THE WALK of math/bits.Div64 (pure Go).
-/
import Derived.Test.Qxb6614430aMA
import Derived.Test.Qxb6614430aMP
import Derived.Lib.Hide
import Derived.Deep.QuietTactic
import Derived.BigQuiet
set_option linter.unusedVariables false
namespace Go.Proofs.Qxb6614430a
open Go.RowKit

theorem wrap_mul (a b : Nat) (ha : a < 4294967296) (hb : b < 4294967296) : IntKind.u64.wrap ((a : Int) * b) = ((a * b : Nat) : Int) := by
  have h : a * b ≤ 4294967295 * 4294967295 := Nat.mul_le_mul (by omega) (by omega)
  rw [IntKind.wrap_u64, ← Int.natCast_mul]
  omega
theorem wrap_div (a b : Nat) (ha : a < 18446744073709551616) : IntKind.u64.wrap ((a : Int) / b) = ((a / b : Nat) : Int) := by
  have h : a / b ≤ a := Nat.div_le_self a b
  rw [IntKind.wrap_u64, ← Int.natCast_ediv]
  generalize a / b = c at *
  omega
theorem wrap_mod (a b : Nat) (ha : a < 18446744073709551616) : IntKind.u64.wrap ((a : Int) - IntKind.u64.wrap (((a / b : Nat) : Int) * b)) = ((a % b : Nat) : Int) := by
  have h := Nat.div_add_mod a b
  rw [Nat.mul_comm] at h
  rw [IntKind.wrap_u64, IntKind.wrap_u64, ← Int.natCast_mul]
  omega
theorem wrap_rest (U C q Y : Nat) (hY : Y < 18446744073709551616 ∧ 0 < Y) (hq : q = (U * 4294967296 + C) / Y) :
    IntKind.u64.wrap (IntKind.u64.wrap (IntKind.u64.wrap ((U : Int) * 4294967296) + (C : Int)) - IntKind.u64.wrap ((q : Int) * Y)) = (((U * 4294967296 + C) % Y : Nat) : Int) := by
  have h := Nat.div_add_mod (U * 4294967296 + C) Y
  have h2 := Nat.mod_lt (U * 4294967296 + C) hY.2
  rw [Nat.mul_comm, ← hq] at h
  rw [IntKind.wrap_u64, IntKind.wrap_u64, IntKind.wrap_u64, IntKind.wrap_u64, ← Int.natCast_mul]
  have := hY.1
  omega
theorem div_pow (x s : Nat) : (x : Int) / 2 ^ s = ((x / 2 ^ s : Nat) : Int) := by
  rw [Int.natCast_ediv, Int.natCast_pow]
  rfl
theorem TQ.ge_pos {U Y A B C q r : Nat} (t : TQ U Y A C q r) (h : TH U Y A B C) (hb : big B C q r = true) : 1 ≤ q := Nat.lt_of_le_of_lt (Nat.zero_le _) (t.over h hb)
theorem TQ.q_lt {U Y A B C q r : Nat} (t : TQ U Y A C q r) (h : TH U Y A B C) : q < 18446744073709551616 := by
  have h1 : q * 1 ≤ q * A := Nat.mul_le_mul_left _ h.a0
  have h2 := t.eq
  have h3 := h.u
  have h4 := h.y
  have h5 := h.a1
  have h6 := h.b
  omega

theorem fin {hi lo y s U C D Y V q1 qx QQ XX RR : Nat} (hF : 0 < Y ∧ (U * 4294967296 + C) * 4294967296 + D = (hi * 18446744073709551616 + lo) * 2 ^ s ∧ Y = y * 2 ^ s) (h1 : q1 = (U * 4294967296 + C) / Y) (h2 : qx = (V * 4294967296 + D) / Y) (hV : V = (U * 4294967296 + C) % Y)
    (hQ : QQ = q1 * 4294967296 + qx) (hX : XX = (V * 4294967296 + D) % Y) (hR : RR = XX / 2 ^ s) : QQ = (hi * 18446744073709551616 + lo) / y ∧ RR = (hi * 18446744073709551616 + lo) % y := by
  obtain ⟨h0, hN, hY⟩ := hF
  obtain ⟨e1, e2⟩ := long_div U C D Y h0
  obtain ⟨u1, u2⟩ := unshift hi lo s y
  rw [← hV, ← h2, ← h1, ← hQ, hN] at e1
  rw [← hV, ← hX, hN] at e2
  rw [← hY] at u1 u2
  exact ⟨e1.symm.trans u1, by rw [hR, ← e2, u2]⟩

set_option maxRecDepth 100000 in
set_option maxHeartbeats 4000000 in
theorem div_walk (hi lo y s Y U L A B C D Q R QZ RZ : Nat) (w : World) (h0 : 0 < hi) (hy : hi < y) (hs : s ≤ 63)
   (cL : Calls Try.prog 27 #[.int .u64 y] w fun e w' => e = .returned (.int .i64 (s : Nat)) ∧ w' = w)
   (hY : IntKind.u64.wrap ((y : Int) * 2 ^ s) = (Y : Int))
   (hU : bits .or .u64 (IntKind.u64.wrap ((hi : Int) * 2 ^ s)) ((lo : Int) / 2 ^ (64 - s)) = (U : Int))
   (hL : IntKind.u64.wrap ((lo : Int) * 2 ^ s) = (L : Int))
   (hA : (Y : Int) / 4294967296 = (A : Int))
   (hB : bits .and .u64 (Y : Int) 4294967295 = (B : Int))
   (hC : (L : Int) / 4294967296 = (C : Int))
   (hD : bits .and .u64 (L : Int) 4294967295 = (D : Int))
   (hQ : IntKind.u64.wrap ((U : Int) / A) = (Q : Int))
   (hR : IntKind.u64.wrap ((U : Int) - IntKind.u64.wrap ((Q : Int) * A)) = (R : Int))
   (hA0 : ¬ (A : Int) = 0) (T : Hid (TH U Y A B C)) (hD1 : Hid (D < 4294967296)) (HY : Hid (Y < 18446744073709551616 ∧ 0 < Y)) (S1 : Hid (TQ U Y A C Q R)) (hF : Hid (0 < Y ∧ (U * 4294967296 + C) * 4294967296 + D = (hi * 18446744073709551616 + lo) * 2 ^ s ∧ Y = y * 2 ^ s)) (hZ : Hid (QZ = (hi * 18446744073709551616 + lo) / y ∧ RZ = (hi * 18446744073709551616 + lo) % y)) :
    Calls Try.prog 25 #[.int .u64 hi, .int .u64 lo, .int .u64 y] w fun e w' => e = .returned (.tuple #[.int .u64 QZ, .int .u64 RZ]) ∧ w' = w := by
  have a1 : ((y : Int) == 0) = false := by simp; omega
  have a2 : ¬ (y : Int) ≤ hi := by omega
  have a3 : ((hi : Int) == 0) = false := by simp; omega
  go_enter Try.func25, Try.ntmps25
  go_wp2_with fail
  refine cL.mono ?_
  rintro e w1 ⟨rfl, rfl⟩
  go_wp2_with fail
  clear hY hU hL hA hB hC hD hQ hR a1 a2 a3 cL
  go_loop [15, 16] (fun qv rv => ∃ qh rh : Nat, qv = .int .u64 qh ∧ rv = .int .u64 rh ∧ TQ U Y A C qh rh) (fun qv _ => (intOf qv).toNat)
  case atStart => exact ⟨_, _, rfl, rfl, S1.out⟩
  case round =>
    obtain ⟨qh, rh, rfl, rfl, t⟩ := hrel
    by_cases c1 : 4294967296 ≤ qh
    · have k1 : (4294967296 : Int) ≤ qh := by omega
      have hbig : big B C qh rh = true := by simp [big, c1]
      obtain ⟨qm, hqm⟩ : ∃ qm : Nat, IntKind.u64.wrap ((qh : Int) - 1) = (qm : Int) ∧ Hid (qm = qh - 1) := ⟨qh - 1, by rw [IntKind.wrap_u64]; have := t.ge_pos T.out hbig; have := t.q_lt T.out; omega, rfl⟩
      obtain ⟨rm, hrm⟩ : ∃ rm : Nat, IntKind.u64.wrap ((rh : Int) + A) = (rm : Int) ∧ Hid (rm = rh + A) := ⟨rh + A, by rw [IntKind.wrap_u64]; have := t.lt; have := T.out.a1; omega, rfl⟩
      obtain ⟨hqm, Hqm⟩ := hqm
      obtain ⟨hrm, Hrm⟩ := hrm
      by_cases c3 : 4294967296 ≤ rm
      · have k3 : (4294967296 : Int) ≤ rm := by omega
        have hq : qm = (U * 4294967296 + C) / Y := by rw [Hqm.out]; exact t.brk T.out hbig (by rw [← Hrm.out]; exact c3)
        clear hbig
        have H1 : Hid (qm = (U * 4294967296 + C) / Y) := hq
        have L1 : Hid (qm < 4294967296) := by show qm < _; rw [hq]; exact T.out.lt
        obtain ⟨V, hV⟩ : ∃ V : Nat, IntKind.u64.wrap (IntKind.u64.wrap (IntKind.u64.wrap ((U : Int) * 4294967296) + (C : Int)) - IntKind.u64.wrap ((qm : Int) * Y)) = (V : Int) ∧ Hid (V = (U * 4294967296 + C) % Y) := ⟨_, wrap_rest U C qm Y HY.out hq, rfl⟩
        obtain ⟨hV, HV⟩ := hV
        have H2 : Hid (TH V Y A B D) := by have h := T.out; have h2 := h.u; exact ⟨h.y, h.a0, h.a1, h.b, hD1.out, by rw [HV.out]; exact Nat.mod_lt _ (by omega)⟩
        have hVl : V < 18446744073709551616 := by have := H2.out.u; have := HY.out; omega
        obtain ⟨q2, hq2⟩ : ∃ q2 : Nat, IntKind.u64.wrap ((V : Int) / A) = (q2 : Int) ∧ Hid (q2 = V / A) := ⟨V / A, wrap_div V A hVl, rfl⟩
        obtain ⟨hq2, Hq2⟩ := hq2
        obtain ⟨r2, hr2⟩ : ∃ r2 : Nat, IntKind.u64.wrap ((V : Int) - IntKind.u64.wrap ((q2 : Int) * A)) = (r2 : Int) ∧ Hid (r2 = V % A) := ⟨V % A, by rw [Hq2.out]; exact wrap_mod V A hVl, rfl⟩
        obtain ⟨hr2, Hr2⟩ := hr2
        have S2 : Hid (TQ V Y A D q2 r2) := by show TQ V Y A D q2 r2; rw [Hq2.out, Hr2.out]; exact TQ.start H2.out
        clear hq hVl
        go_wp2_with fail
        clear k1 c1
        go_loop [16, 18] (fun rv qv => ∃ qj rh : Nat, qv = .int .u64 qj ∧ rv = .int .u64 rh ∧ TQ V Y A D qj rh) (fun _ qv => (intOf qv).toNat)
        case atStart => exact ⟨_, _, rfl, rfl, S2.out⟩
        case round =>
          obtain ⟨qj, rh, rfl, rfl, t⟩ := hrel
          by_cases c1 : 4294967296 ≤ qj
          · have k1 : (4294967296 : Int) ≤ qj := by omega
            have hbig : big B D qj rh = true := by simp [big, c1]
            obtain ⟨qk, hqk⟩ : ∃ qk : Nat, IntKind.u64.wrap ((qj : Int) - 1) = (qk : Int) ∧ Hid (qk = qj - 1) := ⟨qj - 1, by rw [IntKind.wrap_u64]; have := t.ge_pos H2.out hbig; have := t.q_lt H2.out; omega, rfl⟩
            obtain ⟨rm, hrm⟩ : ∃ rm : Nat, IntKind.u64.wrap ((rh : Int) + A) = (rm : Int) ∧ Hid (rm = rh + A) := ⟨rh + A, by rw [IntKind.wrap_u64]; have := t.lt; have := H2.out.a1; omega, rfl⟩
            obtain ⟨hqk, Hqk⟩ := hqk
            obtain ⟨hrm, Hrm⟩ := hrm
            by_cases c3 : 4294967296 ≤ rm
            · have k3 : (4294967296 : Int) ≤ rm := by omega
              have hq : qk = (V * 4294967296 + D) / Y := by rw [Hqk.out]; exact t.brk H2.out hbig (by rw [← Hrm.out]; exact c3)
              clear hbig
              have L2 : qk < 4294967296 := by rw [hq]; exact H2.out.lt
              obtain ⟨QQ, hQQ⟩ : ∃ QQ : Nat, IntKind.u64.wrap (IntKind.u64.wrap ((qm : Int) * 4294967296) + (qk : Int)) = (QQ : Int) ∧ Hid (QQ = qm * 4294967296 + qk) := ⟨qm * 4294967296 + qk, by rw [IntKind.wrap_u64, IntKind.wrap_u64]; have := L1.out; have := L2; omega, rfl⟩
              obtain ⟨XX, hXX⟩ : ∃ XX : Nat, IntKind.u64.wrap (IntKind.u64.wrap (IntKind.u64.wrap ((V : Int) * 4294967296) + (D : Int)) - IntKind.u64.wrap ((qk : Int) * Y)) = (XX : Int) ∧ Hid (XX = (V * 4294967296 + D) % Y) := ⟨_, wrap_rest V D qk Y HY.out hq, rfl⟩
              obtain ⟨RR, hRR⟩ : ∃ RR : Nat, (XX : Int) / 2 ^ s = (RR : Int) ∧ Hid (RR = XX / 2 ^ s) := ⟨XX / 2 ^ s, div_pow XX s, rfl⟩
              obtain ⟨hQQ, HQQ⟩ := hQQ
              obtain ⟨hXX, HXX⟩ := hXX
              obtain ⟨hRR, HRR⟩ := hRR
              have HF : Hid (QQ = QZ ∧ RR = RZ) := (by have h := fin hF.out H1.out hq HV.out HQQ.out HXX.out HRR.out; exact ⟨h.1.trans hZ.out.1.symm, h.2.trans hZ.out.2.symm⟩)
              clear hq L2
              go_wp2_with fail
              go_ret2
              exact ⟨by rw [← HF.out.1, ← HF.out.2]; rfl, rfl⟩
            · have k3 : ¬ (4294967296 : Int) ≤ rm := by omega
              have t' : TQ V Y A D qk rm := by rw [Hqk.out, Hrm.out]; exact t.next H2.out hbig (by rw [← Hrm.out]; omega)
              have hlt : qk < qj := by rw [Hqk.out]; have := t.ge_pos H2.out hbig; omega
              clear hbig
              go_wp2_with fail
              go_round
              case rel => exact ⟨qk, rm, rfl, rfl, t'⟩
              case measure => simp [intOf]; omega
          · have k1 : ¬ (4294967296 : Int) ≤ qj := by omega
            obtain ⟨m1, hm1⟩ : ∃ m1 : Nat, IntKind.u64.wrap ((qj : Int) * B) = (m1 : Int) ∧ Hid (m1 = qj * B) := ⟨qj * B, wrap_mul qj B (by omega) H2.out.b, rfl⟩
            obtain ⟨m2, hm2⟩ : ∃ m2 : Nat, IntKind.u64.wrap (IntKind.u64.wrap (4294967296 * (rh : Int)) + D) = (m2 : Int) ∧ Hid (m2 = 4294967296 * rh + D) := ⟨4294967296 * rh + D, by rw [IntKind.wrap_u64, IntKind.wrap_u64]; have := t.lt; have := H2.out.c; omega, rfl⟩
            obtain ⟨hm1, Hm1⟩ := hm1
            obtain ⟨hm2, Hm2⟩ := hm2
            by_cases c2 : m2 < m1
            · have k2 : (m2 : Int) < m1 := by omega
              have hbig : big B D qj rh = true := by simp [big]; right; rw [← Hm1.out, ← Hm2.out]; exact c2
              obtain ⟨qk, hqk⟩ : ∃ qk : Nat, IntKind.u64.wrap ((qj : Int) - 1) = (qk : Int) ∧ Hid (qk = qj - 1) := ⟨qj - 1, by rw [IntKind.wrap_u64]; have := t.ge_pos H2.out hbig; have := t.q_lt H2.out; omega, rfl⟩
              obtain ⟨rm, hrm⟩ : ∃ rm : Nat, IntKind.u64.wrap ((rh : Int) + A) = (rm : Int) ∧ Hid (rm = rh + A) := ⟨rh + A, by rw [IntKind.wrap_u64]; have := t.lt; have := H2.out.a1; omega, rfl⟩
              obtain ⟨hqk, Hqk⟩ := hqk
              obtain ⟨hrm, Hrm⟩ := hrm
              by_cases c3 : 4294967296 ≤ rm
              · have k3 : (4294967296 : Int) ≤ rm := by omega
                have hq : qk = (V * 4294967296 + D) / Y := by rw [Hqk.out]; exact t.brk H2.out hbig (by rw [← Hrm.out]; exact c3)
                clear hbig
                have L2 : qk < 4294967296 := by rw [hq]; exact H2.out.lt
                obtain ⟨QQ, hQQ⟩ : ∃ QQ : Nat, IntKind.u64.wrap (IntKind.u64.wrap ((qm : Int) * 4294967296) + (qk : Int)) = (QQ : Int) ∧ Hid (QQ = qm * 4294967296 + qk) := ⟨qm * 4294967296 + qk, by rw [IntKind.wrap_u64, IntKind.wrap_u64]; have := L1.out; have := L2; omega, rfl⟩
                obtain ⟨XX, hXX⟩ : ∃ XX : Nat, IntKind.u64.wrap (IntKind.u64.wrap (IntKind.u64.wrap ((V : Int) * 4294967296) + (D : Int)) - IntKind.u64.wrap ((qk : Int) * Y)) = (XX : Int) ∧ Hid (XX = (V * 4294967296 + D) % Y) := ⟨_, wrap_rest V D qk Y HY.out hq, rfl⟩
                obtain ⟨RR, hRR⟩ : ∃ RR : Nat, (XX : Int) / 2 ^ s = (RR : Int) ∧ Hid (RR = XX / 2 ^ s) := ⟨XX / 2 ^ s, div_pow XX s, rfl⟩
                obtain ⟨hQQ, HQQ⟩ := hQQ
                obtain ⟨hXX, HXX⟩ := hXX
                obtain ⟨hRR, HRR⟩ := hRR
                have HF : Hid (QQ = QZ ∧ RR = RZ) := (by have h := fin hF.out H1.out hq HV.out HQQ.out HXX.out HRR.out; exact ⟨h.1.trans hZ.out.1.symm, h.2.trans hZ.out.2.symm⟩)
                clear hq L2
                go_wp2_with fail
                go_ret2
                exact ⟨by rw [← HF.out.1, ← HF.out.2]; rfl, rfl⟩
              · have k3 : ¬ (4294967296 : Int) ≤ rm := by omega
                have t' : TQ V Y A D qk rm := by rw [Hqk.out, Hrm.out]; exact t.next H2.out hbig (by rw [← Hrm.out]; omega)
                have hlt : qk < qj := by rw [Hqk.out]; have := t.ge_pos H2.out hbig; omega
                clear hbig
                go_wp2_with fail
                go_round
                case rel => exact ⟨qk, rm, rfl, rfl, t'⟩
                case measure => simp [intOf]; omega
            · have k2 : ¬ (m2 : Int) < m1 := by omega
              have hq : qj = (V * 4294967296 + D) / Y := t.done H2.out (by simp [big]; rw [← Hm1.out, ← Hm2.out]; omega)
              have L2 : qj < 4294967296 := by rw [hq]; exact H2.out.lt
              obtain ⟨QQ, hQQ⟩ : ∃ QQ : Nat, IntKind.u64.wrap (IntKind.u64.wrap ((qm : Int) * 4294967296) + (qj : Int)) = (QQ : Int) ∧ Hid (QQ = qm * 4294967296 + qj) := ⟨qm * 4294967296 + qj, by rw [IntKind.wrap_u64, IntKind.wrap_u64]; have := L1.out; have := L2; omega, rfl⟩
              obtain ⟨XX, hXX⟩ : ∃ XX : Nat, IntKind.u64.wrap (IntKind.u64.wrap (IntKind.u64.wrap ((V : Int) * 4294967296) + (D : Int)) - IntKind.u64.wrap ((qj : Int) * Y)) = (XX : Int) ∧ Hid (XX = (V * 4294967296 + D) % Y) := ⟨_, wrap_rest V D qj Y HY.out hq, rfl⟩
              obtain ⟨RR, hRR⟩ : ∃ RR : Nat, (XX : Int) / 2 ^ s = (RR : Int) ∧ Hid (RR = XX / 2 ^ s) := ⟨XX / 2 ^ s, div_pow XX s, rfl⟩
              obtain ⟨hQQ, HQQ⟩ := hQQ
              obtain ⟨hXX, HXX⟩ := hXX
              obtain ⟨hRR, HRR⟩ := hRR
              have HF : Hid (QQ = QZ ∧ RR = RZ) := (by have h := fin hF.out H1.out hq HV.out HQQ.out HXX.out HRR.out; exact ⟨h.1.trans hZ.out.1.symm, h.2.trans hZ.out.2.symm⟩)
              clear hq L2
              go_wp2_with fail
              go_ret2
              exact ⟨by rw [← HF.out.1, ← HF.out.2]; rfl, rfl⟩
      · have k3 : ¬ (4294967296 : Int) ≤ rm := by omega
        have t' : TQ U Y A C qm rm := by rw [Hqm.out, Hrm.out]; exact t.next T.out hbig (by rw [← Hrm.out]; omega)
        have hlt : qm < qh := by rw [Hqm.out]; have := t.ge_pos T.out hbig; omega
        clear hbig
        go_wp2_with fail
        go_round
        case rel => exact ⟨qm, rm, rfl, rfl, t'⟩
        case measure => simp [intOf]; omega
    · have k1 : ¬ (4294967296 : Int) ≤ qh := by omega
      obtain ⟨m1, hm1⟩ : ∃ m1 : Nat, IntKind.u64.wrap ((qh : Int) * B) = (m1 : Int) ∧ Hid (m1 = qh * B) := ⟨qh * B, wrap_mul qh B (by omega) T.out.b, rfl⟩
      obtain ⟨m2, hm2⟩ : ∃ m2 : Nat, IntKind.u64.wrap (IntKind.u64.wrap (4294967296 * (rh : Int)) + C) = (m2 : Int) ∧ Hid (m2 = 4294967296 * rh + C) := ⟨4294967296 * rh + C, by rw [IntKind.wrap_u64, IntKind.wrap_u64]; have := t.lt; have := T.out.c; omega, rfl⟩
      obtain ⟨hm1, Hm1⟩ := hm1
      obtain ⟨hm2, Hm2⟩ := hm2
      by_cases c2 : m2 < m1
      · have k2 : (m2 : Int) < m1 := by omega
        have hbig : big B C qh rh = true := by simp [big]; right; rw [← Hm1.out, ← Hm2.out]; exact c2
        obtain ⟨qm, hqm⟩ : ∃ qm : Nat, IntKind.u64.wrap ((qh : Int) - 1) = (qm : Int) ∧ Hid (qm = qh - 1) := ⟨qh - 1, by rw [IntKind.wrap_u64]; have := t.ge_pos T.out hbig; have := t.q_lt T.out; omega, rfl⟩
        obtain ⟨rm, hrm⟩ : ∃ rm : Nat, IntKind.u64.wrap ((rh : Int) + A) = (rm : Int) ∧ Hid (rm = rh + A) := ⟨rh + A, by rw [IntKind.wrap_u64]; have := t.lt; have := T.out.a1; omega, rfl⟩
        obtain ⟨hqm, Hqm⟩ := hqm
        obtain ⟨hrm, Hrm⟩ := hrm
        by_cases c3 : 4294967296 ≤ rm
        · have k3 : (4294967296 : Int) ≤ rm := by omega
          have hq : qm = (U * 4294967296 + C) / Y := by rw [Hqm.out]; exact t.brk T.out hbig (by rw [← Hrm.out]; exact c3)
          clear hbig
          have H1 : Hid (qm = (U * 4294967296 + C) / Y) := hq
          have L1 : Hid (qm < 4294967296) := by show qm < _; rw [hq]; exact T.out.lt
          obtain ⟨V, hV⟩ : ∃ V : Nat, IntKind.u64.wrap (IntKind.u64.wrap (IntKind.u64.wrap ((U : Int) * 4294967296) + (C : Int)) - IntKind.u64.wrap ((qm : Int) * Y)) = (V : Int) ∧ Hid (V = (U * 4294967296 + C) % Y) := ⟨_, wrap_rest U C qm Y HY.out hq, rfl⟩
          obtain ⟨hV, HV⟩ := hV
          have H2 : Hid (TH V Y A B D) := by have h := T.out; have h2 := h.u; exact ⟨h.y, h.a0, h.a1, h.b, hD1.out, by rw [HV.out]; exact Nat.mod_lt _ (by omega)⟩
          have hVl : V < 18446744073709551616 := by have := H2.out.u; have := HY.out; omega
          obtain ⟨q2, hq2⟩ : ∃ q2 : Nat, IntKind.u64.wrap ((V : Int) / A) = (q2 : Int) ∧ Hid (q2 = V / A) := ⟨V / A, wrap_div V A hVl, rfl⟩
          obtain ⟨hq2, Hq2⟩ := hq2
          obtain ⟨r2, hr2⟩ : ∃ r2 : Nat, IntKind.u64.wrap ((V : Int) - IntKind.u64.wrap ((q2 : Int) * A)) = (r2 : Int) ∧ Hid (r2 = V % A) := ⟨V % A, by rw [Hq2.out]; exact wrap_mod V A hVl, rfl⟩
          obtain ⟨hr2, Hr2⟩ := hr2
          have S2 : Hid (TQ V Y A D q2 r2) := by show TQ V Y A D q2 r2; rw [Hq2.out, Hr2.out]; exact TQ.start H2.out
          clear hq hVl
          go_wp2_with fail
          clear k1 c1
          go_loop [16, 18] (fun rv qv => ∃ qj rh : Nat, qv = .int .u64 qj ∧ rv = .int .u64 rh ∧ TQ V Y A D qj rh) (fun _ qv => (intOf qv).toNat)
          case atStart => exact ⟨_, _, rfl, rfl, S2.out⟩
          case round =>
            obtain ⟨qj, rh, rfl, rfl, t⟩ := hrel
            by_cases c1 : 4294967296 ≤ qj
            · have k1 : (4294967296 : Int) ≤ qj := by omega
              have hbig : big B D qj rh = true := by simp [big, c1]
              obtain ⟨qk, hqk⟩ : ∃ qk : Nat, IntKind.u64.wrap ((qj : Int) - 1) = (qk : Int) ∧ Hid (qk = qj - 1) := ⟨qj - 1, by rw [IntKind.wrap_u64]; have := t.ge_pos H2.out hbig; have := t.q_lt H2.out; omega, rfl⟩
              obtain ⟨rm, hrm⟩ : ∃ rm : Nat, IntKind.u64.wrap ((rh : Int) + A) = (rm : Int) ∧ Hid (rm = rh + A) := ⟨rh + A, by rw [IntKind.wrap_u64]; have := t.lt; have := H2.out.a1; omega, rfl⟩
              obtain ⟨hqk, Hqk⟩ := hqk
              obtain ⟨hrm, Hrm⟩ := hrm
              by_cases c3 : 4294967296 ≤ rm
              · have k3 : (4294967296 : Int) ≤ rm := by omega
                have hq : qk = (V * 4294967296 + D) / Y := by rw [Hqk.out]; exact t.brk H2.out hbig (by rw [← Hrm.out]; exact c3)
                clear hbig
                have L2 : qk < 4294967296 := by rw [hq]; exact H2.out.lt
                obtain ⟨QQ, hQQ⟩ : ∃ QQ : Nat, IntKind.u64.wrap (IntKind.u64.wrap ((qm : Int) * 4294967296) + (qk : Int)) = (QQ : Int) ∧ Hid (QQ = qm * 4294967296 + qk) := ⟨qm * 4294967296 + qk, by rw [IntKind.wrap_u64, IntKind.wrap_u64]; have := L1.out; have := L2; omega, rfl⟩
                obtain ⟨XX, hXX⟩ : ∃ XX : Nat, IntKind.u64.wrap (IntKind.u64.wrap (IntKind.u64.wrap ((V : Int) * 4294967296) + (D : Int)) - IntKind.u64.wrap ((qk : Int) * Y)) = (XX : Int) ∧ Hid (XX = (V * 4294967296 + D) % Y) := ⟨_, wrap_rest V D qk Y HY.out hq, rfl⟩
                obtain ⟨RR, hRR⟩ : ∃ RR : Nat, (XX : Int) / 2 ^ s = (RR : Int) ∧ Hid (RR = XX / 2 ^ s) := ⟨XX / 2 ^ s, div_pow XX s, rfl⟩
                obtain ⟨hQQ, HQQ⟩ := hQQ
                obtain ⟨hXX, HXX⟩ := hXX
                obtain ⟨hRR, HRR⟩ := hRR
                have HF : Hid (QQ = QZ ∧ RR = RZ) := (by have h := fin hF.out H1.out hq HV.out HQQ.out HXX.out HRR.out; exact ⟨h.1.trans hZ.out.1.symm, h.2.trans hZ.out.2.symm⟩)
                clear hq L2
                go_wp2_with fail
                go_ret2
                exact ⟨by rw [← HF.out.1, ← HF.out.2]; rfl, rfl⟩
              · have k3 : ¬ (4294967296 : Int) ≤ rm := by omega
                have t' : TQ V Y A D qk rm := by rw [Hqk.out, Hrm.out]; exact t.next H2.out hbig (by rw [← Hrm.out]; omega)
                have hlt : qk < qj := by rw [Hqk.out]; have := t.ge_pos H2.out hbig; omega
                clear hbig
                go_wp2_with fail
                go_round
                case rel => exact ⟨qk, rm, rfl, rfl, t'⟩
                case measure => simp [intOf]; omega
            · have k1 : ¬ (4294967296 : Int) ≤ qj := by omega
              obtain ⟨m1, hm1⟩ : ∃ m1 : Nat, IntKind.u64.wrap ((qj : Int) * B) = (m1 : Int) ∧ Hid (m1 = qj * B) := ⟨qj * B, wrap_mul qj B (by omega) H2.out.b, rfl⟩
              obtain ⟨m2, hm2⟩ : ∃ m2 : Nat, IntKind.u64.wrap (IntKind.u64.wrap (4294967296 * (rh : Int)) + D) = (m2 : Int) ∧ Hid (m2 = 4294967296 * rh + D) := ⟨4294967296 * rh + D, by rw [IntKind.wrap_u64, IntKind.wrap_u64]; have := t.lt; have := H2.out.c; omega, rfl⟩
              obtain ⟨hm1, Hm1⟩ := hm1
              obtain ⟨hm2, Hm2⟩ := hm2
              by_cases c2 : m2 < m1
              · have k2 : (m2 : Int) < m1 := by omega
                have hbig : big B D qj rh = true := by simp [big]; right; rw [← Hm1.out, ← Hm2.out]; exact c2
                obtain ⟨qk, hqk⟩ : ∃ qk : Nat, IntKind.u64.wrap ((qj : Int) - 1) = (qk : Int) ∧ Hid (qk = qj - 1) := ⟨qj - 1, by rw [IntKind.wrap_u64]; have := t.ge_pos H2.out hbig; have := t.q_lt H2.out; omega, rfl⟩
                obtain ⟨rm, hrm⟩ : ∃ rm : Nat, IntKind.u64.wrap ((rh : Int) + A) = (rm : Int) ∧ Hid (rm = rh + A) := ⟨rh + A, by rw [IntKind.wrap_u64]; have := t.lt; have := H2.out.a1; omega, rfl⟩
                obtain ⟨hqk, Hqk⟩ := hqk
                obtain ⟨hrm, Hrm⟩ := hrm
                by_cases c3 : 4294967296 ≤ rm
                · have k3 : (4294967296 : Int) ≤ rm := by omega
                  have hq : qk = (V * 4294967296 + D) / Y := by rw [Hqk.out]; exact t.brk H2.out hbig (by rw [← Hrm.out]; exact c3)
                  clear hbig
                  have L2 : qk < 4294967296 := by rw [hq]; exact H2.out.lt
                  obtain ⟨QQ, hQQ⟩ : ∃ QQ : Nat, IntKind.u64.wrap (IntKind.u64.wrap ((qm : Int) * 4294967296) + (qk : Int)) = (QQ : Int) ∧ Hid (QQ = qm * 4294967296 + qk) := ⟨qm * 4294967296 + qk, by rw [IntKind.wrap_u64, IntKind.wrap_u64]; have := L1.out; have := L2; omega, rfl⟩
                  obtain ⟨XX, hXX⟩ : ∃ XX : Nat, IntKind.u64.wrap (IntKind.u64.wrap (IntKind.u64.wrap ((V : Int) * 4294967296) + (D : Int)) - IntKind.u64.wrap ((qk : Int) * Y)) = (XX : Int) ∧ Hid (XX = (V * 4294967296 + D) % Y) := ⟨_, wrap_rest V D qk Y HY.out hq, rfl⟩
                  obtain ⟨RR, hRR⟩ : ∃ RR : Nat, (XX : Int) / 2 ^ s = (RR : Int) ∧ Hid (RR = XX / 2 ^ s) := ⟨XX / 2 ^ s, div_pow XX s, rfl⟩
                  obtain ⟨hQQ, HQQ⟩ := hQQ
                  obtain ⟨hXX, HXX⟩ := hXX
                  obtain ⟨hRR, HRR⟩ := hRR
                  have HF : Hid (QQ = QZ ∧ RR = RZ) := (by have h := fin hF.out H1.out hq HV.out HQQ.out HXX.out HRR.out; exact ⟨h.1.trans hZ.out.1.symm, h.2.trans hZ.out.2.symm⟩)
                  clear hq L2
                  go_wp2_with fail
                  go_ret2
                  exact ⟨by rw [← HF.out.1, ← HF.out.2]; rfl, rfl⟩
                · have k3 : ¬ (4294967296 : Int) ≤ rm := by omega
                  have t' : TQ V Y A D qk rm := by rw [Hqk.out, Hrm.out]; exact t.next H2.out hbig (by rw [← Hrm.out]; omega)
                  have hlt : qk < qj := by rw [Hqk.out]; have := t.ge_pos H2.out hbig; omega
                  clear hbig
                  go_wp2_with fail
                  go_round
                  case rel => exact ⟨qk, rm, rfl, rfl, t'⟩
                  case measure => simp [intOf]; omega
              · have k2 : ¬ (m2 : Int) < m1 := by omega
                have hq : qj = (V * 4294967296 + D) / Y := t.done H2.out (by simp [big]; rw [← Hm1.out, ← Hm2.out]; omega)
                have L2 : qj < 4294967296 := by rw [hq]; exact H2.out.lt
                obtain ⟨QQ, hQQ⟩ : ∃ QQ : Nat, IntKind.u64.wrap (IntKind.u64.wrap ((qm : Int) * 4294967296) + (qj : Int)) = (QQ : Int) ∧ Hid (QQ = qm * 4294967296 + qj) := ⟨qm * 4294967296 + qj, by rw [IntKind.wrap_u64, IntKind.wrap_u64]; have := L1.out; have := L2; omega, rfl⟩
                obtain ⟨XX, hXX⟩ : ∃ XX : Nat, IntKind.u64.wrap (IntKind.u64.wrap (IntKind.u64.wrap ((V : Int) * 4294967296) + (D : Int)) - IntKind.u64.wrap ((qj : Int) * Y)) = (XX : Int) ∧ Hid (XX = (V * 4294967296 + D) % Y) := ⟨_, wrap_rest V D qj Y HY.out hq, rfl⟩
                obtain ⟨RR, hRR⟩ : ∃ RR : Nat, (XX : Int) / 2 ^ s = (RR : Int) ∧ Hid (RR = XX / 2 ^ s) := ⟨XX / 2 ^ s, div_pow XX s, rfl⟩
                obtain ⟨hQQ, HQQ⟩ := hQQ
                obtain ⟨hXX, HXX⟩ := hXX
                obtain ⟨hRR, HRR⟩ := hRR
                have HF : Hid (QQ = QZ ∧ RR = RZ) := (by have h := fin hF.out H1.out hq HV.out HQQ.out HXX.out HRR.out; exact ⟨h.1.trans hZ.out.1.symm, h.2.trans hZ.out.2.symm⟩)
                clear hq L2
                go_wp2_with fail
                go_ret2
                exact ⟨by rw [← HF.out.1, ← HF.out.2]; rfl, rfl⟩
        · have k3 : ¬ (4294967296 : Int) ≤ rm := by omega
          have t' : TQ U Y A C qm rm := by rw [Hqm.out, Hrm.out]; exact t.next T.out hbig (by rw [← Hrm.out]; omega)
          have hlt : qm < qh := by rw [Hqm.out]; have := t.ge_pos T.out hbig; omega
          clear hbig
          go_wp2_with fail
          go_round
          case rel => exact ⟨qm, rm, rfl, rfl, t'⟩
          case measure => simp [intOf]; omega
      · have k2 : ¬ (m2 : Int) < m1 := by omega
        have hq : qh = (U * 4294967296 + C) / Y := t.done T.out (by simp [big]; rw [← Hm1.out, ← Hm2.out]; omega)
        have H1 : Hid (qh = (U * 4294967296 + C) / Y) := hq
        have L1 : Hid (qh < 4294967296) := by show qh < _; rw [hq]; exact T.out.lt
        obtain ⟨V, hV⟩ : ∃ V : Nat, IntKind.u64.wrap (IntKind.u64.wrap (IntKind.u64.wrap ((U : Int) * 4294967296) + (C : Int)) - IntKind.u64.wrap ((qh : Int) * Y)) = (V : Int) ∧ Hid (V = (U * 4294967296 + C) % Y) := ⟨_, wrap_rest U C qh Y HY.out hq, rfl⟩
        obtain ⟨hV, HV⟩ := hV
        have H2 : Hid (TH V Y A B D) := by have h := T.out; have h2 := h.u; exact ⟨h.y, h.a0, h.a1, h.b, hD1.out, by rw [HV.out]; exact Nat.mod_lt _ (by omega)⟩
        have hVl : V < 18446744073709551616 := by have := H2.out.u; have := HY.out; omega
        obtain ⟨q2, hq2⟩ : ∃ q2 : Nat, IntKind.u64.wrap ((V : Int) / A) = (q2 : Int) ∧ Hid (q2 = V / A) := ⟨V / A, wrap_div V A hVl, rfl⟩
        obtain ⟨hq2, Hq2⟩ := hq2
        obtain ⟨r2, hr2⟩ : ∃ r2 : Nat, IntKind.u64.wrap ((V : Int) - IntKind.u64.wrap ((q2 : Int) * A)) = (r2 : Int) ∧ Hid (r2 = V % A) := ⟨V % A, by rw [Hq2.out]; exact wrap_mod V A hVl, rfl⟩
        obtain ⟨hr2, Hr2⟩ := hr2
        have S2 : Hid (TQ V Y A D q2 r2) := by show TQ V Y A D q2 r2; rw [Hq2.out, Hr2.out]; exact TQ.start H2.out
        clear hq hVl
        go_wp2_with fail
        clear k1 c1
        go_loop [16, 18] (fun rv qv => ∃ qj rh : Nat, qv = .int .u64 qj ∧ rv = .int .u64 rh ∧ TQ V Y A D qj rh) (fun _ qv => (intOf qv).toNat)
        case atStart => exact ⟨_, _, rfl, rfl, S2.out⟩
        case round =>
          obtain ⟨qj, rh, rfl, rfl, t⟩ := hrel
          by_cases c1 : 4294967296 ≤ qj
          · have k1 : (4294967296 : Int) ≤ qj := by omega
            have hbig : big B D qj rh = true := by simp [big, c1]
            obtain ⟨qk, hqk⟩ : ∃ qk : Nat, IntKind.u64.wrap ((qj : Int) - 1) = (qk : Int) ∧ Hid (qk = qj - 1) := ⟨qj - 1, by rw [IntKind.wrap_u64]; have := t.ge_pos H2.out hbig; have := t.q_lt H2.out; omega, rfl⟩
            obtain ⟨rm, hrm⟩ : ∃ rm : Nat, IntKind.u64.wrap ((rh : Int) + A) = (rm : Int) ∧ Hid (rm = rh + A) := ⟨rh + A, by rw [IntKind.wrap_u64]; have := t.lt; have := H2.out.a1; omega, rfl⟩
            obtain ⟨hqk, Hqk⟩ := hqk
            obtain ⟨hrm, Hrm⟩ := hrm
            by_cases c3 : 4294967296 ≤ rm
            · have k3 : (4294967296 : Int) ≤ rm := by omega
              have hq : qk = (V * 4294967296 + D) / Y := by rw [Hqk.out]; exact t.brk H2.out hbig (by rw [← Hrm.out]; exact c3)
              clear hbig
              have L2 : qk < 4294967296 := by rw [hq]; exact H2.out.lt
              obtain ⟨QQ, hQQ⟩ : ∃ QQ : Nat, IntKind.u64.wrap (IntKind.u64.wrap ((qh : Int) * 4294967296) + (qk : Int)) = (QQ : Int) ∧ Hid (QQ = qh * 4294967296 + qk) := ⟨qh * 4294967296 + qk, by rw [IntKind.wrap_u64, IntKind.wrap_u64]; have := L1.out; have := L2; omega, rfl⟩
              obtain ⟨XX, hXX⟩ : ∃ XX : Nat, IntKind.u64.wrap (IntKind.u64.wrap (IntKind.u64.wrap ((V : Int) * 4294967296) + (D : Int)) - IntKind.u64.wrap ((qk : Int) * Y)) = (XX : Int) ∧ Hid (XX = (V * 4294967296 + D) % Y) := ⟨_, wrap_rest V D qk Y HY.out hq, rfl⟩
              obtain ⟨RR, hRR⟩ : ∃ RR : Nat, (XX : Int) / 2 ^ s = (RR : Int) ∧ Hid (RR = XX / 2 ^ s) := ⟨XX / 2 ^ s, div_pow XX s, rfl⟩
              obtain ⟨hQQ, HQQ⟩ := hQQ
              obtain ⟨hXX, HXX⟩ := hXX
              obtain ⟨hRR, HRR⟩ := hRR
              have HF : Hid (QQ = QZ ∧ RR = RZ) := (by have h := fin hF.out H1.out hq HV.out HQQ.out HXX.out HRR.out; exact ⟨h.1.trans hZ.out.1.symm, h.2.trans hZ.out.2.symm⟩)
              clear hq L2
              go_wp2_with fail
              go_ret2
              exact ⟨by rw [← HF.out.1, ← HF.out.2]; rfl, rfl⟩
            · have k3 : ¬ (4294967296 : Int) ≤ rm := by omega
              have t' : TQ V Y A D qk rm := by rw [Hqk.out, Hrm.out]; exact t.next H2.out hbig (by rw [← Hrm.out]; omega)
              have hlt : qk < qj := by rw [Hqk.out]; have := t.ge_pos H2.out hbig; omega
              clear hbig
              go_wp2_with fail
              go_round
              case rel => exact ⟨qk, rm, rfl, rfl, t'⟩
              case measure => simp [intOf]; omega
          · have k1 : ¬ (4294967296 : Int) ≤ qj := by omega
            obtain ⟨m1, hm1⟩ : ∃ m1 : Nat, IntKind.u64.wrap ((qj : Int) * B) = (m1 : Int) ∧ Hid (m1 = qj * B) := ⟨qj * B, wrap_mul qj B (by omega) H2.out.b, rfl⟩
            obtain ⟨m2, hm2⟩ : ∃ m2 : Nat, IntKind.u64.wrap (IntKind.u64.wrap (4294967296 * (rh : Int)) + D) = (m2 : Int) ∧ Hid (m2 = 4294967296 * rh + D) := ⟨4294967296 * rh + D, by rw [IntKind.wrap_u64, IntKind.wrap_u64]; have := t.lt; have := H2.out.c; omega, rfl⟩
            obtain ⟨hm1, Hm1⟩ := hm1
            obtain ⟨hm2, Hm2⟩ := hm2
            by_cases c2 : m2 < m1
            · have k2 : (m2 : Int) < m1 := by omega
              have hbig : big B D qj rh = true := by simp [big]; right; rw [← Hm1.out, ← Hm2.out]; exact c2
              obtain ⟨qk, hqk⟩ : ∃ qk : Nat, IntKind.u64.wrap ((qj : Int) - 1) = (qk : Int) ∧ Hid (qk = qj - 1) := ⟨qj - 1, by rw [IntKind.wrap_u64]; have := t.ge_pos H2.out hbig; have := t.q_lt H2.out; omega, rfl⟩
              obtain ⟨rm, hrm⟩ : ∃ rm : Nat, IntKind.u64.wrap ((rh : Int) + A) = (rm : Int) ∧ Hid (rm = rh + A) := ⟨rh + A, by rw [IntKind.wrap_u64]; have := t.lt; have := H2.out.a1; omega, rfl⟩
              obtain ⟨hqk, Hqk⟩ := hqk
              obtain ⟨hrm, Hrm⟩ := hrm
              by_cases c3 : 4294967296 ≤ rm
              · have k3 : (4294967296 : Int) ≤ rm := by omega
                have hq : qk = (V * 4294967296 + D) / Y := by rw [Hqk.out]; exact t.brk H2.out hbig (by rw [← Hrm.out]; exact c3)
                clear hbig
                have L2 : qk < 4294967296 := by rw [hq]; exact H2.out.lt
                obtain ⟨QQ, hQQ⟩ : ∃ QQ : Nat, IntKind.u64.wrap (IntKind.u64.wrap ((qh : Int) * 4294967296) + (qk : Int)) = (QQ : Int) ∧ Hid (QQ = qh * 4294967296 + qk) := ⟨qh * 4294967296 + qk, by rw [IntKind.wrap_u64, IntKind.wrap_u64]; have := L1.out; have := L2; omega, rfl⟩
                obtain ⟨XX, hXX⟩ : ∃ XX : Nat, IntKind.u64.wrap (IntKind.u64.wrap (IntKind.u64.wrap ((V : Int) * 4294967296) + (D : Int)) - IntKind.u64.wrap ((qk : Int) * Y)) = (XX : Int) ∧ Hid (XX = (V * 4294967296 + D) % Y) := ⟨_, wrap_rest V D qk Y HY.out hq, rfl⟩
                obtain ⟨RR, hRR⟩ : ∃ RR : Nat, (XX : Int) / 2 ^ s = (RR : Int) ∧ Hid (RR = XX / 2 ^ s) := ⟨XX / 2 ^ s, div_pow XX s, rfl⟩
                obtain ⟨hQQ, HQQ⟩ := hQQ
                obtain ⟨hXX, HXX⟩ := hXX
                obtain ⟨hRR, HRR⟩ := hRR
                have HF : Hid (QQ = QZ ∧ RR = RZ) := (by have h := fin hF.out H1.out hq HV.out HQQ.out HXX.out HRR.out; exact ⟨h.1.trans hZ.out.1.symm, h.2.trans hZ.out.2.symm⟩)
                clear hq L2
                go_wp2_with fail
                go_ret2
                exact ⟨by rw [← HF.out.1, ← HF.out.2]; rfl, rfl⟩
              · have k3 : ¬ (4294967296 : Int) ≤ rm := by omega
                have t' : TQ V Y A D qk rm := by rw [Hqk.out, Hrm.out]; exact t.next H2.out hbig (by rw [← Hrm.out]; omega)
                have hlt : qk < qj := by rw [Hqk.out]; have := t.ge_pos H2.out hbig; omega
                clear hbig
                go_wp2_with fail
                go_round
                case rel => exact ⟨qk, rm, rfl, rfl, t'⟩
                case measure => simp [intOf]; omega
            · have k2 : ¬ (m2 : Int) < m1 := by omega
              have hq : qj = (V * 4294967296 + D) / Y := t.done H2.out (by simp [big]; rw [← Hm1.out, ← Hm2.out]; omega)
              have L2 : qj < 4294967296 := by rw [hq]; exact H2.out.lt
              obtain ⟨QQ, hQQ⟩ : ∃ QQ : Nat, IntKind.u64.wrap (IntKind.u64.wrap ((qh : Int) * 4294967296) + (qj : Int)) = (QQ : Int) ∧ Hid (QQ = qh * 4294967296 + qj) := ⟨qh * 4294967296 + qj, by rw [IntKind.wrap_u64, IntKind.wrap_u64]; have := L1.out; have := L2; omega, rfl⟩
              obtain ⟨XX, hXX⟩ : ∃ XX : Nat, IntKind.u64.wrap (IntKind.u64.wrap (IntKind.u64.wrap ((V : Int) * 4294967296) + (D : Int)) - IntKind.u64.wrap ((qj : Int) * Y)) = (XX : Int) ∧ Hid (XX = (V * 4294967296 + D) % Y) := ⟨_, wrap_rest V D qj Y HY.out hq, rfl⟩
              obtain ⟨RR, hRR⟩ : ∃ RR : Nat, (XX : Int) / 2 ^ s = (RR : Int) ∧ Hid (RR = XX / 2 ^ s) := ⟨XX / 2 ^ s, div_pow XX s, rfl⟩
              obtain ⟨hQQ, HQQ⟩ := hQQ
              obtain ⟨hXX, HXX⟩ := hXX
              obtain ⟨hRR, HRR⟩ := hRR
              have HF : Hid (QQ = QZ ∧ RR = RZ) := (by have h := fin hF.out H1.out hq HV.out HQQ.out HXX.out HRR.out; exact ⟨h.1.trans hZ.out.1.symm, h.2.trans hZ.out.2.symm⟩)
              clear hq L2
              go_wp2_with fail
              go_ret2
              exact ⟨by rw [← HF.out.1, ← HF.out.2]; rfl, rfl⟩

theorem glue (U L : Nat) : (U * 4294967296 + L / 4294967296) * 4294967296 + L % 4294967296 = U * 18446744073709551616 + L := by omega

set_option maxRecDepth 100000 in
set_option maxHeartbeats 400000 in
theorem div_big (hi lo y : Nat) (h0 : 0 < hi) (hy : hi < y) (hy1 : y < 18446744073709551616) (hlo : lo < 18446744073709551616) (w : World) :
    Calls Try.prog 25 #[.int .u64 hi, .int .u64 lo, .int .u64 y] w fun e w' => e = .returned (.tuple #[.int .u64 (((hi * 18446744073709551616 + lo) / y : Nat) : Int), .int .u64 (((hi * 18446744073709551616 + lo) % y : Nat) : Int)]) ∧ w' = w := by
  obtain ⟨s, hs, hz, hY0, hY1⟩ := lead_zeros y (by omega) hy1
  have cL := Try.bits_LeadingZeros64 y w (by omega) (by omega)
  rw [show ((y : Int)).toNat = y from Int.toNat_natCast y, hz] at cL
  have hpow : 0 < 2 ^ s := Nat.two_pow_pos s
  have hhi : hi * 2 ^ s < y * 2 ^ s := Nat.mul_lt_mul_of_pos_right hy hpow
  have hx : lo / 2 ^ (64 - s) < 2 ^ s := by
    rw [Nat.div_lt_iff_lt_mul (Nat.two_pow_pos _), ← Nat.pow_add, show s + (64 - s) = 64 by omega]
    exact hlo
  have hsh := shift_num hi lo s hs
  have hU : bits .or .u64 (IntKind.u64.wrap ((hi : Int) * 2 ^ s)) ((lo : Int) / 2 ^ (64 - s)) = ((hi * 2 ^ s + lo / 2 ^ (64 - s) : Nat) : Int) := by
    have e1 : IntKind.u64.wrap ((hi : Int) * 2 ^ s) = ((hi * 2 ^ s : Nat) : Int) := by
      rw [show (hi : Int) * 2 ^ s = ((hi * 2 ^ s : Nat) : Int) by rw [Int.natCast_mul, Int.natCast_pow]; rfl, IntKind.wrap_u64]
      omega
    have hxl : lo / 2 ^ (64 - s) ≤ lo := Nat.div_le_self _ _
    rw [e1, div_pow, bits_or_u64_nat _ _ (by omega) (by omega), or_low _ _ _ hx]
  have hL : IntKind.u64.wrap ((lo : Int) * 2 ^ s) = ((lo * 2 ^ s % 18446744073709551616 : Nat) : Int) := by
    rw [show (lo : Int) * 2 ^ s = ((lo * 2 ^ s : Nat) : Int) by rw [Int.natCast_mul, Int.natCast_pow]; rfl, IntKind.wrap_u64]
    omega
  have hYe : IntKind.u64.wrap ((y : Int) * 2 ^ s) = ((y * 2 ^ s : Nat) : Int) := by
    rw [show (y : Int) * 2 ^ s = ((y * 2 ^ s : Nat) : Int) by rw [Int.natCast_mul, Int.natCast_pow]; rfl, IntKind.wrap_u64]
    omega
  obtain ⟨Y, HY⟩ : ∃ Y, y * 2 ^ s = Y := ⟨_, rfl⟩
  obtain ⟨U, HU⟩ : ∃ U, hi * 2 ^ s + lo / 2 ^ (64 - s) = U := ⟨_, rfl⟩
  obtain ⟨L, HL⟩ : ∃ L, lo * 2 ^ s % 18446744073709551616 = L := ⟨_, rfl⟩
  have hLl : L < 18446744073709551616 := by rw [← HL]; exact Nat.mod_lt _ (by omega)
  have hUY : U < Y := by
    have h1 : (hi * 18446744073709551616 + lo) * 2 ^ s < y * 2 ^ s * 18446744073709551616 := by
      rw [Nat.mul_right_comm]
      refine Nat.mul_lt_mul_of_pos_right ?_ hpow
      omega
    rw [← hsh, HU, HL, HY] at h1
    omega
  rw [HY] at hY0 hY1 hYe
  rw [HU] at hU hsh
  rw [HL] at hL hsh
  have hT : TH U Y (Y / 4294967296) (Y % 4294967296) (L / 4294967296) := ⟨by omega, by omega, by omega, by omega, by omega, hUY⟩
  refine div_walk hi lo y s Y U L (Y / 4294967296) (Y % 4294967296) (L / 4294967296) (L % 4294967296) (U / (Y / 4294967296)) (U % (Y / 4294967296)) _ _ w h0 hy hs cL hYe hU hL (by omega) ?_ (by omega) ?_ (wrap_div _ _ (by omega)) (wrap_mod _ _ (by omega)) (by omega) hT (show _ < _ by omega) (show _ ∧ _ from ⟨hY1, by omega⟩) (TQ.start hT) ?_ (show _ ∧ _ from ⟨rfl, rfl⟩)
  · have := bits_and_u64_nat Y 4294967295 hY1 (by omega)
    rw [and_low] at this
    exact this
  · have := bits_and_u64_nat L 4294967295 hLl (by omega)
    rw [and_low] at this
    exact this
  · show _ ∧ _ ∧ _
    refine ⟨by omega, ?_, HY.symm⟩
    rw [← hsh]
    exact glue U L

set_option maxHeartbeats 400000 in
theorem div_any (hi lo y : Nat) (hy : hi < y) (hy1 : y < 18446744073709551616) (hlo : lo < 18446744073709551616) (w : World) :
    Calls Try.prog 25 #[.int .u64 hi, .int .u64 lo, .int .u64 y] w fun e w' => e = .returned (.tuple #[.int .u64 (((hi * 18446744073709551616 + lo) / y : Nat) : Int), .int .u64 (((hi * 18446744073709551616 + lo) % y : Nat) : Int)]) ∧ ∃ q, w' = w.drewN q := by
  by_cases h0 : hi = 0
  · subst h0
    have a1 : ((y : Int) == 0) = false := by simp; omega
    have a2 : ¬ (y : Int) ≤ 0 := by omega
    have a4 : ¬ (y : Int) = 0 := by omega
    have e1 := wrap_div lo y hlo
    have e2 : (lo : Int) % y = ((lo % y : Nat) : Int) := (Int.natCast_emod lo y).symm
    rw [show 0 * 18446744073709551616 + lo = lo by omega]
    obtain ⟨QZ, hQZ⟩ : ∃ z, lo / y = z := ⟨_, rfl⟩
    obtain ⟨RZ, hRZ⟩ : ∃ z, lo % y = z := ⟨_, rfl⟩
    rw [hQZ] at e1 ⊢
    rw [hRZ] at e2 ⊢
    clear hQZ hRZ
    go_enter Try.func25, Try.ntmps25
    go_wp2_with fail
    go_quiet (fail)
    go_wp2
    go_ret2
    exact ⟨by rw [← e2]; rfl, _, rfl⟩
  · exact (div_big hi lo y (by omega) hy hy1 hlo w).mono fun e w' ⟨h1, h2⟩ => ⟨h1, 0, h2⟩
end Go.Proofs.Qxb6614430a
