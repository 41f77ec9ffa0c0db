/-
  THE WALKS of isDigit, decimalWellFormed, the guards on lengths, and decimal.String.
-/
import Derived.Test.Qxb6609094aDoorRows
import Derived.Test.Qxb6609094aDoorShelf
import Derived.WalkKit
import Derived.WalkSpells
import Derived.WalkLawsBesides
import Derived.Lib.Strings
import Derived.Deep.DeepCutAuto
import Derived.Deep.CutBlock
import Derived.Deep.QuietTactic
import Derived.BigQuiet
namespace Go.Proofs.Qxb6609094aDoor
open Go.RowKit

def digB (c : UInt8) : Bool := decide (48 ≤ c.toNat) && decide (c.toNat ≤ 57)
theorem ret_b {a b : Bool} (h : a = b) : Ending.returned (.bool a) = .returned (.bool b) := by rw [h]

set_option maxHeartbeats 400000 in
theorem isDigit_any (c : UInt8) (w : World) :
    Calls Tryd.prog 17 #[.int .u8 (c.toNat : Int)] w fun e w' => e = .returned (.bool (digB c)) ∧ w' = w := by
  by_cases h1 : (48 : Int) ≤ c.toNat
  · by_cases h2 : (c.toNat : Int) ≤ 57
    · go_enter Tryd.func17, Tryd.ntmps17
      go_wp2
      go_ret
      exact ⟨ret_b (by simp [digB]; omega), rfl⟩
    · go_enter Tryd.func17, Tryd.ntmps17
      go_wp2
      go_ret
      exact ⟨ret_b (by simp [digB]; omega), rfl⟩
  · go_enter Tryd.func17, Tryd.ntmps17
    go_wp2
    go_ret
    exact ⟨ret_b (by simp [digB]; omega), rfl⟩

/-- What String holds while it writes: the boxed decimal (block B), the builder (block B + 1) with the bytes l, all below B as it was. -/
structure SB (w : World) (neg : Bool) (d : ByteArray) (n : Int) (l : List UInt8) (wr : World) : Prop where
  c0 : wr.cell? ⟨w.heap.size, 0, none⟩ = some (.bool neg)
  c1 : wr.cell? ⟨w.heap.size, 1, none⟩ = some (.string d)
  c2 : wr.cell? ⟨w.heap.size, 2, none⟩ = some (.int .i64 n)
  bld : Lib.IsBuilder 45 5 (w.heap.size + 1) (w.heap.size + 1) (Lib.byteCells l) wr
  bel : Below w.heap.size w wr
  sz : w.heap.size + 1 < wr.heap.size

theorem builder_lt {T e : TypeId} {B b : Nat} {bs : List Value} {w : World} (h : Lib.IsBuilder T e B b bs w) : b < w.heap.size := by
  rcases h with h | h <;> exact h.lt

theorem owns_below {w w' : World} {B : Nat} {e : TypeId} {size n : Nat} {v : Value} {xs : List Value} (h : w.ownsRow B e size v n xs) (hb : Below w.heap.size w w') : w'.ownsRow B e size v n xs :=
  h.kept (row := Option.none) ⟨hb.os, hb.tape, hb.output, hb.size, fun k hk _ => hb.block k hk⟩ (by
    cases hv : v.ownBlock with
    | none => exact .inl rfl
    | some k => exact .inr (by simp))

theorem builder_below {T e : TypeId} {B b : Nat} {bs : List Value} {w w' : World} (h : Lib.IsBuilder T e B b bs w) (hb : Below w.heap.size w w') : Lib.IsBuilder T e B b bs w' := by
  have hlt := builder_lt h
  rcases h with ⟨h1, v, h2, h3, h4⟩ | ⟨h1, v, h2, h3, h4⟩
  · exact .inl ⟨h1, v, (hb.block b hlt).trans h2, owns_below h3 hb, h4⟩
  · exact .inr ⟨h1, v, (hb.block b hlt).trans h2, owns_below h3 hb, h4⟩

theorem SB.on {w wr w' : World} {neg : Bool} {d : ByteArray} {n : Int} {l : List UInt8} (h : SB w neg d n l wr) (hb : Below wr.heap.size wr w') : SB w neg d n l w' := by
  have hz := h.sz
  have hz1 := hb.size
  exact ⟨(hb.cell (p := ⟨w.heap.size, 0, none⟩) (by simp; omega)).trans h.c0, (hb.cell (p := ⟨w.heap.size, 1, none⟩) (by simp; omega)).trans h.c1, (hb.cell (p := ⟨w.heap.size, 2, none⟩) (by simp; omega)).trans h.c2,
    builder_below h.bld hb, h.bel.trans (hb.mono h.bel.size), by omega⟩

theorem SB.writeByte {w wr : World} {neg : Bool} {d : ByteArray} {n : Int} {l : List UInt8} (h : SB w neg d n l wr) (c : UInt8) (hl : l.length + 1 ≤ 4000000) :
    Calls Tryd.prog 21 #[.pointer (some ⟨w.heap.size + 1, 0, none⟩), .int .u8 (c.toNat : Int)] wr fun e w' => e = .returned .nilIface ∧ SB w neg d n (l ++ [c]) w' := by
  refine (Tryd.Builder_WriteByte (w.heap.size + 1) (w.heap.size + 1) (Lib.byteCells l) (c.toNat : Int) wr h.bld (by rw [Lib.byteCells_length]; omega) (by have := h.sz; omega)).mono ?_
  rintro e w' ⟨rfl, hbd, hb⟩
  have e1 : Lib.byteCells l ++ [.int .u8 (c.toNat : Int)] = Lib.byteCells (l ++ [c]) := by simp [Lib.byteCells]
  rw [e1] at hbd
  exact ⟨rfl, (hb.cell (p := ⟨w.heap.size, 0, none⟩) (by simp)).trans h.c0, (hb.cell (p := ⟨w.heap.size, 1, none⟩) (by simp)).trans h.c1, (hb.cell (p := ⟨w.heap.size, 2, none⟩) (by simp)).trans h.c2, .inr hbd, h.bel.trans (hb.mono (by omega)), hbd.lt⟩

theorem SB.writeStr {w wr : World} {neg : Bool} {d : ByteArray} {n : Int} {l : List UInt8} (h : SB w neg d n l wr) (s : ByteArray) (hl : l.length + s.size ≤ 4000000) :
    Calls Tryd.prog 22 #[.pointer (some ⟨w.heap.size + 1, 0, none⟩), .string s] wr fun e w' => e = .returned (.tuple #[.int .i64 s.size, .nilIface]) ∧ SB w neg d n (l ++ s.data.toList) w' := by
  refine (Tryd.Builder_WriteString (w.heap.size + 1) (w.heap.size + 1) (Lib.byteCells l) s wr h.bld (by rw [Lib.byteCells_length]; omega) (by have := h.sz; omega)).mono ?_
  rintro e w' ⟨rfl, hbd, hb⟩
  have e1 : Lib.byteCells l ++ Lib.strCells s = Lib.byteCells (l ++ s.data.toList) := by rw [Lib.strCells_eq, Lib.byteCells_append]
  rw [e1] at hbd
  exact ⟨rfl, (hb.cell (p := ⟨w.heap.size, 0, none⟩) (by simp)).trans h.c0, (hb.cell (p := ⟨w.heap.size, 1, none⟩) (by simp)).trans h.c1, (hb.cell (p := ⟨w.heap.size, 2, none⟩) (by simp)).trans h.c2, .inr hbd, h.bel.trans (hb.mono (by omega)), hbd.lt⟩

theorem SB.string {w wr : World} {neg : Bool} {d : ByteArray} {n : Int} {l : List UInt8} (h : SB w neg d n l wr) :
    Calls Tryd.prog 25 #[.pointer (some ⟨w.heap.size + 1, 0, none⟩)] wr fun e w' => e = .returned (.string ⟨l.toArray⟩) ∧ Below w.heap.size w w' := by
  refine (Tryd.Builder_String_any (w.heap.size + 1) (w.heap.size + 1) l wr h.bld (by have := h.sz; omega)).mono ?_
  rintro e w' ⟨rfl, hb⟩
  exact ⟨rfl, h.bel.trans (hb.mono (by omega))⟩
end Go.Proofs.Qxb6609094aDoor
