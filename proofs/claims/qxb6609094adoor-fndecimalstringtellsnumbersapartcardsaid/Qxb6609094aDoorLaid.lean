/-
  WHAT THE LISTED TABLES GIVE THE WALKS (both rows list the same three).
-/
import Derived.Test.Qxb6609094aDoorRows
import Derived.Test.Qxb6609094aDoorLA
import Derived.ProofKit
import Derived.LaidMore
import Derived.LaidSub
import Derived.OpenShut
import Derived.ShutString
import Derived.Stop.Joined
import Derived.Lib.LaidTab
namespace Go.Proofs.Qxb6609094aDoor
open Go.ChangeShapes Go.WideShapes Go.ChangeAt Go.WideMaps Go.WideElems Go.RowKit

theorem own : ownKnob Tryd.prog.godebug = Option.none := by kernel_rfl
/-- What both rows list. -/
def laid3 : List (String × DataW Unit) := [("math/bits.deBruijn32tab", Rows.laid_math_bits_deBruijn32tab), ("math/bits.deBruijn64tab", Rows.laid_math_bits_deBruijn64tab), ("internal/strconv.uint64pow10", Rows.laid_internal_strconv_uint64pow10)]
theorem gPow : Tryd.prog.globalNamed "internal/strconv.uint64pow10" = some 1 := by kernel_rfl
theorem tPow : (Tryd.prog.globals[1]?).map (·.type) = some 80 := by kernel_rfl
def tabOf {H : Type} : DataW H → List Value
  | .agg l => l.map fun | .lit (.int k n) => Value.int k n | _ => undef
  | _ => []
def layOn (w : World) : World := { w with heap := ((w.heap.setIfInBounds 1 (.cells (tabOf (H := Unit) Rows.laid_internal_strconv_uint64pow10).toArray 80)).setIfInBounds 3 (.cells (tabOf (H := Unit) Rows.laid_math_bits_deBruijn32tab).toArray 89)).setIfInBounds 4 (.cells (tabOf (H := Unit) Rows.laid_math_bits_deBruijn64tab).toArray 116) }
theorem z0 : ((begin Tryd.prog (fun _ _ => 0) default).world.heap[0]?).bind Obj.row? = some (#[.int .i64 0], 3) := by kernel_rfl
theorem z1 : ((begin Tryd.prog (fun _ _ => 0) default).world.heap[1]?).bind Obj.row? = some (Array.replicate 20 (.int .u64 0), 80) := by kernel_rfl
theorem z2 : ((begin Tryd.prog (fun _ _ => 0) default).world.heap[2]?).bind Obj.row? = some (#[.bool false], 4) := by kernel_rfl
theorem z3 : ((begin Tryd.prog (fun _ _ => 0) default).world.heap[3]?).bind Obj.row? = some (Array.replicate 32 (.int .u8 0), 89) := by kernel_rfl
theorem z4 : ((begin Tryd.prog (fun _ _ => 0) default).world.heap[4]?).bind Obj.row? = some (Array.replicate 64 (.int .u8 0), 116) := by kernel_rfl
theorem z5 : ((begin Tryd.prog (fun _ _ => 0) default).world.heap[5]?).bind Obj.row? = some (Array.replicate 1392 (.int .u64 0), 119) := by kernel_rfl
theorem z6 : ((begin Tryd.prog (fun _ _ => 0) default).world.heap[6]?).bind Obj.row? = some (#[.slice none 0 0], 124) := by kernel_rfl
theorem ts5 : Tryd.prog.cellTypes Tryd.prog.depth 119 = some (List.replicate 1392 38) := by kernel_rfl
theorem gsz : Tryd.prog.globals.size = 7 := by kernel_rfl
theorem h0 (os : Os) (args : Array Value) : ((layOn (World.holding Tryd.prog os ⟨#[], #[], []⟩)).forCall (fun _ _ => 0) ⟨#[], args, []⟩).heap[0]? = some (.cells #[.int .i64 0] 3) := by kernel_rfl
theorem h1 (os : Os) (args : Array Value) : ((layOn (World.holding Tryd.prog os ⟨#[], #[], []⟩)).forCall (fun _ _ => 0) ⟨#[], args, []⟩).heap[1]? = some (.cells (tabOf (H := Unit) Rows.laid_internal_strconv_uint64pow10).toArray 80) := by kernel_rfl
theorem h2 (os : Os) (args : Array Value) : ((layOn (World.holding Tryd.prog os ⟨#[], #[], []⟩)).forCall (fun _ _ => 0) ⟨#[], args, []⟩).heap[2]? = some (.cells #[.bool false] 4) := by kernel_rfl
theorem h3 (os : Os) (args : Array Value) : ((layOn (World.holding Tryd.prog os ⟨#[], #[], []⟩)).forCall (fun _ _ => 0) ⟨#[], args, []⟩).heap[3]? = some (.cells (tabOf (H := Unit) Rows.laid_math_bits_deBruijn32tab).toArray 89) := by kernel_rfl
theorem h4 (os : Os) (args : Array Value) : ((layOn (World.holding Tryd.prog os ⟨#[], #[], []⟩)).forCall (fun _ _ => 0) ⟨#[], args, []⟩).heap[4]? = some (.cells (tabOf (H := Unit) Rows.laid_math_bits_deBruijn64tab).toArray 116) := by kernel_rfl
theorem h5 (os : Os) (args : Array Value) : ((layOn (World.holding Tryd.prog os ⟨#[], #[], []⟩)).forCall (fun _ _ => 0) ⟨#[], args, []⟩).heap[5]? = some (.cells (Array.replicate 1392 (.int .u64 0)) 119) := by kernel_rfl
theorem h6 (os : Os) (args : Array Value) : ((layOn (World.holding Tryd.prog os ⟨#[], #[], []⟩)).forCall (fun _ _ => 0) ⟨#[], args, []⟩).heap[6]? = some (.cells #[.slice none 0 0] 124) := by kernel_rfl
theorem hr (os : Os) (args : Array Value) : ((((layOn (World.holding Tryd.prog os ⟨#[], #[], []⟩)).forCall (fun _ _ => 0) ⟨#[], args, []⟩).heap.toList.drop Tryd.prog.globals.size).take ((begin Tryd.prog (fun _ _ => 0) default).world.heap.size - Tryd.prog.globals.size) =
      (begin Tryd.prog (fun _ _ => 0) default).world.heap.toList.drop Tryd.prog.globals.size) := by kernel_rfl
theorem r1 : Row.okB Tryd.prog 80 (tabOf (H := Unit) Rows.laid_internal_strconv_uint64pow10).toArray = true := by kernel_rfl
theorem r3 : Row.okB Tryd.prog 89 (tabOf (H := Unit) Rows.laid_math_bits_deBruijn32tab).toArray = true := by kernel_rfl
theorem r4 : Row.okB Tryd.prog 116 (tabOf (H := Unit) Rows.laid_math_bits_deBruijn64tab).toArray = true := by kernel_rfl
theorem r6 : Row.okB Tryd.prog 124 #[.slice none 0 0] = true := by kernel_rfl
theorem c5 : Cell.okB Tryd.prog 38 (.int .u64 0) = true := by kernel_rfl

set_option maxRecDepth 100000 in
theorem row_rep (N : Nat) (hN : 0 < N) (w : World) (hts : Tryd.prog.cellTypes Tryd.prog.depth 119 = some (List.replicate N 38)) : Row.ok Tryd.prog w .any 0 119 (Array.replicate N (.int .u64 0)) := by
  refine ⟨_, hts, ⟨1, by simp⟩, fun i v hv => ⟨38, ?_, ?_⟩⟩
  · rw [List.length_replicate, List.getElem?_replicate, if_pos (Nat.mod_lt _ hN)]
  · have hm : v ∈ Array.replicate N (Value.int .u64 0) := Array.mem_of_getElem? hv
    rw [(Array.mem_replicate.1 hm).2]
    exact Cell.ok_of_okB (P := Tryd.prog) (t := 38) (v := .int .u64 0) c5
theorem row5 (w : World) : Row.ok Tryd.prog w .any 0 119 (Array.replicate 1392 (.int .u64 0)) := row_rep 1392 (by decide) w ts5

set_option maxRecDepth 100000 in
/-- THE START: the settled world, the three listed tables laid. -/
theorem shaped0 (os : Os) (args : Array Value) : ((layOn (World.holding Tryd.prog os ⟨#[], #[], []⟩)).forCall (fun _ _ => 0) ⟨#[], args, []⟩).Shaped Tryd.prog := by
  refine ⟨fun g zero t hg hz => ?_, fun k k1 k2 => ?_⟩
  case refine_2 =>
    have := congrArg (·[k - Tryd.prog.globals.size]?) (hr os args)
    simp only [List.getElem?_take, List.getElem?_drop, Array.getElem?_toList] at this
    rw [if_pos (by omega), Nat.add_sub_cancel' k1] at this
    exact this
  rw [gsz] at hg
  match g, hg with
  | 0, _ => obtain ⟨rfl, rfl⟩ := Prod.mk.inj (Option.some.inj (z0.symm.trans hz)); exact ⟨_, h0 os args, rfl, fun _ => Row.ok_of_okB (by kernel_rfl)⟩
  | 1, _ => obtain ⟨rfl, rfl⟩ := Prod.mk.inj (Option.some.inj (z1.symm.trans hz)); exact ⟨_, h1 os args, rfl, fun _ => Row.ok_of_okB r1⟩
  | 2, _ => obtain ⟨rfl, rfl⟩ := Prod.mk.inj (Option.some.inj (z2.symm.trans hz)); exact ⟨_, h2 os args, rfl, fun _ => Row.ok_of_okB (by kernel_rfl)⟩
  | 3, _ => obtain ⟨rfl, rfl⟩ := Prod.mk.inj (Option.some.inj (z3.symm.trans hz)); exact ⟨_, h3 os args, rfl, fun _ => Row.ok_of_okB r3⟩
  | 4, _ => obtain ⟨rfl, rfl⟩ := Prod.mk.inj (Option.some.inj (z4.symm.trans hz)); exact ⟨_, h4 os args, rfl, fun _ => Row.ok_of_okB r4⟩
  | 5, _ => obtain ⟨rfl, rfl⟩ := Prod.mk.inj (Option.some.inj (z5.symm.trans hz)); exact ⟨_, h5 os args, rfl, fun _ => row5 _⟩
  | 6, _ => obtain ⟨rfl, rfl⟩ := Prod.mk.inj (Option.some.inj (z6.symm.trans hz)); exact ⟨_, h6 os args, rfl, fun _ => Row.ok_of_okB r6⟩

theorem door_met (os : Os) (args : Array Value) : laidMetH Tryd.prog laid3 ((layOn (World.holding Tryd.prog os ⟨#[], #[], []⟩)).forCall (fun _ _ => 0) ⟨#[], args, []⟩).memory :=
  laidMetH_of_parts3 (fuel := 8) (laidMet_of_run' 8 (by kernel_rfl) (by kernel_rfl)) (by kernel_rfl) (by kernel_rfl)
theorem of_laid {W : World} (h : laidMetH Tryd.prog laid3 W) : Pow W ∧ 1 < W.heap.size := by
  rw [MakeChecks.laidMetH_plain _ _ _ (by kernel_rfl)] at h
  have h1 := laidMet.filter (fun x => x.1 == "internal/strconv.uint64pow10") h
  have e : laid3.filter (fun x => x.1 == "internal/strconv.uint64pow10") = [("internal/strconv.uint64pow10", Lib.tabData .u64 Lib.pow10Tab)] := by rfl
  rw [e] at h1
  have hp : Pow W := Lib.tabIs_of_head gPow tPow Tryd.underlying80 Tryd.underlying38 (by kernel_rfl) (by kernel_rfl) h1
  exact ⟨hp, block_lt_of_cell (Lib.TabIs.cell hp gPow 0 (by decide))⟩
end Go.Proofs.Qxb6609094aDoor
