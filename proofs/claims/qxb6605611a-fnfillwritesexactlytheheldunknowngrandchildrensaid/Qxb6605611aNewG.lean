import Derived.Test.Qxb6605611aCloneG
import Derived.Deep.RegionHeld3
namespace Go.Proofs.Qxb6605611a
set_option linter.unusedSimpArgs false
set_option linter.unusedVariables false
open Go.ChangeShapes Go.WideShapes Go.ChangeAt Go.RowKit

/-- The cells of a grandForm. -/
abbrev ol (nm : ByteArray) (p : Option Addr) (sr : Bool) (X : Nat → Int) (kn : Bool) (f : Value) : List Value := [.string nm, .string ByteArray.empty, .pointer p, .bool sr, .int .u8 (X 0), .int .u8 (X 1), .int .u8 (X 2), .int .u8 (X 3), .int .u8 (X 4), .int .u8 (X 5), .int .u8 (X 6), .int .u8 (X 7), .int .u8 (X 8), .int .u8 (X 9), .int .u8 (X 10), .int .u8 (X 11), .int .u8 (X 12), .int .u8 (X 13), .int .u8 (X 14), .int .u8 (X 15), .bool kn, f]
theorem ol_one (nm : ByteArray) (p : Option Addr) (sr : Bool) (X : Nat → Int) (kn : Bool) (f : Value) (hf : f.oneCell' = true) : ∀ v ∈ ol nm p sr X kn f, v.oneCell' = true := by
  intro v hv
  simp at hv
  rcases hv with h | h | h | h | h | h | h | h | h | h | h | h | h | h | h | h | h | h | h | h | h | h <;> subst h <;> first | rfl | exact hf
theorem ol_all (nm : ByteArray) (p : Option Addr) (sr : Bool) (X : Nat → Int) (kn : Bool) (f : Value) (hf : f.oneCell' = true) : (ol nm p sr X kn f).toArray.all (·.oneCell') = true := all_oneCell_toArray (ol_one nm p sr X kn f hf)
theorem size66 : (Try.prog.info? 66).map (·.size) = some 22 := by kernel_rfl

set_option maxHeartbeats 2000000 in
set_option maxRecDepth 100000 in
theorem newGrand (nm : ByteArray) (p : Option Addr) (sr : Bool) (X : Nat → Int) (kn : Bool) (fa : Option Addr) (fl fc : Nat) (w : World) :
    Calls Try.prog 35 #[.string nm, .agg #[.pointer p, .bool sr], .agg (idc X), .bool kn, .slice fa fl fc] w fun e w' => e = .returned (.agg (ol nm p sr X kn (.slice fa fl fc)).toArray) ∧
      w' = ((w.alloc (.cells #[.pointer p, .bool sr] 58)).alloc (.cells (idc X) 60)).alloc (.cells (ol nm p sr X kn (.slice fa fl fc)).toArray 66) := by
  go_enter Try.func35, Try.ntmps35
  go_wp2_with ((with_reducible show wpList _ _ _ ({ dst := none, op := Op.store 66 (Operand.tmp 10) (Operand.tmp 16), type := _, pos := _, after := _, guard := _ } :: _) _ _); refine wpList_store_new rfl 66 _ _ rfl _ (ol nm p sr X kn (.slice fa fl fc)).toArray (w.heap.size + 1 + 1) (by simp) rfl rfl size66 rfl (ol_all _ _ _ _ _ _ rfl) ?_)
  exact bodyPost_ret (v := .agg (ol nm p sr X kn (.slice fa fl fc)).toArray) (results_cell_row Try.results35 _ _ (w.heap.size + 1 + 1) 66 _ (0, 0) _ rfl (by rw [← show ((w.alloc (.cells #[.pointer p, .bool sr] 58)).alloc (.cells (idc X) 60)).heap.size = w.heap.size + 1 + 1 by simp]; exact heap_alloc_new _ _) Try.underlying66 rfl size66) rfl ⟨rfl, rfl⟩

end Go.Proofs.Qxb6605611a
