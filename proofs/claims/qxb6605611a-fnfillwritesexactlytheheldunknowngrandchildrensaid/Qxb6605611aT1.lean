import Derived.Test.Qxb6605611aArr
import Derived.Deep.RegionWith
namespace Go.Proofs.Qxb6605611a
set_option linter.unusedSimpArgs false
set_option linter.unusedVariables false
open Go.ChangeShapes Go.WideShapes Go.ChangeAt Go.RowKit

/-- The sixteen cells of an ID. -/
abbrev idc (X : Nat → Int) : Array Value := #[.int .u8 (X 0), .int .u8 (X 1), .int .u8 (X 2), .int .u8 (X 3), .int .u8 (X 4), .int .u8 (X 5), .int .u8 (X 6), .int .u8 (X 7), .int .u8 (X 8), .int .u8 (X 9), .int .u8 (X 10), .int .u8 (X 11), .int .u8 (X 12), .int .u8 (X 13), .int .u8 (X 14), .int .u8 (X 15)]
/-- The ID's numbers. -/
def idl (X : Nat → Int) : List Int := (List.range 16).map X
theorem idc_eq (X : Nat → Int) : idc X = (u8s (idl X)).toArray := rfl
theorem idl_length (X : Nat → Int) : (idl X).length = 16 := rfl
/-- The cells of a FillGrand. -/
abbrev gc (nm sn : ByteArray) (sr : Bool) (X : Nat → Int) (kn : Bool) (f : Value) : Array Value := #[.string nm, .string sn, .bool sr, .int .u8 (X 0), .int .u8 (X 1), .int .u8 (X 2), .int .u8 (X 3), .int .u8 (X 4), .int .u8 (X 5), .int .u8 (X 6), .int .u8 (X 7), .int .u8 (X 8), .int .u8 (X 9), .int .u8 (X 10), .int .u8 (X 11), .int .u8 (X 12), .int .u8 (X 13), .int .u8 (X 14), .int .u8 (X 15), .bool kn, f]
theorem eq46 (X Y : Nat → Int) (w : World) : (Op.equalIn 10000 46 (.agg (idc X)) (.agg (idc Y))).run Try.prog w = .ok (idl X == idl Y) w := by
  rw [idc_eq, idc_eq]
  exact run_equalIn_arr 9998 46 Try.underlying46 _ _ (idl_length X) (idl_length Y) w
theorem under60 : Try.prog.underlying 60 = some (.array 16 5) := by kernel_rfl
theorem eq60 (X Y : Nat → Int) (w : World) : (Op.equalIn 10000 60 (.agg (idc X)) (.agg (idc Y))).run Try.prog w = .ok (idl X == idl Y) w := by
  rw [idc_eq, idc_eq]
  exact run_equalIn_arr 9998 60 under60 _ _ (idl_length X) (idl_length Y) w

def heldB (via sn : ByteArray) (vr sr kn ne : Bool) : Bool := !kn && ne && !((sn.toList == via.toList) && (sr != vr))

set_option maxHeartbeats 1000000 in
theorem held1 (via : ByteArray) (vr : Bool) (H X : Nat → Int) (nm sn : ByteArray) (sr kn : Bool) (f : Value) (w : World) :
    Calls Try.prog 28 #[.string via, .bool vr, .agg (idc H), .agg (gc nm sn sr X kn f)] w fun e w' => e = .returned (.bool (heldB via sn vr sr kn (!(idl X == idl H)))) ∧ Below w.heap.size w w' := by
  have e46 := eq46 X H
  generalize hq : (idl X == idl H) = q at *
  clear hq
  cases h1 : (sn.toList == via.toList) <;> cases kn <;> cases q <;>
  · go_enter Try.func28, Try.ntmps28
    go_wp2
    go_ret
    exact ⟨by cases sr <;> cases vr <;> simp [heldB, h1], ((Below.refl _ _).alloc (Nat.le_refl _) _).alloc (by simp) _⟩
end Go.Proofs.Qxb6605611a
