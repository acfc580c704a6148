import Derived.Test.Qxb6605616aRows
import Derived.WalkKit
import Derived.WalkSpells
import Derived.WalkLawsBesides
import Derived.ProofKit
import Derived.OpenShut
import Derived.ShutString
import Derived.Below
namespace Go.Proofs.Qxb6605616a
set_option linter.unusedSimpArgs false
set_option linter.unusedVariables false
open Go.ChangeShapes Go.WideShapes Go.ChangeAt Go.RowKit

theorem assert26 (v : Value) (w : World) : (Instr.typeAssert (.iface 26 v) 65 26 true).run Try.prog w = .ok (.tuple #[v, .bool true]) w := by kernel_rfl
theorem assert26_28 (v : Value) (w : World) : (Instr.typeAssert (.iface 28 v) 65 26 true).run Try.prog w = .ok (.tuple #[.int .i64 0, .bool false]) w := by kernel_rfl
theorem assert26_30 (v : Value) (w : World) : (Instr.typeAssert (.iface 30 v) 65 26 true).run Try.prog w = .ok (.tuple #[.int .i64 0, .bool false]) w := by kernel_rfl
theorem assert28 (v : Value) (w : World) : (Instr.typeAssert (.iface 28 v) 65 28 true).run Try.prog w = .ok (.tuple #[v, .bool true]) w := by kernel_rfl
theorem assert28_30 (v : Value) (w : World) : (Instr.typeAssert (.iface 30 v) 65 28 true).run Try.prog w = .ok (.tuple #[.float .f64 0, .bool false]) w := by kernel_rfl
theorem assert30 (v : Value) (w : World) : (Instr.typeAssert (.iface 30 v) 65 30 true).run Try.prog w = .ok (.tuple #[v, .bool true]) w := by kernel_rfl

set_option maxHeartbeats 400000 in
theorem holds_nil (k : Int) (w : World) : Calls Try.prog 42 #[.int .u8 k, .nilIface] w fun e w' => e = .returned (.bool true) ∧ w' = w := by
  go_enter Try.func42, Try.ntmps42
  go_wp2
  go_ret
  exact ⟨rfl, rfl⟩

set_option maxHeartbeats 400000 in
theorem holds_int (k x : Int) (w : World) : Calls Try.prog 42 #[.int .u8 k, .iface 26 (.int .i64 x)] w fun e w' => e = .returned (.bool (k == 1)) ∧ w' = w := by
  have q0 := assert26
  go_enter Try.func42, Try.ntmps42
  go_wp2
  go_ret
  exact ⟨rfl, rfl⟩

set_option maxHeartbeats 400000 in
theorem holds_float (k : Int) (x : Nat) (w : World) : Calls Try.prog 42 #[.int .u8 k, .iface 28 (.float .f64 x)] w fun e w' => e = .returned (.bool (k == 2)) ∧ w' = w := by
  have q0 := assert26_28
  have q1 := assert28
  go_enter Try.func42, Try.ntmps42
  go_wp2
  go_ret
  exact ⟨rfl, rfl⟩

set_option maxHeartbeats 400000 in
theorem holds_string (k : Int) (s : ByteArray) (w : World) : Calls Try.prog 42 #[.int .u8 k, .iface 30 (.string s)] w fun e w' => e = .returned (.bool (k == 3)) ∧ w' = w := by
  have q0 := assert26_30
  have q1 := assert28_30
  have q2 := assert30
  go_enter Try.func42, Try.ntmps42
  go_wp2
  go_ret
  exact ⟨rfl, rfl⟩

set_option maxHeartbeats 400000 in
theorem zzHoldsNil (k : Int) (w : World) : Calls Try.prog 12 #[.int .u8 k] w fun e w' => e = .returned (.bool true) ∧ w' = w := by
  go_enter Try.func12, Try.ntmps12
  go_wp2_with (go_at_call 42; refine (holds_nil _ _).mono ?_; rintro e w' ⟨rfl, rfl⟩)
  go_ret
  exact ⟨rfl, rfl⟩
set_option maxHeartbeats 400000 in
theorem zzHoldsInt (k x : Int) (w : World) : Calls Try.prog 9 #[.int .u8 k, .int .i64 x] w fun e w' => e = .returned (.bool (k == 1)) ∧ w' = w := by
  go_enter Try.func9, Try.ntmps9
  go_wp2_with (go_at_call 42; refine (holds_int _ _ _).mono ?_; rintro e w' ⟨rfl, rfl⟩)
  go_ret
  exact ⟨rfl, rfl⟩
set_option maxHeartbeats 400000 in
theorem zzHoldsFloat (k : Int) (x : Nat) (w : World) : Calls Try.prog 10 #[.int .u8 k, .float .f64 x] w fun e w' => e = .returned (.bool (k == 2)) ∧ w' = w := by
  go_enter Try.func10, Try.ntmps10
  go_wp2_with (go_at_call 42; refine (holds_float _ _ _).mono ?_; rintro e w' ⟨rfl, rfl⟩)
  go_ret
  exact ⟨rfl, rfl⟩
set_option maxHeartbeats 400000 in
theorem zzHoldsString (k : Int) (s : ByteArray) (w : World) : Calls Try.prog 11 #[.int .u8 k, .string s] w fun e w' => e = .returned (.bool (k == 3)) ∧ w' = w := by
  go_enter Try.func11, Try.ntmps11
  go_wp2_with (go_at_call 42; refine (holds_string _ _ _).mono ?_; rintro e w' ⟨rfl, rfl⟩)
  go_ret
  exact ⟨rfl, rfl⟩

set_option maxHeartbeats 400000 in
theorem zzIntTag (x : Int) (w : World) : Calls Try.prog 13 #[.int .i64 x] w fun e w' => e = .returned (.int .u8 1) ∧ w' = w := by
  go_enter Try.func13, Try.ntmps13
  go_wp2
  go_ret
  exact ⟨rfl, rfl⟩
set_option maxHeartbeats 400000 in
theorem zzFloatTag (x : Nat) (w : World) : Calls Try.prog 14 #[.float .f64 x] w fun e w' => e = .returned (.int .u8 2) ∧ w' = w := by
  go_enter Try.func14, Try.ntmps14
  go_wp2
  go_ret
  exact ⟨rfl, rfl⟩
set_option maxHeartbeats 400000 in
theorem zzStringTag (s : ByteArray) (w : World) : Calls Try.prog 15 #[.string s] w fun e w' => e = .returned (.int .u8 3) ∧ w' = w := by
  go_enter Try.func15, Try.ntmps15
  go_wp2
  go_ret
  exact ⟨rfl, rfl⟩
set_option maxHeartbeats 400000 in
theorem zzTagOfNil (w : World) : Calls Try.prog 18 #[] w fun e w' => e = .returned (.int .u8 4) ∧ w' = w := by
  go_enter Try.func18, Try.ntmps18
  go_wp2
  go_ret
  exact ⟨rfl, rfl⟩

end Go.Proofs.Qxb6605616a
