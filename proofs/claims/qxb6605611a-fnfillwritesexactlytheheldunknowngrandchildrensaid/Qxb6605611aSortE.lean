import Derived.Test.Qxb6605611aGrow
namespace Go.Proofs.Qxb6605611a
set_option linter.unusedSimpArgs false
set_option linter.unusedVariables false
open Go.ChangeShapes Go.WideShapes Go.ChangeAt Go.RowKit

set_option maxHeartbeats 1000000 in
set_option maxRecDepth 100000 in
theorem len64_0 (w : World) : Calls Try.prog 85 #[.int .u64 0] w fun e w' => e = .returned (.int .i64 0) ∧ w' = w := by
  go_enter Try.func85, Try.ntmps85
  go_wp2
  go_ret
  exact ⟨by kernel_rfl, rfl⟩

set_option maxHeartbeats 1000000 in
set_option maxRecDepth 100000 in
theorem len_0 (w : World) : Calls Try.prog 67 #[.int .u64 0] w fun e w' => e = .returned (.int .i64 0) ∧ w' = w := by
  go_enter Try.func67, Try.ntmps67
  go_wp2_with (go_at_call 85; refine (len64_0 w).mono ?_; rintro e w' ⟨rfl, rfl⟩)
  go_ret
  exact ⟨rfl, rfl⟩

set_option maxHeartbeats 1000000 in
set_option maxRecDepth 100000 in
theorem insert_0 (a : Option Addr) (c : Nat) (f : Value) (w : World) : Calls Try.prog 76 #[.slice a 0 c, .int .i64 0, .int .i64 0, f] w fun e w' => e = .returned (.tuple #[]) ∧ w' = w := by
  go_enter Try.func76, Try.ntmps76
  go_wp2
  go_loopw [8] (fun i wr => i = .int .i64 1 ∧ wr = w) (fun _ _ => 0)
  case atStart => exact ⟨rfl, rfl⟩
  case round =>
    obtain ⟨rfl, rfl⟩ := hrel
    go_wp2
    exact bodyPost_end (v := .tuple #[]) (by simp [results, Try.results76, go_sem]) rfl ⟨rfl, rfl⟩

set_option maxHeartbeats 2000000 in
set_option maxRecDepth 100000 in
theorem pdq_0 (a : Option Addr) (c : Nat) (f : Value) (w : World) : Calls Try.prog 66 #[.slice a 0 c, .int .i64 0, .int .i64 0, .int .i64 0, f] w fun e w' => e = .returned (.tuple #[]) ∧ w' = w := by
  go_enter Try.func66, Try.ntmps66
  go_wp2
  go_loopw [1, 2, 3, 10, 11] (fun x y z p q wr => x = .int .i64 0 ∧ y = .int .i64 0 ∧ wr = w) (fun _ _ _ _ _ _ => 0)
  case atStart => exact ⟨rfl, rfl, rfl⟩
  case round =>
    obtain ⟨rfl, rfl, rfl⟩ := hrel
    go_wp2_with (go_at_call 76; refine (insert_0 a c f _).mono ?_; rintro e w' ⟨rfl, rfl⟩)
    exact bodyPost_ret (v := .tuple #[]) (by simp [results, Try.results66, go_sem]) rfl ⟨rfl, rfl⟩

set_option maxHeartbeats 2000000 in
set_option maxRecDepth 100000 in
theorem sort_0 (a : Option Addr) (c : Nat) (f : Value) (w : World) : Calls Try.prog 51 #[.slice a 0 c, f] w fun e w' => e = .returned (.tuple #[]) ∧ w' = w := by
  go_enter Try.func51, Try.ntmps51
  go_wp2_with (first | (go_at_call 67; refine (len_0 _).mono ?_; rintro e w' ⟨rfl, rfl⟩) | (go_at_call 66; refine (pdq_0 a c f _).mono ?_; rintro e w' ⟨rfl, rfl⟩))
  exact bodyPost_end (v := .tuple #[]) (by simp [results, Try.results51, go_sem]) rfl ⟨rfl, rfl⟩

end Go.Proofs.Qxb6605611a
