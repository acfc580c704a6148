import Derived.Test.Qxb6605616aBase
namespace Go.Proofs.Qxb6605616a
set_option linter.unusedSimpArgs false
set_option linter.unusedVariables false
open Go.ChangeShapes Go.WideShapes Go.ChangeAt Go.RowKit

set_option maxHeartbeats 400000 in
theorem zzBytes16 (s : ByteArray) (k : Int) (w : World) : Calls Try.prog 16 #[.string s, .int .u8 k] w fun e w' => e = .returned (.bool (decide (s.size ≤ 1048576))) ∧ w' = w := by
  by_cases h : s.size ≤ 1048576
  · rw [decide_eq_true h]
    go_enter Try.func16, Try.ntmps16
    go_wp2
    go_ret
    exact ⟨rfl, rfl⟩
  · rw [decide_eq_false h]
    go_enter Try.func16, Try.ntmps16
    go_wp2
    go_ret
    exact ⟨rfl, rfl⟩

set_option maxHeartbeats 400000 in
theorem zzBytes8 (k x : Int) (f : Nat) (s : ByteArray) (w : World) : Calls Try.prog 8 #[.int .u8 k, .int .i64 x, .float .f64 f, .string s] w fun e w' => e = .returned (.bool (decide (s.size ≤ 1048576))) ∧ w' = w := by
  by_cases h : s.size ≤ 1048576
  · rw [decide_eq_true h]
    go_enter Try.func8, Try.ntmps8
    go_wp2
    go_ret
    exact ⟨rfl, rfl⟩
  · rw [decide_eq_false h]
    go_enter Try.func8, Try.ntmps8
    go_wp2
    go_ret
    exact ⟨rfl, rfl⟩

set_option maxHeartbeats 400000 in
theorem zzBytes17 (x : Int) (f : Nat) (s t : ByteArray) (w : World) : Calls Try.prog 17 #[.int .i64 x, .float .f64 f, .string s, .string t] w fun e w' => e = .returned (.bool (decide (s.size + t.size ≤ 1048576))) ∧ w' = w := by
  by_cases h1 : s.size ≤ 1048576
  · by_cases h2 : t.size ≤ 1048576
    · by_cases h3 : s.size + t.size ≤ 1048576
      · rw [decide_eq_true h3]
        go_enter Try.func17, Try.ntmps17
        go_wp2
        go_ret
        exact ⟨rfl, rfl⟩
      · rw [decide_eq_false h3]
        go_enter Try.func17, Try.ntmps17
        go_wp2
        go_ret
        exact ⟨rfl, rfl⟩
    · rw [decide_eq_false (by omega)]
      go_enter Try.func17, Try.ntmps17
      go_wp2
      go_ret
      exact ⟨rfl, rfl⟩
  · rw [decide_eq_false (by omega)]
    go_enter Try.func17, Try.ntmps17
    go_wp2
    go_ret
    exact ⟨rfl, rfl⟩

set_option maxHeartbeats 400000 in
theorem walk4 (s : ByteArray) (k : Int) (w : World) : Calls Try.prog 4 #[.string s, .int .u8 k] w fun e w' => e = .returned (.bool true) ∧ w' = w := by
  by_cases h : s.size ≤ 1048576
  case neg =>
    go_enter Try.func4, Try.ntmps4
    go_wp2_with (go_at_call 16; refine (zzBytes16 _ _ _).mono ?_; rw [decide_eq_false h]; rintro e w' ⟨rfl, rfl⟩)
    go_ret
    exact ⟨rfl, rfl⟩
  go_enter Try.func4, Try.ntmps4
  go_wp2_with (first | (go_at_call 16; refine (zzBytes16 _ _ _).mono ?_; rw [decide_eq_true h]; rintro e w' ⟨rfl, rfl⟩) | (go_at_call 15; refine (zzStringTag _ _).mono ?_; rintro e w' ⟨rfl, rfl⟩) | (go_at_call 11; refine (zzHoldsString _ _ _).mono ?_; rintro e w' ⟨rfl, rfl⟩))
  go_ret
  exact ⟨by simp, rfl⟩

set_option maxHeartbeats 400000 in
theorem walk5 (x : Int) (f : Nat) (s t : ByteArray) (w : World) : Calls Try.prog 5 #[.int .i64 x, .float .f64 f, .string s, .string t] w fun e w' => e = .returned (.bool true) ∧ w' = w := by
  by_cases h : s.size + t.size ≤ 1048576
  case neg =>
    go_enter Try.func5, Try.ntmps5
    go_wp2_with (go_at_call 17; refine (zzBytes17 _ _ _ _ _).mono ?_; rw [decide_eq_false h]; rintro e w' ⟨rfl, rfl⟩)
    go_ret
    exact ⟨rfl, rfl⟩
  go_enter Try.func5, Try.ntmps5
  go_wp2_with (first | (go_at_call 17; refine (zzBytes17 _ _ _ _ _).mono ?_; rw [decide_eq_true h]; rintro e w' ⟨rfl, rfl⟩) | (go_at_call 15; refine (zzStringTag _ _).mono ?_; rintro e w' ⟨rfl, rfl⟩) | (go_at_call 13; refine (zzIntTag _ _).mono ?_; rintro e w' ⟨rfl, rfl⟩) | (go_at_call 14; refine (zzFloatTag _ _).mono ?_; rintro e w' ⟨rfl, rfl⟩) | (go_at_call 18; refine (zzTagOfNil _).mono ?_; rintro e w' ⟨rfl, rfl⟩))
  go_ret
  exact ⟨rfl, rfl⟩

set_option maxHeartbeats 1000000 in
theorem walk3 (k x : Int) (f : Nat) (s : ByteArray) (w : World) (h0 : 0 ≤ k) : Calls Try.prog 3 #[.int .u8 k, .int .i64 x, .float .f64 f, .string s] w fun e w' => e = .returned (.bool true) ∧ w' = w := by
  by_cases h : s.size ≤ 1048576
  case neg =>
    go_enter Try.func3, Try.ntmps3
    go_wp2_with (go_at_call 8; refine (zzBytes8 _ _ _ _ _).mono ?_; rw [decide_eq_false h]; rintro e w' ⟨rfl, rfl⟩)
    go_ret
    exact ⟨rfl, rfl⟩
  have hk : k = 1 ∨ k = 2 ∨ k = 3 ∨ k = 0 ∨ 4 ≤ k := by omega
  rcases hk with rfl | rfl | rfl | rfl | hk
  case inr.inr.inr.inr =>
    have e1 : (k == 1) = false := beq_eq_false_iff_ne.2 (by omega)
    have e2 : (k == 2) = false := beq_eq_false_iff_ne.2 (by omega)
    have e3 : (k == 3) = false := beq_eq_false_iff_ne.2 (by omega)
    go_enter Try.func3, Try.ntmps3
    go_wp2_with (first | (go_at_call 8; refine (zzBytes8 _ _ _ _ _).mono ?_; rw [decide_eq_true h]; rintro e w' ⟨rfl, rfl⟩) | (go_at_call 15; refine (zzStringTag _ _).mono ?_; rintro e w' ⟨rfl, rfl⟩) | (go_at_call 13; refine (zzIntTag _ _).mono ?_; rintro e w' ⟨rfl, rfl⟩) | (go_at_call 14; refine (zzFloatTag _ _).mono ?_; rintro e w' ⟨rfl, rfl⟩) | (go_at_call 12; refine (zzHoldsNil _ _).mono ?_; rintro e w' ⟨rfl, rfl⟩) | (go_at_call 9; refine (zzHoldsInt _ _ _).mono ?_; rw [e1]; rintro e w' ⟨rfl, rfl⟩) | (go_at_call 10; refine (zzHoldsFloat _ _ _).mono ?_; rw [e2]; rintro e w' ⟨rfl, rfl⟩) | (go_at_call 11; refine (zzHoldsString _ _ _).mono ?_; rw [e3]; rintro e w' ⟨rfl, rfl⟩))
    go_ret
    exact ⟨by simp; omega, rfl⟩
  all_goals
    go_enter Try.func3, Try.ntmps3
    go_wp2_with (first | (go_at_call 8; refine (zzBytes8 _ _ _ _ _).mono ?_; rw [decide_eq_true h]; rintro e w' ⟨rfl, rfl⟩) | (go_at_call 15; refine (zzStringTag _ _).mono ?_; rintro e w' ⟨rfl, rfl⟩) | (go_at_call 13; refine (zzIntTag _ _).mono ?_; rintro e w' ⟨rfl, rfl⟩) | (go_at_call 14; refine (zzFloatTag _ _).mono ?_; rintro e w' ⟨rfl, rfl⟩) | (go_at_call 12; refine (zzHoldsNil _ _).mono ?_; rintro e w' ⟨rfl, rfl⟩) | (go_at_call 9; refine (zzHoldsInt _ _ _).mono ?_; rintro e w' ⟨rfl, rfl⟩) | (go_at_call 10; refine (zzHoldsFloat _ _ _).mono ?_; rintro e w' ⟨rfl, rfl⟩) | (go_at_call 11; refine (zzHoldsString _ _ _).mono ?_; rintro e w' ⟨rfl, rfl⟩))
    go_ret
    exact ⟨rfl, rfl⟩

end Go.Proofs.Qxb6605616a
