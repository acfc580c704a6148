import Derived.Test.Qxb6605611aBase
namespace Go.Proofs.Qxb6605611a
set_option linter.unusedSimpArgs false
set_option linter.unusedVariables false
open Go.ChangeShapes Go.WideShapes Go.ChangeAt Go.RowKit

set_option maxHeartbeats 400000 in
theorem typeCoded_any (b : Nat) (c : Int) (w : World) (hc : w.cell? ⟨b, 2, none⟩ = some (.slice none 0 0)) :
    Calls Try.prog 39 #[.pointer (some ⟨b, 0, none⟩), .int .i64 c] w fun e w' => e = .returned (.tuple #[.string ByteArray.empty, .bool false]) ∧ w' = w := by
  by_cases h : c < 1
  · go_enter Try.func39, Try.ntmps39
    go_wp2
    go_ret2
    exact ⟨rfl, rfl⟩
  · have h' : (0 : Int) < c := by omega
    go_enter Try.func39, Try.ntmps39
    go_wp2
    go_ret2
    exact ⟨rfl, rfl⟩

set_option maxHeartbeats 400000 in
theorem read_s (sb : Nat) (bo : Bool) (s : ByteArray) (a : Option Addr) (len cap : Nat) (w : World) :
    Calls Try.prog 33 #[.pointer (some ⟨sb, 0, none⟩), .agg #[.int .u8 1, .bool bo, .string s, .slice a len cap, .slice none 0 0, .slice none 0 0]] w
      fun e w' => e = .returned (.tuple #[.string s, .bool true]) ∧ Below w.heap.size w w' := by
  go_enter Try.func33, Try.ntmps33
  go_wp2
  go_ret2
  exact ⟨rfl, (Below.refl _ _).alloc (Nat.le_refl _) _⟩

set_option maxHeartbeats 400000 in
theorem read_long (sb : Nat) (k : Int) (bo : Bool) (s : ByteArray) (a : Option Addr) (len cap : Nat) (w : World) (hk : (k == 1) = false) (hl : 2 < len) :
    Calls Try.prog 33 #[.pointer (some ⟨sb, 0, none⟩), .agg #[.int .u8 k, .bool bo, .string s, .slice a len cap, .slice none 0 0, .slice none 0 0]] w
      fun e w' => e = .returned (.tuple #[.string ByteArray.empty, .bool false]) ∧ Below w.heap.size w w' := by
  have hl' : (2 : Int) < (len : Int) := by omega
  go_enter Try.func33, Try.ntmps33
  go_wp2
  go_ret2
  exact ⟨rfl, (Below.refl _ _).alloc (Nat.le_refl _) _⟩

set_option maxHeartbeats 400000 in
theorem read_short (sb : Nat) (k : Int) (bo : Bool) (s : ByteArray) (a : Option Addr) (len cap : Nat) (w : World) (hk : (k == 1) = false) (hl : len ≤ 2)
    (hsb : sb < w.heap.size) (hc : w.cell? ⟨sb, 2, none⟩ = some (.slice none 0 0))
    (hrow : ∀ i, i < len → ∃ b o z, a = some ⟨b, o, none⟩ ∧ b < w.heap.size ∧ 0 ≤ z ∧ z ≤ 255 ∧ w.cell? ⟨b, o + i, none⟩ = some (.int .u8 z)) :
    Calls Try.prog 33 #[.pointer (some ⟨sb, 0, none⟩), .agg #[.int .u8 k, .bool bo, .string s, .slice a len cap, .slice none 0 0, .slice none 0 0]] w
      fun e w' => e = .returned (.tuple #[.string ByteArray.empty, .bool false]) ∧ Below w.heap.size w w' := by
  have hl' : ¬ (2 : Int) < (len : Int) := by omega
  go_enter Try.func33, Try.ntmps33
  go_wp2
  go_loop [6, 23] (fun c i => ∃ (n : Nat) (z : Int), n ≤ len ∧ i = .int .i64 n ∧ c = .int .i64 z) (fun _ i => len - (intOf i).toNat)
  case atStart => exact ⟨0, 0, Nat.zero_le _, rfl, rfl⟩
  case round =>
    obtain ⟨n, z, hn, rfl, rfl⟩ := hrel
    by_cases hlt : n < len
    · obtain ⟨b, o, y, rfl, hb, hy0, hy1, hcell⟩ := hrow n hlt
      clear hrow
      go_wp2
      go_round
      case rel => exact ⟨n + 1, _, by omega, by go_num, rfl⟩
      case measure => simp [intOf]; omega
    · clear hrow
      go_wp2_with (go_at_call 39; refine (typeCoded_any sb _ _ ?_).mono ?_; rotate_left; rintro e w' ⟨rfl, rfl⟩)
      go_ret2
      exact ⟨rfl, (Below.refl _ _).alloc (Nat.le_refl _) _⟩

set_option maxHeartbeats 400000 in
theorem zread_s (sb : Nat) (bo : Bool) (s : ByteArray) (a : Option Addr) (len cap : Nat) (w : World) :
    Calls Try.prog 10 #[.pointer (some ⟨sb, 0, none⟩), .agg #[.int .u8 1, .bool bo, .string s, .slice a len cap, .slice none 0 0, .slice none 0 0]] w
      fun e w' => e = .returned (.tuple #[.string s, .bool true]) ∧ Below w.heap.size w w' := by
  go_enter Try.func10, Try.ntmps10
  go_wp2_with (go_at_call 33; refine (read_s sb bo s a len cap _).mono ?_; rintro e w' ⟨rfl, hb⟩)
  go_ret2
  exact ⟨rfl, ((Below.refl _ _).alloc (Nat.le_refl _) _).trans (hb.mono (by simp))⟩

set_option maxHeartbeats 400000 in
theorem zread_no (sb : Nat) (k : Int) (bo : Bool) (s : ByteArray) (a : Option Addr) (len cap : Nat) (w : World) (hk : (k == 1) = false)
    (hsb : sb < w.heap.size) (hc : w.cell? ⟨sb, 2, none⟩ = some (.slice none 0 0))
    (hrow : ∀ i, i < len → ∃ b o z, a = some ⟨b, o, none⟩ ∧ b < w.heap.size ∧ 0 ≤ z ∧ z ≤ 255 ∧ w.cell? ⟨b, o + i, none⟩ = some (.int .u8 z)) :
    Calls Try.prog 10 #[.pointer (some ⟨sb, 0, none⟩), .agg #[.int .u8 k, .bool bo, .string s, .slice a len cap, .slice none 0 0, .slice none 0 0]] w
      fun e w' => e = .returned (.tuple #[.string ByteArray.empty, .bool false]) ∧ Below w.heap.size w w' := by
  by_cases hl : len ≤ 2
  · have hc' : ∀ o, (w.alloc o).cell? ⟨sb, 2, none⟩ = some (.slice none 0 0) := fun o => (World.cell?_of_block (Below.heap_alloc w _ _ hsb)).trans hc
    have hrow' : ∀ o i, i < len → ∃ b o' z, a = some ⟨b, o', none⟩ ∧ b < (w.alloc o).heap.size ∧ 0 ≤ z ∧ z ≤ 255 ∧ (w.alloc o).cell? ⟨b, o' + i, none⟩ = some (.int .u8 z) := fun o i hi => by
      obtain ⟨b, o', z, h1, h2, h3, h4, h5⟩ := hrow i hi
      exact ⟨b, o', z, h1, by simp; omega, h3, h4, (World.cell?_of_block (Below.heap_alloc w _ _ h2)).trans h5⟩
    clear hrow hc
    have H1 : Hid (∀ o, (w.alloc o).cell? ⟨sb, 2, none⟩ = some (.slice none 0 0)) := hc'
    have H2 : Hid (∀ o i, i < len → ∃ b o' z, a = some ⟨b, o', none⟩ ∧ b < (w.alloc o).heap.size ∧ 0 ≤ z ∧ z ≤ 255 ∧ (w.alloc o).cell? ⟨b, o' + i, none⟩ = some (.int .u8 z)) := hrow'
    clear hc' hrow'
    go_enter Try.func10, Try.ntmps10
    go_wp2_with (go_at_call 33; refine (read_short sb k bo s a len cap _ hk hl (by simp; omega) (H1.out _) (H2.out _)).mono ?_; rintro e w' ⟨rfl, hb⟩)
    go_ret2
    exact ⟨rfl, ((Below.refl _ _).alloc (Nat.le_refl _) _).trans (hb.mono (by simp))⟩
  · clear hrow hc
    go_enter Try.func10, Try.ntmps10
    go_wp2_with (go_at_call 33; refine (read_long sb k bo s a len cap _ hk (by omega)).mono ?_; rintro e w' ⟨rfl, hb⟩)
    go_ret2
    exact ⟨rfl, ((Below.refl _ _).alloc (Nat.le_refl _) _).trans (hb.mono (by simp))⟩

set_option maxHeartbeats 400000 in
theorem zzBytes3 (k : Int) (bo : Bool) (s : ByteArray) (a : Option Addr) (len cap : Nat) (w : World) :
    Calls Try.prog 8 #[.int .u8 k, .bool bo, .string s, .slice a len cap] w fun e w' => e = .returned (.bool (decide (s.size + len ≤ 1048576))) ∧ w' = w := by
  by_cases h1 : s.size ≤ 1048576
  · by_cases h2 : len ≤ 1048576
    · by_cases h3 : s.size + len ≤ 1048576
      · rw [decide_eq_true h3]
        go_enter Try.func8, Try.ntmps8
        go_wp2
        go_ret
        exact ⟨rfl, rfl⟩
      · rw [decide_eq_false h3]
        go_enter Try.func8, Try.ntmps8
        go_wp2
        go_ret
        exact ⟨rfl, rfl⟩
    · rw [decide_eq_false (by omega)]
      go_enter Try.func8, Try.ntmps8
      go_wp2
      go_ret
      exact ⟨rfl, rfl⟩
  · rw [decide_eq_false (by omega)]
    go_enter Try.func8, Try.ntmps8
    go_wp2
    go_ret
    exact ⟨rfl, rfl⟩
end Go.Proofs.Qxb6605611a
