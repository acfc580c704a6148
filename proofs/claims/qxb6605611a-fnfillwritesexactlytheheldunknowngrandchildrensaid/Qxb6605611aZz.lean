import Derived.Test.Qxb6605611aGrand
import Derived.Handy
import Derived.Lib.QuietBelow
namespace Go.Proofs.Qxb6605611a
set_option linter.unusedSimpArgs false
set_option linter.unusedVariables false
open Go.ChangeShapes Go.WideShapes Go.ChangeAt Go.RowKit

set_option maxHeartbeats 2000000 in
set_option maxRecDepth 100000 in
/-- The bound on total length: some answer; one block (the holder's box) is laid. -/
theorem zzBytes31 (via : ByteArray) (vr : Bool) (H : Nat → Int) (a : Option Addr) (cap : Nat) (ps : List PG) (w : World) (hv : via.size ≤ 9223372036854775807) (hl : ps.length ≤ 9223372036854775807) (hrow : GRow w a ps) :
    Calls Try.prog 31 #[.string via, .bool vr, .agg (idc H), .slice a ps.length cap] w fun e w' => SomeBool e ∧ w' = w.alloc (.cells (idc H) 46) := by
  by_cases b0 : 1048576 < via.size
  · go_enter Try.func31, Try.ntmps31
    go_wp2
    go_ret
    exact ⟨⟨_, rfl⟩, rfl⟩
  by_cases b1 : 1048576 < ps.length
  · go_enter Try.func31, Try.ntmps31
    go_wp2
    go_ret
    exact ⟨⟨_, rfl⟩, rfl⟩
  by_cases b2 : 1048576 < via.size + ps.length
  · go_enter Try.func31, Try.ntmps31
    go_wp2
    go_ret
    exact ⟨⟨_, rfl⟩, rfl⟩
  have HR := hide hrow
  clear hrow
  go_enter Try.func31, Try.ntmps31
  go_wp2
  go_loop [9, 10] (fun t i => ∃ (n : Nat) (y : Int), n ≤ ps.length ∧ 0 ≤ y ∧ y ≤ 1048576 ∧ i = .int .i64 n ∧ t = .int .i64 y) (fun _ i => ps.length - (intOf i).toNat)
  case atStart => exact ⟨0, _, Nat.zero_le _, by omega, by omega, rfl, rfl⟩
  case round =>
    obtain ⟨n, y, hn, hy0, hy1, rfl, rfl⟩ := hrel
    by_cases hlt : n < ps.length
    · obtain ⟨b, o, fa, fc, rfl, hb, c0, c1, c2, c19, c20, hs⟩ := HR.out.at' hlt
      obtain ⟨z0, z1, z2⟩ := hs
      unfold maxLen at z0 z1 z2
      generalize ps[n] = p at *
      obtain ⟨nm, sn, sr, X, kn, nil, fz⟩ := p
      simp only at c0 c1 c2 c19 c20 z0 z1 z2
      by_cases t0 : 1048576 < nm.size
      · go_wp2
        go_ret
        exact ⟨⟨_, rfl⟩, rfl⟩
      by_cases t1 : 1048576 < y + nm.size
      · go_wp2
        go_ret
        exact ⟨⟨_, rfl⟩, rfl⟩
      by_cases t2 : 1048576 < sn.size
      · go_wp2
        go_ret
        exact ⟨⟨_, rfl⟩, rfl⟩
      by_cases t3 : 1048576 < y + nm.size + sn.size
      · go_wp2
        go_ret
        exact ⟨⟨_, rfl⟩, rfl⟩
      by_cases t4 : 1048576 < y + nm.size + sn.size + 16
      · go_wp2
        go_ret
        exact ⟨⟨_, rfl⟩, rfl⟩
      by_cases t5 : 1048576 < fz.length
      · go_wp2
        go_ret
        exact ⟨⟨_, rfl⟩, rfl⟩
      by_cases t6 : 1048576 < y + nm.size + sn.size + 16 + fz.length
      · go_wp2
        go_ret
        exact ⟨⟨_, rfl⟩, rfl⟩
      go_wp2
      go_round
      case rel => exact ⟨n + 1, _, by omega, by omega, by omega, by go_num, rfl⟩
      case measure => simp [intOf]; omega
    · go_wp2
      go_ret
      exact ⟨⟨_, rfl⟩, rfl⟩

set_option maxHeartbeats 2000000 in
set_option maxRecDepth 100000 in
/-- The bound on total length: some answer; one block (the holder's box) is laid. -/
theorem zzBytes18 (via : ByteArray) (vr : Bool) (H : Nat → Int) (a : Option Addr) (cap : Nat) (ps : List PG) (w : World) (hv : via.size ≤ 9223372036854775807) (hl : ps.length ≤ 9223372036854775807) (hrow : GRow w a ps) :
    Calls Try.prog 18 #[.string via, .bool vr, .agg (idc H), .slice a ps.length cap] w fun e w' => SomeBool e ∧ w' = w.alloc (.cells (idc H) 46) := by
  by_cases b0 : 1048576 < via.size
  · go_enter Try.func18, Try.ntmps18
    go_wp2
    go_ret
    exact ⟨⟨_, rfl⟩, rfl⟩
  by_cases b1 : 1048576 < ps.length
  · go_enter Try.func18, Try.ntmps18
    go_wp2
    go_ret
    exact ⟨⟨_, rfl⟩, rfl⟩
  by_cases b2 : 1048576 < via.size + ps.length
  · go_enter Try.func18, Try.ntmps18
    go_wp2
    go_ret
    exact ⟨⟨_, rfl⟩, rfl⟩
  have HR := hide hrow
  clear hrow
  go_enter Try.func18, Try.ntmps18
  go_wp2
  go_loop [9, 10] (fun t i => ∃ (n : Nat) (y : Int), n ≤ ps.length ∧ 0 ≤ y ∧ y ≤ 1048576 ∧ i = .int .i64 n ∧ t = .int .i64 y) (fun _ i => ps.length - (intOf i).toNat)
  case atStart => exact ⟨0, _, Nat.zero_le _, by omega, by omega, rfl, rfl⟩
  case round =>
    obtain ⟨n, y, hn, hy0, hy1, rfl, rfl⟩ := hrel
    by_cases hlt : n < ps.length
    · obtain ⟨b, o, fa, fc, rfl, hb, c0, c1, c2, c19, c20, hs⟩ := HR.out.at' hlt
      obtain ⟨z0, z1, z2⟩ := hs
      unfold maxLen at z0 z1 z2
      generalize ps[n] = p at *
      obtain ⟨nm, sn, sr, X, kn, nil, fz⟩ := p
      simp only at c0 c1 c2 c19 c20 z0 z1 z2
      by_cases t0 : 1048576 < nm.size
      · go_wp2
        go_ret
        exact ⟨⟨_, rfl⟩, rfl⟩
      by_cases t1 : 1048576 < y + nm.size
      · go_wp2
        go_ret
        exact ⟨⟨_, rfl⟩, rfl⟩
      by_cases t2 : 1048576 < sn.size
      · go_wp2
        go_ret
        exact ⟨⟨_, rfl⟩, rfl⟩
      by_cases t3 : 1048576 < y + nm.size + sn.size
      · go_wp2
        go_ret
        exact ⟨⟨_, rfl⟩, rfl⟩
      by_cases t4 : 1048576 < y + nm.size + sn.size + 16
      · go_wp2
        go_ret
        exact ⟨⟨_, rfl⟩, rfl⟩
      by_cases t5 : 1048576 < fz.length
      · go_wp2
        go_ret
        exact ⟨⟨_, rfl⟩, rfl⟩
      by_cases t6 : 1048576 < y + nm.size + sn.size + 16 + fz.length
      · go_wp2
        go_ret
        exact ⟨⟨_, rfl⟩, rfl⟩
      go_wp2
      go_round
      case rel => exact ⟨n + 1, _, by omega, by omega, by omega, by go_num, rfl⟩
      case measure => simp [intOf]; omega
    · go_wp2
      go_ret
      exact ⟨⟨_, rfl⟩, rfl⟩

end Go.Proofs.Qxb6605611a
