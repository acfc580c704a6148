import Derived.Test.Qxb6605643aBytes
namespace Go.Proofs.Qxb6605643a
set_option linter.unusedSimpArgs false
set_option linter.unusedVariables false
open Go.ChangeShapes Go.WideShapes Go.ChangeAt Go.RowKit Go.Maps

set_option maxHeartbeats 1000000 in
/-- zzScriptBytes: some number; nothing is written. -/
theorem zzScriptBytes (a1 a2 a3 : Option Addr) (c1 c2 c3 : Nat) (ss ts : List ByteArray) (qs : List (ByteArray × ByteArray)) (ex : ByteArray) (w : World) (hl1 : ss.length ≤ 1048576) (hl2 : ts.length ≤ 1048576) (hl3 : qs.length ≤ 1048576) (hl4 : ex.size ≤ 1048576)
    (h1 : StrRow w a1 ss) (h2 : StrRow w a2 ts) (h3 : QRow w a3 qs) :
    Calls Try.prog 6 #[.slice a1 ss.length c1, .slice a2 ts.length c2, .slice a3 qs.length c3, .string ex] w fun e w' => SomeInt e ∧ ∃ n, w' = w.drewN n := by
  by_cases b1 : 65536 < qs.length
  · go_enter Try.func6, Try.ntmps6
    go_wp2
    go_ret
    exact ⟨⟨_, rfl⟩, 0, rfl⟩
  have H1 := hide h1
  have H2 := hide h2
  clear h1 h2
  go_enter Try.func6, Try.ntmps6
  go_wp2_with fail
  refine (zzStrBytes a1 c1 ss _ _ hl1 H1.out).mono ?_
  rintro e w1 ⟨⟨y1, rfl⟩, rfl⟩
  go_wp2_with fail
  refine (zzStrBytes a2 c2 ts _ _ hl2 H2.out).mono ?_
  rintro e w2 ⟨⟨y2, rfl⟩, rfl⟩
  clear H1 H2
  by_cases b2 : 1048576 < y2
  · go_wp2
    go_ret
    exact ⟨⟨_, rfl⟩, 0, rfl⟩
  go_wp2
  go_loopw [9, 10] (fun t i wr => ∃ (n : Nat) (y : Int) (m : Nat), n ≤ qs.length ∧ i = .int .i64 n ∧ t = .int .i64 y ∧ wr = w2.drewN m) (fun _ i _ => qs.length - (intOf i).toNat)
  case atStart => exact ⟨0, _, 0, Nat.zero_le _, rfl, rfl, rfl⟩
  case round =>
    obtain ⟨n, y, m, hn, rfl, rfl, rfl⟩ := hrel
    by_cases hlt : n < qs.length
    · obtain ⟨b, o, rfl, hcell, hcell2, hsz, hsz2⟩ := h3.at hlt
      clear h3
      unfold maxLen at hsz hsz2
      by_cases hy : 1048576 < y
      · go_wp2
        go_ret
        exact ⟨⟨_, rfl⟩, m, rfl⟩
      by_cases hs : 1048576 < qs[n].1.size
      · go_wp2
        go_ret
        exact ⟨⟨_, rfl⟩, m, rfl⟩
      by_cases hs2 : 1048576 < qs[n].2.size
      · go_wp2
        go_ret
        exact ⟨⟨_, rfl⟩, m, rfl⟩
      go_wp2
      go_quiet (fail)
      go_wp2
      go_roundw
      case rel => exact ⟨n + 1, _, _, by omega, by go_num, rfl, rfl⟩
      case measure => simp [intOf]; omega
    · go_wp2
      go_ret
      exact ⟨⟨_, rfl⟩, m, rfl⟩

set_option maxHeartbeats 2000000 in
/-- zzBytes of the second law: some answer; nothing is written. -/
theorem zzBytes15 (a1 a2 a3 : Option Addr) (c1 c2 c3 : Nat) (ss ts : List ByteArray) (qs : List (ByteArray × ByteArray)) (ex : ByteArray) (w : World) (hl1 : ss.length ≤ 9223372036854775807) (hl2 : ts.length ≤ 9223372036854775807) (hl3 : qs.length ≤ 9223372036854775807) (hl4 : ex.size ≤ 9223372036854775807)
    (h1 : StrRow w a1 ss) (h2 : StrRow w a2 ts) (h3 : QRow w a3 qs) :
    Calls Try.prog 15 #[.slice a1 ss.length c1, .slice a2 ts.length c2, .slice a3 qs.length c3, .string ex] w fun e w' => SomeBool e ∧ w' = w := by
  by_cases b1 : 1048576 < ss.length
  · go_enter Try.func15, Try.ntmps15
    go_wp2
    go_ret
    exact ⟨⟨_, rfl⟩, rfl⟩
  go_enter Try.func15, Try.ntmps15
  go_wp2
  go_loop [9, 10] (fun t i => ∃ (n : Nat) (y : Int), n ≤ ss.length ∧ 0 ≤ y ∧ y ≤ 1048576 ∧ i = .int .i64 n ∧ t = .int .i64 y) (fun _ i => ss.length - (intOf i).toNat)
  case atStart => exact ⟨0, _, Nat.zero_le _, by omega, by omega, rfl, rfl⟩
  case round =>
    obtain ⟨n, y, hn, hy0, hy1, rfl, rfl⟩ := hrel
    by_cases hlt : n < ss.length
    · obtain ⟨b, o, rfl, hcell, hsz⟩ := h1.at hlt
      clear h1 h2 h3
      unfold maxLen at hsz
      by_cases hs : 1048576 < ss[n].size
      · go_wp2
        go_ret
        exact ⟨⟨_, rfl⟩, rfl⟩
      · by_cases hy : 1048576 < y + ss[n].size
        · go_wp2
          go_ret
          exact ⟨⟨_, rfl⟩, rfl⟩
        · go_wp2
          go_round
          case rel => exact ⟨n + 1, _, by omega, by omega, by omega, by go_num, rfl⟩
          case measure => simp [intOf]; omega
    · clear h1
      by_cases b2 : 1048576 < ts.length
      · go_wp2
        go_ret
        exact ⟨⟨_, rfl⟩, rfl⟩
      by_cases b3 : 1048576 < y + ts.length
      · go_wp2
        go_ret
        exact ⟨⟨_, rfl⟩, rfl⟩
      go_wp2
      clear hn hlt
      go_loop [9, 11] (fun t i => ∃ (n : Nat) (y : Int), n ≤ ts.length ∧ 0 ≤ y ∧ y ≤ 1048576 ∧ i = .int .i64 n ∧ t = .int .i64 y) (fun _ i => ts.length - (intOf i).toNat)
      case atStart => exact ⟨0, _, Nat.zero_le _, by omega, by omega, rfl, rfl⟩
      case round =>
        obtain ⟨n, y, hn, hy0, hy1, rfl, rfl⟩ := hrel
        by_cases hlt : n < ts.length
        · obtain ⟨b, o, rfl, hcell, hsz⟩ := h2.at hlt
          clear h2 h3
          unfold maxLen at hsz
          by_cases hs : 1048576 < ts[n].size
          · go_wp2
            go_ret
            exact ⟨⟨_, rfl⟩, rfl⟩
          · by_cases hy : 1048576 < y + ts[n].size
            · go_wp2
              go_ret
              exact ⟨⟨_, rfl⟩, rfl⟩
            · go_wp2
              go_round
              case rel => exact ⟨n + 1, _, by omega, by omega, by omega, by go_num, rfl⟩
              case measure => simp [intOf]; omega
        · clear h2
          by_cases b4 : 1048576 < qs.length
          · go_wp2
            go_ret
            exact ⟨⟨_, rfl⟩, rfl⟩
          by_cases b5 : 1048576 < y + qs.length
          · go_wp2
            go_ret
            exact ⟨⟨_, rfl⟩, rfl⟩
          go_wp2
          clear hn hlt
          go_loop [9, 12] (fun t i => ∃ (n : Nat) (y : Int), n ≤ qs.length ∧ 0 ≤ y ∧ y ≤ 1048576 ∧ i = .int .i64 n ∧ t = .int .i64 y) (fun _ i => qs.length - (intOf i).toNat)
          case atStart => exact ⟨0, _, Nat.zero_le _, by omega, by omega, rfl, rfl⟩
          case round =>
            obtain ⟨n, y, hn, hy0, hy1, rfl, rfl⟩ := hrel
            by_cases hlt : n < qs.length
            · obtain ⟨b, o, rfl, hcell, hcell2, hsz, hsz2⟩ := h3.at hlt
              clear h3
              unfold maxLen at hsz hsz2
              by_cases hs : 1048576 < qs[n].1.size
              · go_wp2
                go_ret
                exact ⟨⟨_, rfl⟩, rfl⟩
              by_cases hy : 1048576 < y + qs[n].1.size
              · go_wp2
                go_ret
                exact ⟨⟨_, rfl⟩, rfl⟩
              by_cases hs : 1048576 < qs[n].2.size
              · go_wp2
                go_ret
                exact ⟨⟨_, rfl⟩, rfl⟩
              by_cases hy : 1048576 < y + qs[n].1.size + qs[n].2.size
              · go_wp2
                go_ret
                exact ⟨⟨_, rfl⟩, rfl⟩
              · go_wp2
                go_round
                case rel => exact ⟨n + 1, _, by omega, by omega, by omega, by go_num, rfl⟩
                case measure => simp [intOf]; omega
            · by_cases b6 : 1048576 < ex.size
              · go_wp2
                go_ret
                exact ⟨⟨_, rfl⟩, rfl⟩
              by_cases b7 : 1048576 < y + ex.size
              · go_wp2
                go_ret
                exact ⟨⟨_, rfl⟩, rfl⟩
              go_wp2
              go_ret
              exact ⟨⟨_, rfl⟩, rfl⟩

end Go.Proofs.Qxb6605643a
