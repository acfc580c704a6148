import Derived.Test.Qxb6605611aGrand
namespace Go.Proofs.Qxb6605611a
set_option linter.unusedSimpArgs false
set_option linter.unusedVariables false
open Go.ChangeShapes Go.WideShapes Go.ChangeAt Go.RowKit

/-- The forms of the grandchildren are short. -/
def Short (ps : List PG) : Prop := ∀ p ∈ ps, p.fz.length ≤ 1048576
theorem Short.step {ps : List PG} {n : Nat} (hn : n < ps.length) (h : Short (ps.take n)) (hf : ps[n].fz.length ≤ 1048576) : Short (ps.take (n + 1)) := fun p hp => by
  rw [List.take_succ_eq_append_getElem hn] at hp
  rcases List.mem_append.1 hp with hp | hp
  · exact h p hp
  · simp at hp; rw [hp]; exact hf
/-- What fillFits leaves. -/
def FitsPost (ps : List PG) (w : World) (e : Ending) (w' : World) : Prop := (∃ r, e = .returned (.bool r) ∧ (r = true → Short ps)) ∧ ∃ n, w' = w.drewN n

set_option maxHeartbeats 2000000 in
set_option maxRecDepth 100000 in
theorem fillFits (via : ByteArray) (a : Option Addr) (cap : Nat) (ps : List PG) (w : World) (hv : via.size ≤ 262144) (hl : ps.length ≤ 65536) (hrow : GRow w a ps) :
    Calls Try.prog 19 #[.string via, .slice a ps.length cap] w (FitsPost ps w) := by
  have HR := hide hrow
  clear hrow
  go_enter Try.func19, Try.ntmps19
  go_wp2
  go_loopw [5, 11] (fun t i wr => ∃ (n : Nat) (y : Int) (m : Nat), n ≤ ps.length ∧ 0 ≤ y ∧ y ≤ 1048576 ∧ i = .int .i64 n ∧ t = .int .i64 y ∧ Hid (Short (ps.take n)) ∧ wr = w.drewN m) (fun _ i _ => ps.length - (intOf i).toNat)
  case atStart => exact ⟨0, _, 0, Nat.zero_le _, by omega, by omega, rfl, rfl, fun p hp => by simp at hp, rfl⟩
  case round =>
    obtain ⟨n, y, m, hn, hy0, hy1, rfl, rfl, HS, rfl⟩ := hrel
    by_cases hlt : n < ps.length
    · obtain ⟨b, o, fa, fc, rfl, hb, c0, c1, c2, c19, c20, hs⟩ := HR.out.at' hlt
      obtain ⟨z0, z1, z2⟩ := hs
      unfold maxLen at z0 z1 z2
      by_cases t0 : 1048576 < ps[n].nm.size
      · go_wp2
        go_ret
        exact ⟨⟨_, rfl, fun h => by cases h⟩, _, rfl⟩
      by_cases t1 : 1048576 < ps[n].sn.size
      · go_wp2
        go_ret
        exact ⟨⟨_, rfl, fun h => by cases h⟩, _, rfl⟩
      by_cases t2 : 1048576 < ps[n].fz.length
      · go_wp2
        go_ret
        exact ⟨⟨_, rfl, fun h => by cases h⟩, _, rfl⟩
      have HS' := hide (HS.out.step hlt (by omega))
      by_cases t3 : 1048576 < y + (80 + ps[n].nm.size + ps[n].sn.size + ps[n].fz.length)
      · go_wp2
        go_quiet (fail)
        go_wp2
        go_ret
        exact ⟨⟨_, rfl, fun h => by cases h⟩, _, rfl⟩
      · go_wp2
        go_quiet (fail)
        go_wp2
        go_roundw
        case rel => exact ⟨n + 1, _, _, by omega, by omega, by omega, by go_num, rfl, HS', rfl⟩
        case measure => simp [intOf]; omega
    · have HF : Hid (Short ps) := by have := HS.out; rwa [List.take_of_length_le (by omega)] at this
      go_wp2
      go_ret
      exact ⟨⟨_, rfl, fun _ => HF.out⟩, _, rfl⟩

end Go.Proofs.Qxb6605611a
