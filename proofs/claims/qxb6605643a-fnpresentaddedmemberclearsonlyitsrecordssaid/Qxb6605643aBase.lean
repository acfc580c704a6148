import Derived.Test.Qxb6605643aRows
import Derived.WalkKit
import Derived.WalkSpells
import Derived.WalkLawsBesides
import Derived.ProofKit
import Derived.OpenShut
import Derived.ShutString
import Derived.ChangeOld
import Derived.Below
import Derived.Handy
import Derived.Deep.QuietTactic
import Derived.BigQuiet
import Derived.Deep.OwnRows
import Derived.Maps.Own
import Derived.Maps.OwnSet
import Derived.Maps.OwnOps
import Derived.Maps.AppendAt
namespace Go.Proofs.Qxb6605643a
set_option linter.unusedSimpArgs false
set_option linter.unusedVariables false
open Go.ChangeShapes Go.WideShapes Go.ChangeAt Go.RowKit Go.Maps

theorem hide {p : Prop} (h : p) : Hid p := h
theorem unhide {p : Prop} (h : Hid p) : p := h
theorem Try.own : ownKnob Try.prog.godebug = none := by kernel_rfl
theorem Try.laidOut : laidOutB Try.prog = true := by kernel_rfl

/-- The strings 'ss' lie behind the slice's address 'a'. -/
def StrRow (w : World) (a : Option Addr) (ss : List ByteArray) : Prop :=
  ∀ i s, ss[i]? = some s → ∃ b o, a = some ⟨b, o, none⟩ ∧ w.cell? ⟨b, o + i, none⟩ = some (.string s) ∧ s.size ≤ maxLen
/-- The queries 'qs' (pairs of strings) lie behind the slice's address 'a'. -/
def QRow (w : World) (a : Option Addr) (qs : List (ByteArray × ByteArray)) : Prop :=
  ∀ i q, qs[i]? = some q → ∃ b o, a = some ⟨b, o, none⟩ ∧ w.cell? ⟨b, o + i * 2, none⟩ = some (.string q.1) ∧ w.cell? ⟨b, o + i * 2 + 1, none⟩ = some (.string q.2) ∧ q.1.size ≤ maxLen ∧ q.2.size ≤ maxLen

theorem StrRow.later {w w' : World} {a : Option Addr} {ss : List ByteArray} (h : StrRow w a ss) (hb : Below w.heap.size w w') : StrRow w' a ss := fun i s hs => by
  obtain ⟨b, o, h1, h2, h3⟩ := h i s hs
  exact ⟨b, o, h1, cell_later hb h2, h3⟩
theorem QRow.later {w w' : World} {a : Option Addr} {qs : List (ByteArray × ByteArray)} (h : QRow w a qs) (hb : Below w.heap.size w w') : QRow w' a qs := fun i q hq => by
  obtain ⟨b, o, h1, h2, h3, h4⟩ := h i q hq
  exact ⟨b, o, h1, cell_later hb h2, cell_later hb h3, h4⟩
theorem StrRow.at {w : World} {a : Option Addr} {ss : List ByteArray} (h : StrRow w a ss) {i : Nat} (hi : i < ss.length) : ∃ b o, a = some ⟨b, o, none⟩ ∧ w.cell? ⟨b, o + i, none⟩ = some (.string ss[i]) ∧ ss[i].size ≤ maxLen :=
  h i _ (List.getElem?_eq_getElem hi)
theorem QRow.at {w : World} {a : Option Addr} {qs : List (ByteArray × ByteArray)} (h : QRow w a qs) {i : Nat} (hi : i < qs.length) : ∃ b o, a = some ⟨b, o, none⟩ ∧ w.cell? ⟨b, o + i * 2, none⟩ = some (.string qs[i].1) ∧ w.cell? ⟨b, o + i * 2 + 1, none⟩ = some (.string qs[i].2) ∧ qs[i].1.size ≤ maxLen ∧ qs[i].2.size ≤ maxLen :=
  h i _ (List.getElem?_eq_getElem hi)

/-- Is the key among the strings? -/
def has (ss : List ByteArray) (k : ByteArray) : Bool := ss.any (fun s => s.toList == k.toList)
theorem has_of_at {ss : List ByteArray} {k : ByteArray} {n : Nat} (hn : n < ss.length) (h : ss[n].toList = k.toList) : has ss k = true := by
  unfold has
  rw [List.any_eq_true]
  exact ⟨ss[n], List.getElem_mem hn, by simpa using h⟩
theorem has_take_step {ss : List ByteArray} {k : ByteArray} {n : Nat} (hn : n < ss.length) (h : ¬ ss[n].toList = k.toList) (h0 : has (ss.take n) k = false) : has (ss.take (n + 1)) k = false := by
  unfold has at *
  rw [List.take_succ_eq_append_getElem hn, List.any_append, h0]
  simpa using h
theorem has_take_all {ss : List ByteArray} {k : ByteArray} {n : Nat} (hn : ¬ n < ss.length) (h0 : has (ss.take n) k = false) : has ss k = false := by
  rwa [List.take_of_length_le (by omega)] at h0

/-- It returns some bool. -/
def SomeBool (e : Ending) : Prop := ∃ b, e = .returned (.bool b)
/-- It returns some int. -/
def SomeInt (e : Ending) : Prop := ∃ y, e = .returned (.int .i64 y)
theorem ret_bool {a b : Bool} (h : a = b) : Ending.returned (.bool a) = .returned (.bool b) := by rw [h]

set_option maxHeartbeats 400000 in
/-- zzHas: a linear scan. -/
theorem zzHas (a : Option Addr) (cap : Nat) (ss : List ByteArray) (k : ByteArray) (w : World) (hl : ss.length ≤ 1048576) (hrow : StrRow w a ss) :
    Calls Try.prog 12 #[.slice a ss.length cap, .string k] w fun e w' => e = .returned (.bool (has ss k)) ∧ w' = w := by
  go_enter Try.func12, Try.ntmps12
  go_wp2
  go_loop [5] (fun i => ∃ n : Nat, n ≤ ss.length ∧ i = .int .i64 n ∧ Hid (has (ss.take n) k = false)) (fun i => ss.length - (intOf i).toNat)
  case atStart => exact ⟨0, Nat.zero_le _, rfl, rfl⟩
  case round =>
    obtain ⟨n, hn, rfl, HN⟩ := hrel
    by_cases hlt : n < ss.length
    · obtain ⟨b, o, rfl, hcell, hsz⟩ := hrow.at hlt
      clear hrow
      cases he : (ss[n].toList == k.toList)
      case true =>
        have HF := hide (has_of_at hlt (by simpa using he))
        go_wp2
        go_ret
        exact ⟨ret_bool HF.out.symm, rfl⟩
      case false =>
        have HF := hide (has_take_step hlt (by simpa using he) HN.out)
        go_wp2
        go_round
        case rel => exact ⟨n + 1, by omega, by go_num, HF⟩
        case measure => simp [intOf]; omega
    · have HF := hide (has_take_all hlt HN.out)
      go_wp2
      go_ret
      exact ⟨ret_bool HF.out.symm, rfl⟩

set_option maxHeartbeats 400000 in
/-- zzStrBytes: some number; nothing is written. -/
theorem zzStrBytes (a : Option Addr) (cap : Nat) (ss : List ByteArray) (z : Int) (w : World) (hl : ss.length ≤ 1048576) (hrow : StrRow w a ss) :
    Calls Try.prog 16 #[.slice a ss.length cap, .int .i64 z] w fun e w' => SomeInt e ∧ w' = w := by
  by_cases h0 : 1048576 < z
  · go_enter Try.func16, Try.ntmps16
    go_wp2
    go_ret
    exact ⟨⟨_, rfl⟩, rfl⟩
  by_cases h1 : 65536 < ss.length
  · go_enter Try.func16, Try.ntmps16
    go_wp2
    go_ret
    exact ⟨⟨_, rfl⟩, rfl⟩
  go_enter Try.func16, Try.ntmps16
  go_wp2
  go_loop [1, 5] (fun t i => ∃ (n : Nat) (y : Int), n ≤ ss.length ∧ i = .int .i64 n ∧ t = .int .i64 y) (fun _ i => ss.length - (intOf i).toNat)
  case atStart => exact ⟨0, _, Nat.zero_le _, rfl, rfl⟩
  case round =>
    obtain ⟨n, y, hn, rfl, rfl⟩ := hrel
    by_cases hlt : n < ss.length
    · obtain ⟨b, o, rfl, hcell, hsz⟩ := hrow.at hlt
      clear hrow
      unfold maxLen at hsz
      by_cases hy : 1048576 < y
      · go_wp2
        go_ret
        exact ⟨⟨_, rfl⟩, rfl⟩
      · by_cases hs : 1048576 < ss[n].size
        · go_wp2
          go_ret
          exact ⟨⟨_, rfl⟩, rfl⟩
        · go_wp2
          go_round
          case rel => exact ⟨n + 1, _, by omega, by go_num, rfl⟩
          case measure => simp [intOf]; omega
    · go_wp2
      go_ret
      exact ⟨⟨_, rfl⟩, rfl⟩

end Go.Proofs.Qxb6605643a
