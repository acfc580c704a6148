import Derived.Test.Qxb6605611aBuild
namespace Go.Proofs.Qxb6605611a
set_option linter.unusedSimpArgs false
set_option linter.unusedVariables false
open Go.ChangeShapes Go.WideShapes Go.ChangeAt Go.RowKit

/-- What fillVia leaves: a predicate of that name. -/
def ViaPost (via : ByteArray) (vr : Bool) (w : World) (e : Ending) (w' : World) : Prop :=
  ∃ pb, e = .returned (.agg #[.pointer (some ⟨pb, 0, none⟩), .bool vr]) ∧ w'.cell? ⟨pb, 0, none⟩ = some (.string via) ∧ Below w.heap.size w w'

set_option maxHeartbeats 1000000 in
theorem fillVia (via : ByteArray) (vr : Bool) (w : World) : Calls Try.prog 23 #[.string via, .bool vr] w (ViaPost via vr w) := by
  go_enter Try.func23, Try.ntmps23
  go_wp2
  refine bodyPost_ret (v := .agg #[.pointer (some ⟨w.heap.size + 1, 0, none⟩), .bool vr]) (by simp [results, Try.results23, go_sem]) rfl ⟨w.heap.size + 1, rfl, ?_, ?_⟩
  · simp [go_sem]
  · go_grown

/-- What ZZfailValues leaves: an error. -/
def FailPost (w : World) (e : Ending) (w' : World) : Prop := ∃ p, e = .returned (.tuple #[.map none, .iface 92 (.pointer p)]) ∧ Below w.heap.size w w'
set_option maxHeartbeats 1000000 in
theorem failValues (nm : ByteArray) (X : Nat → Int) (w : World) : Calls Try.prog 32 #[.string nm, .agg (idc X)] w (FailPost w) := by
  go_enter Try.func32, Try.ntmps32
  go_wp2
  refine bodyPost_ret (v := .tuple #[.map none, .iface 92 (.pointer (some ⟨w.heap.size + 1, 0, none⟩))]) (by simp [results, Try.results32, go_sem]) rfl ⟨_, rfl, ?_⟩
  go_grown

set_option maxHeartbeats 1000000 in
theorem noValues (nm : ByteArray) (X : Nat → Int) (w : World) : Calls Try.prog 24 #[.string nm, .agg (idc X)] w fun e w' => e = .returned (.tuple #[.map none, .nilIface]) ∧ Below w.heap.size w w' := by
  go_enter Try.func24, Try.ntmps24
  go_wp2
  refine bodyPost_ret (v := .tuple #[.map none, .nilIface]) (by simp [results, Try.results24, go_sem]) rfl ⟨rfl, ?_⟩
  go_grown

set_option maxHeartbeats 1000000 in
theorem zzOnward (cb : Nat) (v : Value) (w : World) (hc : w.cell? ⟨cb, 2, none⟩ = some v) (hv : v.oneCell' = true) : Calls Try.prog 25 #[.pointer (some ⟨cb, 0, none⟩)] w fun e w' => e = .returned v ∧ w' = w := by
  go_enter Try.func25, Try.ntmps25
  go_wp2
  go_ret
  exact ⟨rfl, rfl⟩

set_option maxHeartbeats 1000000 in
set_option maxRecDepth 100000 in
theorem zzKnown (nm : ByteArray) (p : Option Addr) (sr : Bool) (X : Nat → Int) (kn : Bool) (f : Value) (hf : f.oneCell' = true) (w : World) :
    Calls Try.prog 26 #[.agg (ol nm p sr X kn f).toArray] w fun e w' => e = .returned (.bool kn) ∧ Below w.heap.size w w' := by
  go_enter Try.func26, Try.ntmps26
  go_wp2
  go_ret
  exact ⟨rfl, by go_grown⟩

set_option maxHeartbeats 1000000 in
set_option maxRecDepth 100000 in
theorem zzForm (nm : ByteArray) (p : Option Addr) (sr : Bool) (X : Nat → Int) (kn : Bool) (f : Value) (hf : f.oneCell' = true) (w : World) :
    Calls Try.prog 27 #[.agg (ol nm p sr X kn f).toArray] w fun e w' => e = .returned f ∧ Below w.heap.size w w' := by
  go_enter Try.func27, Try.ntmps27
  go_wp2
  go_ret
  exact ⟨rfl, by go_grown⟩

set_option maxHeartbeats 1000000 in
set_option maxRecDepth 100000 in
/-- Two forms of the same bytes. -/
theorem sameBytes_same (f g : Value) (nil : Bool) (fz : List Int) (w : World) (hl : fz.length ≤ 1048576) (hf : FormIs w f nil fz) (hg : FormIs w g nil fz) :
    Calls Try.prog 29 #[f, g] w fun e w' => e = .returned (.bool true) ∧ Below w.heap.size w w' := by
  have n0 : ∀ W, (binOp .eql 22 (.slice none 0 0) (.slice none 0 0)).run Try.prog W = .ok (.bool true) W := fun W => Lib.run_eql_slice_nil (P := Try.prog) W 22 5 none 0 0 0 0 Try.underlying22
  have n1 : ∀ W a l c, (binOp .eql 22 (.slice (some a) l c) (.slice none 0 0)).run Try.prog W = .ok (.bool false) W := fun W a l c => Lib.run_eql_slice_nil (P := Try.prog) W 22 5 (some a) l c 0 0 Try.underlying22
  rcases hf with ⟨h, rfl, h0⟩ | ⟨h, x, xc, rfl, hx⟩
  · rcases hg with ⟨h', rfl, h0'⟩ | ⟨h', y, yc, rfl, hy⟩
    · go_enter Try.func29, Try.ntmps29
      go_wp2
      go_loopw [20] (fun i wr => i = .int .i64 0 ∧ wr = w) (fun i _ => 0)
      case atStart => exact ⟨rfl, rfl⟩
      case round =>
        obtain ⟨rfl, rfl⟩ := hrel
        go_wp2
        go_ret
        exact ⟨rfl, Below.refl _ _⟩
    · rw [h] at h'; cases h'
  · rcases hg with ⟨h', rfl, h0'⟩ | ⟨h', y, yc, rfl, hy⟩
    · rw [h] at h'; cases h'
    have HX := hide hx
    have HY := hide hy
    clear hx hy
    go_enter Try.func29, Try.ntmps29
    go_wp2
    go_loopw [20] (fun i wr => ∃ n m : Nat, n ≤ fz.length ∧ i = .int .i64 n ∧ wr = w.drewN m) (fun i _ => fz.length - (intOf i).toNat)
    case atStart => exact ⟨0, 0, Nat.zero_le _, rfl, rfl⟩
    case round =>
      obtain ⟨n, m, hn, rfl, rfl⟩ := hrel
      by_cases hlt : n < fz.length
      · have c1 := HX.out n (.int .u8 fz[n]) (by simp [u8s, hlt])
        have c2 := HY.out n (.int .u8 fz[n]) (by simp [u8s, hlt])
        go_wp2
        go_quiet (fail)
        go_wp2
        go_roundw
        case rel => exact ⟨n + 1, _, by omega, by go_num, rfl⟩
        case measure => simp [intOf]; omega
      · go_wp2
        go_ret
        exact ⟨rfl, below_drewN (Below.refl _ _) _⟩

end Go.Proofs.Qxb6605611a
