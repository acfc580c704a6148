import Derived.Test.Qxb6605611aT1
import Derived.Deep.RegionWith
import Derived.Laws.ResultCell
import Derived.Handy
import Derived.Lib.QuietBelow
namespace Go.Proofs.Qxb6605611a
set_option linter.unusedSimpArgs false
set_option linter.unusedVariables false
open Go.ChangeShapes Go.WideShapes Go.ChangeAt Go.RowKit Go.Sort

theorem below_step {w w0 w1 : World} (h0 : Below w.heap.size w w0) (h1 : Below w0.heap.size w0 w1) : Below w.heap.size w w1 := h0.trans (h1.mono h0.size)

theorem cell_grow (w : World) (d : Nat) (os : Array Obj) (b o : Nat) (h : b < w.heap.size) : (grow (redrawn w d) os).cell? ⟨b, o, none⟩ = w.cell? ⟨b, o, none⟩ := (below_regrown w d os).cell h
theorem frozen_grow (w : World) (d : Nat) (os : Array Obj) (b o : Nat) (h : b < w.heap.size) : (grow (redrawn w d) os).frozen? ⟨b, o, none⟩ = w.frozen? ⟨b, o, none⟩ := (below_regrown w d os).frozen h

set_option maxHeartbeats 400000 in
theorem inverse_any (p : Option Addr) (r : Bool) (w : World) :
    Calls Try.prog 41 #[.agg #[.pointer p, .bool r]] w fun e w' => e = .returned (.agg #[.pointer p, .bool (!r)]) ∧ w' = (w.alloc (.cells #[.pointer p, .bool r] 58)).alloc (.cells #[.pointer p, .bool (!r)] 58) := by
  go_enter Try.func41, Try.ntmps41
  go_wp2
  exact bodyPost_ret (v := .agg #[.pointer p, .bool (!r)]) (by simp [results, Try.results41, go_sem]) rfl ⟨rfl, rfl⟩

set_option maxHeartbeats 1000000 in
theorem sameStep_any (ap bp : Nat) (ar br : Bool) (an bn : ByteArray) (w : World) (ha : w.cell? ⟨ap, 0, none⟩ = some (.string an)) (hb : w.cell? ⟨bp, 0, none⟩ = some (.string bn)) :
    Calls Try.prog 40 #[.agg #[.pointer (some ⟨ap, 0, none⟩), .bool ar], .agg #[.pointer (some ⟨bp, 0, none⟩), .bool br]] w fun e w' => e = .returned (.bool ((ar == br) && (an.toList == bn.toList))) ∧ ∃ n, w' = ((w.alloc (.cells #[.pointer (some ⟨ap, 0, none⟩), .bool ar] 58)).alloc (.cells #[.pointer (some ⟨bp, 0, none⟩), .bool br] 58)).drewN n := by
  have la := World.block_lt_of_cell? _ _ ha
  have lb := World.block_lt_of_cell? _ _ hb
  cases ar <;> cases br <;>
  · go_enter Try.func40, Try.ntmps40
    go_wp2
    go_quiet (fail)
    go_wp2
    go_ret
    exact ⟨by simp, _, rfl⟩

theorem inverse_below (p : Option Addr) (r : Bool) (w : World) :
    Calls Try.prog 41 #[.agg #[.pointer p, .bool r]] w fun e w' => e = .returned (.agg #[.pointer p, .bool (!r)]) ∧ Below w.heap.size w w' :=
  (inverse_any p r w).mono fun e w' h => ⟨h.1, by rw [h.2]; go_grown⟩

theorem sameStep_below (ap bp : Nat) (ar br : Bool) (an bn : ByteArray) (s : Bool) (hs : ((ar == br) && (an.toList == bn.toList)) = s) (w : World) (ha : w.cell? ⟨ap, 0, none⟩ = some (.string an)) (hb : w.cell? ⟨bp, 0, none⟩ = some (.string bn)) :
    Calls Try.prog 40 #[.agg #[.pointer (some ⟨ap, 0, none⟩), .bool ar], .agg #[.pointer (some ⟨bp, 0, none⟩), .bool br]] w fun e w' => e = .returned (.bool s) ∧ Below w.heap.size w w' :=
  (sameStep_any ap bp ar br an bn w ha hb).mono fun e w' h => ⟨by rw [h.1, hs], by obtain ⟨_, n, rfl⟩ := h; exact below_drewN (by go_grown) _⟩

set_option maxHeartbeats 1000000 in
theorem holds_any (vp sp : Nat) (vr sr : Bool) (H X : Nat → Int) (via sn : ByteArray) (w : World) (ha : w.cell? ⟨vp, 0, none⟩ = some (.string via)) (hb : w.cell? ⟨sp, 0, none⟩ = some (.string sn)) :
    Calls Try.prog 37 #[.agg #[.pointer (some ⟨vp, 0, none⟩), .bool vr], .agg (idc H), .agg #[.pointer (some ⟨sp, 0, none⟩), .bool sr], .agg (idc X)] w
      fun e w' => e = .returned (.bool (!((sr == !vr) && (sn.toList == via.toList)) && !(idl X == idl H))) ∧ Below w.heap.size w w' := by
  have la := World.block_lt_of_cell? _ _ ha
  have lb := World.block_lt_of_cell? _ _ hb
  have e60 := eq60 X H
  generalize hq : (idl X == idl H) = q at *
  clear hq
  have kg := cell_grow
  cases hs : ((sr == !vr) && (sn.toList == via.toList)) <;> cases q <;>
  · have HS := hide hs
    clear hs
    go_enter Try.func37, Try.ntmps37
    go_wp2
    refine wp_region_quiet_below (by kernel_rfl) (by kernel_rfl) ?_
    repeat (go_big_quiet_step (first | (go_at_call 41; exact Calls.regrown_of (inverse_below _ _ _)) | (go_at_call 40; exact Calls.regrown_of (sameStep_below sp vp _ _ sn via _ (unhide HS) _ (cell_later (w := w) (Below.trans (by go_grown) ((below_regrown _ _ _).mono (by simp <;> omega))) hb) (cell_later (w := w) (Below.trans (by go_grown) ((below_regrown _ _ _).mono (by simp <;> omega))) ha)))))
    refine wpQuiet_nil ?_
    intro _ hw'
    obtain ⟨⟨dq, osq⟩, hw''⟩ := hw'
    subst hw''
    go_wp2
    go_ret
    exact ⟨rfl, Below.trans (by go_grown) ((below_regrown _ _ _).mono (by simp <;> omega))⟩
end Go.Proofs.Qxb6605611a
