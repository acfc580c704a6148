import Derived.Test.Qxb6605611aRows
import Derived.WalkKit
import Derived.WalkSpells
import Derived.WalkLawsBesides
import Derived.ProofKit
import Derived.OpenShut
import Derived.ShutString
import Derived.ChangeOld
import Derived.Below
import Derived.Deep.QuietTactic
import Derived.BigQuiet
import Derived.Deep.OwnRows
import Derived.Laws.CopyOwn
namespace Go.Proofs.Qxb6605611a
set_option linter.unusedSimpArgs false
set_option linter.unusedVariables false
open Go.ChangeShapes Go.WideShapes Go.ChangeAt Go.RowKit
open Go.ChangeMaps (open_string shut_string)

theorem Try.own : ownKnob Try.prog.godebug = none := by kernel_rfl
theorem Try.laidOut : laidOutB Try.prog = true := by kernel_rfl
theorem Try.info5 : (Try.prog.info? 5).map (fun i => (i.zero, i.size, i.bytes)) = some (some (.int .u8 0), 1, 1) := by kernel_rfl
theorem Try.size5 : (Try.prog.info? 5).map (·.size) = some 1 := by kernel_rfl

theorem setRow_alloc (w : World) (A B : Array Value) (t : TypeId) : (w.alloc (.cells A t)).setRow w.heap.size B = w.alloc (.cells B t) := by
  simp only [World.setRow, World.alloc]
  congr 1
  apply Array.ext
  · simp
  · intro k hk1 hk2
    simp only [Array.getElem_modify, Array.getElem_push]
    split
    · rename_i hk; subst hk; simp
    · split
      · rfl
      · simp at hk1; omega

theorem copy_alloc (w : World) (zs : List Value) (x : Addr) (sCap : Nat) (ty : TypeId)
    (hc : ∀ j v, zs[j]? = some v → w.cell? (x.add j) = some v) (h1 : ∀ v ∈ zs, v.oneCell' = true) :
    (Builtin.copy_ #[22, 22] ty #[.slice (some ⟨w.heap.size, 0, none⟩) zs.length zs.length, .slice (some x) zs.length sCap]).run Try.prog (w.alloc (.cells (madeCells #[.int .u8 0] zs.length) 5)) =
      .ok (goInt zs.length) (w.alloc (.cells zs.toArray 5)) := by
  have hsz : (madeCells #[Value.int .u8 0] zs.length).size = zs.length := size_madeCells _ _
  have h := run_copy_row Try.prog (w.alloc (.cells (madeCells #[.int .u8 0] zs.length) 5)) 22 22 ty 5 w.heap.size 0 zs.length zs.length x zs.length sCap (madeCells #[.int .u8 0] zs.length) 5 zs Try.underlying22 Try.size5
    (heap_alloc_new w _) (by simp) (fun j v hj => by
      have := hc j v hj
      have hb : (x.add j).block < w.heap.size := World.block_lt_of_cell? _ _ this
      rw [← this]
      exact World.cell?_of_block (Below.heap_alloc w _ _ hb)) (by omega) h1
  have e : ((madeCells #[Value.int .u8 0] zs.length).toList.take 0 ++ zs ++ (madeCells #[Value.int .u8 0] zs.length).toList.drop (0 + zs.length)) = zs := by
    rw [List.drop_of_length_le (by rw [Array.length_toList]; omega)]; simp
  rw [h, e, setRow_alloc]

theorem clone_nil (w : World) : Calls Try.prog 9 #[.slice none 0 0] w fun e w' => e = .returned (.slice none 0 0) ∧ w' = w := by
  have q := fun (w : World) => Lib.run_eql_slice_nil (P := Try.prog) w 22 5 none 0 0 0 0 Try.underlying22
  go_enter Try.func9, Try.ntmps9
  go_wp2
  go_ret
  exact ⟨rfl, rfl⟩

set_option maxHeartbeats 400000 in
theorem clone_some (x : Addr) (cap : Nat) (zs : List Value) (w : World) (hm : zs.length ≤ 1048576)
    (hc : ∀ j v, zs[j]? = some v → w.cell? (x.add j) = some v) (h1 : ∀ v ∈ zs, v.oneCell' = true) :
    Calls Try.prog 9 #[.slice (some x) zs.length cap] w fun e w' => e = .returned (.slice (some ⟨w.heap.size, 0, none⟩) zs.length zs.length) ∧ w' = w.alloc (.cells zs.toArray 5) := by
  have q := fun (w : World) => Lib.run_eql_slice_nil (P := Try.prog) w 22 5 (some x) zs.length cap 0 0 Try.underlying22
  have hmk := run_make_row' (P := Try.prog) 22 5 (.int .u8 0) 1 Try.underlying22 Try.info5 rfl .i64 .i64 zs.length (by omega) (by omega)
  have hcp := fun ty => copy_alloc w zs x cap ty hc h1
  clear hc h1
  go_enter Try.func9, Try.ntmps9
  go_wp2
  go_ret
  exact ⟨rfl, rfl⟩

end Go.Proofs.Qxb6605611a
