import Derived.Test.Qxb6605611aSortE
import Derived.Laws.IdiomRangeMap
import Derived.Test.Qxb6605611aFillF
namespace Go.Proofs.Qxb6605611a
set_option linter.unusedSimpArgs false
set_option linter.unusedVariables false
open Go.ChangeShapes Go.WideShapes Go.ChangeAt Go.RowKit

set_option maxHeartbeats 2000000 in
set_option maxRecDepth 100000 in
theorem appValueMap (base : Nat) (v : Value) (n : Nat) (xs : List Value) (sp : Value) (w : World) (hown : w.ownsRow base 5 1 v n xs) (hn : n ≤ 500) (hbase : base ≤ w.heap.size) :
    Calls Try.prog 45 #[v, sp, .map none] w (AppPost base v n xs [.int .u8 7, .int .u8 0] w) := by
  have HOWN := hide hown
  clear hown
  have hrg : ∀ wx : World, (Instr.range 89 (.map none)).run Try.prog wx = _ := fun wx => run_range_nilMap wx 89 _ _ Try.underlying89
  go_enter Try.func45, Try.ntmps45
  go_wp2
  generalize hW1 : w.alloc _ = W1
  have e1 : W1.heap.size = w.heap.size + 1 := by rw [← hW1]; simp
  have hb1 : Below w.heap.size w W1 := by rw [← hW1]; go_grown
  clear hW1
  have hnx : ∀ ty, (Instr.next (.pointer (some ⟨W1.heap.size, 0, none⟩)) false ty).run Try.prog (W1.alloc (.mapIter none 0 #[] 0)) = _ := fun ty => run_next_nilMap _ ty 0 0 #[]
  rw [e1] at hnx
  refine wp_loop_rounds 1 ?_
  rw [rounds_succ]
  have hbI : Below w.heap.size w (W1.alloc (.mapIter none 0 #[] 0)) := hb1.alloc hb1.size _
  have HI := hide (ownsRow_later HOWN.out hbI)
  go_wp2_with (first
    | (go_at_call 51; refine (sort_0 _ _ _ _).mono ?_; rintro e w' ⟨rfl, rfl⟩)
    | (go_at_call 54; refine (appMapHead base v n xs 0 (by omega) (by omega) _ HI.out (by omega) (by have := hbI.size; omega)).mono ?_; rintro e w2 ⟨v2, rfl, hown2, happ2⟩))
  refine wp_loop_rounds 1 ?_
  rw [rounds_succ]
  go_wp2
  go_ret
  exact ⟨v2, rfl, hown2, (Apd.of_below v hbI).trans happ2⟩

/-- The 22 bytes of a grandchild with no values. -/
def gbv (X : Nat → Int) : List Value := [.int .u8 6, .int .u8 2, .int .u8 3, .int .u8 16] ++ il X ++ [.int .u8 7, .int .u8 0]

set_option maxHeartbeats 2000000 in
set_option maxRecDepth 100000 in
theorem appGrand (base : Nat) (v : Value) (sp : Value) (X : Nat → Int) (w : World) (hown : w.ownsRow base 5 1 v 0 []) (hbase : base ≤ w.heap.size) :
    Calls Try.prog 38 #[v, sp, .agg (idc X), .map none] w (AppPost base v 0 [] (gbv X) w) := by
  have hvlt : ∀ k, v.ownBlock = some k → k < w.heap.size := fun k hk => (hown.lt k hk).2
  have HOWN := hide hown
  clear hown
  go_enter Try.func38, Try.ntmps38
  go_wp2
  generalize hWe : w.alloc _ = W
  have hg0 : W.heap[w.heap.size]? = some (.cells (il X).toArray 60 (0, 0)) := by rw [← hWe]; exact heap_alloc_new w _
  have hbW : Below w.heap.size w W := by rw [← hWe]; go_grown
  have hsW : W.heap.size = w.heap.size + 1 := by rw [← hWe]; simp
  clear hWe
  have hr := range_of_block hg0
  have hvw : some w.heap.size ≠ v.ownBlock := fun q => by have := hvlt _ q.symm; omega
  go_region_held3 (fun _ => True) (exact trivial)
    (first
      | (go_at_call 43; refine (appListHead base v 0 [] 2 (by omega) (by omega) _ (ownsRow_later HOWN.out hbW.drew) (by omega) (by have := hbW.size; simp; omega)).mono ?_; rintro e w1 ⟨v1, rfl, hown1, happ1⟩; have A1 : Apd W w1 v v1 := (Apd.of_below v (Below.refl W.heap.size W).drew).trans happ1)
      | (go_at_call 44; refine (binary _ _ _ _).mono ?_; rintro e w2 ⟨rfl, hb2⟩; have A2 : Apd W w2 v v1 := A1.trans (Apd.of_below v1 hb2))
      | (go_at_call 42; refine (appValue3 base v1 2 [.int .u8 6, .int .u8 2] w.heap.size (il X) rfl (il_one X) w2 (ownsRow_later hown1 hb2) (by omega) (by have := A2.grown.size; have := hbW.size; omega) (fun j u hj => A2.grown.cell (hr j u hj) hvw) (fun q => by rcases A1.moved _ q with r | r <;> first | exact hvw r.symm | omega)).mono ?_; rintro e w3 ⟨v3, rfl, hown3, happ3⟩; have A3 : Apd W w3 v v3 := A2.trans happ3))
  go_wp2_with (go_at_call 45; refine (appValueMap base v3 20 _ sp w3 hown3 (by omega) (by have := A3.grown.size; have := hbW.size; omega)).mono ?_; rintro e w4 ⟨v4, rfl, hown4, happ4⟩)
  go_ret
  exact ⟨v4, rfl, by simpa [gbv] using hown4, (Apd.of_below v hbW).trans (A3.trans happ4)⟩

/-- The same as numbers. -/
def gbz (X : Nat → Int) : List Int := [6, 2, 3, 16] ++ idl X ++ [7, 0]
theorem gbz_values (X : Nat → Int) : u8s (gbz X) = gbv X := rfl
theorem gbz_length (X : Nat → Int) : (gbz X).length = 22 := rfl
theorem FormIs.of_own {w : World} {base : Nat} {v : Value} {X : Nat → Int} (h : w.ownsRow base 5 1 v 22 (gbv X)) : FormIs w v false (gbz X) := by
  rcases h.2 with ⟨_, h'⟩ | ⟨g, cap, cur, h', _, hg, _, _, _, hx⟩
  · omega
  · refine .inr ⟨rfl, ⟨g, 0, none⟩, cap, h', fun j u hj => h.cells (g := g) (by rw [h']; rfl) j u hj⟩

/-- What fillGrandBytes leaves. -/
def BytesPost (X : Nat → Int) (w : World) (e : Ending) (w' : World) : Prop := ∃ v, e = .returned v ∧ FormIs w' v false (gbz X) ∧ Below w.heap.size w w'

set_option maxHeartbeats 2000000 in
set_option maxRecDepth 100000 in
theorem grandBytes (X : Nat → Int) (w : World) : Calls Try.prog 30 #[.agg (idc X)] w (BytesPost X w) := by
  obtain ⟨i5, hi5, hz5, hs5, hb5⟩ := info5_parts
  go_enter Try.func30, Try.ntmps30
  have bW : Below w.heap.size w (w.alloc (.cells (idc X) 46)) := by go_grown
  have rW : (w.alloc (.cells (idc X) 46)).rangeAt w.heap.size 0 (il X) := range_of_block (heap_alloc_new w _)
  have sW : (w.alloc (.cells (idc X) 46)).heap.size = w.heap.size + 1 := by simp
  go_wp2_with (first
    | (at_make; refine wpList_make_own _ rfl _ _ 22 rfl (w.heap.size + 1) 5 i5 (.int .u8 0) 1 Try.underlying22 hi5 hz5 hs5 _ _ _ 22 rfl rfl rfl (by rw [hb5]; omega) (by unfold maxLen; omega) (by simp) ?_; intro wM hownM0 hgrowM; have hownM : wM.ownsRow (w.heap.size + 1) 5 1 (.slice (some ⟨w.heap.size + 1, 0, none⟩) 0 22) 0 [] := by simpa using hownM0)
    | (at_builtin; refine wpList_app5 rfl (.tmp 5) (.tmp 6) rfl (w.heap.size + 1) (.slice (some ⟨w.heap.size + 1, 0, none⟩) 0 22) 0 [] rfl (hownM.alloc _) ⟨wM.heap.size, 0, none⟩ 4 4 [.int .u8 6, .int .u8 2, .int .u8 3, .int .u8 16] rfl rfl (fun j u hj => new_cells wM [.int .u8 6, .int .u8 2, .int .u8 3, .int .u8 16] 5 j u hj) (by simp [Value.oneCell']) (by decide) (by omega) (by have := hgrowM.size; simp at this ⊢; omega) ?_; intro v1 w1 hown1 happ1; have A1 := (Apd.of_below (.slice (some ⟨w.heap.size + 1, 0, none⟩) 0 22) (w := wM) (by go_grown)).trans happ1)
    | (at_builtin; refine wpList_app5 rfl (.tmp 8) (.tmp 9) rfl (w.heap.size + 1) v1 _ _ rfl hown1 ⟨w.heap.size, 0, none⟩ 16 16 (il X) rfl rfl (fun j u hj => by rw [Addr.add_lit]; exact A1.grown.cell (hgrowM.cell (rW j u hj) (by simp)) (by simp [Value.ownBlock])) (il_one X) (by decide) (by omega) (by have := hgrowM.size; have := A1.grown.size; simp at *; omega) ?_; intro v2 w2 hown2 happ2; have A2 := A1.trans happ2)
    | (at_builtin; refine wpList_app5 rfl (.tmp 11) (.tmp 12) rfl (w.heap.size + 1) v2 _ _ rfl (hown2.alloc _) ⟨w2.heap.size, 0, none⟩ 2 2 [.int .u8 7, .int .u8 0] rfl rfl (fun j u hj => new_cells w2 [.int .u8 7, .int .u8 0] 5 j u hj) (by simp [Value.oneCell']) (by decide) (by omega) (by have := hgrowM.size; have := A2.grown.size; simp at *; omega) ?_; intro v3 w3 hown3 happ3; have A3 := (A2.trans (Apd.of_below v2 (w := w2) (by go_grown))).trans happ3))
  go_ret
  have hf : w3.ownsRow (w.heap.size + 1) 5 1 v3 22 (gbv X) := by simpa [gbv] using hown3
  exact ⟨v3, rfl, FormIs.of_own hf, (bW.grown hgrowM bW.size (by simp)).grown A3.grown (by have := hgrowM.size; omega) (by simp [Value.ownBlock])⟩

end Go.Proofs.Qxb6605611a
