import Derived.Test.Qxb6605611aApp
namespace Go.Proofs.Qxb6605611a
set_option linter.unusedSimpArgs false
set_option linter.unusedVariables false
open Go.ChangeShapes Go.WideShapes Go.ChangeAt Go.RowKit
set_option maxHeartbeats 1000000 in
theorem binary (a : Option Addr) (l c : Nat) (w : World) :
    Calls Try.prog 44 #[.slice a l c] w fun e w' => e = .returned (.agg #[.int .u8 3, .bool false, .string ⟨#[]⟩, .slice a l c, .slice none 0 0, .slice none 0 0]) ∧ Below w.heap.size w w' := by
  go_enter Try.func44, Try.ntmps44
  go_wp2
  refine bodyPost_ret (v := .agg #[.int .u8 3, .bool false, .string ⟨#[]⟩, .slice a l c, .slice none 0 0, .slice none 0 0]) (by simp [results, Try.results44, go_sem]) rfl ⟨rfl, ?_⟩
  go_grown

set_option maxHeartbeats 2000000 in
set_option maxRecDepth 100000 in
theorem appValue3 (base : Nat) (v : Value) (n : Nat) (xs : List Value) (hb : Nat) (zs : List Value) (hzl : zs.length = 16) (h1z : ∀ u ∈ zs, u.oneCell' = true) (w : World) (hown : w.ownsRow base 5 1 v n xs) (hn : n ≤ 600) (hbase : base ≤ w.heap.size)
    (hz : w.rangeAt hb 0 zs) (hne : v.ownBlock ≠ some hb) :
    Calls Try.prog 42 #[v, .agg #[.int .u8 3, .bool false, .string ⟨#[]⟩, .slice (some ⟨hb, 0, none⟩) 16 16, .slice none 0 0, .slice none 0 0]] w (AppPost base v n xs ([.int .u8 3, .int .u8 16] ++ zs) w) := by
  have hvlt : ∀ k, v.ownBlock = some k → k < w.heap.size := fun k hk => (hown.lt k hk).2
  have HOWN := hide hown
  have HZ := hide hz
  have hneo : some hb ≠ v.ownBlock := fun q => hne q.symm
  have hhb : hb < w.heap.size := World.block_lt_of_cell? _ _ (hz 0 zs[0] (List.getElem?_eq_getElem (by omega)))
  clear hown hz
  go_enter Try.func42, Try.ntmps42
  go_wp2
  generalize hWe : w.alloc _ = W
  have hg0 : W.heap[w.heap.size]? = some (.cells #[.int .u8 3, .bool false, .string ⟨#[]⟩, .slice (some ⟨hb, 0, none⟩) 16 16, .slice none 0 0, .slice none 0 0] 30 (0, 0)) := by rw [← hWe]; exact heap_alloc_new w _
  have hbW : Below w.heap.size w W := by rw [← hWe]; go_grown
  have hsW : W.heap.size = w.heap.size + 1 := by rw [← hWe]; simp
  clear hWe
  have c0 : W.cell? ⟨w.heap.size, 0, none⟩ = some (.int .u8 3) := by rw [cell_of_row _ _ _ _ _ _ hg0]; rfl
  have c3 : W.cell? ⟨w.heap.size, 3, none⟩ = some (.slice (some ⟨hb, 0, none⟩) 16 16) := by rw [cell_of_row _ _ _ _ _ _ hg0]; rfl
  have hvw : some w.heap.size ≠ v.ownBlock := fun q => by have := hvlt _ q.symm; omega
  have hS : ∀ (w' : World) (v' : Value), Apd W w' v v' → (w'.cell? ⟨w.heap.size, 0, none⟩ = some (.int .u8 3) ∧ w'.cell? ⟨w.heap.size, 3, none⟩ = some (.slice (some ⟨hb, 0, none⟩) 16 16)) := fun w' v' h => ⟨h.grown.cell c0 hvw, h.grown.cell c3 hvw⟩
  have hSa : ∀ o : Obj, ((W.drew.alloc o).cell? ⟨w.heap.size, 0, none⟩ = some (.int .u8 3) ∧ (W.drew.alloc o).cell? ⟨w.heap.size, 3, none⟩ = some (.slice (some ⟨hb, 0, none⟩) 16 16)) := fun o => hS _ v (Apd.of_below v (by go_grown))
  have hnc : ∀ (j : Nat) (u : Value), [Value.int .u8 3][j]? = some u → (W.drew.alloc (.cells #[.int .u8 3] 5)).cell? ((⟨w.heap.size + 1, 0, none⟩ : Addr).add j) = some u := fun j u hj => by
    have := new_cells W.drew [.int .u8 3] 5 j u hj
    rwa [show W.drew.heap.size = w.heap.size + 1 from hsW] at this
  have bA : Below W.heap.size W (W.drew.alloc (.cells #[.int .u8 3] 5)) := by go_grown
  go_region_held3 (fun w' => w'.cell? ⟨w.heap.size, 0, none⟩ = some (.int .u8 3) ∧ w'.cell? ⟨w.heap.size, 3, none⟩ = some (.slice (some ⟨hb, 0, none⟩) 16 16))
    (first | exact ⟨c0, c3⟩ | exact hSa _ | exact S1 | exact S2 | exact S3)
    (first
      | (refine step_app5 rfl (.tmp 23) (.tmp 26) rfl base v n xs rfl ((ownsRow_later HOWN.out hbW.drew).alloc _) ⟨w.heap.size + 1, 0, none⟩ 1 1 [.int .u8 3] rfl rfl hnc (by simp [Value.oneCell']) (by decide) (by omega) (by have := hbW.size; simp; omega) ?_; intro v1 w1 hown1 happ1; have A1 := (Apd.of_below v bA).trans happ1; have S1 := hS w1 v1 A1)
      | (go_at_call 47; refine (appCount base v1 (n + 1) (xs ++ [.int .u8 3]) 16 (by omega) (by omega) w1 hown1 (by omega) (by have := A1.grown.size; omega)).mono ?_; rintro e w2 ⟨v2, rfl, hown2, happ2⟩; have A2 := A1.trans happ2; have S2 := hS w2 v2 A2)
      | (refine step_app5 rfl (.tmp 31) (.tmp 33) rfl base v2 (n + 1 + 1) (xs ++ [.int .u8 3] ++ [.int .u8 16]) rfl hown2 ⟨hb, 0, none⟩ 16 16 zs rfl hzl (fun j u hj => by have := HZ.out j u hj; rw [Addr.add_lit]; exact A2.grown.cell (cell_later hbW this) hneo) h1z (by decide) (by omega) (by have := A2.grown.size; omega) ?_; intro v3 w3 hown3 happ3; have A3 := A2.trans happ3; have S3 := hS w3 v3 A3))
  go_wp2
  go_ret
  exact ⟨v3, rfl, by simpa [hzl] using hown3, (Apd.of_below v hbW).trans A3⟩

end Go.Proofs.Qxb6605611a
