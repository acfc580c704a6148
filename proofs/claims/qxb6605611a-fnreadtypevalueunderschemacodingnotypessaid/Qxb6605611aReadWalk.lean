import Derived.Test.Qxb6605611aRead
namespace Go.Proofs.Qxb6605611a.fnReadTypeValueUnderSchemaCodingNoTypes
set_option linter.unusedSimpArgs false
set_option linter.unusedVariables false
open Go.ChangeShapes Go.WideShapes Go.ChangeAt Go.RowKit

/-- WHAT THE WALK IS TOLD OF A SLICE OF INTEGERS THAT CAME IN: it is nil; or it leads to a row of 'cap' cells, the numbers 'zs' (the first 'len' are its elements, the rest its spare room), each fitting its kind. -/
def IsRow (k : IntKind) (w : World) (a : Option Addr) (len cap : Nat) (zs : List Int) : Prop :=
  (a = none ∧ len = 0 ∧ cap = 0 ∧ zs = []) ∨
  ∃ x, a = some x ∧ len ≤ cap ∧ cap ≤ maxLen ∧ zs.length = cap ∧ (∀ i, i < zs.length → w.cell? (x.add i) = some (.int k (zs.getD i 0))) ∧ ∀ n ∈ zs, (Lit.int k n).wf = true

/-! ### STEP 1: THE WALK: the Go text returns true, AND WRITES NOTHING THAT WAS THERE: 'Below w.heap.size w w'' (Derived/Below.lean: '.refl', '.alloc', '.drew', '.setCell' at a new block, '.trans'). Open each 'IsRow' by 'rcases' AHEAD of 'go_enter'; part every test ahead of the walk. -/
theorem walk (a0 : Int) (a1 : Bool) (a2 : ByteArray) (a3 : Option Addr) (len3 cap3 : Nat) (z3 : List Int) (w : World) (w0 : (Lit.int .u8 a0).wf = true) (w2 : a2.size ≤ maxLen) (w3 : IsRow .u8 w a3 len3 cap3 z3) :
    Calls Try.prog 3 #[.int .u8 a0, .bool a1, .string a2, .slice a3 len3 cap3] w fun e w' => e = .returned (.bool true) ∧ Below w.heap.size w w' := by
  unfold maxLen at w2
  have bd0 := bounds_u8 w0
  have hlen : len3 ≤ 9223372036854775807 := by
    rcases w3 with ⟨_, h, _, _⟩ | ⟨_, _, h, h', _⟩
    · omega
    · unfold maxLen at h'; omega
  by_cases hz : a2.size + len3 ≤ 1048576
  case neg =>
    go_enter Try.func3, Try.ntmps3
    go_wp2_with (go_at_call 8; refine (zzBytes3 _ _ _ _ _ _ _).mono ?_; rw [decide_eq_false hz]; rintro e w' ⟨rfl, rfl⟩)
    go_ret
    exact ⟨rfl, Below.refl _ _⟩
  by_cases h1 : a2.size ≤ 524288
  case neg =>
    go_enter Try.func3, Try.ntmps3
    go_wp2_with (go_at_call 8; refine (zzBytes3 _ _ _ _ _ _ _).mono ?_; rw [decide_eq_true hz]; rintro e w' ⟨rfl, rfl⟩)
    go_ret
    exact ⟨rfl, Below.refl _ _⟩
  by_cases h2 : len3 ≤ 524288
  case neg =>
    go_enter Try.func3, Try.ntmps3
    go_wp2_with (go_at_call 8; refine (zzBytes3 _ _ _ _ _ _ _).mono ?_; rw [decide_eq_true hz]; rintro e w' ⟨rfl, rfl⟩)
    go_ret
    exact ⟨rfl, Below.refl _ _⟩
  have hk : a0 = 1 ∨ (a0 == 1) = false := by
    by_cases h : a0 = 1
    · exact .inl h
    · exact .inr (by simpa using h)
  rcases w3 with ⟨rfl, rfl, rfl, rfl⟩ | ⟨x, rfl, hlc, hcm, hzl, hcell, hwf⟩
  · rcases hk with rfl | hk
    · go_enter Try.func3, Try.ntmps3
      go_wp2_with (first | (go_at_call 8; refine (zzBytes3 _ _ _ _ _ _ _).mono ?_; rw [decide_eq_true hz]; rintro e w' ⟨rfl, rfl⟩) | (go_at_call 9; refine (clone_nil _).mono ?_; rintro e w' ⟨rfl, rfl⟩) | (go_at_call 10; refine (zread_s _ _ _ _ _ _ _).mono ?_; rintro e w' ⟨rfl, hb⟩))
      go_ret
      exact ⟨rfl, (((Below.refl _ _).alloc (Nat.le_refl _) _).alloc (by simp) _).trans (hb.mono (by simp; omega))⟩
    · go_enter Try.func3, Try.ntmps3
      go_wp2_with (first | (go_at_call 8; refine (zzBytes3 _ _ _ _ _ _ _).mono ?_; rw [decide_eq_true hz]; rintro e w' ⟨rfl, rfl⟩) | (go_at_call 9; refine (clone_nil _).mono ?_; rintro e w' ⟨rfl, rfl⟩) | (go_at_call 10; refine (zread_no _ _ _ _ _ _ _ _ hk (by simp) (by simp) (fun i hi => absurd hi (by omega))).mono ?_; rintro e w' ⟨rfl, hb⟩))
      go_ret
      exact ⟨rfl, (((Below.refl _ _).alloc (Nat.le_refl _) _).alloc (by simp) _).trans (hb.mono (by simp; omega))⟩
  · obtain ⟨zs, hzs, hc', h1', hbd⟩ : ∃ zs : List Value, zs.length = len3 ∧ (∀ j v, zs[j]? = some v → w.cell? (x.add j) = some v) ∧ (∀ v ∈ zs, v.oneCell' = true) ∧ (∀ j, j < len3 → ∃ z : Int, 0 ≤ z ∧ z ≤ 255 ∧ zs[j]? = some (.int .u8 z)) := by
      refine ⟨(z3.take len3).map (Value.int .u8), by simp; omega, ?_, ?_, ?_⟩
      · intro j v hv
        have hj : j < len3 := by
          have := (List.getElem?_eq_some_iff.1 hv).1; simp at this; omega
        rw [hcell j (by omega)]
        rw [← hv]
        simp [List.getElem?_take, hj, show j < z3.length by omega]
      · intro v hv
        obtain ⟨z, _, rfl⟩ := List.mem_map.1 hv
        rfl
      · intro j hj
        have hj' : j < z3.length := by omega
        have := bounds_u8 (hwf z3[j] (List.getElem_mem hj'))
        exact ⟨z3[j], this.1, this.2, by simp [List.getElem?_take, hj, hj']⟩
    subst hzs
    clear hcell hwf hzl
    rcases hk with rfl | hk
    · go_enter Try.func3, Try.ntmps3
      go_wp2_with (first | (go_at_call 8; refine (zzBytes3 _ _ _ _ _ _ _).mono ?_; rw [decide_eq_true hz]; rintro e w' ⟨rfl, rfl⟩) | (go_at_call 9; refine (clone_some x _ zs _ (by omega) hc' h1').mono ?_; rintro e w' ⟨rfl, rfl⟩) | (go_at_call 10; refine (zread_s _ _ _ _ _ _ _).mono ?_; rintro e w' ⟨rfl, hb⟩))
      go_ret
      exact ⟨rfl, ((((Below.refl _ _).alloc (Nat.le_refl _) _).alloc (by simp) _).alloc (by simp; omega) _).trans (hb.mono (by simp; omega))⟩
    · have hrow : Hid (∀ o1 o2 i, i < zs.length → ∃ b o z, some (⟨w.heap.size, 0, none⟩ : Addr) = some ⟨b, o, none⟩ ∧ b < (((w.alloc (.cells zs.toArray 5)).alloc o1).alloc o2).heap.size ∧ 0 ≤ z ∧ z ≤ 255 ∧ (((w.alloc (.cells zs.toArray 5)).alloc o1).alloc o2).cell? ⟨b, o + i, none⟩ = some (.int .u8 z)) := by
        intro o1 o2 i hi
        obtain ⟨z, hz0, hz1, hz2⟩ := hbd i hi
        refine ⟨w.heap.size, 0, z, rfl, by simp; omega, hz0, hz1, ?_⟩
        rw [World.cell?_of_block (Below.heap_alloc _ _ _ (by simp; omega)), World.cell?_of_block (Below.heap_alloc _ _ _ (by simp)), Nat.zero_add, cell_of_row _ _ _ _ _ _ (heap_alloc_new w _)]
        simpa using hz2
      clear hbd
      go_enter Try.func3, Try.ntmps3
      go_wp2_with (first | (go_at_call 8; refine (zzBytes3 _ _ _ _ _ _ _).mono ?_; rw [decide_eq_true hz]; rintro e w' ⟨rfl, rfl⟩) | (go_at_call 9; refine (clone_some x _ zs _ (by omega) hc' h1').mono ?_; rintro e w' ⟨rfl, rfl⟩) | (go_at_call 10; refine (zread_no _ _ _ _ _ _ _ _ hk (by simp) (by simp [go_sem]) (by exact hrow.out _ _)).mono ?_; rintro e w' ⟨rfl, hb⟩))
      go_ret
      exact ⟨rfl, ((((Below.refl _ _).alloc (Nat.le_refl _) _).alloc (by simp) _).alloc (by simp; omega) _).trans (hb.mono (by simp; omega))⟩

end Go.Proofs.Qxb6605611a.fnReadTypeValueUnderSchemaCodingNoTypes
