import Derived.Test.Qxb6605611aRowR
namespace Go.Proofs.Qxb6605611a
set_option linter.unusedSimpArgs false
set_option linter.unusedVariables false
open Go.ChangeShapes Go.WideShapes Go.ChangeAt Go.RowKit Go.Sort

/-- The record behind Fill. -/
def fillP (via : ByteArray) (vr : Bool) (H : Nat → Int) (p : PG) : PG := if heldP via vr H p then filled p else p
/-- The records when n of them have been looked at. -/
def qsAt (F : PG → PG) (ps : List PG) (n : Nat) : List PG := (ps.take n).map F ++ ps.drop n
theorem qsAt_zero (F : PG → PG) (ps : List PG) : qsAt F ps 0 = ps := by simp [qsAt]
theorem qsAt_all (F : PG → PG) (ps : List PG) : qsAt F ps ps.length = ps.map F := by simp [qsAt]
theorem qsAt_length (F : PG → PG) (ps : List PG) (n : Nat) (hn : n ≤ ps.length) : (qsAt F ps n).length = ps.length := by simp [qsAt]; omega
theorem qsAt_get (F : PG → PG) (ps : List PG) (n : Nat) (hn : n < ps.length) : (qsAt F ps n)[n]? = some ps[n] := by
  unfold qsAt
  rw [List.getElem?_append_right (by simp; omega)]
  simp [Nat.min_eq_left (Nat.le_of_lt hn), hn]
theorem qsAt_step (F : PG → PG) (ps : List PG) (n : Nat) (hn : n < ps.length) : qsAt F ps (n + 1) = (qsAt F ps n).set n (F ps[n]) := by
  unfold qsAt
  have hl : ((ps.take n).map F).length = n := by simp; omega
  have hd : ps.drop n = ps[n] :: ps.drop (n + 1) := List.drop_eq_getElem_cons hn
  rw [List.set_append_right _ _ (by omega), hl, Nat.sub_self, hd, List.set_cons_zero, List.take_succ_eq_append_getElem hn, List.map_append, List.append_assoc]
  rfl
theorem qsAt_same (F : PG → PG) (ps : List PG) (n : Nat) (hn : n < ps.length) (h : F ps[n] = ps[n]) : qsAt F ps (n + 1) = qsAt F ps n := by
  rw [qsAt_step F ps n hn, h]
  apply List.ext_getElem?
  intro i
  by_cases hin : n = i
  · subst hin
    rw [List.getElem?_set_self (by rw [qsAt_length F ps n (by omega)]; exact hn), qsAt_get F ps n hn]
  · rw [List.getElem?_set_ne hin]

/-- What Fill leaves as it was: all below base; and every block but the onward row and the forms. -/
structure KeptF (base ob : Nat) (W wr : World) : Prop where
  size : W.heap.size ≤ wr.heap.size
  os : wr.os = W.os
  tape : wr.tape = W.tape
  output : wr.output = W.output
  low : ∀ k, k < base → wr.heap[k]? = W.heap[k]?
  other : ∀ (k : Nat) (C : Array Value) (t : TypeId), W.heap[k]? = some (.cells C t (0, 0)) → t ≠ 5 → k ≠ ob → wr.heap[k]? = W.heap[k]?

theorem KeptF.refl (base ob : Nat) (W : World) : KeptF base ob W W := ⟨Nat.le_refl _, rfl, rfl, rfl, fun _ _ => rfl, fun _ _ _ _ _ _ => rfl⟩
theorem KeptF.later {base ob : Nat} {W wr w' : World} (h : KeptF base ob W wr) (hb : Below wr.heap.size wr w') (hB : base ≤ W.heap.size) : KeptF base ob W w' := by
  have z := h.size
  refine ⟨Nat.le_trans h.size hb.size, hb.os.trans h.os, hb.tape.trans h.tape, hb.output.trans h.output, fun k hk => (hb.block k (by omega)).trans (h.low k hk), fun k C t hk ht hne => (hb.block k ?_).trans (h.other k C t hk ht hne)⟩
  have := (Array.getElem?_eq_some_iff.1 hk).1
  omega
theorem KeptF.cell {base ob : Nat} {W wr : World} (h : KeptF base ob W wr) {k : Nat} {C : Array Value} {t : TypeId} (hk : W.heap[k]? = some (.cells C t (0, 0))) (ht : t ≠ 5) (hne : k ≠ ob) : wr.heap[k]? = some (.cells C t (0, 0)) := (h.other k C t hk ht hne).trans hk

/-- Behind the writing of one grandchild. -/
theorem KeptF.write {W w w6 w7 : World} {base ob n : Nat} {qs : List PG} {es : List (Nat × Value)} {q : PG} {e : Nat × Value} {v0 v : Value} (hk : KeptF base ob W w) (h : RowR w base ob qs es) (hq : qs[n]? = some q) (he : es[n]? = some e) (hv0 : v0.ownBlock = e.2.ownBlock) (hA : Apd w w6 v0 v)
    (h7 : ∀ k, k ≠ ob → w7.heap[k]? = w6.heap[k]?) (h7s : w7.heap.size = w6.heap.size) (o7 : w7.os = w6.os) (t7 : w7.tape = w6.tape) (p7 : w7.output = w6.output) (hB : base ≤ W.heap.size) : KeptF base ob W w7 := by
  have hf := h.form n q e hq he
  have row5 : ∀ g, e.2.ownBlock = some g → ∃ C, w.heap[g]? = some (.cells C 5 (0, 0)) := fun g hg => by
    rcases hf with ⟨_, e', _⟩ | ⟨_, g', cap, cur, e', hh, _⟩
    · rw [e'] at hg; cases hg
    · rw [e'] at hg
      simp [Value.ownBlock] at hg
      subst hg
      exact ⟨_, hh⟩
  have z := hk.size
  refine ⟨by have := hA.grown.size; omega, o7.trans (hA.grown.os.trans hk.os), t7.trans (hA.grown.tape.trans hk.tape), p7.trans (hA.grown.output.trans hk.output), fun k hkb => ?_, fun k C t hW ht hne => ?_⟩
  · have := h.low
    rw [h7 k (by omega), hA.grown.block k (by omega) (fun r => by rw [hv0] at r; have := h.new n e k he r.symm; omega)]
    exact hk.low k hkb
  · have hw := hk.cell hW ht hne
    rw [h7 k hne, hA.grown.block k (Array.getElem?_eq_some_iff.1 hw).1 (fun r => by
      rw [hv0] at r
      obtain ⟨D, hD⟩ := row5 k r.symm
      rw [hw] at hD
      simp at hD
      exact ht hD.2)]
    exact hk.other k C t hW ht hne

/-- What fillVia leaves, the block too. -/
def ViaPostW (via : ByteArray) (vr : Bool) (w : World) (e : Ending) (w' : World) : Prop :=
  ∃ pb, e = .returned (.agg #[.pointer (some ⟨pb, 0, none⟩), .bool vr]) ∧ PredAt w' pb via ∧ Below w.heap.size w w'
set_option maxHeartbeats 1000000 in
theorem fillViaW (via : ByteArray) (vr : Bool) (w : World) : Calls Try.prog 23 #[.string via, .bool vr] w (ViaPostW via vr w) := by
  go_enter Try.func23, Try.ntmps23
  go_wp2
  refine bodyPost_ret (v := .agg #[.pointer (some ⟨w.heap.size + 1, 0, none⟩), .bool vr]) (by simp [results, Try.results23, go_sem]) rfl ⟨w.heap.size + 1, rfl, ?_, ?_⟩
  · exact ⟨#[.string via, .int .u8 0, .bool false, .bool false, .bool false, .bool false, .int .u8 1, .bool false, .string ⟨#[]⟩, .int .i64 0, .int .i64 0, .int .i64 0], (two_alloc rfl).2.2.1, rfl⟩
  · go_grown

/-- Two cells of the row are set. -/
theorem set_two (w : World) (ob i j : Nat) (x y : Value) : (∀ k, k ≠ ob → ((w.setCell ⟨ob, i, none⟩ x).setCell ⟨ob, j, none⟩ y).heap[k]? = w.heap[k]?) ∧ ((w.setCell ⟨ob, i, none⟩ x).setCell ⟨ob, j, none⟩ y).heap.size = w.heap.size ∧
    ∀ (C : Array Value) (t : TypeId), w.heap[ob]? = some (.cells C t (0, 0)) → ((w.setCell ⟨ob, i, none⟩ x).setCell ⟨ob, j, none⟩ y).heap[ob]? = some (.cells ((C.setIfInBounds i x).setIfInBounds j y) t (0, 0)) := by
  refine ⟨fun k hk => by rw [Below.heap_setCell _ _ _ _ hk, Below.heap_setCell _ _ _ _ hk], by simp [World.setCell], fun C t hC => ?_⟩
  exact heap_setCell_same _ ob j _ t y (heap_setCell_same w ob i C t x hC)

end Go.Proofs.Qxb6605611a
