import Derived.Test.Qxb6605643aBytes2
namespace Go.Proofs.Qxb6605643a
set_option linter.unusedSimpArgs false
set_option linter.unusedVariables false
open Go.ChangeShapes Go.WideShapes Go.ChangeAt Go.RowKit Go.Maps

theorem Try.info9 : (Try.prog.info? 9).map (fun i => (i.zero, i.size, i.bytes)) = some (some (.string ByteArray.empty), 1, 16) := by kernel_rfl
theorem Try.info34 : (Try.prog.info? 34).map (fun i => (i.zero, i.size, i.bytes)) = some (some (.agg #[.string ByteArray.empty, .string ByteArray.empty]), 2, 32) := by kernel_rfl

/-- The row after n rounds of the copy. -/
def cl (ss : List ByteArray) (n : Nat) : Array Value := ((ss.take n).map Value.string ++ List.replicate (ss.length - n) (Value.string ByteArray.empty)).toArray
theorem cl_at (ss : List ByteArray) (n : Nat) (h : n < ss.length) : (cl ss n)[n]? = some (Value.string ByteArray.empty) := by
  have e : (List.map Value.string (List.take n ss)).length = n := by simp; omega
  unfold cl
  rw [List.getElem?_toArray, List.getElem?_append_right (by omega), e, Nat.sub_self, List.getElem?_replicate, if_pos (by omega)]
theorem cl_step (ss : List ByteArray) (n : Nat) (h : n < ss.length) : (cl ss n).setIfInBounds n (Value.string ss[n]) = cl ss (n + 1) := by
  unfold cl
  rw [List.setIfInBounds_toArray]
  congr 1
  rw [List.take_succ_eq_append_getElem h, List.set_append]
  have e : (List.map Value.string (List.take n ss)).length = n := by simp; omega
  rw [if_neg (by omega), e, Nat.sub_self, show ss.length - n = (ss.length - (n + 1)) + 1 by omega, List.replicate_succ, List.set_cons_zero, List.map_append]
  simp only [List.map_cons, List.map_nil, List.append_assoc, List.cons_append, List.nil_append]
theorem cl_zero (ss : List ByteArray) : madeCells #[Value.string ByteArray.empty] ss.length = cl ss 0 := by
  apply Array.ext'
  rw [toList_madeCells_one]
  simp [cl]
theorem cl_row (ss : List ByteArray) (w : World) (hs : ∀ s ∈ ss, s.size ≤ maxLen) : StrRow (w.alloc (.cells (cl ss ss.length) 9)) (some ⟨w.heap.size, 0, none⟩) ss := fun i s hi => by
  refine ⟨w.heap.size, 0, rfl, ?_, hs s (List.mem_of_getElem? hi)⟩
  rw [cell_of_row _ _ _ _ _ _ (heap_alloc_new w _)]
  simp [cl, hi]

theorem StrRow.sizes {w : World} {a : Option Addr} {ss : List ByteArray} (h : StrRow w a ss) : ∀ s ∈ ss, s.size ≤ maxLen := fun s hs => by
  obtain ⟨i, hi⟩ := List.getElem?_of_mem hs
  obtain ⟨_, _, _, _, h3⟩ := h i s hi
  exact h3

/-- What the copy of a slice of strings leaves. -/
def ClonedS (a : Option Addr) (ss : List ByteArray) (w : World) (e : Ending) (w' : World) : Prop :=
  ∃ a' c', e = .returned (.slice a' ss.length c') ∧ (a' = none ↔ a = none) ∧ StrRow w' a' ss ∧ Below w.heap.size w w'

set_option maxHeartbeats 400000 in
theorem cloneStrings (a : Option Addr) (cap : Nat) (ss : List ByteArray) (w : World) (hl : ss.length ≤ 1048576) (hrow : StrRow w a ss) (hnil : a = none → cap = 0 ∧ ss = []) :
    Calls Try.prog 7 #[.slice a ss.length cap] w (ClonedS a ss w) := by
  cases a with
  | none =>
    obtain ⟨rfl, rfl⟩ := hnil rfl
    have q := fun (w : World) => Lib.run_eql_slice_nil (P := Try.prog) w 22 9 none 0 0 0 0 Try.underlying22
    go_enter Try.func7, Try.ntmps7
    go_wp2
    go_ret
    exact ⟨none, 0, rfl, by simp, fun i s h => by simp at h, Below.refl _ _⟩
  | some x =>
    have q := fun (w : World) => Lib.run_eql_slice_nil (P := Try.prog) w 22 9 (some x) ss.length cap 0 0 Try.underlying22
    have hmk := run_make_row' (P := Try.prog) 22 9 (.string ByteArray.empty) 16 Try.underlying22 Try.info9 rfl .i64 .i64 ss.length (by omega) (by omega)
    rw [cl_zero] at hmk
    have HR := hide hrow
    clear hrow hnil
    go_enter Try.func7, Try.ntmps7
    go_wp2
    go_loopw [4] (fun i wr => ∃ n : Nat, n ≤ ss.length ∧ i = .int .i64 n ∧ wr = w.alloc (.cells (cl ss n) 9)) (fun i _ => ss.length - (intOf i).toNat)
    case atStart => exact ⟨0, Nat.zero_le _, rfl, rfl⟩
    case round =>
      obtain ⟨n, hn, rfl, rfl⟩ := hrel
      by_cases hlt : n < ss.length
      · obtain ⟨b, o, hx, hcell, hsz⟩ := HR.out.at hlt
        cases hx
        have hb := World.block_lt_of_cell? _ _ hcell
        have hcl := cl_at ss n hlt
        have HS := hide (cl_step ss n hlt)
        go_wp2
        go_roundw
        case rel => exact ⟨n + 1, by omega, by go_num, by first | rw [HS.out] | (simp [HS.out])⟩
        case measure => simp [intOf]; omega
      · obtain rfl : n = ss.length := by omega
        have HF := hide (cl_row ss w HR.out.sizes)
        go_wp2
        go_ret
        exact ⟨_, _, rfl, by simp, HF.out, (Below.refl _ _).alloc (Nat.le_refl _) _⟩

/-- The cells of the queries. -/
def qcells (qs : List (ByteArray × ByteArray)) : List Value := qs.flatMap fun q => [.string q.1, .string q.2]
theorem qcells_length (qs : List (ByteArray × ByteArray)) : (qcells qs).length = qs.length * 2 := by
  induction qs with
  | nil => rfl
  | cons q r ih => simp only [qcells, List.flatMap_cons, List.length_append] at *; simp only [ih, List.length_cons, List.length_nil]; omega
theorem qcells_append (a b : List (ByteArray × ByteArray)) : qcells (a ++ b) = qcells a ++ qcells b := by simp [qcells]
theorem qcells_at (qs : List (ByteArray × ByteArray)) (i : Nat) (q : ByteArray × ByteArray) (h : qs[i]? = some q) : (qcells qs)[i * 2]? = some (.string q.1) ∧ (qcells qs)[i * 2 + 1]? = some (.string q.2) := by
  have hi : i < qs.length := (List.getElem?_eq_some_iff.1 h).1
  have e : qs = qs.take i ++ q :: qs.drop (i + 1) := by
    have : qs[i] = q := (List.getElem?_eq_some_iff.1 h).2
    rw [← this, List.getElem_cons_drop, List.take_append_drop]
  have el : (qcells (qs.take i)).length = i * 2 := by rw [qcells_length, List.length_take]; omega
  rw [e, qcells_append]
  constructor
  · rw [List.getElem?_append_right (by omega), el, Nat.sub_self]; rfl
  · rw [List.getElem?_append_right (by omega), el, show i * 2 + 1 - i * 2 = 1 by omega]; rfl
/-- The row after n rounds of the copy. -/
def cq (qs : List (ByteArray × ByteArray)) (n : Nat) : Array Value := (qcells (qs.take n) ++ List.replicate ((qs.length - n) * 2) (Value.string ByteArray.empty)).toArray
theorem cq_at (qs : List (ByteArray × ByteArray)) (n : Nat) (h : n < qs.length) : (cq qs n)[n * 2]? = some (Value.string ByteArray.empty) ∧ (cq qs n)[n * 2 + 1]? = some (Value.string ByteArray.empty) := by
  have e : (qcells (qs.take n)).length = n * 2 := by rw [qcells_length, List.length_take]; omega
  unfold cq
  constructor
  · rw [List.getElem?_toArray, List.getElem?_append_right (by omega), e, Nat.sub_self, List.getElem?_replicate, if_pos (by omega)]
  · rw [List.getElem?_toArray, List.getElem?_append_right (by omega), e, List.getElem?_replicate, if_pos (by omega)]
theorem cq_step (qs : List (ByteArray × ByteArray)) (n : Nat) (h : n < qs.length) : ((cq qs n).setIfInBounds (n * 2) (Value.string qs[n].1)).setIfInBounds (n * 2 + 1) (Value.string qs[n].2) = cq qs (n + 1) := by
  have e : (qcells (qs.take n)).length = n * 2 := by rw [qcells_length, List.length_take]; omega
  unfold cq
  rw [List.setIfInBounds_toArray, List.setIfInBounds_toArray]
  congr 1
  rw [List.take_succ_eq_append_getElem h, qcells_append, List.set_append, if_neg (by omega), e, Nat.sub_self, show (qs.length - n) * 2 = (qs.length - (n + 1)) * 2 + 1 + 1 by omega, List.replicate_succ, List.replicate_succ, List.set_cons_zero,
    List.set_append, if_neg (by omega), e, show n * 2 + 1 - n * 2 = 1 by omega]
  simp [qcells]
theorem cq_zero (qs : List (ByteArray × ByteArray)) : madeCells #[Value.string ByteArray.empty, Value.string ByteArray.empty] (qs.length * 2) = cq qs 0 := by
  apply Array.ext'
  apply List.ext_getElem?
  intro j
  by_cases hj : j < qs.length * 2
  · have h2 : j % 2 = 0 ∨ j % 2 = 1 := by omega
    rcases h2 with h2 | h2 <;> simp [madeCells, cq, qcells, hj, h2]
  · simp [madeCells, cq, qcells, hj]
theorem cq_row (qs : List (ByteArray × ByteArray)) (w : World) (hs : ∀ q ∈ qs, q.1.size ≤ maxLen ∧ q.2.size ≤ maxLen) : QRow (w.alloc (.cells (cq qs qs.length) 34)) (some ⟨w.heap.size, 0, none⟩) qs := fun i q hi => by
  have := qcells_at qs i q hi
  refine ⟨w.heap.size, 0, rfl, ?_, ?_, (hs q (List.mem_of_getElem? hi)).1, (hs q (List.mem_of_getElem? hi)).2⟩
  · rw [cell_of_row _ _ _ _ _ _ (heap_alloc_new w _)]
    simp [cq, this.1]
  · rw [cell_of_row _ _ _ _ _ _ (heap_alloc_new w _)]
    simp [cq, this.2]
theorem QRow.sizes {w : World} {a : Option Addr} {qs : List (ByteArray × ByteArray)} (h : QRow w a qs) : ∀ q ∈ qs, q.1.size ≤ maxLen ∧ q.2.size ≤ maxLen := fun s hs => by
  obtain ⟨i, hi⟩ := List.getElem?_of_mem hs
  obtain ⟨_, _, _, _, _, h3⟩ := h i s hi
  exact h3

theorem make_q (qs : List (ByteArray × ByteArray)) (hl : qs.length ≤ 1048576) (w : World) :
    (Instr.makeSlice 23 (.int .i64 (qs.length : Int)) (.int .i64 (qs.length : Int))).run Try.prog w = .ok (.slice (some ⟨w.heap.size, 0, none⟩) qs.length qs.length) (w.alloc (.cells (cq qs 0) 34)) := by
  obtain ⟨i, hi, hz, hs, hb⟩ := info_parts Try.info34
  have := run_make (P := Try.prog) w 23 34 i _ Try.underlying23 hi hz .i64 .i64 (qs.length : Int) (qs.length : Int) (by omega) (by omega) (by rw [hb]; omega) (by omega)
  rw [this, Int.toNat_natCast, hs, ← cq_zero]
  rfl

/-- What the copy of a slice of queries leaves. -/
def ClonedQ (a : Option Addr) (qs : List (ByteArray × ByteArray)) (w : World) (e : Ending) (w' : World) : Prop :=
  ∃ a' c', e = .returned (.slice a' qs.length c') ∧ QRow w' a' qs ∧ Below w.heap.size w w'

set_option maxHeartbeats 400000 in
theorem cloneQueries (a : Option Addr) (cap : Nat) (qs : List (ByteArray × ByteArray)) (w : World) (hl : qs.length ≤ 1048576) (hrow : QRow w a qs) (hnil : a = none → cap = 0 ∧ qs = []) :
    Calls Try.prog 8 #[.slice a qs.length cap] w (ClonedQ a qs w) := by
  cases a with
  | none =>
    obtain ⟨rfl, rfl⟩ := hnil rfl
    have q := fun (w : World) => Lib.run_eql_slice_nil (P := Try.prog) w 23 34 none 0 0 0 0 Try.underlying23
    go_enter Try.func8, Try.ntmps8
    go_wp2
    go_ret
    exact ⟨none, 0, rfl, fun i s h => by simp at h, Below.refl _ _⟩
  | some x =>
    have q := fun (w : World) => Lib.run_eql_slice_nil (P := Try.prog) w 23 34 (some x) qs.length cap 0 0 Try.underlying23
    have hmk := make_q qs hl
    have HR := hide hrow
    clear hrow hnil
    go_enter Try.func8, Try.ntmps8
    go_wp2
    go_loopw [4] (fun i wr => ∃ n : Nat, n ≤ qs.length ∧ i = .int .i64 n ∧ wr = w.alloc (.cells (cq qs n) 34)) (fun i _ => qs.length - (intOf i).toNat)
    case atStart => exact ⟨0, Nat.zero_le _, rfl, rfl⟩
    case round =>
      obtain ⟨n, hn, rfl, rfl⟩ := hrel
      by_cases hlt : n < qs.length
      · obtain ⟨b, o, hx, hcell, hcell2, hsz⟩ := HR.out.at hlt
        cases hx
        have hb := World.block_lt_of_cell? _ _ hcell
        obtain ⟨hcl, hcl2⟩ := cq_at qs n hlt
        have HS := hide (cq_step qs n hlt)
        go_wp2
        go_roundw
        case rel => exact ⟨n + 1, by omega, by go_num, by first | rw [HS.out] | (simp [HS.out])⟩
        case measure => simp [intOf]; omega
      · obtain rfl : n = qs.length := by omega
        have HF := hide (cq_row qs w HR.out.sizes)
        go_wp2
        go_ret
        exact ⟨_, _, rfl, HF.out, (Below.refl _ _).alloc (Nat.le_refl _) _⟩

end Go.Proofs.Qxb6605643a
