import Derived.Test.Qxb6605643aBase
import Derived.Deep.Strs
import Derived.Deep.SlicePairs
namespace Go.Proofs.Qxb6605643a
set_option linter.unusedSimpArgs false
set_option linter.unusedVariables false
open Go.ChangeShapes Go.WideShapes Go.ChangeAt Go.RowKit Go.Deep

theorem Try.cells9 : Try.prog.cellsOf 9 = 1 := by kernel_rfl
theorem Try.cells34 : Try.prog.cellsOf 34 = 2 := by kernel_rfl

theorem add_of_cells {W : World} {x : Addr} {v : Value} (h : W.cell? x = some v) (i : Nat) : x.add i = ⟨x.block, x.off + i, none⟩ := by
  have hs := World.cell?_spot h
  obtain ⟨b, o, sp⟩ := x
  simp only at hs
  subst hs
  exact Addr.add_lit _ _ _

theorem open_strs22 {H : Type} {enc : TypeId × Value → H} {W : World} {a : Option Addr} {len cap : Nat} {d : DataW H} {p : List MemPlace} (h : DataW.Trod enc Try.prog W 0 (fun _ => true) true 22 (.slice a len cap) d p) :
    ∃ ss : List ByteArray, ss.length = len ∧ StrRow W a ss ∧ len ≤ 9223372036854775807 ∧ (a = none → cap = 0 ∧ ss = []) := by
  obtain ⟨fuel, hf⟩ := h
  rcases open_strs Try.underlying22 Try.underlying9 Try.cells9 hf with ⟨hcs, _⟩ | ⟨x, l, c, m, Sx, hcs, _, hl, hm, hmm, _, hcell⟩
  · simp [Value.cells] at hcs
    obtain ⟨rfl, rfl, rfl⟩ := hcs
    exact ⟨[], rfl, fun i s h => by simp at h, by omega, fun _ => ⟨rfl, rfl⟩⟩
  · simp [Value.cells] at hcs
    obtain ⟨rfl, rfl, rfl⟩ := hcs
    simp only [if_true] at hmm
    unfold maxLen at hm
    refine ⟨(List.range len).map Sx, by simp, ?_, by omega, fun h => by cases h⟩
    intro i s hi
    have hil : i < len := by
      have := (List.getElem?_eq_some_iff.1 hi).1
      simpa using this
    have hs : s = Sx i := by
      simp [hil] at hi
      exact hi.symm
    subst hs
    have h0 := (hcell 0 (by omega)).1
    have e0 : x.add 0 = x := rfl
    rw [e0] at h0
    have hadd := add_of_cells h0
    have hc := hcell i (by omega)
    rw [hadd] at hc
    refine ⟨x.block, x.off, ?_, hc.1, hc.2⟩
    have := hadd 0
    rw [e0] at this
    rw [this]

theorem open_qs23 {H : Type} {enc : TypeId × Value → H} {W : World} {a : Option Addr} {len cap : Nat} {d : DataW H} {p : List MemPlace} (h : DataW.Trod enc Try.prog W 0 (fun _ => true) true 23 (.slice a len cap) d p) :
    ∃ qs : List (ByteArray × ByteArray), qs.length = len ∧ QRow W a qs ∧ len ≤ 9223372036854775807 ∧ (a = none → cap = 0 ∧ qs = []) := by
  obtain ⟨fuel, hf⟩ := h
  rcases open_slice_pairs Try.underlying23 Try.underlying34 Try.cells34 rfl rfl (by kernel_rfl) (by kernel_rfl) hf with ⟨hcs, _⟩ | ⟨x, l, c, m, n, V0, V1, D0, D1, P0, P1, hcs, _, hl, hm, hmm, _, hcell⟩
  · simp [Value.cells] at hcs
    obtain ⟨rfl, rfl, rfl⟩ := hcs
    exact ⟨[], rfl, fun i s h => by simp at h, by omega, fun _ => ⟨rfl, rfl⟩⟩
  · simp [Value.cells] at hcs
    obtain ⟨rfl, rfl, rfl⟩ := hcs
    simp only [if_true] at hmm
    unfold maxLen at hm
    have each : ∀ i, i < len → ∃ q : ByteArray × ByteArray, W.cell? (x.add (i * 2)) = some (.string q.1) ∧ W.cell? (x.add (i * 2 + 1)) = some (.string q.2) ∧ q.1.size ≤ maxLen ∧ q.2.size ≤ maxLen := fun i hi => by
      obtain ⟨k1, k2, t1, t2⟩ := hcell i (by omega)
      obtain ⟨s1, e1, _, z1⟩ := DataW.trod_string Try.underlying9 t1
      obtain ⟨s2, e2, _, z2⟩ := DataW.trod_string Try.underlying9 t2
      simp at e1 e2
      exact ⟨(s1, s2), by rw [k1, e1], by rw [k2, e2], z1, z2⟩
    obtain ⟨Q, hQ⟩ := choose_lt each
    refine ⟨(List.range len).map Q, by simp, ?_, by omega, fun h => by cases h⟩
    intro i q hi
    have hil : i < len := by
      have := (List.getElem?_eq_some_iff.1 hi).1
      simpa using this
    have hs : q = Q i := by
      simp [hil] at hi
      exact hi.symm
    subst hs
    have h0 := (hQ 0 (by omega)).1
    have e0 : x.add (0 * 2) = x := rfl
    rw [e0] at h0
    have hadd := add_of_cells h0
    obtain ⟨k1, k2, z1, z2⟩ := hQ i hil
    rw [hadd] at k1 k2
    refine ⟨x.block, x.off, ?_, k1, by rw [Nat.add_assoc]; exact k2, z1, z2⟩
    have := hadd 0
    rw [show x.add 0 = x from rfl] at this
    rw [this]

end Go.Proofs.Qxb6605643a
