import Derived.Test.Qxb6605611aGrand
import Derived.Deep.Slices
import Derived.Deep.SlicePairs
namespace Go.Proofs.Qxb6605611a
set_option linter.unusedSimpArgs false
set_option linter.unusedVariables false
open Go.ChangeShapes Go.WideShapes Go.ChangeAt Go.RowKit Go.Deep

theorem Try.cells5 : Try.prog.cellsOf 5 = 1 := by kernel_rfl
theorem Try.cells46 : Try.prog.cellsOf 46 = 16 := by kernel_rfl
theorem Try.cells9 : Try.prog.cellsOf 9 = 1 := by kernel_rfl
theorem Try.cells4 : Try.prog.cellsOf 4 = 1 := by kernel_rfl
theorem Try.cells22 : Try.prog.cellsOf 22 = 1 := by kernel_rfl
theorem Try.cells70 : Try.prog.cellsOf 70 = 21 := by kernel_rfl

variable {H : Type} {enc : TypeId × Value → H} {W : World} {base : Nat} {spare : Nat → Bool} {held : Bool}

theorem open_id {fuel : Nat} {cs : List Value} {x : DataW H × List MemPlace} (h : DataW.trod enc Try.prog W base spare held fuel 46 cs = some x) : ∃ X : Nat → Int, cs = (idc X).toList := by
  obtain ⟨xs, m, _, _, hl, hxl, hf⟩ := DataW.trod_array Try.underlying46 h
  rw [Try.cells46] at hl
  have each : ∀ i, i < 16 → ∃ n : Int, cs[i]? = some (.int .u8 n) := fun i hi => by
    have hi' : i < xs.length := by omega
    have g := hf i hi
    rw [Try.cells5, List.getElem?_eq_getElem hi'] at g
    obtain ⟨n, hn, _⟩ := DataW.trod_int Try.underlying5 g
    refine ⟨n, ?_⟩
    have : ((cs.drop (i * 1)).take 1)[0]? = some (.int .u8 n) := by rw [hn]; rfl
    simpa using this
  obtain ⟨X, hX⟩ := choose_lt each
  refine ⟨X, ?_⟩
  apply List.ext_getElem?
  intro i
  by_cases hi : i < 16
  · rw [hX i hi]
    have : i = 0 ∨ i = 1 ∨ i = 2 ∨ i = 3 ∨ i = 4 ∨ i = 5 ∨ i = 6 ∨ i = 7 ∨ i = 8 ∨ i = 9 ∨ i = 10 ∨ i = 11 ∨ i = 12 ∨ i = 13 ∨ i = 14 ∨ i = 15 := by omega
    rcases this with h | h | h | h | h | h | h | h | h | h | h | h | h | h | h | h <;> subst h <;> rfl
  · rw [List.getElem?_eq_none (by omega), List.getElem?_eq_none (by simp; omega)]

theorem open_id_value {v : Value} {d : DataW H} {p : List MemPlace} (h : DataW.Trod enc Try.prog W base spare held 46 v d p) : ∃ X : Nat → Int, v = .agg (idc X) := by
  obtain ⟨fuel, hf⟩ := h
  obtain ⟨X, hX⟩ := open_id hf
  refine ⟨X, ?_⟩
  cases v <;> first
    | (simp only [Value.cells] at hX; simp at hX; done)
    | (simp only [Value.cells] at hX; congr 1; exact Array.toList_inj.1 hX)

theorem open_form {fuel : Nat} {cs : List Value} {x : DataW H × List MemPlace} (h : DataW.trod enc Try.prog W base spare held fuel 22 cs = some x) : ∃ f nil fz, cs = [f] ∧ FormIs W f nil fz ∧ fz.length ≤ maxLen := by
  rcases open_ints Try.underlying22 Try.underlying5 Try.cells5 h with ⟨hcs, _⟩ | ⟨x, l, c, zs, hcs, _, hl, hm, hz, _, hcell, hwz⟩
  · exact ⟨_, true, [], hcs, .inl ⟨rfl, rfl, rfl⟩, by simp⟩
  · have hlz : l ≤ zs.length := by rw [hz]; split <;> omega
    refine ⟨_, false, zs.take l, hcs, .inr ⟨rfl, x, c, by simp [hlz], fun j v hv => ?_⟩, by simp; omega⟩
    have hj : j < l := by
      have := (List.getElem?_eq_some_iff.1 hv).1
      rw [u8s_length] at this
      simp at this
      omega
    rw [hcell j (by omega)]
    have hjz : j < zs.length := by omega
    simp [u8s, hj, hjz] at hv
    simp [hjz, ← hv]

theorem seg (cs : List Value) (o k : Nat) : (cs.drop o).take k ++ cs.drop (o + k) = cs.drop o := by
  rw [← List.drop_drop, List.take_append_drop]

/-- A grandchild, opened. -/
theorem open_grand {fuel : Nat} {cs : List Value} {x : DataW H × List MemPlace} (h : DataW.trod enc Try.prog W base spare held fuel 70 cs = some x) :
    ∃ (p : PG) (f : Value), cs = (gc p.nm p.sn p.sr p.X p.kn f).toList ∧ FormIs W f p.nil p.fz ∧ p.nm.size ≤ maxLen ∧ p.sn.size ≤ maxLen ∧ p.fz.length ≤ maxLen := by
  obtain ⟨xs, m, _, _, hl, hxl, hf⟩ := DataW.trod_struct Try.underlying70 h
  rw [Try.cells70] at hl
  have hxl' : xs.length = 6 := hxl
  have g0 : DataW.trod enc Try.prog W base spare held m 9 ((cs.drop 0).take (Try.prog.cellsOf 9)) = xs[0]? := hf 0 _ rfl
  rw [Try.cells9, List.getElem?_eq_getElem (by omega)] at g0
  have g1 : DataW.trod enc Try.prog W base spare held m 9 ((cs.drop 1).take (Try.prog.cellsOf 9)) = xs[1]? := hf 1 _ rfl
  rw [Try.cells9, List.getElem?_eq_getElem (by omega)] at g1
  have g2 : DataW.trod enc Try.prog W base spare held m 4 ((cs.drop 2).take (Try.prog.cellsOf 4)) = xs[2]? := hf 2 _ rfl
  rw [Try.cells4, List.getElem?_eq_getElem (by omega)] at g2
  have g3 : DataW.trod enc Try.prog W base spare held m 46 ((cs.drop 3).take (Try.prog.cellsOf 46)) = xs[3]? := hf 3 _ rfl
  rw [Try.cells46, List.getElem?_eq_getElem (by omega)] at g3
  have g4 : DataW.trod enc Try.prog W base spare held m 4 ((cs.drop 19).take (Try.prog.cellsOf 4)) = xs[4]? := hf 4 _ rfl
  rw [Try.cells4, List.getElem?_eq_getElem (by omega)] at g4
  have g5 : DataW.trod enc Try.prog W base spare held m 22 ((cs.drop 20).take (Try.prog.cellsOf 22)) = xs[5]? := hf 5 _ rfl
  rw [Try.cells22, List.getElem?_eq_getElem (by omega)] at g5
  obtain ⟨nm, e0, _, z0⟩ := DataW.trod_string Try.underlying9 g0
  obtain ⟨sn, e1, _, z1⟩ := DataW.trod_string Try.underlying9 g1
  obtain ⟨sr, e2, _⟩ := DataW.trod_bool Try.underlying4 g2
  obtain ⟨X, e3⟩ := open_id g3
  obtain ⟨kn, e4, _⟩ := DataW.trod_bool Try.underlying4 g4
  obtain ⟨f, nil, fz, e5, hF, z5⟩ := open_form g5
  refine ⟨⟨nm, sn, sr, X, kn, nil, fz⟩, f, ?_, hF, z0, z1, z5⟩
  have s0 := seg cs 0 1
  have s1 := seg cs 1 1
  have s2 := seg cs 2 1
  have s3 := seg cs 3 16
  have s4 := seg cs 19 1
  have s5 : cs.drop 20 = (cs.drop 20).take 1 := (List.take_of_length_le (by simp; omega)).symm
  rw [e0] at s0
  rw [e1] at s1
  rw [e2] at s2
  rw [e3] at s3
  rw [e4] at s4
  rw [e5] at s5
  simp only [Nat.reduceAdd] at s0 s1 s2 s3 s4 s5
  rw [s5] at s4
  rw [← s4] at s3
  rw [← s3] at s2
  rw [← s2] at s1
  rw [← s1] at s0
  rw [List.drop_zero] at s0
  rw [← s0]
  rfl

/-- The whole row. -/
theorem open_grands {a : Option Addr} {len cap : Nat} {d : DataW H} {p : List MemPlace} (h : DataW.Trod enc Try.prog W 0 (fun _ => true) true 47 (.slice a len cap) d p) :
    ∃ ps : List PG, ps.length = len ∧ GRow W a ps ∧ len ≤ 9223372036854775807 ∧ (a = none → cap = 0 ∧ ps = []) := by
  obtain ⟨fuel, hf⟩ := h
  rcases open_slice Try.underlying47 hf with ⟨hcs, _⟩ | ⟨x, l, c, m, n, D, Pl, hcs, _, hl, hm, hmm, _, hx⟩
  · simp [Value.cells] at hcs
    obtain ⟨rfl, rfl, rfl⟩ := hcs
    exact ⟨[], rfl, fun i p h => by simp at h, by omega, fun _ => ⟨rfl, rfl⟩⟩
  · simp [Value.cells] at hcs
    obtain ⟨rfl, rfl, rfl⟩ := hcs
    simp only [if_true] at hmm
    unfold maxLen at hm
    have each : ∀ i, i < len → ∃ q : PG, ∃ f, (∀ j, j < 21 → W.cell? (x.add (i * 21 + j)) = (gc q.nm q.sn q.sr q.X q.kn f).toList[j]?) ∧ FormIs W f q.nil q.fz ∧ q.nm.size ≤ maxLen ∧ q.sn.size ≤ maxLen ∧ q.fz.length ≤ maxLen := fun i hi => by
      obtain ⟨cs', k1, k2⟩ := hx i (by omega)
      rw [Try.cells70] at k1
      obtain ⟨_, hlen, hcell⟩ := World.cells?_some k1
      obtain ⟨q, f, e, hF⟩ := open_grand k2
      refine ⟨q, f, fun j hj => ?_, hF⟩
      rw [← e, ← hcell j hj, add_add]
    haveI : Inhabited PG := ⟨⟨.empty, .empty, false, fun _ => 0, false, false, []⟩⟩
    obtain ⟨Q, hQ⟩ := choose_lt each
    refine ⟨(List.range len).map Q, by simp, ?_, by omega, fun h => by cases h⟩
    intro i q hi
    have hil : i < len := by
      have := (List.getElem?_eq_some_iff.1 hi).1
      simpa using this
    have hs : q = Q i := by
      simp [hil] at hi
      exact hi.symm
    subst hs
    obtain ⟨f0, h0, _⟩ := hQ 0 (by omega)
    have h0' := h0 0 (by omega)
    have e0 : x.add (0 * 21 + 0) = x := rfl
    rw [e0] at h0'
    have hadd : ∀ i, x.add i = ⟨x.block, x.off + i, none⟩ := by
      have hs := World.cell?_spot (h0'.trans rfl)
      obtain ⟨b, o, sp⟩ := x
      simp only at hs
      subst hs
      intro i
      exact Addr.add_lit _ _ _
    obtain ⟨f, hc, hF⟩ := hQ i hil
    refine ⟨x.block, x.off, f, ?_, fun j v hv => ?_, hF⟩
    · have := hadd 0
      rw [show x.add 0 = x from rfl] at this
      rw [this]
    · have hj := (List.getElem?_eq_some_iff.1 hv).1
      have := hc j (by simpa using hj)
      rw [hadd, ← Nat.add_assoc] at this
      rw [this, hv]

end Go.Proofs.Qxb6605611a
