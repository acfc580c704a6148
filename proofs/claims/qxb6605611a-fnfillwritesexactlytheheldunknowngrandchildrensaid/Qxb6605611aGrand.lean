import Derived.Test.Qxb6605611aT1
import Derived.Handy
import Derived.Lib.QuietBelow
namespace Go.Proofs.Qxb6605611a
set_option linter.unusedSimpArgs false
set_option linter.unusedVariables false
open Go.ChangeShapes Go.WideShapes Go.ChangeAt Go.RowKit

/-- It returns some bool. -/
def SomeBool (e : Ending) : Prop := ∃ b, e = .returned (.bool b)

/-- A grandchild by its plain fields; 'nil': is its form nil? 'fz': the form's bytes. -/
structure PG where
  nm : ByteArray
  sn : ByteArray
  sr : Bool
  X : Nat → Int
  kn : Bool
  nil : Bool
  fz : List Int

/-- The slice 'f' holds just those bytes. -/
def FormIs (w : World) (f : Value) (nil : Bool) (fz : List Int) : Prop :=
  (nil = true ∧ f = .slice none 0 0 ∧ fz = []) ∨ (nil = false ∧ ∃ x cap, f = .slice (some x) fz.length cap ∧ ∀ j v, (u8s fz)[j]? = some v → w.cell? (x.add j) = some v)
theorem FormIs.later {w w' : World} {f : Value} {nil : Bool} {fz : List Int} (h : FormIs w f nil fz) (hb : Below w.heap.size w w') : FormIs w' f nil fz := by
  rcases h with h | ⟨h, x, cap, e, hc⟩
  · exact .inl h
  · exact .inr ⟨h, x, cap, e, fun j v hv => cell_later hb (hc j v hv)⟩
theorem FormIs.shape {w : World} {f : Value} {nil : Bool} {fz : List Int} (h : FormIs w f nil fz) : ∃ fa cap, f = .slice fa fz.length cap := by
  rcases h with ⟨_, e, h⟩ | ⟨_, x, cap, e, _⟩
  · exact ⟨none, 0, by rw [e, h]; rfl⟩
  · exact ⟨_, cap, e⟩

theorem rangeAt_later {w w' : World} {b o : Nat} {cs : List Value} (h : w.rangeAt b o cs) (hb : Below w.heap.size w w') : w'.rangeAt b o cs := fun j v hv => cell_later hb (h j v hv)

/-- The grandchildren 'ps' lie behind the slice's address 'a'. -/
def GRow (w : World) (a : Option Addr) (ps : List PG) : Prop :=
  ∀ i p, ps[i]? = some p → ∃ b o f, a = some ⟨b, o, none⟩ ∧ w.rangeAt b (o + i * 21) (gc p.nm p.sn p.sr p.X p.kn f).toList ∧ FormIs w f p.nil p.fz ∧ p.nm.size ≤ maxLen ∧ p.sn.size ≤ maxLen ∧ p.fz.length ≤ maxLen
theorem GRow.later {w w' : World} {a : Option Addr} {ps : List PG} (h : GRow w a ps) (hb : Below w.heap.size w w') : GRow w' a ps := fun i p hp => by
  obtain ⟨b, o, f, h1, h2, h3, h4⟩ := h i p hp
  exact ⟨b, o, f, h1, rangeAt_later h2 hb, h3.later hb, h4⟩
theorem GRow.at {w : World} {a : Option Addr} {ps : List PG} (h : GRow w a ps) {i : Nat} (hi : i < ps.length) :
    ∃ b o f, a = some ⟨b, o, none⟩ ∧ w.rangeAt b (o + i * 21) (gc ps[i].nm ps[i].sn ps[i].sr ps[i].X ps[i].kn f).toList ∧ FormIs w f ps[i].nil ps[i].fz ∧ ps[i].nm.size ≤ maxLen ∧ ps[i].sn.size ≤ maxLen ∧ ps[i].fz.length ≤ maxLen :=
  h i _ (List.getElem?_eq_getElem hi)
theorem GRow.at' {w : World} {a : Option Addr} {ps : List PG} (h : GRow w a ps) {i : Nat} (hi : i < ps.length) :
    ∃ b o fa fc, a = some ⟨b, o, none⟩ ∧ b < w.heap.size ∧ w.cell? ⟨b, o + i * 21, none⟩ = some (.string ps[i].nm) ∧ w.cell? ⟨b, o + i * 21 + 1, none⟩ = some (.string ps[i].sn) ∧ w.cell? ⟨b, o + i * 21 + 2, none⟩ = some (.bool ps[i].sr) ∧ w.cell? ⟨b, o + i * 21 + 19, none⟩ = some (.bool ps[i].kn) ∧
      w.cell? ⟨b, o + i * 21 + 20, none⟩ = some (.slice fa ps[i].fz.length fc) ∧ ps[i].nm.size ≤ maxLen ∧ ps[i].sn.size ≤ maxLen ∧ ps[i].fz.length ≤ maxLen := by
  obtain ⟨b, o, f, h1, h2, h3, h4⟩ := h.at hi
  obtain ⟨fa, fc, rfl⟩ := h3.shape
  have c0 := h2 0 _ rfl
  exact ⟨b, o, fa, fc, h1, World.block_lt_of_cell? _ _ c0, c0, h2 1 _ rfl, h2 2 _ rfl, h2 19 _ rfl, h2 20 _ rfl, h4⟩

end Go.Proofs.Qxb6605611a
