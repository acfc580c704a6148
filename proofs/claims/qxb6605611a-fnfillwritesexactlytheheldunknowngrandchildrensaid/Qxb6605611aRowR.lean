import Derived.Test.Qxb6605611aVMap
import Derived.Test.Qxb6605611aBuildW
namespace Go.Proofs.Qxb6605611a
set_option linter.unusedSimpArgs false
set_option linter.unusedVariables false
open Go.ChangeShapes Go.WideShapes Go.ChangeAt Go.RowKit

/-! ### The onward row while Fill writes it -/
/-- A form that the call has made; there may be room behind it. -/
def FormR (w : World) (f : Value) (nil : Bool) (fz : List Int) : Prop :=
  (nil = true ∧ f = .slice none 0 0 ∧ fz = []) ∨
  (nil = false ∧ ∃ g cap cur, f = .slice (some ⟨g, 0, none⟩) fz.length cap ∧ w.heap[g]? = some (.cells cur 5 (0, 0)) ∧ fz.length ≤ cap ∧ cap ≤ maxLen ∧ cur.size = cap ∧ cur.toList.take fz.length = u8s fz)

theorem FormR.kept {w w' : World} {f : Value} {nil : Bool} {fz : List Int} (h : FormR w f nil fz) (hk : ∀ (g : Nat) (C : Array Value), f.ownBlock = some g → w.heap[g]? = some (.cells C 5 (0, 0)) → w'.heap[g]? = w.heap[g]?) : FormR w' f nil fz := by
  rcases h with h | ⟨h, g, cap, cur, e, hg, h1⟩
  · exact .inl h
  · exact .inr ⟨h, g, cap, cur, e, (hk g cur (by rw [e]; rfl) hg).trans hg, h1⟩
theorem FormR.one {w : World} {f : Value} {nil : Bool} {fz : List Int} (h : FormR w f nil fz) : f.oneCell' = true := by
  rcases h with ⟨_, e, _⟩ | ⟨_, g, cap, cur, e, _⟩ <;> rw [e] <;> rfl
theorem FormR.shape {w : World} {f : Value} {nil : Bool} {fz : List Int} (h : FormR w f nil fz) : ∃ fa cap, f = .slice fa fz.length cap := by
  rcases h with ⟨_, e, h⟩ | ⟨_, g, cap, cur, e, _⟩
  · exact ⟨none, 0, by rw [e, h]; rfl⟩
  · exact ⟨_, cap, e⟩
theorem FormR.is {w : World} {f : Value} {nil : Bool} {fz : List Int} (h : FormR w f nil fz) : FormIs w f nil fz := by
  rcases h with h | ⟨h, g, cap, cur, e, hg, h1, h2, h3, h4⟩
  · exact .inl h
  · refine .inr ⟨h, _, _, e, fun j v hv => ?_⟩
    rw [Addr.add_lit, cell_of_row _ _ _ _ _ _ hg, Nat.zero_add, ← Array.getElem?_toList]
    rw [← h4, List.getElem?_take] at hv
    split at hv
    · exact hv
    · cases hv
theorem FormR.of_own {w : World} {base : Nat} {v : Value} {X : Nat → Int} (h : w.ownsRow base 5 1 v 22 (gbv X)) : FormR w v false (gbz X) := by
  rcases h.2 with ⟨_, h'⟩ | ⟨g, cap, cur, h', _, hg, h1, h2, h3, hx⟩
  · omega
  · exact .inr ⟨rfl, g, cap, cur, h', hg, h1, h2, by omega, hx⟩
theorem OwnForm.r {w : World} {f : Value} {nil : Bool} {fz : List Int} (h : OwnForm w f nil fz) (hm : fz.length ≤ maxLen) : FormR w f nil fz := by
  rcases h with h | ⟨h, g, e, hg⟩
  · exact .inl h
  · exact .inr ⟨h, g, _, _, e, hg, Nat.le_refl _, hm, by simp [u8s_length], by rw [← u8s_length fz]; simp⟩
theorem FormR.lt {w : World} {f : Value} {nil : Bool} {fz : List Int} (h : FormR w f nil fz) : ∀ g, f.ownBlock = some g → g < w.heap.size := by
  intro g hg
  rcases h with ⟨_, e, _⟩ | ⟨_, g', cap, cur, e, hh, _⟩
  · subst e; cases hg
  · subst e
    simp [Value.ownBlock] at hg
    subst hg
    exact (Array.getElem?_eq_some_iff.1 hh).1
/-- The form cut back to nothing: an owned row with nothing in it. -/
theorem FormR.cut {w : World} {fa : Option Addr} {l cap : Nat} {nil : Bool} {fz : List Int} (h : FormR w (.slice fa l cap) nil fz) : w.ownsRow 0 5 1 (.slice fa 0 cap) 0 [] := by
  rcases h with ⟨_, e, _⟩ | ⟨_, g, cap', cur, e, hh, h1, h2, h3, h4⟩
  · simp only [Value.slice.injEq] at e
    obtain ⟨rfl, rfl, rfl⟩ := e
    exact World.ownsRow_nil _ _ _ _
  · simp only [Value.slice.injEq] at e
    obtain ⟨rfl, rfl, rfl⟩ := e
    exact ⟨rfl, .inr ⟨g, cap, cur, rfl, Nat.zero_le _, hh, Nat.zero_le _, h2, by omega, by simp⟩⟩

structure RowR (w : World) (base ob : Nat) (qs : List PG) (es : List (Nat × Value)) : Prop where
  len : es.length = qs.length
  low : base ≤ ob
  row : w.heap[ob]? = some (.cells (oflat qs es).toArray 66 (0, 0))
  pred : ∀ (i : Nat) (p : PG) (e : Nat × Value), qs[i]? = some p → es[i]? = some e → PredAt w e.1 p.sn
  form : ∀ (i : Nat) (p : PG) (e : Nat × Value), qs[i]? = some p → es[i]? = some e → FormR w e.2 p.nil p.fz
  new : ∀ (i : Nat) (e : Nat × Value) (g : Nat), es[i]? = some e → e.2.ownBlock = some g → base ≤ g
  apart : ∀ (i j : Nat) (e e' : Nat × Value) (g : Nat), es[i]? = some e → es[j]? = some e' → i ≠ j → e.2.ownBlock = some g → e'.2.ownBlock ≠ some g

theorem RowR.of_onward {w : World} {base : Nat} {ps : List PG} (h : Onward w base base ps ps.length) (hs : ∀ p ∈ ps, p.fz.length ≤ maxLen) : ∃ es, RowR w base base ps es := by
  obtain ⟨es, hl, hown, hes⟩ := h
  refine ⟨es, hl, Nat.le_refl _, ?_, hes.pred, fun i p e hp he => (hes.form i p e hp he).r (hs p (List.mem_of_getElem? hp)), fun i e g he hg => hes.new i e g he hg.symm, fun i j e e' g he he' hij hg hg' => hes.apart i j e e' g he he' hij hg.symm hg'.symm⟩
  rcases hown.2 with ⟨h', _⟩ | ⟨g, cap', cur, h', _, hg, _, _, hsz, hx⟩
  · simp at h'
  · simp only [Value.slice.injEq, Option.some.injEq, Addr.mk.injEq, and_true, true_and] at h'
    obtain ⟨rfl, rfl⟩ := h'
    rw [List.take_of_length_le (by simp; omega)] at hx
    rw [← hx]
    exact hg

theorem RowR.later {w w' : World} {base ob : Nat} {qs : List PG} {es : List (Nat × Value)} (h : RowR w base ob qs es) (hb : Below w.heap.size w w') : RowR w' base ob qs es := by
  have lt : ∀ (k : Nat) (o : Obj), w.heap[k]? = some o → w'.heap[k]? = w.heap[k]? := fun k o hk => hb.block k (Array.getElem?_eq_some_iff.1 hk).1
  refine ⟨h.len, h.low, (lt _ _ h.row).trans h.row, fun i p e hp he => ?_, fun i p e hp he => (h.form i p e hp he).kept fun g C _ hg => lt g _ hg, h.new, h.apart⟩
  obtain ⟨C, h1, h2⟩ := h.pred i p e hp he
  exact ⟨C, (lt _ _ h1).trans h1, h2⟩

theorem RowR.at {w : World} {base ob : Nat} {qs : List PG} {es : List (Nat × Value)} (h : RowR w base ob qs es) {i : Nat} {q : PG} {e : Nat × Value} (hq : qs[i]? = some q) (he : es[i]? = some e) :
    w.rangeAt ob (i * 22) (ol q.nm (some ⟨e.1, 0, none⟩) q.sr q.X q.kn e.2) ∧ w.cell? ⟨e.1, 0, none⟩ = some (.string q.sn) ∧ FormR w e.2 q.nil q.fz := by
  obtain ⟨C, hC, hC0⟩ := h.pred i _ _ hq he
  refine ⟨fun j v hv => ?_, by rw [cell_of_row _ _ _ _ _ _ hC]; exact hC0, h.form i _ _ hq he⟩
  rw [cell_of_row _ _ _ _ _ _ h.row, List.getElem?_toArray]
  exact oflat_at qs es i _ _ hq he j v hv

/-- The record, filled. -/
def filled (q : PG) : PG := { q with kn := true, nil := false, fz := gbz q.X }

theorem oflat_set : ∀ (qs : List PG) (es : List (Nat × Value)) (n : Nat) (q : PG) (e : Nat × Value) (v : Value), qs[n]? = some q → es[n]? = some e →
    oflat (qs.set n (filled q)) (es.set n (e.1, v)) = ((oflat qs es).set (n * 22 + 21) v).set (n * 22 + 20) (.bool true)
  | [], _, n, _, _, _, h, _ => by simp at h
  | _ :: _, [], n, _, _, _, _, h => by simp at h
  | p :: qs, d :: es, 0, q, e, v, h1, h2 => by
    simp at h1 h2
    subst h1 h2
    rfl
  | p :: qs, d :: es, n + 1, q, e, v, h1, h2 => by
    have := oflat_set qs es n q e v (by simpa using h1) (by simpa using h2)
    simp only [List.set_cons_succ, oflat, this]
    rw [List.set_append_right _ _ (by rw [op_length]; omega), op_length, List.set_append_right _ _ (by rw [op_length]; omega), op_length, show (n + 1) * 22 + 21 - 22 = n * 22 + 21 by omega, show (n + 1) * 22 + 20 - 22 = n * 22 + 20 by omega]

/-- One grandchild is written. -/
theorem RowR.write {w w6 w7 : World} {base ob n : Nat} {qs : List PG} {es : List (Nat × Value)} {q : PG} {e : Nat × Value} {v0 v : Value} (h : RowR w base ob qs es) (hq : qs[n]? = some q) (he : es[n]? = some e) (hv0 : v0.ownBlock = e.2.ownBlock) (hA : Apd w w6 v0 v) (hown : w6.ownsRow 0 5 1 v 22 (gbv q.X))
    (h7 : ∀ k, k ≠ ob → w7.heap[k]? = w6.heap[k]?) (h7s : w7.heap.size = w6.heap.size) (h7r : ∀ C : Array Value, w6.heap[ob]? = some (.cells C 66 (0, 0)) → w7.heap[ob]? = some (.cells ((C.setIfInBounds (n * 22 + 21) v).setIfInBounds (n * 22 + 20) (.bool true)) 66 (0, 0))) :
    RowR w7 base ob (qs.set n (filled q)) (es.set n (e.1, v)) := by
  have hf := h.form n q e hq he
  have hnl : n < es.length := (List.getElem?_eq_some_iff.1 he).1
  have old : ∀ (k : Nat) (o : Obj), w.heap[k]? = some o → e.2.ownBlock ≠ some k → w6.heap[k]? = w.heap[k]? := fun k o hk hne => hA.grown.block k (Array.getElem?_eq_some_iff.1 hk).1 (by rw [hv0]; exact fun q => hne q.symm)
  have row5 : ∀ g, e.2.ownBlock = some g → ∃ C, w.heap[g]? = some (.cells C 5 (0, 0)) := fun g hg => by
    rcases hf with ⟨_, e', _⟩ | ⟨_, g', cap, cur, e', hh, _⟩
    · rw [e'] at hg; cases hg
    · rw [e'] at hg
      simp [Value.ownBlock] at hg
      subst hg
      exact ⟨_, hh⟩
  have obne : e.2.ownBlock ≠ some ob := fun q => by
    obtain ⟨C, hC⟩ := row5 _ q
    rw [h.row] at hC
    simp at hC
  have row6 : w6.heap[ob]? = some (.cells (oflat qs es).toArray 66 (0, 0)) := (old _ _ h.row obne).trans h.row
  have split : ∀ (i : Nat) (d : Nat × Value), (es.set n (e.1, v))[i]? = some d → (i = n ∧ d = (e.1, v)) ∨ (i ≠ n ∧ es[i]? = some d) := fun i d hd => by
    by_cases hin : i = n
    · subst hin
      rw [List.getElem?_set_self hnl] at hd
      exact .inl ⟨rfl, (Option.some.inj hd).symm⟩
    · rw [List.getElem?_set_ne (fun q => hin q.symm)] at hd
      exact .inr ⟨hin, hd⟩
  have splitq : ∀ (i : Nat) (p : PG), (qs.set n (filled q))[i]? = some p → (i = n ∧ p = filled q) ∨ (i ≠ n ∧ qs[i]? = some p) := fun i d hd => by
    by_cases hin : i = n
    · subst hin
      rw [List.getElem?_set_self (by have := h.len; omega)] at hd
      exact .inl ⟨rfl, (Option.some.inj hd).symm⟩
    · rw [List.getElem?_set_ne (fun q => hin q.symm)] at hd
      exact .inr ⟨hin, hd⟩
  -- the new form's block
  have vnew : ∀ g, v.ownBlock = some g → e.2.ownBlock = some g ∨ w.heap.size ≤ g := fun g hg => by
    rcases hA.moved g hg with r | r
    · exact .inl (by rw [← hv0]; exact r)
    · exact .inr r
  have vne : v.ownBlock ≠ some ob := fun q => by
    rcases vnew _ q with r | r
    · exact obne r
    · have := (Array.getElem?_eq_some_iff.1 h.row).1
      omega
  refine ⟨by simp [h.len], h.low, ?_, fun i p d hp hd => ?_, fun i p d hp hd => ?_, fun i d g hd hg => ?_, fun i j d d' g hd hd' hij hg hg' => ?_⟩
  · rw [oflat_set qs es n q e v hq he, h7r _ row6]
    simp
  · -- predicates
    have key : ∀ (i : Nat) (p : PG) (d : Nat × Value), qs[i]? = some p → es[i]? = some d → PredAt w7 d.1 p.sn := fun i p d hp hd => by
      obtain ⟨C, h1, h2⟩ := h.pred i p d hp hd
      refine ⟨C, ?_, h2⟩
      rw [h7 _ (fun q => by rw [q, h.row] at h1; simp at h1), old _ _ h1 (fun q => ?_)]
      · exact h1
      · obtain ⟨D, hD⟩ := row5 _ q
        rw [h1] at hD
        simp at hD
    rcases splitq i p hp with ⟨e1, rfl⟩ | ⟨hin, hp'⟩
    · rcases split i d hd with ⟨_, rfl⟩ | ⟨hin, _⟩
      · exact key n q e hq he
      · exact absurd e1 hin
    · rcases split i d hd with ⟨hin', _⟩ | ⟨_, hd'⟩
      · exact absurd hin' hin
      · exact key i p d hp' hd'
  · -- forms
    rcases splitq i p hp with ⟨e1, rfl⟩ | ⟨hin, hp'⟩
    · rcases split i d hd with ⟨_, rfl⟩ | ⟨hin, _⟩
      · exact (FormR.of_own hown).kept fun g C hg _ => h7 g (fun q => vne (by rw [hg, q]))
      · exact absurd e1 hin
    · rcases split i d hd with ⟨hin', _⟩ | ⟨_, hd'⟩
      · exact absurd hin' hin
      · refine (h.form i p d hp' hd').kept fun g C hg hC => ?_
        rw [h7 g (fun q => by rw [q, h.row] at hC; simp at hC), old _ _ hC (h.apart i n d e g hd' he hin hg)]
  · rcases split i d hd with ⟨_, rfl⟩ | ⟨_, hd'⟩
    · rcases vnew g hg with r | r
      · exact h.new n e g he r
      · have := (Array.getElem?_eq_some_iff.1 h.row).1
        have := h.low
        omega
    · exact h.new i d g hd' hg
  · rcases split i d hd with ⟨hi, rfl⟩ | ⟨hi, kd⟩
    · rcases split j d' hd' with ⟨hj, rfl⟩ | ⟨hj, kd'⟩
      · exact hij (hi.trans hj.symm)
      · rcases vnew g hg with r | r
        · exact h.apart n j e d' g he kd' (fun q => hj q.symm) r hg'
        · have hl : j < qs.length := by have := (List.getElem?_eq_some_iff.1 kd').1; have := h.len; omega
          have hp' : qs[j]? = some qs[j] := List.getElem?_eq_getElem hl
          have := (h.form j _ d' hp' kd').lt g hg'
          omega
    · rcases split j d' hd' with ⟨hj, rfl⟩ | ⟨hj, kd'⟩
      · rcases vnew g hg' with r | r
        · exact h.apart n i e d g he kd (fun q => hi q.symm) r hg
        · have hl : i < qs.length := by have := (List.getElem?_eq_some_iff.1 kd).1; have := h.len; omega
          have hp' : qs[i]? = some qs[i] := List.getElem?_eq_getElem hl
          have := (h.form i _ d hp' kd).lt g hg
          omega
      · exact h.apart i j d d' g kd kd' hij hg hg'

end Go.Proofs.Qxb6605611a
