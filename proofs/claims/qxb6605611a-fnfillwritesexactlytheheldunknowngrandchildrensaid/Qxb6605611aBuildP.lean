import Derived.Test.Qxb6605611aNewG
namespace Go.Proofs.Qxb6605611a
set_option linter.unusedSimpArgs false
set_option linter.unusedVariables false
open Go.ChangeShapes Go.WideShapes Go.ChangeAt Go.RowKit

/-- append within the capacity, as one step of a region that draws its order. -/
theorem step_append_fits {P : Program} {ops : Array Oper} {o : Oper} {a : Act} {w : World} {K : Act → World → Prop} {Q : Exit → Act → World → Prop} {E : Prop}
    (hg : o.guard = none) (s x : Operand) (t : TypeId) (hop : o.op = Op.call { callee := Callee.builtin Builtin.append, args := #[s, x], argTypes := #[t, t] })
    (base : Nat) (e : TypeId) (i : TypeInfo) (size : Nat) (h1 : P.underlying t = some (.slice e)) (h2 : P.info? e = some i) (h4 : i.size = size)
    (g k cap : Nat) (xs : List Value) (hs : a.eval s = .slice (some ⟨g, 0, none⟩) k cap) (hown : w.ownsRow base e size (.slice (some ⟨g, 0, none⟩) k cap) k xs) (ad : Addr) (m c : Nat) (news : List Value) (hx : a.eval x = .slice (some ad) m c) (hn : news.length = m * size)
    (hc : ∀ j u, news[j]? = some u → w.cell? (ad.add j) = some u) (h1c : ∀ u ∈ news, u.oneCell' = true) (b1 : k + m ≤ cap)
    (hK : ∀ w', w'.ownsRow base e size (.slice (some ⟨g, 0, none⟩) (k + m) cap) (k + m) (xs ++ news) → w.grownBy w' (some g) → K (a.put o.dst (.slice (some ⟨g, 0, none⟩) (k + m) cap)) w') :
    if Region.wanted o (yielded ops a.tmps) = true then Oper.wp P o a w K Q else E := by
  have hw : Region.wanted o (yielded ops a.tmps) = true := by simp [Region.wanted, hg]
  rw [if_pos hw]
  obtain ⟨w', hrun, r1, r2⟩ := run_append_fits (P := P) w base t o.type e i size h1 h2 h4 g k cap xs hown ad m c news hn hc h1c b1
  unfold Oper.wp
  simp [execOp, hop, resolve, invoke, builtin, hs, hx, hrun, Result.andThen]
  exact hK w' r1 r2

/-- The cells of a grandForm made of a record, with its predicate's block and its form. -/
def op (p : PG) (e : Nat × Value) : List Value := ol p.nm (some ⟨e.1, 0, none⟩) p.sr p.X p.kn e.2
theorem op_length (p : PG) (e : Nat × Value) : (op p e).length = 22 := rfl
def oflat : List PG → List (Nat × Value) → List Value
  | p :: ps, e :: es => op p e ++ oflat ps es
  | _, _ => []
theorem oflat_length : ∀ (ps : List PG) (es : List (Nat × Value)), es.length ≤ ps.length → (oflat ps es).length = es.length * 22
  | _, [], _ => by simp [oflat]
  | [], _ :: _, h => by simp at h
  | p :: ps, f :: fs, h => by
    have := oflat_length ps fs (by simp at h; omega)
    simp only [oflat, List.length_append, op_length, this, List.length_cons]
    omega
theorem oflat_snoc : ∀ (ps : List PG) (es : List (Nat × Value)) (p : PG) (e : Nat × Value), ps[es.length]? = some p → oflat ps (es ++ [e]) = oflat ps es ++ op p e
  | [], fs, _, _, h => by simp at h
  | q :: ps, [], p, f, h => by
    simp at h
    subst h
    simp [oflat]
  | q :: ps, g :: fs, p, f, h => by
    have := oflat_snoc ps fs p f (by simpa using h)
    simp only [List.cons_append, oflat, this, List.append_assoc]
theorem oflat_at : ∀ (ps : List PG) (es : List (Nat × Value)) (i : Nat) (p : PG) (e : Nat × Value), ps[i]? = some p → es[i]? = some e → ∀ j v, (op p e)[j]? = some v → (oflat ps es)[i * 22 + j]? = some v
  | [], _, i, _, _, h, _ => by simp at h
  | _ :: _, [], i, _, _, _, h => by simp at h
  | q :: ps, g :: fs, 0, p, f, h1, h2 => by
    intro j v hv
    simp at h1 h2
    subst h1 h2
    have hj := (List.getElem?_eq_some_iff.1 hv).1
    simp only [oflat, Nat.zero_mul, Nat.zero_add]
    rw [List.getElem?_append_left hj]
    exact hv
  | q :: ps, g :: fs, i + 1, p, f, h1, h2 => by
    intro j v hv
    have := oflat_at ps fs i p f (by simpa using h1) (by simpa using h2) j v hv
    simp only [oflat]
    rw [List.getElem?_append_right (by rw [op_length]; omega), op_length, show (i + 1) * 22 + j - 22 = i * 22 + j by omega]
    exact this

/-- A predicate's block, of that name. -/
def PredAt (w : World) (pb : Nat) (sn : ByteArray) : Prop := ∃ C, w.heap[pb]? = some (.cells C 78 (0, 0)) ∧ C[0]? = some (.string sn)
/-- What the entries lead to. -/
structure EsOk (w : World) (base : Nat) (ps : List PG) (es : List (Nat × Value)) : Prop where
  pred : ∀ (i : Nat) (p : PG) (e : Nat × Value), ps[i]? = some p → es[i]? = some e → PredAt w e.1 p.sn
  form : ∀ (i : Nat) (p : PG) (e : Nat × Value), ps[i]? = some p → es[i]? = some e → OwnForm w e.2 p.nil p.fz
  new : ∀ (i : Nat) (e : Nat × Value) (g : Nat), es[i]? = some e → some g = e.2.ownBlock → base ≤ g
  apart : ∀ (i j : Nat) (e e' : Nat × Value) (g : Nat), es[i]? = some e → es[j]? = some e' → i ≠ j → some g = e.2.ownBlock → some g ≠ e'.2.ownBlock

theorem OwnForm.lt {w : World} {f : Value} {nil : Bool} {fz : List Int} (h : OwnForm w f nil fz) : ∀ g, some g = f.ownBlock → g < w.heap.size := by
  intro g hg
  rcases h with ⟨_, e, _⟩ | ⟨_, g', e, hh⟩
  · subst e; cases hg
  · subst e
    simp [Value.ownBlock] at hg
    subst hg
    exact (Array.getElem?_eq_some_iff.1 hh).1

/-- The entries behind a step that turns one row of another type alone. -/
theorem EsOk.kept {w w' : World} {base ob : Nat} {ps : List PG} {es : List (Nat × Value)} {C : Array Value} (h : EsOk w base ps es) (hob : w.heap[ob]? = some (.cells C 66 (0, 0))) (hk : ∀ k, k < w.heap.size → k ≠ ob → w'.heap[k]? = w.heap[k]?) : EsOk w' base ps es := by
  refine ⟨fun i p e hp he => ?_, fun i p e hp he => ?_, h.new, h.apart⟩
  · obtain ⟨D, h1, h2⟩ := h.pred i p e hp he
    exact ⟨D, (hk _ (Array.getElem?_eq_some_iff.1 h1).1 (fun q => by rw [q, hob] at h1; simp at h1)).trans h1, h2⟩
  · exact (h.form i p e hp he).kept fun k D hD => hk k (Array.getElem?_eq_some_iff.1 hD).1 (fun q => by rw [q, hob] at hD; simp at hD)

/-- One entry more. -/
theorem EsOk.snoc {w : World} {base B : Nat} {ps : List PG} {es : List (Nat × Value)} {p : PG} {e : Nat × Value} (h : EsOk w base ps es) (hp : ps[es.length]? = some p) (h1 : PredAt w e.1 p.sn) (h2 : OwnForm w e.2 p.nil p.fz) (h3 : ∀ g, some g = e.2.ownBlock → B ≤ g) (hB : base ≤ B) (h4 : ∀ (i : Nat) (e : Nat × Value) (g : Nat), es[i]? = some e → some g = e.2.ownBlock → g < B) : EsOk w base ps (es ++ [e]) := by
  have cases' : ∀ (i : Nat) (d : Nat × Value), (es ++ [e])[i]? = some d → (es[i]? = some d ∧ i < es.length) ∨ (i = es.length ∧ d = e) := fun i d hd => by
    by_cases hi : i < es.length
    · rw [List.getElem?_append_left hi] at hd
      exact .inl ⟨hd, hi⟩
    · have : i = es.length := by
        have := (List.getElem?_eq_some_iff.1 hd).1
        simp at this
        omega
      subst this
      rw [List.getElem?_append_right (Nat.le_refl _), Nat.sub_self] at hd
      exact .inr ⟨rfl, by simpa using hd.symm⟩
  refine ⟨fun i q d hq hd => ?_, fun i q d hq hd => ?_, fun i d g hd hg => ?_, fun i j d d' g hd hd' hij hg hg' => ?_⟩
  · rcases cases' i d hd with ⟨hd, _⟩ | ⟨rfl, rfl⟩
    · exact h.pred i q d hq hd
    · rw [hp] at hq; cases hq; exact h1
  · rcases cases' i d hd with ⟨hd, _⟩ | ⟨rfl, rfl⟩
    · exact h.form i q d hq hd
    · rw [hp] at hq; cases hq; exact h2
  · rcases cases' i d hd with ⟨hd, _⟩ | ⟨rfl, rfl⟩
    · exact h.new i d g hd hg
    · have := h3 g hg; omega
  · rcases cases' i d hd with ⟨kd, _⟩ | ⟨ei, ed⟩
    · rcases cases' j d' hd' with ⟨kd', _⟩ | ⟨ej, ed'⟩
      · exact h.apart i j d d' g kd kd' hij hg hg'
      · subst ed'
        have := h4 i d g kd hg; have := h3 g hg'; omega
    · rcases cases' j d' hd' with ⟨kd', _⟩ | ⟨ej, ed'⟩
      · subst ed
        have := h4 j d' g kd' hg'; have := h3 g hg; omega
      · exact hij (by omega)

/-- The onward row after n rounds. -/
def Onward (w : World) (base ob : Nat) (ps : List PG) (n : Nat) : Prop :=
  ∃ es, es.length = n ∧ w.ownsRow ob 66 22 (.slice (some ⟨ob, 0, none⟩) n ps.length) n (oflat ps es) ∧ EsOk w base ps es

theorem ownsRow_block {w : World} {ob n cap : Nat} {xs : List Value} (h : w.ownsRow ob 66 22 (.slice (some ⟨ob, 0, none⟩) n cap) n xs) : ∃ C, w.heap[ob]? = some (.cells C 66 (0, 0)) := by
  rcases h.2 with ⟨h', _⟩ | ⟨g, cap', cur, h', _, hg, _⟩
  · simp at h'
  · simp only [Value.slice.injEq, Option.some.injEq, Addr.mk.injEq, and_true, true_and] at h'
    obtain ⟨rfl, _⟩ := h'
    exact ⟨cur, hg⟩

/-- The cells of the boxes that the round's last statement reads. -/
theorem new_cells (w : World) (cs : List Value) (t : TypeId) : ∀ j u, cs[j]? = some u → (w.alloc (.cells cs.toArray t)).cell? ((⟨w.heap.size, 0, none⟩ : Addr).add j) = some u := fun j u hj => by
  rw [Addr.add_lit, Nat.zero_add, cell_of_row _ _ _ _ _ _ (heap_alloc_new w _)]
  simpa using hj

end Go.Proofs.Qxb6605611a
