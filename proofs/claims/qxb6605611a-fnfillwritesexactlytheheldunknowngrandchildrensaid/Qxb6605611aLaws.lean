import Derived.Test.Qxb6605611aFits
namespace Go.Proofs.Qxb6605611a
set_option linter.unusedSimpArgs false
set_option linter.unusedVariables false
open Go.ChangeShapes Go.WideShapes Go.ChangeAt Go.RowKit

/-! ### Laws for whole structs -/
/-- A whole struct stored into the block that was made last. -/
theorem wpList_store_new {P : Program} {ops : Array Oper} {rest : List Oper} {op : Oper} {a : Act} {w : World} {Q : Exit → Act → World → Prop} (hgd : op.guard = none) (ty : TypeId) (x y : Operand) (ho : op.op = .store ty x y)
    (c c' : Array Value) (N : Nat) (hN : w.heap.size = N) (hx : a.eval x = .pointer (some ⟨N, 0, none⟩)) (hy : a.eval y = .agg c') (hi : (P.info? ty).map (·.size) = some c'.size) (hcs : c.size = c'.size) (h1 : c'.all (·.oneCell') = true)
    (h : wpList P ops Q rest (a.put op.dst undef) (w.alloc (.cells c' ty))) : wpList P ops Q (op :: rest) a (w.alloc (.cells c ty)) :=
  wpList_plain hgd fun K hK => by
    subst hN
    unfold Oper.wp execOp
    have := run_storeAt_new (P := P) w ty c c' hi hcs h1
    simp only [ho, hx, hy, this, Sem.run_bind, Sem.run_pure, Result.andThen_ok]
    exact hK _ _ h

/-- A whole struct stored into the middle of a row that is known whole. -/
theorem wpList_store_row {P : Program} {ops : Array Oper} {rest : List Oper} {op : Oper} {a : Act} {w : World} {Q : Exit → Act → World → Prop} (hgd : op.guard = none) (ty : TypeId) (x y : Operand) (ho : op.op = .store ty x y)
    (g o : Nat) (t : TypeId) (cur : List Value) (vs : List Value) (hx : a.eval x = .pointer (some ⟨g, o, none⟩)) (hy : a.eval y = .agg vs.toArray) (hg : w.heap[g]? = some (.cells cur.toArray t (0, 0)))
    (hi : (P.info? ty).map (·.size) = some vs.length) (hfit : o + vs.length ≤ cur.length) (h1 : ∀ v ∈ vs, v.oneCell' = true)
    (h : wpList P ops Q rest (a.put op.dst undef) (w.setRow g (cur.take o ++ vs ++ cur.drop (o + vs.length)).toArray)) : wpList P ops Q (op :: rest) a w :=
  wpList_plain hgd fun K hK => by
    have hst := run_storeCells_at P g o t vs 0 cur.toArray w hg (by simpa using hfit) h1
    simp only [Nat.add_zero] at hst
    have hrun : (Instr.storeAt ty (.pointer (some ⟨g, o, none⟩)) (.agg vs.toArray)).run P w = .ok () (w.setRow g (cur.take o ++ vs ++ cur.drop (o + vs.length)).toArray) := by
      simp only [Instr.storeAt, Instr.sureAddr, Sem.run_bind, Sem.run_pure, Result.andThen_ok]
      cases hq : P.info? ty with
      | none => simp [hq] at hi
      | some i =>
        have hs : i.size = vs.length := by simpa [hq] using hi
        simp [storeVar, sizeOf, typeInfo, hq, Value.cells, hs, hst]
    unfold Oper.wp execOp
    simp only [ho, hx, hy, hrun, Sem.run_bind, Sem.run_pure, Result.andThen_ok]
    exact hK _ _ h

/-- A whole struct read in a quiet region. -/
theorem wpQuiet_load_mid {P : Program} {ops : Array Oper} {C : World → Prop} {Q : Act → Prop} {a : Act} {o : Oper} {rest : List Oper} (hw : Region.wanted o (yielded ops a.tmps) = true) (ty : TypeId) (x : Operand) (ho : o.op = .load ty x)
    (b off : Nat) (hx : a.eval x = .pointer (some ⟨b, off, none⟩)) (cs : List Value) (d : TypeDesc) (hC : ∀ w, C w → w.rangeAt b off cs) (hu : P.underlying ty = some d) (hd : d.isRow = true) (hi : (P.info? ty).map (·.size) = some cs.length)
    (h : wpQuiet P ops C Q rest (a.put o.dst (.agg cs.toArray))) : wpQuiet P ops C Q (o :: rest) a :=
  wpQuiet_step fun K hK => by
    rw [if_pos hw]
    refine ⟨.agg cs.toArray, fun w hCw => ?_, hK _ h⟩
    unfold Oper.quietAt execOp
    simp only [ho, hx, run_loadAt_mid w b off ty cs d (hC w hCw) hu hd hi, Sem.run_bind, Sem.run_pure, Result.andThen_ok, Oper.quietUpon]
    exact ⟨trivial, trivial⟩

/-- The cells of a grandchild. -/
abbrev gl (nm sn : ByteArray) (sr : Bool) (X : Nat → Int) (kn : Bool) (f : Value) : List Value := [.string nm, .string sn, .bool sr, .int .u8 (X 0), .int .u8 (X 1), .int .u8 (X 2), .int .u8 (X 3), .int .u8 (X 4), .int .u8 (X 5), .int .u8 (X 6), .int .u8 (X 7), .int .u8 (X 8), .int .u8 (X 9), .int .u8 (X 10), .int .u8 (X 11), .int .u8 (X 12), .int .u8 (X 13), .int .u8 (X 14), .int .u8 (X 15), .bool kn, f]
/-- .. of a record. -/
def gp (p : PG) (f : Value) : List Value := gl p.nm p.sn p.sr p.X p.kn f
theorem gp_length (p : PG) (f : Value) : (gp p f).length = 21 := rfl
theorem gp_one (p : PG) (f : Value) (hf : f.oneCell' = true) : ∀ v ∈ gp p f, v.oneCell' = true := by
  intro v hv
  simp [gp] at hv
  rcases hv with h | h | h | h | h | h | h | h | h | h | h | h | h | h | h | h | h | h | h | h | h <;> subst h <;> first | rfl | exact hf

theorem gl_one (nm sn : ByteArray) (sr : Bool) (X : Nat → Int) (kn : Bool) (f : Value) (hf : f.oneCell' = true) : ∀ v ∈ gl nm sn sr X kn f, v.oneCell' = true := gp_one ⟨nm, sn, sr, X, kn, false, []⟩ f hf
theorem gl_all (nm sn : ByteArray) (sr : Bool) (X : Nat → Int) (kn : Bool) (f : Value) (hf : f.oneCell' = true) : (gl nm sn sr X kn f).toArray.all (·.oneCell') = true := all_oneCell_toArray (gl_one nm sn sr X kn f hf)
theorem size70 : (Try.prog.info? 70).map (·.size) = some 21 := by kernel_rfl
theorem under70 : ∃ d, Try.prog.underlying 70 = some d ∧ d.isRow = true := ⟨_, Try.underlying70, rfl⟩

/-- A form that the call itself has made. -/
def OwnForm (w : World) (f : Value) (nil : Bool) (fz : List Int) : Prop :=
  (nil = true ∧ f = .slice none 0 0 ∧ fz = []) ∨ (nil = false ∧ ∃ g, f = .slice (some ⟨g, 0, none⟩) fz.length fz.length ∧ w.heap[g]? = some (.cells (u8s fz).toArray 5 (0, 0)))
theorem OwnForm.is {w : World} {f : Value} {nil : Bool} {fz : List Int} (h : OwnForm w f nil fz) : FormIs w f nil fz := by
  rcases h with h | ⟨h, g, e, hg⟩
  · exact .inl h
  · refine .inr ⟨h, _, _, e, fun j v hv => ?_⟩
    rw [Addr.add_lit, cell_of_row _ _ _ _ _ _ hg]
    simpa using hv
theorem OwnForm.kept {w w' : World} {f : Value} {nil : Bool} {fz : List Int} (h : OwnForm w f nil fz) (hk : ∀ (g : Nat) (C : Array Value), w.heap[g]? = some (Obj.cells C 5 (0, 0)) → w'.heap[g]? = w.heap[g]?) : OwnForm w' f nil fz := by
  rcases h with h | ⟨h, g, e, hg⟩
  · exact .inl h
  · exact .inr ⟨h, g, e, (hk g _ hg).trans hg⟩
theorem OwnForm.one {w : World} {f : Value} {nil : Bool} {fz : List Int} (h : OwnForm w f nil fz) : f.oneCell' = true := by
  rcases h with ⟨_, e, _⟩ | ⟨_, g, e, _⟩ <;> rw [e] <;> rfl
theorem OwnForm.shape {w : World} {f : Value} {nil : Bool} {fz : List Int} (h : OwnForm w f nil fz) : ∃ fa cap, f = .slice fa fz.length cap := h.is.shape

/-- What the copy of a form leaves. -/
def ClonedF (nil : Bool) (fz : List Int) (w : World) (e : Ending) (w' : World) : Prop := ∃ f, e = .returned f ∧ OwnForm w' f nil fz ∧ Below w.heap.size w w' ∧ ∀ g, some g = f.ownBlock → w.heap.size ≤ g

theorem cloneF (f : Value) (nil : Bool) (fz : List Int) (w : World) (h : FormIs w f nil fz) (hl : fz.length ≤ 1048576) : Calls Try.prog 9 #[f] w (ClonedF nil fz w) := by
  rcases h with ⟨h, rfl, h0⟩ | ⟨h, x, cap, rfl, hc⟩
  · refine (clone_nil w).mono fun e w' ⟨he, hw⟩ => ?_
    subst hw
    exact ⟨_, he, .inl ⟨h, rfl, h0⟩, Below.refl _ _, fun g hg => by cases hg⟩
  · have := clone_some x cap (u8s fz) w (by rw [u8s_length]; exact hl) hc (fun v hv => by obtain ⟨z, _, rfl⟩ := List.mem_map.1 hv; rfl)
    rw [u8s_length] at this
    refine this.mono fun e w' ⟨he, hw⟩ => ?_
    subst hw
    exact ⟨_, he, .inr ⟨h, _, rfl, heap_alloc_new w _⟩, (Below.refl _ _).alloc (Nat.le_refl _) _, fun g hg => by simp [Value.ownBlock] at hg; omega⟩

/-! ### The row of the copies -/
/-- The cells of the grandchildren, one behind the other. -/
def flat : List PG → List Value → List Value
  | p :: ps, f :: fs => gp p f ++ flat ps fs
  | _, _ => []
theorem flat_length : ∀ (ps : List PG) (fs : List Value), fs.length ≤ ps.length → (flat ps fs).length = fs.length * 21
  | _, [], _ => by simp [flat]
  | [], _ :: _, h => by simp at h
  | p :: ps, f :: fs, h => by
    have := flat_length ps fs (by simp at h; omega)
    simp only [flat, List.length_append, gp_length, this, List.length_cons]
    omega
theorem flat_snoc : ∀ (ps : List PG) (fs : List Value) (p : PG) (f : Value), ps[fs.length]? = some p → flat ps (fs ++ [f]) = flat ps fs ++ gp p f
  | [], fs, _, _, h => by simp at h
  | q :: ps, [], p, f, h => by
    simp at h
    subst h
    simp [flat]
  | q :: ps, g :: fs, p, f, h => by
    have := flat_snoc ps fs p f (by simpa using h)
    simp only [List.cons_append, flat, this, List.append_assoc]
theorem flat_at : ∀ (ps : List PG) (fs : List Value) (i : Nat) (p : PG) (f : Value), ps[i]? = some p → fs[i]? = some f → ∀ j v, (gp p f)[j]? = some v → (flat ps fs)[i * 21 + j]? = some v
  | [], _, i, _, _, h, _ => by simp at h
  | _ :: _, [], i, _, _, _, h => by simp at h
  | q :: ps, g :: fs, 0, p, f, h1, h2 => by
    intro j v hv
    simp at h1 h2
    subst h1 h2
    have hj := (List.getElem?_eq_some_iff.1 hv).1
    simp only [flat, Nat.zero_mul, Nat.zero_add]
    rw [List.getElem?_append_left hj]
    exact hv
  | q :: ps, g :: fs, i + 1, p, f, h1, h2 => by
    intro j v hv
    have := flat_at ps fs i p f (by simpa using h1) (by simpa using h2) j v hv
    simp only [flat]
    rw [List.getElem?_append_right (by rw [gp_length]; omega), gp_length, show (i + 1) * 21 + j - 21 = i * 21 + j by omega]
    exact this

/-- The row of the copies after n rounds. -/
def Filled (w : World) (N : Nat) (ps : List PG) (n : Nat) : Prop :=
  ∃ fs rest, fs.length = n ∧ rest.length = (ps.length - n) * 21 ∧ w.heap[N]? = some (.cells (flat ps fs ++ rest).toArray 70 (0, 0)) ∧ ∀ (i : Nat) (p : PG) (f : Value), ps[i]? = some p → fs[i]? = some f → OwnForm w f p.nil p.fz

theorem Filled.done {w : World} {N : Nat} {ps : List PG} (h : Filled w N ps ps.length) (hs : ∀ p ∈ ps, p.nm.size ≤ maxLen ∧ p.sn.size ≤ maxLen ∧ p.fz.length ≤ maxLen) : GRow w (some ⟨N, 0, none⟩) ps := by
  obtain ⟨fs, rest, hl, _, hh, hf⟩ := h
  intro i p hp
  have hi := (List.getElem?_eq_some_iff.1 hp).1
  have hfi : fs[i]? = some fs[i] := List.getElem?_eq_getElem (by omega)
  refine ⟨N, 0, fs[i], rfl, fun j v hv => ?_, (hf i p _ hp hfi).is, hs p (List.mem_of_getElem? hp)⟩
  have hj : j < 21 := (List.getElem?_eq_some_iff.1 hv).1
  rw [cell_of_row _ _ _ _ _ _ hh, Nat.zero_add]
  simp only [List.getElem?_toArray]
  have := flat_at ps fs i p _ hp hfi j v hv
  rw [List.getElem?_append_left (List.getElem?_eq_some_iff.1 this).1]
  exact this

end Go.Proofs.Qxb6605611a
