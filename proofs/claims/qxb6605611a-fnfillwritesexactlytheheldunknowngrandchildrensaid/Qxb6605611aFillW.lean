import Derived.Test.Qxb6605611aFillL
namespace Go.Proofs.Qxb6605611a
set_option linter.unusedSimpArgs false
set_option linter.unusedVariables false
open Go.ChangeShapes Go.WideShapes Go.ChangeAt Go.RowKit Go.Sort

theorem noValues_at (nm : ByteArray) (X : Nat → Int) (w : World) : Calls Try.prog 24 #[.string nm, .agg (il X).toArray] w fun e w' => e = .returned (.tuple #[.map none, .nilIface]) ∧ Below w.heap.size w w' := noValues nm X w

/-- What a Fill that is given no values leaves. -/
def FillDonePost (F : PG → PG) (base ob : Nat) (ps : List PG) (w : World) (e : Ending) (w' : World) : Prop :=
  e = .returned .nilIface ∧ (∃ es, RowR w' base ob (ps.map F) es) ∧ KeptF base ob w w'

theorem PredAt.cell {w : World} {pb : Nat} {sn : ByteArray} (h : PredAt w pb sn) : w.cell? ⟨pb, 0, none⟩ = some (.string sn) := by
  obtain ⟨C, h1, h2⟩ := h
  rw [cell_of_row _ _ _ _ _ _ h1]
  exact h2

theorem PredAt.keptF {base ob : Nat} {W wr : World} {pb : Nat} {sn : ByteArray} (hk : KeptF base ob W wr) (h : PredAt W pb sn) (hne : pb ≠ ob) : PredAt wr pb sn := by
  obtain ⟨C, h1, h2⟩ := h
  exact ⟨C, hk.cell h1 (by decide) hne, h2⟩

theorem Apd.other {w w6 : World} {v0 v f : Value} {nil : Bool} {fz : List Int} (hA : Apd w w6 v0 v) (hv0 : v0.ownBlock = f.ownBlock) (hf : FormR w f nil fz) {k : Nat} {C : Array Value} {t : TypeId} (hk : w.heap[k]? = some (.cells C t (0, 0))) (ht : t ≠ 5) : w6.heap[k]? = some (.cells C t (0, 0)) := by
  rw [hA.grown.block k (Array.getElem?_eq_some_iff.1 hk).1 (fun r => ?_)]
  · exact hk
  rw [hv0] at r
  rcases hf with ⟨_, e', _⟩ | ⟨_, g', cap, cur, e', hh, _⟩
  · rw [e'] at r; cases r
  · rw [e'] at r
    simp [Value.ownBlock] at r
    subst r
    rw [hk] at hh
    simp at hh
    exact ht hh.2
theorem Apd.rangeAt_row {w w6 : World} {v0 v f : Value} {nil : Bool} {fz : List Int} (hA : Apd w w6 v0 v) (hv0 : v0.ownBlock = f.ownBlock) (hf : FormR w f nil fz) {k o : Nat} {C : Array Value} {t : TypeId} (hk : w.heap[k]? = some (.cells C t (0, 0))) (ht : t ≠ 5) {cs : List Value} (hr : w.rangeAt k o cs) : w6.rangeAt k o cs := fun j v hv => by
  have := hr j v hv
  rw [cell_of_row _ _ _ _ _ _ hk] at this
  rw [cell_of_row _ _ _ _ _ _ (hA.other hv0 hf hk ht)]
  exact this

theorem own_shape {w : World} {base : Nat} {v : Value} {X : Nat → Int} (h : w.ownsRow base 5 1 v (0 + (gbv X).length) ([] ++ gbv X)) : ∃ g cap, v = .slice (some ⟨g, 0, none⟩) 22 cap := by
  rcases h.2 with ⟨_, h'⟩ | ⟨g, cap, cur, h', _⟩
  · exact absurd h' (by simp [gbv])
  · exact ⟨g, cap, h'⟩

theorem FormR.none_zero {w : World} {l fc : Nat} {nil : Bool} {fz : List Int} (h : FormR w (.slice none l fc) nil fz) : l = 0 ∧ fc = 0 := by
  rcases h with ⟨_, e, _⟩ | ⟨_, g, cap, cur, e, _⟩
  · simp only [Value.slice.injEq] at e
    exact ⟨e.2.1, e.2.2⟩
  · simp at e

/-- One round that writes. -/
theorem done_step {W w6 w7 : World} {base ob n : Nat} {via : ByteArray} {vr : Bool} {H : Nat → Int} {ps : List PG} {es : List (Nat × Value)} {e : Nat × Value} {v0 v : Value} (hlt : n < ps.length) (hkn : ps[n].kn = false) (hq : (!((ps[n].sr == !vr) && (ps[n].sn.toList == via.toList)) && !(idl ps[n].X == idl H)) = true)
    (hR : RowR w6 base ob (qsAt (fillP via vr H) ps n) es) (hK : KeptF base ob W w6) (hnq : (qsAt (fillP via vr H) ps n)[n]? = some ps[n]) (hee : es[n]? = some e) (hv0 : v0.ownBlock = e.2.ownBlock) (hA : Apd w6 w7 v0 v) (hown : w7.ownsRow 0 5 1 v (0 + (gbv ps[n].X).length) ([] ++ gbv ps[n].X)) (hB : base ≤ W.heap.size) :
    RowR ((w7.setCell ⟨ob, n * 22 + 21, none⟩ v).setCell ⟨ob, n * 22 + 20, none⟩ (.bool true)) base ob (qsAt (fillP via vr H) ps (n + 1)) (es.set n (e.1, v)) ∧ KeptF base ob W ((w7.setCell ⟨ob, n * 22 + 21, none⟩ v).setCell ⟨ob, n * 22 + 20, none⟩ (.bool true)) := by
  obtain ⟨s1, s2, s3⟩ := set_two w7 ob (n * 22 + 21) (n * 22 + 20) v (.bool true)
  have hF : fillP via vr H ps[n] = filled ps[n] := by simp [fillP, heldP_true hkn hq]
  rw [qsAt_step _ _ _ hlt, hF]
  exact ⟨hR.write hnq hee hv0 hA hown s1 s2 (fun C hC => s3 C 66 hC), hK.write hR hnq hee hv0 hA s1 s2 rfl rfl rfl hB⟩

/-- All that the two stores want. -/
structure StoreReady (w : World) (cb sb ob n : Nat) (L : List Value) (X : Nat → Int) : Prop where
  row : w.heap[ob]? = some (.cells L.toArray 66 (0, 0))
  c0 : w.cell? ⟨cb, 0, none⟩ = some (.pointer (some ⟨sb, 0, none⟩))
  r4 : w.rangeAt ob (n * 22 + 4) (il X)
  ne : cb ≠ ob
  room : n * 22 + 22 ≤ L.length

theorem set_cell_other (w : World) (ob i : Nat) (x : Value) (a : Addr) (h : a.block ≠ ob) : (w.setCell ⟨ob, i, none⟩ x).cell? a = w.cell? a := World.cell?_of_block (Below.heap_setCell _ _ _ _ h)
theorem set_range {w : World} {ob i o : Nat} {L : List Value} {x : Value} {cs : List Value} (hrow : w.heap[ob]? = some (.cells L.toArray 66 (0, 0))) (hr : w.rangeAt ob o cs) (hi : o + cs.length ≤ i) : (w.setCell ⟨ob, i, none⟩ x).rangeAt ob o cs := fun j v hv => by
  have hj := (List.getElem?_eq_some_iff.1 hv).1
  have := hr j v hv
  rw [cell_of_row _ _ _ _ _ _ hrow] at this
  rw [cell_of_row _ _ _ _ _ _ (heap_setCell_same w ob i _ 66 x hrow), Array.getElem?_setIfInBounds_ne (by omega)]
  exact this
theorem set_row {w : World} {ob i : Nat} {L : List Value} {x : Value} (hrow : w.heap[ob]? = some (.cells L.toArray 66 (0, 0))) : (w.setCell ⟨ob, i, none⟩ x).heap[ob]? = some (.cells (L.set i x).toArray 66 (0, 0)) := by
  rw [heap_setCell_same w ob i _ 66 x hrow]
  simp

theorem StoreReady.set {w : World} {cb sb ob n : Nat} {L : List Value} {X : Nat → Int} (h : StoreReady w cb sb ob n L X) (i : Nat) (hi : n * 22 + 20 ≤ i) (x : Value) : StoreReady (w.setCell ⟨ob, i, none⟩ x) cb sb ob n (L.set i x) X :=
  ⟨set_row h.row, by rw [set_cell_other _ _ _ _ _ h.ne]; exact h.c0, set_range h.row h.r4 (by simp; omega), h.ne, by simp; exact h.room⟩
theorem StoreReady.s {w : World} {cb sb ob n : Nat} {L : List Value} {X : Nat → Int} (h : StoreReady w cb sb ob n L X) : w.cell? ⟨cb, 0, none⟩ = some (.pointer (some ⟨sb, 0, none⟩)) ∧ w.rangeAt ob (n * 22 + 4) (il X) := ⟨h.c0, h.r4⟩
theorem StoreReady.a {w : World} {cb sb ob n : Nat} {L : List Value} {X : Nat → Int} (h : StoreReady w cb sb ob n L X) (x : Value) : (w.setCell ⟨ob, n * 22 + 21, none⟩ x).cell? ⟨cb, 0, none⟩ = some (.pointer (some ⟨sb, 0, none⟩)) ∧ (w.setCell ⟨ob, n * 22 + 21, none⟩ x).rangeAt ob (n * 22 + 4) (il X) := (h.set _ (by omega) x).s
theorem StoreReady.b {w : World} {cb sb ob n : Nat} {L : List Value} {X : Nat → Int} (h : StoreReady w cb sb ob n L X) (x : Value) : (w.setCell ⟨ob, n * 22 + 20, none⟩ x).cell? ⟨cb, 0, none⟩ = some (.pointer (some ⟨sb, 0, none⟩)) ∧ (w.setCell ⟨ob, n * 22 + 20, none⟩ x).rangeAt ob (n * 22 + 4) (il X) := (h.set _ (by omega) x).s
theorem StoreReady.c {w : World} {cb sb ob n : Nat} {L : List Value} {X : Nat → Int} (h : StoreReady w cb sb ob n L X) (x y : Value) : ((w.setCell ⟨ob, n * 22 + 21, none⟩ x).setCell ⟨ob, n * 22 + 20, none⟩ y).cell? ⟨cb, 0, none⟩ = some (.pointer (some ⟨sb, 0, none⟩)) ∧ ((w.setCell ⟨ob, n * 22 + 21, none⟩ x).setCell ⟨ob, n * 22 + 20, none⟩ y).rangeAt ob (n * 22 + 4) (il X) := ((h.set _ (by omega) x).set _ (by omega) y).s
theorem StoreReady.d {w : World} {cb sb ob n : Nat} {L : List Value} {X : Nat → Int} (h : StoreReady w cb sb ob n L X) (x y : Value) : ((w.setCell ⟨ob, n * 22 + 20, none⟩ x).setCell ⟨ob, n * 22 + 21, none⟩ y).cell? ⟨cb, 0, none⟩ = some (.pointer (some ⟨sb, 0, none⟩)) ∧ ((w.setCell ⟨ob, n * 22 + 20, none⟩ x).setCell ⟨ob, n * 22 + 21, none⟩ y).rangeAt ob (n * 22 + 4) (il X) := ((h.set _ (by omega) x).set _ (by omega) y).s
theorem StoreReady.cell {w : World} {cb sb ob n : Nat} {L : List Value} {X : Nat → Int} (h : StoreReady w cb sb ob n L X) (i : Nat) (hi : i < n * 22 + 22) : ∃ v, w.cell? ⟨ob, i, none⟩ = some v := by
  rw [cell_of_row _ _ _ _ _ _ h.row]
  have := h.room
  exact ⟨L[i], by simp⟩
theorem StoreReady.frozen {w : World} {cb sb ob n : Nat} {L : List Value} {X : Nat → Int} (h : StoreReady w cb sb ob n L X) (i : Nat) : w.frozen? ⟨ob, i, none⟩ = false := frozen_of_row _ _ _ _ _ h.row
theorem StoreReady.g1 {w : World} {cb sb ob n : Nat} {L : List Value} {X : Nat → Int} (h : StoreReady w cb sb ob n L X) : (w.cell? ⟨ob, n * 22 + 21, none⟩).isSome = true := by obtain ⟨v, hv⟩ := h.cell (n * 22 + 21) (by omega); rw [hv]; rfl
theorem StoreReady.g2 {w : World} {cb sb ob n : Nat} {L : List Value} {X : Nat → Int} (h : StoreReady w cb sb ob n L X) : (w.cell? ⟨ob, n * 22 + 20, none⟩).isSome = true := by obtain ⟨v, hv⟩ := h.cell (n * 22 + 20) (by omega); rw [hv]; rfl
theorem StoreReady.g3 {w : World} {cb sb ob n : Nat} {L : List Value} {X : Nat → Int} (h : StoreReady w cb sb ob n L X) : ∀ x, ((w.setCell ⟨ob, n * 22 + 21, none⟩ x).cell? ⟨ob, n * 22 + 20, none⟩).isSome = true := fun x => (h.set _ (by omega) x).g2
theorem StoreReady.g4 {w : World} {cb sb ob n : Nat} {L : List Value} {X : Nat → Int} (h : StoreReady w cb sb ob n L X) : ∀ x, ((w.setCell ⟨ob, n * 22 + 20, none⟩ x).cell? ⟨ob, n * 22 + 21, none⟩).isSome = true := fun x => (h.set _ (by omega) x).g1
theorem StoreReady.q3 {w : World} {cb sb ob n : Nat} {L : List Value} {X : Nat → Int} (h : StoreReady w cb sb ob n L X) {y : Value} (hy : w.cell? ⟨ob, n * 22 + 20, none⟩ = some y) : ∀ x, (w.setCell ⟨ob, n * 22 + 21, none⟩ x).cell? ⟨ob, n * 22 + 20, none⟩ = some y := fun x => by
  rw [World.cell?_setCell_other _ _ _ _ (by simp)]
  exact hy
theorem StoreReady.q4 {w : World} {cb sb ob n : Nat} {L : List Value} {X : Nat → Int} (h : StoreReady w cb sb ob n L X) {y : Value} (hy : w.cell? ⟨ob, n * 22 + 21, none⟩ = some y) : ∀ x, (w.setCell ⟨ob, n * 22 + 20, none⟩ x).cell? ⟨ob, n * 22 + 21, none⟩ = some y := fun x => by
  rw [World.cell?_setCell_other _ _ _ _ (by simp)]
  exact hy
theorem StoreReady.f1 {w : World} {cb sb ob n : Nat} {L : List Value} {X : Nat → Int} (h : StoreReady w cb sb ob n L X) : w.frozen? ⟨ob, n * 22 + 21, none⟩ = false := h.frozen _
theorem StoreReady.f2 {w : World} {cb sb ob n : Nat} {L : List Value} {X : Nat → Int} (h : StoreReady w cb sb ob n L X) : w.frozen? ⟨ob, n * 22 + 20, none⟩ = false := h.frozen _
theorem StoreReady.f3 {w : World} {cb sb ob n : Nat} {L : List Value} {X : Nat → Int} (h : StoreReady w cb sb ob n L X) : ∀ x, (w.setCell ⟨ob, n * 22 + 21, none⟩ x).frozen? ⟨ob, n * 22 + 20, none⟩ = false := fun x => (h.set _ (by omega) x).frozen _
theorem StoreReady.f4 {w : World} {cb sb ob n : Nat} {L : List Value} {X : Nat → Int} (h : StoreReady w cb sb ob n L X) : ∀ x, (w.setCell ⟨ob, n * 22 + 20, none⟩ x).frozen? ⟨ob, n * 22 + 21, none⟩ = false := fun x => (h.set _ (by omega) x).frozen _

set_option maxHeartbeats 8000000 in
set_option maxRecDepth 100000 in
theorem fillDone (cb sb ob base vp : Nat) (via : ByteArray) (vr : Bool) (H : Nat → Int) (ps : List PG) (w : World) (hl : ps.length ≤ 65536) (hB : base ≤ w.heap.size)
    (hcb : w.heap[cb]? = some (.cells #[.pointer (some ⟨sb, 0, none⟩), .slice none 0 0, .slice (some ⟨ob, 0, none⟩) ps.length ps.length, .slice none 0 0, .slice none 0 0] 86 (0, 0))) (hvp : PredAt w vp via) (es0 : List (Nat × Value)) (hrow : RowR w base ob ps es0) :
    Calls Try.prog 22 #[.pointer (some ⟨cb, 0, none⟩), .agg #[.pointer (some ⟨vp, 0, none⟩), .bool vr], .agg (idc H), .func (.func 24) #[] #[]] w (FillDonePost (fillP via vr H) base ob ps w) := by
  have hcbo : cb ≠ ob := fun q => by rw [q, hrow.row] at hcb; simp at hcb
  have hvpo : vp ≠ ob := fun q => by obtain ⟨C, h1, _⟩ := hvp; rw [q, hrow.row] at h1; simp at h1
  have hobl : ob < w.heap.size := (Array.getElem?_eq_some_iff.1 hrow.row).1
  have hcbl : cb < w.heap.size := (Array.getElem?_eq_some_iff.1 hcb).1
  have hc2 : w.cell? ⟨cb, 2, none⟩ = some (.slice (some ⟨ob, 0, none⟩) ps.length ps.length) := by rw [cell_of_row _ _ _ _ _ _ hcb]; rfl
  have HV := hide hvp
  have HC := hide hcb
  have HRow := hide hrow
  clear hrow hvp hcb
  go_enter Try.func22, Try.ntmps22
  go_wp2
  clear hc2
  generalize hWe : (w.alloc _).alloc _ = W
  obtain ⟨hsW, hg0, hg1, hbW⟩ := two_alloc hWe
  clear hWe
  have HVW : Hid (PredAt W vp via) := by obtain ⟨C, h1, h2⟩ := HV.out; exact ⟨C, (hbW.block _ (Array.getElem?_eq_some_iff.1 h1).1).trans h1, h2⟩
  have HCW := hide ((hbW.block cb hcbl).trans HC.out)
  have HR0 : Hid (∃ es, RowR W base ob (qsAt (fillP via vr H) ps 0) es) := ⟨es0, by rw [qsAt_zero]; exact HRow.out.later hbW⟩
  have HK0 := hide (KeptF.refl base ob W)
  have hBW : base ≤ W.heap.size := by omega
  go_loopw [19] (fun i wr => ∃ n : Nat, n ≤ ps.length ∧ i = .int .i64 n ∧ Hid (∃ es, RowR wr base ob (qsAt (fillP via vr H) ps n) es) ∧ Hid (KeptF base ob W wr)) (fun i _ => ps.length - (intOf i).toNat)
  case atStart => exact ⟨0, Nat.zero_le _, rfl, HR0, HK0⟩
  case round =>
    obtain ⟨n, hn, rfl, HRR, HK⟩ := hrel
    have hc : wr.cell? ⟨cb, 2, none⟩ = some (.slice (some ⟨ob, 0, none⟩) ps.length ps.length) := by rw [cell_of_row _ _ _ _ _ _ (HK.out.cell HCW.out (by decide) hcbo)]; rfl
    by_cases hlt : n < ps.length
    · obtain ⟨es, hR⟩ := HRR.out
      have hnq := qsAt_get (fillP via vr H) ps n hlt
      have hne' : n < es.length := by rw [hR.len, qsAt_length _ _ _ hn]; exact hlt
      obtain ⟨e, hee⟩ : ∃ e, es[n]? = some e := ⟨es[n], List.getElem?_eq_getElem hne'⟩
      obtain ⟨hrg, hpb, hfr⟩ := hR.at hnq hee
      have hob := World.block_lt_of_cell? _ _ (hrg 0 _ rfl)
      have k20 := hrg 20 _ rfl
      have HP := hide hpb
      have HVr := hide (PredAt.keptF HK.out HVW.out hvpo).cell
      have R2 := hide (ol_at2 _ _ _ _ _ _ hrg)
      have R4 := hide (ol_at4 _ _ _ _ _ _ hrg)
      have k0 := hide (hrg 0 _ rfl)
      have B5 := hide (range_of_block (cs := [_, _]) (HK.out.cell hg0 (by decide) (by omega)))
      have B6 := hide (range_of_block (cs := il H) (HK.out.cell hg1 (by decide) (by omega)))
      have HR := hide hR
      have HFR := hide hfr
      clear hrg hpb hR hfr
      have kg := cell_grow
      cases hkn : ps[n].kn with
      | true =>
        rw [hkn] at k20
        have HQ2 : Hid (qsAt (fillP via vr H) ps (n + 1) = qsAt (fillP via vr H) ps n) := qsAt_same _ _ _ hlt (by simp [fillP, heldP, heldB, hkn])
        go_wp2
        refine wp_region_quiet_below (by kernel_rfl) (by kernel_rfl) ?_
        repeat (go_big_quiet_step (fail))
        refine wpQuiet_nil ?_
        intro _ hw'
        obtain ⟨⟨dq, osq⟩, hw''⟩ := hw'
        subst hw''
        go_wp2
        go_roundw
        case rel => exact ⟨n + 1, hlt, by go_num, ⟨es, by rw [HQ2.out]; exact HR.out.later (below_regrown _ _ _)⟩, HK.out.later (below_regrown _ _ _) hBW⟩
        case measure => simp [intOf]; omega
      | false =>
        rw [hkn] at k20
        cases hq : (!((ps[n].sr == !vr) && (ps[n].sn.toList == via.toList)) && !(idl ps[n].X == idl H)) with
        | false =>
          have HQ := hide hq
          clear hq
          have HQ2 : Hid (qsAt (fillP via vr H) ps (n + 1) = qsAt (fillP via vr H) ps n) := qsAt_same _ _ _ hlt (by simp [fillP, heldP_false HQ.out])
          go_wp2
          refine wp_region_quiet_below (by kernel_rfl) (by kernel_rfl) ?_
          repeat (first
            | ((with_reducible show wpQuiet _ _ _ _ ({ dst := some 34, op := Op.load 58 (Operand.tmp 5), type := _, pos := _, after := _, guard := _ } :: _) _); refine wpQuiet_load_mid rfl 58 _ rfl w.heap.size 0 rfl _ _ (range_regrown B5.out) Try.underlying58 rfl size58 ?_; simp only [Act.put, List.setIfInBounds_toArray, List.set_cons_succ, List.set_cons_zero])
            | ((with_reducible show wpQuiet _ _ _ _ ({ dst := some 35, op := Op.load 60 (Operand.tmp 6), type := _, pos := _, after := _, guard := _ } :: _) _); refine wpQuiet_load_mid rfl 60 _ rfl (w.heap.size + 1) 0 rfl _ _ (range_regrown B6.out) under60 rfl size60 ?_; simp only [Act.put, List.setIfInBounds_toArray, List.set_cons_succ, List.set_cons_zero])
            | ((with_reducible show wpQuiet _ _ _ _ ({ dst := some 39, op := Op.load 58 (Operand.tmp 38), type := _, pos := _, after := _, guard := _ } :: _) _); refine wpQuiet_load_mid rfl 58 _ rfl ob (n * 22 + 2) rfl _ _ (range_regrown R2.out) Try.underlying58 rfl size58 ?_; simp only [Act.put, List.setIfInBounds_toArray, List.set_cons_succ, List.set_cons_zero])
            | ((with_reducible show wpQuiet _ _ _ _ ({ dst := some 43, op := Op.load 60 (Operand.tmp 42), type := _, pos := _, after := _, guard := _ } :: _) _); refine wpQuiet_load_mid rfl 60 _ rfl ob (n * 22 + 4) rfl _ _ (range_regrown R4.out) under60 rfl size60 ?_; simp only [Act.put, List.setIfInBounds_toArray, List.set_cons_succ, List.set_cons_zero])
            | go_big_quiet_step ((go_at_call 37; exact Calls.regrown_of (holds_at vp e.1 vr ps[n].sr H ps[n].X via ps[n].sn _ HQ.out _ (cell_regrown HVr.out _ _) (cell_regrown HP.out _ _)))))
          refine wpQuiet_nil ?_
          intro _ hw'
          obtain ⟨⟨dq, osq⟩, hw''⟩ := hw'
          subst hw''
          go_wp2
          go_roundw
          case rel => exact ⟨n + 1, hlt, by go_num, ⟨es, by rw [HQ2.out]; exact HR.out.later (below_regrown _ _ _)⟩, HK.out.later (below_regrown _ _ _) hBW⟩
          case measure => simp [intOf]; omega
        | true =>
          have HQ := hide hq
          clear hq
          go_wp2
          refine wp_region_quiet_below (by kernel_rfl) (by kernel_rfl) ?_
          repeat (first
            | ((with_reducible show wpQuiet _ _ _ _ ({ dst := some 34, op := Op.load 58 (Operand.tmp 5), type := _, pos := _, after := _, guard := _ } :: _) _); refine wpQuiet_load_mid rfl 58 _ rfl w.heap.size 0 rfl _ _ (range_regrown B5.out) Try.underlying58 rfl size58 ?_; simp only [Act.put, List.setIfInBounds_toArray, List.set_cons_succ, List.set_cons_zero])
            | ((with_reducible show wpQuiet _ _ _ _ ({ dst := some 35, op := Op.load 60 (Operand.tmp 6), type := _, pos := _, after := _, guard := _ } :: _) _); refine wpQuiet_load_mid rfl 60 _ rfl (w.heap.size + 1) 0 rfl _ _ (range_regrown B6.out) under60 rfl size60 ?_; simp only [Act.put, List.setIfInBounds_toArray, List.set_cons_succ, List.set_cons_zero])
            | ((with_reducible show wpQuiet _ _ _ _ ({ dst := some 39, op := Op.load 58 (Operand.tmp 38), type := _, pos := _, after := _, guard := _ } :: _) _); refine wpQuiet_load_mid rfl 58 _ rfl ob (n * 22 + 2) rfl _ _ (range_regrown R2.out) Try.underlying58 rfl size58 ?_; simp only [Act.put, List.setIfInBounds_toArray, List.set_cons_succ, List.set_cons_zero])
            | ((with_reducible show wpQuiet _ _ _ _ ({ dst := some 43, op := Op.load 60 (Operand.tmp 42), type := _, pos := _, after := _, guard := _ } :: _) _); refine wpQuiet_load_mid rfl 60 _ rfl ob (n * 22 + 4) rfl _ _ (range_regrown R4.out) under60 rfl size60 ?_; simp only [Act.put, List.setIfInBounds_toArray, List.set_cons_succ, List.set_cons_zero])
            | go_big_quiet_step ((go_at_call 37; exact Calls.regrown_of (holds_at vp e.1 vr ps[n].sr H ps[n].X via ps[n].sn _ HQ.out _ (cell_regrown HVr.out _ _) (cell_regrown HP.out _ _)))))
          refine wpQuiet_nil ?_
          intro _ hw'
          obtain ⟨⟨dq, osq⟩, hw''⟩ := hw'
          subst hw''
          have hb5 := below_regrown wr dq osq
          generalize grow (redrawn wr dq) osq = w5 at hb5 ⊢
          have c05 : w5.cell? ⟨ob, n * 22, none⟩ = some (.string ps[n].nm) := cell_later hb5 k0.out
          have R45 := hide (rangeAt_later R4.out hb5)
          have hob5 : ob < w5.heap.size := World.block_lt_of_cell? _ _ c05
          clear k20 hc hob B5 B6 R2
          go_wp2
          refine wp_region_quiet_below (by kernel_rfl) (by kernel_rfl) ?_
          repeat (first
            | ((with_reducible show wpQuiet _ _ _ _ ({ dst := some 56, op := Op.load 60 (Operand.tmp 55), type := _, pos := _, after := _, guard := _ } :: _) _); refine wpQuiet_load_mid rfl 60 _ rfl ob (n * 22 + 4) rfl _ _ (range_regrown R45.out) under60 rfl size60 ?_; simp only [Act.put, List.setIfInBounds_toArray, List.set_cons_succ, List.set_cons_zero])
            | go_big_quiet_step ((go_at_call 24; exact Calls.regrown_of (noValues_at _ ps[n].X _))))
          refine wpQuiet_nil ?_
          intro _ hw'
          obtain ⟨⟨dr, osr⟩, hw''⟩ := hw'
          subst hw''
          have hb6 := hb5.trans ((below_regrown w5 dr osr).mono hb5.size)
          generalize grow (redrawn w5 dr) osr = w6 at hb6 ⊢
          have HR6 := hide (HR.out.later hb6)
          have HK6 := hide (HK.out.later hb6 hBW)
          obtain ⟨hrg6, _, hfr6⟩ := HR6.out.at hnq hee
          obtain ⟨fa, fc, hf2⟩ := hfr6.shape
          have hcut := (hf2 ▸ hfr6).cut
          have c21 : w6.cell? ⟨ob, n * 22 + 21, none⟩ = some (.slice fa ps[n].fz.length fc) := by rw [← hf2]; exact hrg6 21 _ rfl
          have r4 := ol_at4 _ _ _ _ _ _ hrg6
          have hCB6 := HK6.out.cell HCW.out (by decide) hcbo
          have c0 : w6.cell? ⟨cb, 0, none⟩ = some (.pointer (some ⟨sb, 0, none⟩)) := by rw [cell_of_row _ _ _ _ _ _ hCB6]; rfl
          have hrow6 := HR6.out.row
          have hv0 : (Value.slice fa 0 fc).ownBlock = e.2.ownBlock := by rw [hf2]; cases fa <;> rfl
          have HFR6 := hide hfr6
          have HCUT := hide hcut
          clear hrg6 hfr6 hcut
          have u60 := under60
          have z60 : (Try.prog.info? 60).map (·.size) = some (il ps[n].X).length := size60
          have l60 : (il ps[n].X).length = 16 := rfl
          have o60 := il_one ps[n].X
          have HS7 : ∀ (w7 : World) (v' : Value), Apd w6 w7 (.slice fa 0 fc) v' → StoreReady w7 cb sb ob n (oflat (qsAt (fillP via vr H) ps n) es) ps[n].X := fun w7 v' hA => by
            have row7 := hA.other hv0 HFR6.out hrow6 (by decide)
            have cb7 := hA.other hv0 HFR6.out hCB6 (by decide)
            refine ⟨row7, by rw [cell_of_row _ _ _ _ _ _ cb7]; rfl, ?_, hcbo, ?_⟩
            · have := hA.rangeAt_row hv0 HFR6.out hrow6 (by decide) r4
              exact this
            · rw [oflat_length _ _ (by rw [HR6.out.len]; exact Nat.le_refl _)]
              have : es.length = ps.length := by rw [HR6.out.len, qsAt_length _ _ _ hn]
              omega
          go_wp2
          cases fa with
          | none =>
            obtain ⟨hz0, rfl⟩ : ps[n].fz.length = 0 ∧ fc = 0 := FormR.none_zero (hf2 ▸ HFR6.out)
            rw [hz0] at c21
            have d4 := r4 0 _ rfl
            have d5 := r4 1 _ rfl
            have d6 := r4 2 _ rfl
            have d7 := r4 3 _ rfl
            have d8 := r4 4 _ rfl
            have d9 := r4 5 _ rfl
            have d10 := r4 6 _ rfl
            have d11 := r4 7 _ rfl
            have d12 := r4 8 _ rfl
            have d13 := r4 9 _ rfl
            have d14 := r4 10 _ rfl
            have d15 := r4 11 _ rfl
            have d16 := r4 12 _ rfl
            have d17 := r4 13 _ rfl
            have d18 := r4 14 _ rfl
            have d19 := r4 15 _ rfl
            simp only [Nat.add_assoc, Nat.reduceAdd] at d4 d5 d6 d7 d8 d9 d10 d11 d12 d13 d14 d15 d16 d17 d18 d19
            go_region_with (go_at_call 38; refine (appGrand 0 (.slice none 0 0) (.pointer (some ⟨sb, 0, none⟩)) ps[n].X w6.drew (ownsRow_later HCUT.out (Below.refl w6.heap.size w6).drew) (Nat.zero_le _)).mono ?_; rintro e' w7 ⟨v', rfl, hown7, happ7⟩; obtain ⟨g7, c7, hv7⟩ := own_shape hown7; subst hv7; have A7 : Apd w6 w7 (.slice none 0 0) (.slice (some ⟨g7, 0, none⟩) 22 c7) := (Apd.of_below _ (Below.refl w6.heap.size w6).drew).trans happ7; have SR := HS7 w7 _ A7; have HFIN := hide (done_step hlt hkn HQ.out HR6.out HK6.out hnq hee hv0 A7 hown7 hBW); obtain ⟨x21, g1⟩ := SR.cell (n * 22 + 21) (by omega); obtain ⟨x20, g2⟩ := SR.cell (n * 22 + 20) (by omega); have f1 := SR.f1; have f2 := SR.f2; have g3 := SR.q3 g2; have g4 := SR.q4 g1; have f3 := SR.f3; have f4 := SR.f4)
            all_goals
              go_wp2
              go_roundw
              case rel => exact ⟨n + 1, hlt, by go_num, ⟨_, HFIN.out.1⟩, HFIN.out.2⟩
              case measure => simp [intOf]; omega
          | some fx =>
            have d4 := r4 0 _ rfl
            have d5 := r4 1 _ rfl
            have d6 := r4 2 _ rfl
            have d7 := r4 3 _ rfl
            have d8 := r4 4 _ rfl
            have d9 := r4 5 _ rfl
            have d10 := r4 6 _ rfl
            have d11 := r4 7 _ rfl
            have d12 := r4 8 _ rfl
            have d13 := r4 9 _ rfl
            have d14 := r4 10 _ rfl
            have d15 := r4 11 _ rfl
            have d16 := r4 12 _ rfl
            have d17 := r4 13 _ rfl
            have d18 := r4 14 _ rfl
            have d19 := r4 15 _ rfl
            simp only [Nat.add_assoc, Nat.reduceAdd] at d4 d5 d6 d7 d8 d9 d10 d11 d12 d13 d14 d15 d16 d17 d18 d19
            go_region_with (go_at_call 38; refine (appGrand 0 (.slice (some fx) 0 fc) (.pointer (some ⟨sb, 0, none⟩)) ps[n].X w6.drew (ownsRow_later HCUT.out (Below.refl w6.heap.size w6).drew) (Nat.zero_le _)).mono ?_; rintro e' w7 ⟨v', rfl, hown7, happ7⟩; obtain ⟨g7, c7, hv7⟩ := own_shape hown7; subst hv7; have A7 : Apd w6 w7 (.slice (some fx) 0 fc) (.slice (some ⟨g7, 0, none⟩) 22 c7) := (Apd.of_below _ (Below.refl w6.heap.size w6).drew).trans happ7; have SR := HS7 w7 _ A7; have HFIN := hide (done_step hlt hkn HQ.out HR6.out HK6.out hnq hee hv0 A7 hown7 hBW); obtain ⟨x21, g1⟩ := SR.cell (n * 22 + 21) (by omega); obtain ⟨x20, g2⟩ := SR.cell (n * 22 + 20) (by omega); have f1 := SR.f1; have f2 := SR.f2; have g3 := SR.q3 g2; have g4 := SR.q4 g1; have f3 := SR.f3; have f4 := SR.f4)
            all_goals
              go_wp2
              go_roundw
              case rel => exact ⟨n + 1, hlt, by go_num, ⟨_, HFIN.out.1⟩, HFIN.out.2⟩
              case measure => simp [intOf]; omega
    · have HRF : Hid (∃ es, RowR wr base ob (ps.map (fillP via vr H)) es) := by
        have hnl : n = ps.length := by omega
        obtain ⟨es, hE⟩ := HRR.out
        rw [hnl, qsAt_all] at hE
        exact ⟨es, hE⟩
      go_wp2
      go_ret
      exact ⟨rfl, HRF.out, ⟨by have := HK.out.size; have := hbW.size; omega, HK.out.os.trans hbW.os, HK.out.tape.trans hbW.tape, HK.out.output.trans hbW.output, fun k hk => (HK.out.low k hk).trans (hbW.block k (by omega)), fun k C t hC ht hne => (HK.out.cell ((hbW.block k (Array.getElem?_eq_some_iff.1 hC).1).trans hC) ht hne).trans hC.symm⟩⟩

end Go.Proofs.Qxb6605611a
