import Derived.Test.Qxb6605611aSmall
import Derived.Test.Qxb6605611aT2
namespace Go.Proofs.Qxb6605611a
set_option linter.unusedSimpArgs false
set_option linter.unusedVariables false
open Go.ChangeShapes Go.WideShapes Go.ChangeAt Go.RowKit Go.Sort

theorem Onward.at {w : World} {base ob : Nat} {ps : List PG} (h : Onward w base ob ps ps.length) {i : Nat} (hi : i < ps.length) :
    ∃ pb f, w.rangeAt ob (i * 22) (ol ps[i].nm (some ⟨pb, 0, none⟩) ps[i].sr ps[i].X ps[i].kn f) ∧ w.cell? ⟨pb, 0, none⟩ = some (.string ps[i].sn) ∧ OwnForm w f ps[i].nil ps[i].fz := by
  obtain ⟨es, hl, hown, hes⟩ := h
  have hi' : i < es.length := by omega
  have hp : ps[i]? = some ps[i] := List.getElem?_eq_getElem hi
  have he : es[i]? = some es[i] := List.getElem?_eq_getElem hi'
  obtain ⟨C, hC, hC0⟩ := hes.pred i _ _ hp he
  refine ⟨es[i].1, es[i].2, fun j v hv => ?_, by rw [cell_of_row _ _ _ _ _ _ hC]; exact hC0, hes.form i _ _ hp he⟩
  have hj := oflat_at ps es i _ _ hp he j v hv
  rcases hown.2 with ⟨h', _⟩ | ⟨g, cap', cur, h', _, hg, _, _, _, hx⟩
  · simp at h'
  · simp only [Value.slice.injEq, Option.some.injEq, Addr.mk.injEq, and_true, true_and] at h'
    obtain ⟨rfl, _⟩ := h'
    rw [cell_of_row _ _ _ _ _ _ hg, ← Array.getElem?_toList]
    rw [← hx] at hj
    rw [List.getElem?_take] at hj
    split at hj
    · exact hj
    · cases hj

theorem ol_at2 (nm : ByteArray) (p : Option Addr) (sr : Bool) (X : Nat → Int) (kn : Bool) (f : Value) {w : World} {b o : Nat} (h : w.rangeAt b o (ol nm p sr X kn f)) : w.rangeAt b (o + 2) [.pointer p, .bool sr] := fun j v hv => by
  have hj := (List.getElem?_eq_some_iff.1 hv).1
  simp at hj
  have := h (2 + j) v (by
    show ([Value.string nm, .string ByteArray.empty] ++ ([Value.pointer p, .bool sr] ++ (il X ++ [.bool kn, f])))[2 + j]? = some v
    rw [List.getElem?_append_right (by simp), List.getElem?_append_left (by simp; omega)]
    simpa using hv)
  rw [show o + 2 + j = o + (2 + j) by omega]
  exact this
theorem ol_at4 (nm : ByteArray) (p : Option Addr) (sr : Bool) (X : Nat → Int) (kn : Bool) (f : Value) {w : World} {b o : Nat} (h : w.rangeAt b o (ol nm p sr X kn f)) : w.rangeAt b (o + 4) (il X) := fun j v hv => by
  have hj := (List.getElem?_eq_some_iff.1 hv).1
  simp at hj
  have := h (4 + j) v (by
    show ([Value.string nm, .string ByteArray.empty, Value.pointer p, .bool sr] ++ (il X ++ [.bool kn, f]))[4 + j]? = some v
    rw [List.getElem?_append_right (by simp), List.getElem?_append_left (by simp; omega)]
    simpa using hv)
  rw [show o + 4 + j = o + (4 + j) by omega]
  exact this
theorem size58 : (Try.prog.info? 58).map (·.size) = some 2 := by kernel_rfl
theorem size60 : (Try.prog.info? 60).map (·.size) = some 16 := by kernel_rfl
theorem range_of_block {w : World} {b : Nat} {cs : List Value} {t : TypeId} (h : w.heap[b]? = some (.cells cs.toArray t (0, 0))) : w.rangeAt b 0 cs := fun j v hv => by
  rw [cell_of_row _ _ _ _ _ _ h]
  simpa using hv
theorem range_regrown {w : World} {b o : Nat} {cs : List Value} (h : w.rangeAt b o cs) : ∀ w', (∃ p : Regrown, w' = grow (redrawn w p.d) p.os) → w'.rangeAt b o cs := fun w' ⟨p, hp⟩ => by
  subst hp
  exact rangeAt_later h (below_regrown _ _ _)
theorem holds_at (vp sp : Nat) (vr sr : Bool) (H X : Nat → Int) (via sn : ByteArray) (q : Bool) (hq : (!((sr == !vr) && (sn.toList == via.toList)) && !(idl X == idl H)) = q) (w : World) (ha : w.cell? ⟨vp, 0, none⟩ = some (.string via)) (hb : w.cell? ⟨sp, 0, none⟩ = some (.string sn)) :
    Calls Try.prog 37 #[.agg #[.pointer (some ⟨vp, 0, none⟩), .bool vr], .agg (idc H), .agg #[.pointer (some ⟨sp, 0, none⟩), .bool sr], .agg (idc X)] w
      fun e w' => e = .returned (.bool q) ∧ Below w.heap.size w w' := (holds_any vp sp vr sr H X via sn w ha hb).mono fun e w' h => ⟨by rw [h.1, hq], h.2⟩

theorem two_alloc {wr W : World} {A B : Obj} (h : (wr.alloc A).alloc B = W) : W.heap.size = wr.heap.size + 1 + 1 ∧ W.heap[wr.heap.size]? = some A ∧ W.heap[wr.heap.size + 1]? = some B ∧ Below wr.heap.size wr W := by
  subst h
  have s1 : (wr.alloc A).heap.size = wr.heap.size + 1 := by simp
  refine ⟨by simp, ?_, ?_, by go_grown⟩
  · rw [Below.heap_alloc _ _ _ (by omega)]; exact heap_alloc_new wr A
  · rw [← s1]; exact heap_alloc_new _ B

/-- Is the grandchild's holder asked for a value? -/
def heldP (via : ByteArray) (vr : Bool) (H : Nat → Int) (p : PG) : Bool := heldB via p.sn vr p.sr p.kn (!(idl p.X == idl H))
theorem any_step {q : PG → Bool} {ps : List PG} {n : Nat} (hn : n < ps.length) (h : (ps.take n).any q = false) (hq : q ps[n] = false) : (ps.take (n + 1)).any q = false := by
  rw [List.take_succ_eq_append_getElem hn, List.any_append, h]
  simp [hq]
theorem heldP_false {via : ByteArray} {vr : Bool} {H : Nat → Int} {p : PG} (h : (!((p.sr == !vr) && (p.sn.toList == via.toList)) && !(idl p.X == idl H)) = false) : heldP via vr H p = false := by
  unfold heldP heldB
  revert h
  cases (p.sn.toList == via.toList) <;> cases (idl p.X == idl H) <;> cases p.sr <;> cases vr <;> cases p.kn <;> simp
theorem heldP_true {via : ByteArray} {vr : Bool} {H : Nat → Int} {p : PG} (hk : p.kn = false) (h : (!((p.sr == !vr) && (p.sn.toList == via.toList)) && !(idl p.X == idl H)) = true) : heldP via vr H p = true := by
  unfold heldP heldB
  rw [hk]
  revert h
  cases (p.sn.toList == via.toList) <;> cases (idl p.X == idl H) <;> cases p.sr <;> cases vr <;> simp
/-- What a refused Fill leaves. -/
def FillFailPost (via : ByteArray) (vr : Bool) (H : Nat → Int) (ps : List PG) (w : World) (e : Ending) (w' : World) : Prop :=
  ∃ v, e = .returned v ∧ ((ps.any (heldP via vr H) = true ∧ ∃ p, v = .iface 92 (.pointer p)) ∨ (ps.any (heldP via vr H) = false ∧ v = .nilIface)) ∧ Below w.heap.size w w'

set_option maxHeartbeats 4000000 in
set_option maxRecDepth 100000 in
theorem fillFail (cb ob base vp : Nat) (via : ByteArray) (vr : Bool) (H : Nat → Int) (ps : List PG) (w : World) (hl : ps.length ≤ 65536) (hc : w.cell? ⟨cb, 2, none⟩ = some (.slice (some ⟨ob, 0, none⟩) ps.length ps.length)) (hv : w.cell? ⟨vp, 0, none⟩ = some (.string via)) (ho : Onward w base ob ps ps.length) :
    Calls Try.prog 22 #[.pointer (some ⟨cb, 0, none⟩), .agg #[.pointer (some ⟨vp, 0, none⟩), .bool vr], .agg (idc H), .func (.func 32) #[] #[]] w (FillFailPost via vr H ps w) := by
  have HO := hide ho
  have HV := hide hv
  have HC := hide hc
  have hcb := World.block_lt_of_cell? _ _ hc
  clear ho hv
  go_enter Try.func22, Try.ntmps22
  go_wp2
  generalize hWe : (w.alloc _).alloc _ = W
  obtain ⟨hsW, hg0, hg1, hbW⟩ := two_alloc hWe
  clear hWe hc
  have HB0 := hide (Below.refl W.heap.size W)
  go_loopw [19] (fun i wr => ∃ n : Nat, n ≤ ps.length ∧ i = .int .i64 n ∧ Hid ((ps.take n).any (heldP via vr H) = false) ∧ Hid (Below W.heap.size W wr)) (fun i _ => ps.length - (intOf i).toNat)
  case atStart => exact ⟨0, Nat.zero_le _, rfl, rfl, HB0⟩
  case round =>
    obtain ⟨n, hn, rfl, HN, HB⟩ := hrel
    have hc := cell_later HB.out (cell_later hbW HC.out)
    by_cases hlt : n < ps.length
    · obtain ⟨pb, f, hrg, hpb, hof⟩ := (HO.out.later (hbW.trans (HB.out.mono hbW.size))).at hlt
      have hob := World.block_lt_of_cell? _ _ (hrg 0 _ rfl)
      have k20 := hrg 20 _ rfl
      have HP := hide hpb
      have HVr := hide (cell_later HB.out (cell_later hbW HV.out))
      have R2 := hide (ol_at2 _ _ _ _ _ _ hrg)
      have R4 := hide (ol_at4 _ _ _ _ _ _ hrg)
      have k0 := hide (hrg 0 _ rfl)
      have B5 := hide (rangeAt_later (range_of_block (cs := [_, _]) hg0) HB.out)
      have B6 := hide (rangeAt_later (range_of_block (cs := il H) hg1) HB.out)
      clear hrg hpb
      have kg := cell_grow
      cases hkn : ps[n].kn with
      | true =>
        rw [hkn] at k20
        go_wp2
        refine wp_region_quiet_below (by kernel_rfl) (by kernel_rfl) ?_
        repeat (go_big_quiet_step (fail))
        refine wpQuiet_nil ?_
        intro _ hw'
        obtain ⟨⟨dq, osq⟩, hw''⟩ := hw'
        subst hw''
        go_wp2
        go_roundw
        case rel => exact ⟨n + 1, hlt, by go_num, any_step hlt HN.out (by simp [heldP, heldB, hkn]), HB.out.trans ((below_regrown _ _ _).mono HB.out.size)⟩
        case measure => simp [intOf]; omega
      | false =>
        rw [hkn] at k20
        cases hq : (!((ps[n].sr == !vr) && (ps[n].sn.toList == via.toList)) && !(idl ps[n].X == idl H)) with
        | false =>
          have HQ := hide hq
          clear hq
          go_wp2
          refine wp_region_quiet_below (by kernel_rfl) (by kernel_rfl) ?_
          repeat (first
            | ((with_reducible show wpQuiet _ _ _ _ ({ dst := some 34, op := Op.load 58 (Operand.tmp 5), type := _, pos := _, after := _, guard := _ } :: _) _); refine wpQuiet_load_mid rfl 58 _ rfl w.heap.size 0 rfl _ _ (range_regrown B5.out) Try.underlying58 rfl size58 ?_; simp only [Act.put, List.setIfInBounds_toArray, List.set_cons_succ, List.set_cons_zero])
            | ((with_reducible show wpQuiet _ _ _ _ ({ dst := some 35, op := Op.load 60 (Operand.tmp 6), type := _, pos := _, after := _, guard := _ } :: _) _); refine wpQuiet_load_mid rfl 60 _ rfl (w.heap.size + 1) 0 rfl _ _ (range_regrown B6.out) under60 rfl size60 ?_; simp only [Act.put, List.setIfInBounds_toArray, List.set_cons_succ, List.set_cons_zero])
            | ((with_reducible show wpQuiet _ _ _ _ ({ dst := some 39, op := Op.load 58 (Operand.tmp 38), type := _, pos := _, after := _, guard := _ } :: _) _); refine wpQuiet_load_mid rfl 58 _ rfl ob (n * 22 + 2) rfl _ _ (range_regrown R2.out) Try.underlying58 rfl size58 ?_; simp only [Act.put, List.setIfInBounds_toArray, List.set_cons_succ, List.set_cons_zero])
            | ((with_reducible show wpQuiet _ _ _ _ ({ dst := some 43, op := Op.load 60 (Operand.tmp 42), type := _, pos := _, after := _, guard := _ } :: _) _); refine wpQuiet_load_mid rfl 60 _ rfl ob (n * 22 + 4) rfl _ _ (range_regrown R4.out) under60 rfl size60 ?_; simp only [Act.put, List.setIfInBounds_toArray, List.set_cons_succ, List.set_cons_zero])
            | go_big_quiet_step ((go_at_call 37; exact Calls.regrown_of (holds_at vp pb vr ps[n].sr H ps[n].X via ps[n].sn _ HQ.out _ (cell_regrown HVr.out _ _) (cell_regrown HP.out _ _)))))
          refine wpQuiet_nil ?_
          intro _ hw'
          obtain ⟨⟨dq, osq⟩, hw''⟩ := hw'
          subst hw''
          go_wp2
          go_roundw
          case rel => exact ⟨n + 1, hlt, by go_num, any_step hlt HN.out (heldP_false HQ.out), HB.out.trans ((below_regrown _ _ _).mono HB.out.size)⟩
          case measure => simp [intOf]; omega
        | true =>
          have HQ := hide hq
          clear hq
          go_wp2
          refine wp_region_quiet_below (by kernel_rfl) (by kernel_rfl) ?_
          repeat (first
            | ((with_reducible show wpQuiet _ _ _ _ ({ dst := some 34, op := Op.load 58 (Operand.tmp 5), type := _, pos := _, after := _, guard := _ } :: _) _); refine wpQuiet_load_mid rfl 58 _ rfl w.heap.size 0 rfl _ _ (range_regrown B5.out) Try.underlying58 rfl size58 ?_; simp only [Act.put, List.setIfInBounds_toArray, List.set_cons_succ, List.set_cons_zero])
            | ((with_reducible show wpQuiet _ _ _ _ ({ dst := some 35, op := Op.load 60 (Operand.tmp 6), type := _, pos := _, after := _, guard := _ } :: _) _); refine wpQuiet_load_mid rfl 60 _ rfl (w.heap.size + 1) 0 rfl _ _ (range_regrown B6.out) under60 rfl size60 ?_; simp only [Act.put, List.setIfInBounds_toArray, List.set_cons_succ, List.set_cons_zero])
            | ((with_reducible show wpQuiet _ _ _ _ ({ dst := some 39, op := Op.load 58 (Operand.tmp 38), type := _, pos := _, after := _, guard := _ } :: _) _); refine wpQuiet_load_mid rfl 58 _ rfl ob (n * 22 + 2) rfl _ _ (range_regrown R2.out) Try.underlying58 rfl size58 ?_; simp only [Act.put, List.setIfInBounds_toArray, List.set_cons_succ, List.set_cons_zero])
            | ((with_reducible show wpQuiet _ _ _ _ ({ dst := some 43, op := Op.load 60 (Operand.tmp 42), type := _, pos := _, after := _, guard := _ } :: _) _); refine wpQuiet_load_mid rfl 60 _ rfl ob (n * 22 + 4) rfl _ _ (range_regrown R4.out) under60 rfl size60 ?_; simp only [Act.put, List.setIfInBounds_toArray, List.set_cons_succ, List.set_cons_zero])
            | go_big_quiet_step ((go_at_call 37; exact Calls.regrown_of (holds_at vp pb vr ps[n].sr H ps[n].X via ps[n].sn _ HQ.out _ (cell_regrown HVr.out _ _) (cell_regrown HP.out _ _)))))
          refine wpQuiet_nil ?_
          intro _ hw'
          obtain ⟨⟨dq, osq⟩, hw''⟩ := hw'
          subst hw''
          have hb5 := below_regrown wr dq osq
          generalize grow (redrawn wr dq) osq = w5 at hb5 ⊢
          have c0 : w5.cell? ⟨ob, n * 22, none⟩ = some (.string ps[n].nm) := cell_later hb5 k0.out
          have r4 := rangeAt_later R4.out hb5
          have u60 := under60
          have z60 : (Try.prog.info? 60).map (·.size) = some (il ps[n].X).length := size60
          have l60 : (il ps[n].X).length = 16 := rfl
          have o60 := il_one ps[n].X
          go_wp2
          go_region_held3 (fun w' => w'.cell? ⟨ob, n * 22, none⟩ = some (.string ps[n].nm) ∧ w'.rangeAt ob (n * 22 + 4) (il ps[n].X))
            (first | exact ⟨c0, r4⟩ | exact S1)
            ((go_at_call 32; refine (failValues ps[n].nm ps[n].X _).mono ?_; rintro e w6 ⟨p6, rfl, hb6d⟩; have hb6 : Below w5.heap.size w5 w6 := ⟨hb6d.os, hb6d.tape, hb6d.output, hb6d.size, hb6d.block⟩; have S1 : w6.cell? ⟨ob, n * 22, none⟩ = some (.string ps[n].nm) ∧ w6.rangeAt ob (n * 22 + 4) (il ps[n].X) := ⟨cell_later hb6 c0, rangeAt_later r4 hb6⟩))
          have HT := hide (List.any_eq_true.2 ⟨ps[n], List.getElem_mem hlt, heldP_true (via := via) (vr := vr) (H := H) hkn HQ.out⟩)
          have HBB := hide (hbW.trans ((HB.out.trans ((hb5.trans (hb6.mono hb5.size)).mono HB.out.size)).mono hbW.size))
          go_wp2
          go_ret
          exact ⟨_, rfl, .inl ⟨HT.out, _, rfl⟩, HBB.out⟩
    · have HN' : Hid (ps.any (heldP via vr H) = false) := by have := HN.out; rwa [List.take_of_length_le (by omega)] at this
      go_wp2
      go_ret
      exact ⟨_, rfl, .inr ⟨HN'.out, rfl⟩, hbW.trans (HB.out.mono hbW.size)⟩

end Go.Proofs.Qxb6605611a
