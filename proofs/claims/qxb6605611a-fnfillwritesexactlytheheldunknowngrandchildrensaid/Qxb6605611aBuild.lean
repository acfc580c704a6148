import Derived.Test.Qxb6605611aBuildP
namespace Go.Proofs.Qxb6605611a
set_option linter.unusedSimpArgs false
set_option linter.unusedVariables false
open Go.ChangeShapes Go.WideShapes Go.ChangeAt Go.RowKit

theorem Try.info66 : (Try.prog.info? 66).map (fun i => (i.zero.isSome, i.size, i.bytes)) = some (true, 22, 96) := by kernel_rfl
theorem info66_parts : ∃ i z, Try.prog.info? 66 = some i ∧ i.zero = some z ∧ i.size = 22 ∧ i.bytes = 96 := by
  obtain ⟨i, hi, hzz⟩ := Option.map_eq_some_iff.1 Try.info66
  simp only [Prod.mk.injEq] at hzz
  obtain ⟨hz, hs, hb⟩ := hzz
  obtain ⟨z, hz⟩ := Option.isSome_iff_exists.1 hz
  exact ⟨i, z, hi, hz, hs, hb⟩

/-- What fillBuild leaves. -/
def BuiltPost (ps : List PG) (w : World) (e : Ending) (w' : World) : Prop :=
  ∃ cb ob sb, e = .returned (.pointer (some ⟨cb, 0, none⟩)) ∧ w'.heap[cb]? = some (.cells #[.pointer (some ⟨sb, 0, none⟩), .slice none 0 0, .slice (some ⟨ob, 0, none⟩) ps.length ps.length, .slice none 0 0, .slice none 0 0] 86 (0, 0)) ∧
    w'.heap[sb]? = some (.cells #[.map none, .map none, .slice none 0 0, .map none] 39 (0, 0)) ∧ Onward w' w.heap.size ob ps ps.length ∧ Below w.heap.size w w'

theorem newGrand_below (nm : ByteArray) (p : Option Addr) (sr : Bool) (X : Nat → Int) (kn : Bool) (fa : Option Addr) (fl fc : Nat) (w : World) :
    Calls Try.prog 35 #[.string nm, .agg #[.pointer p, .bool sr], .agg (idc X), .bool kn, .slice fa fl fc] w fun e w' => e = .returned (.agg (ol nm p sr X kn (.slice fa fl fc)).toArray) ∧ Below w.heap.size w w' :=
  (newGrand nm p sr X kn fa fl fc w).mono fun e w' ⟨h1, h2⟩ => ⟨h1, by rw [h2]; go_grown⟩

/-- The sixteen cells of an ID, as a list. -/
abbrev il (X : Nat → Int) : List Value := [.int .u8 (X 0), .int .u8 (X 1), .int .u8 (X 2), .int .u8 (X 3), .int .u8 (X 4), .int .u8 (X 5), .int .u8 (X 6), .int .u8 (X 7), .int .u8 (X 8), .int .u8 (X 9), .int .u8 (X 10), .int .u8 (X 11), .int .u8 (X 12), .int .u8 (X 13), .int .u8 (X 14), .int .u8 (X 15)]
theorem size46 : (Try.prog.info? 46).map (·.size) = some 16 := by kernel_rfl
theorem il_one (X : Nat → Int) : ∀ v ∈ il X, v.oneCell' = true := by
  intro v hv
  simp at hv
  rcases hv with h | h | h | h | h | h | h | h | h | h | h | h | h | h | h | h <;> subst h <;> rfl

theorem gl_id (nm sn : ByteArray) (sr : Bool) (X : Nat → Int) (kn : Bool) (f : Value) (j : Nat) (v : Value) (h : (il X)[j]? = some v) : (gl nm sn sr X kn f)[3 + j]? = some v := by
  show ([Value.string nm, .string sn, .bool sr] ++ (il X ++ [.bool kn, f]))[3 + j]? = some v
  rw [List.getElem?_append_right (by simp), List.getElem?_append_left (by have := (List.getElem?_eq_some_iff.1 h).1; simp at this ⊢; omega)]
  simpa using h

/-- Three blocks laid one behind the other. -/
theorem three_alloc {wr W : World} {A B C : Obj} (h : ((wr.alloc A).alloc B).alloc C = W) : W.heap.size = wr.heap.size + 1 + 1 + 1 ∧ W.heap[wr.heap.size]? = some A ∧ W.heap[wr.heap.size + 1]? = some B ∧ W.heap[wr.heap.size + 1 + 1]? = some C ∧ Below wr.heap.size wr W := by
  subst h
  have s1 : (wr.alloc A).heap.size = wr.heap.size + 1 := by simp
  have s2 : ((wr.alloc A).alloc B).heap.size = wr.heap.size + 1 + 1 := by simp
  refine ⟨by simp, ?_, ?_, ?_, by go_grown⟩
  · rw [Below.heap_alloc _ _ _ (by omega), Below.heap_alloc _ _ _ (by omega)]; exact heap_alloc_new wr A
  · rw [Below.heap_alloc _ _ _ (by omega), ← s1]; exact heap_alloc_new _ B
  · rw [← s2]; exact heap_alloc_new _ C

theorem ownsRow_later {w w' : World} {base : Nat} {e : TypeId} {size : Nat} {v : Value} {n : Nat} {xs : List Value} (h : w.ownsRow base e size v n xs) (hb : Below w.heap.size w w') : w'.ownsRow base e size v n xs :=
  h.kept (row := none) ⟨hb.os, hb.tape, hb.output, hb.size, fun k hk _ => hb.block k hk⟩ (by cases hv : v.ownBlock <;> simp)

theorem Onward.later {w w' : World} {base ob : Nat} {ps : List PG} {n : Nat} (h : Onward w base ob ps n) (hb : Below w.heap.size w w') : Onward w' base ob ps n := by
  obtain ⟨es, h1, h2, h3⟩ := h
  obtain ⟨C, hC⟩ := ownsRow_block h2
  exact ⟨es, h1, ownsRow_later h2 hb, h3.kept hC fun k hk _ => hb.block k hk⟩

/-- One round of the building. -/
theorem build_step {w wr W w1 w2 w4 : World} {ps : List PG} {n : Nat} {es : List (Nat × Value)} {f' : Value} {o : Obj} {C C1 : Array Value} (hn : n < ps.length) (hel : es.length = n) (hes : EsOk wr w.heap.size ps es) (hob : wr.heap[w.heap.size]? = some (.cells C 66 (0, 0))) (hB : Below w.heap.size w wr)
    (hsW : W.heap.size = wr.heap.size + 1 + 1 + 1) (hg1 : W.heap[wr.heap.size + 1]? = some (.cells C1 78 (0, 0))) (hC1 : C1[0]? = some (.string ps[n].sn)) (hbW : Below wr.heap.size wr W) (hb1 : Below W.heap.size W w1) (hof : OwnForm w1 f' ps[n].nil ps[n].fz) (hnew : ∀ g, some g = f'.ownBlock → W.heap.size ≤ g)
    (hb2 : Below w1.heap.size w1 w2) (hgrow : (w2.alloc o).grownBy w4 (some w.heap.size)) (hown4 : w4.ownsRow w.heap.size 66 22 (.slice (some ⟨w.heap.size, 0, none⟩) (n + 1) ps.length) (n + 1) (oflat ps es ++ op ps[n] (wr.heap.size + 1, f'))) :
    Onward w4 w.heap.size w.heap.size ps (n + 1) ∧ Below w.heap.size w w4 := by
  have hN : w.heap.size < wr.heap.size := (Array.getElem?_eq_some_iff.1 hob).1
  have z1 := hb1.size
  have z2 := hb2.size
  have blk : ∀ k, k < w2.heap.size → k ≠ w.heap.size → w4.heap[k]? = w2.heap[k]? := fun k hk hne => by
    rw [hgrow.block k (by simp; omega) (by simpa using hne)]
    exact Below.heap_alloc w2 _ _ hk
  have blk1 : ∀ k, k < w1.heap.size → k ≠ w.heap.size → w4.heap[k]? = w1.heap[k]? := fun k hk hne => (blk k (by omega) hne).trans (hb2.block k hk)
  have blkW : ∀ k, k < W.heap.size → k ≠ w.heap.size → w4.heap[k]? = W.heap[k]? := fun k hk hne => (blk1 k (by omega) hne).trans (hb1.block k hk)
  have blkr : ∀ k, k < wr.heap.size → k ≠ w.heap.size → w4.heap[k]? = wr.heap[k]? := fun k hk hne => (blkW k (by omega) hne).trans (hbW.block k hk)
  have hs4 : wr.heap.size ≤ w4.heap.size := by have := hgrow.size; simp at this; omega
  have hpn : ps[es.length]? = some ps[n] := by rw [hel]; exact List.getElem?_eq_getElem hn
  refine ⟨⟨es ++ [(wr.heap.size + 1, f')], by simp [hel], ?_, ?_⟩, ?_⟩
  · rw [oflat_snoc ps es ps[n] _ hpn]
    exact hown4
  · refine (hes.kept hob blkr).snoc (B := W.heap.size) hpn ⟨C1, (blkW _ (by omega) (by omega)).trans hg1, hC1⟩ ?_ hnew (by omega) ?_
    · refine hof.kept fun k D hD => blk1 k (Array.getElem?_eq_some_iff.1 hD).1 fun q => ?_
      rw [q, hb1.block _ (by omega), hbW.block _ hN, hob] at hD
      simp at hD
    · intro i e g he hg
      have hi : i < ps.length := by
        have := (List.getElem?_eq_some_iff.1 he).1
        omega
      have := (hes.form i ps[i] e (List.getElem?_eq_getElem hi) he).lt g hg
      omega
  · refine ⟨?_, ?_, ?_, by have := hB.size; omega, fun k hk => (blkr k (by omega) (by omega)).trans (hB.block k hk)⟩
    · have : w4.os = w2.os := hgrow.os
      rw [this, hb2.os, hb1.os, hbW.os, hB.os]
    · have : w4.tape = w2.tape := hgrow.tape
      rw [this, hb2.tape, hb1.tape, hbW.tape, hB.tape]
    · have : w4.output = w2.output := hgrow.output
      rw [this, hb2.output, hb1.output, hbW.output, hB.output]

set_option maxHeartbeats 4000000 in
set_option maxRecDepth 100000 in
theorem fillBuild (a : Option Addr) (cap : Nat) (ps : List PG) (w : World) (hl : ps.length ≤ 65536) (hrow : GRow w a ps) (hsh : Short ps) :
    Calls Try.prog 21 #[.slice a ps.length cap] w (BuiltPost ps w) := by
  obtain ⟨i66, z66, hi66, hz66, hs66, hb66⟩ := info66_parts
  have HR := hide hrow
  have HSH := hide hsh
  clear hrow hsh
  go_enter Try.func21, Try.ntmps21
  go_wp2_with (at_make; refine wpList_make_own _ rfl _ _ 62 rfl w.heap.size 66 i66 z66 22 Try.underlying62 hi66 hz66 hs66 _ _ _ ps.length rfl rfl rfl (by rw [hb66]; omega) (by unfold maxLen; omega) (Nat.le_refl _) ?_; intro wM hownM hgrowM)
  have HO0 : Hid (Onward wM w.heap.size w.heap.size ps 0) := ⟨[], rfl, by cases ps <;> exact hownM, ⟨fun i p e _ h => by simp at h, fun i p e _ h => by simp at h, fun i e g h => by simp at h, fun i j e e' g h => by simp at h⟩⟩
  have HB0 : Hid (Below w.heap.size w wM) := (Below.refl _ _).grown hgrowM (Nat.le_refl _) (by simp)
  clear hownM hgrowM
  go_loopw [3, 12] (fun v i wr => ∃ n : Nat, n ≤ ps.length ∧ i = .int .i64 n ∧ v = .slice (some ⟨w.heap.size, 0, none⟩) n ps.length ∧ Hid (Onward wr w.heap.size w.heap.size ps n) ∧ Hid (Below w.heap.size w wr)) (fun _ i _ => ps.length - (intOf i).toNat)
  case atStart => exact ⟨0, Nat.zero_le _, rfl, rfl, HO0, HB0⟩
  case round =>
    obtain ⟨n, hn, rfl, rfl, HO, HB⟩ := hrel
    by_cases hlt : n < ps.length
    · obtain ⟨b, o, f, hx, hrg, hFm, hs⟩ := (HR.out.later HB.out).at hlt
      subst hx
      have hfl := HSH.out ps[n] (List.getElem_mem hlt)
      obtain ⟨fa, fc, hfs⟩ := hFm.shape
      subst hfs
      have HRG : Hid (wr.rangeAt b (o + n * 21) (gl ps[n].nm ps[n].sn ps[n].sr ps[n].X ps[n].kn (.slice fa ps[n].fz.length fc))) := hrg
      have HFM := hide hFm
      clear hrg hFm hs
      go_wp2_with (first | ((with_reducible show wpList _ _ _ ({ dst := some 18, op := Op.load 70 (Operand.tmp 17), type := _, pos := _, after := _, guard := _ } :: _) _ _); refine wpList_load_mid rfl 70 _ rfl b (o + n * 21) rfl _ _ HRG.out Try.underlying70 rfl size70 ?_) | ((with_reducible show wpList _ _ _ ({ dst := none, op := Op.store 70 (Operand.tmp 5) (Operand.tmp 18), type := _, pos := _, after := _, guard := _ } :: _) _ _); refine wpList_store_new rfl 70 _ _ rfl _ (gl ps[n].nm ps[n].sn ps[n].sr ps[n].X ps[n].kn (.slice fa ps[n].fz.length fc)).toArray _ rfl rfl rfl size70 rfl (gl_all _ _ _ _ _ _ rfl) ?_))
      generalize hWe : ((wr.alloc _).alloc _).alloc _ = W
      obtain ⟨hsW, hg0, hg1, hg2, hbW⟩ := three_alloc hWe
      clear hWe
      have c0 : W.cell? ⟨wr.heap.size, 0, none⟩ = some (.string ps[n].nm) := by rw [cell_of_row _ _ _ _ _ _ hg0]; rfl
      have c19 : W.cell? ⟨wr.heap.size, 19, none⟩ = some (.bool ps[n].kn) := by rw [cell_of_row _ _ _ _ _ _ hg0]; rfl
      have c20 : W.cell? ⟨wr.heap.size, 20, none⟩ = some (.slice fa ps[n].fz.length fc) := by rw [cell_of_row _ _ _ _ _ _ hg0]; rfl
      have s0 : W.cell? ⟨wr.heap.size + 1 + 1, 0, none⟩ = some (.pointer (some ⟨wr.heap.size + 1, 0, none⟩)) := by rw [cell_of_row _ _ _ _ _ _ hg2]; rfl
      have s1 : W.cell? ⟨wr.heap.size + 1 + 1, 1, none⟩ = some (.bool ps[n].sr) := by rw [cell_of_row _ _ _ _ _ _ hg2]; rfl
      have r3 : W.rangeAt wr.heap.size 3 (il ps[n].X) := fun j v hv => by
        rw [cell_of_row _ _ _ _ _ _ hg0, List.getElem?_toArray]
        exact gl_id _ _ _ _ _ _ j v hv
      have u46 := Try.underlying46
      have z46 : (Try.prog.info? 46).map (·.size) = some (il ps[n].X).length := size46
      have l46 : (il ps[n].X).length = 16 := rfl
      have o46 := il_one ps[n].X
      have hS : ∀ w', Below W.heap.size W w' → (w'.cell? ⟨wr.heap.size, 0, none⟩ = some (.string ps[n].nm) ∧ w'.cell? ⟨wr.heap.size, 19, none⟩ = some (.bool ps[n].kn) ∧ w'.cell? ⟨wr.heap.size, 20, none⟩ = some (.slice fa ps[n].fz.length fc) ∧ w'.cell? ⟨wr.heap.size + 1 + 1, 0, none⟩ = some (.pointer (some ⟨wr.heap.size + 1, 0, none⟩)) ∧ w'.cell? ⟨wr.heap.size + 1 + 1, 1, none⟩ = some (.bool ps[n].sr) ∧ w'.rangeAt wr.heap.size 3 (il ps[n].X)) :=
        fun w' hb => ⟨cell_later hb c0, cell_later hb c19, cell_later hb c20, cell_later hb s0, cell_later hb s1, rangeAt_later r3 hb⟩
      obtain ⟨es, hel, hown, hes⟩ := HO.out
      obtain ⟨CO, hob⟩ := ownsRow_block hown
      have hNr : w.heap.size < wr.heap.size := (Array.getElem?_eq_some_iff.1 hob).1
      have HOW := hide (ownsRow_later hown hbW)
      have hS4 : ∀ (w2 : World) (o : Obj) (w4 : World), Below W.heap.size W w2 → (w2.alloc o).grownBy w4 (some w.heap.size) → (w4.cell? ⟨wr.heap.size, 0, none⟩ = some (.string ps[n].nm) ∧ w4.cell? ⟨wr.heap.size, 19, none⟩ = some (.bool ps[n].kn) ∧ w4.cell? ⟨wr.heap.size, 20, none⟩ = some (.slice fa ps[n].fz.length fc) ∧ w4.cell? ⟨wr.heap.size + 1 + 1, 0, none⟩ = some (.pointer (some ⟨wr.heap.size + 1, 0, none⟩)) ∧ w4.cell? ⟨wr.heap.size + 1 + 1, 1, none⟩ = some (.bool ps[n].sr) ∧ w4.rangeAt wr.heap.size 3 (il ps[n].X)) := fun w2 o w4 hb hg => by
        obtain ⟨k1, k2, k3, k4, k5, k6⟩ := hS (w2.alloc o) (hb.alloc hb.size o)
        have e1 : some wr.heap.size ≠ some w.heap.size := by simp; omega
        have e2 : some (wr.heap.size + 1 + 1) ≠ some w.heap.size := by simp; omega
        exact ⟨hg.cell k1 e1, hg.cell k2 e1, hg.cell k3 e1, hg.cell k4 e2, hg.cell k5 e2, fun j v hv => hg.cell (k6 j v hv) e1⟩
      go_region_held3 (fun w' => w'.cell? ⟨wr.heap.size, 0, none⟩ = some (.string ps[n].nm) ∧ w'.cell? ⟨wr.heap.size, 19, none⟩ = some (.bool ps[n].kn) ∧ w'.cell? ⟨wr.heap.size, 20, none⟩ = some (.slice fa ps[n].fz.length fc) ∧ w'.cell? ⟨wr.heap.size + 1 + 1, 0, none⟩ = some (.pointer (some ⟨wr.heap.size + 1, 0, none⟩)) ∧ w'.cell? ⟨wr.heap.size + 1 + 1, 1, none⟩ = some (.bool ps[n].sr) ∧ w'.rangeAt wr.heap.size 3 (il ps[n].X))
        (first | exact ⟨c0, c19, c20, s0, s1, r3⟩ | exact S1 | exact S2 | exact S2a _ | exact S4)
        (first
          | (go_at_call 9; refine (cloneF _ _ _ _ (HFM.out.later hbW.drew) hfl).mono ?_; rintro e w1 ⟨f', rfl, hof, hb1d, hnew⟩; have hb1 : Below W.heap.size W w1 := ⟨hb1d.os, hb1d.tape, hb1d.output, hb1d.size, hb1d.block⟩; have S1 := hS w1 hb1; obtain ⟨fa', fc', hf'⟩ := hof.shape; subst hf')
          | (go_at_call 35; refine (newGrand_below _ _ _ _ _ _ _ _ _).mono ?_; rintro e w2 ⟨rfl, hb2⟩; have hbb := hb1.trans (hb2.mono hb1.size); have S2 := hS w2 hbb; have S2a := fun o => hS (w2.alloc o) (hbb.alloc hbb.size o))
          | (refine step_append_fits rfl (.tmp 26) (.tmp 38) 62 rfl w.heap.size 66 i66 22 Try.underlying62 hi66 hs66 w.heap.size n ps.length (oflat ps es) rfl (((ownsRow_later HOW.out hbb)).alloc _) ⟨w2.heap.size, 0, none⟩ 1 1 (ol ps[n].nm (some ⟨wr.heap.size + 1, 0, none⟩) ps[n].sr ps[n].X ps[n].kn (.slice fa' ps[n].fz.length fc')) rfl rfl (new_cells _ _ _) (ol_one _ _ _ _ _ _ rfl) (by omega) ?_; intro w4 hown4 hgrow4; have S4 := hS4 w2 _ w4 hbb hgrow4; have HST := hide (build_step hlt hel hes hob HB.out hsW hg1 rfl hbW hb1 hof hnew hb2 hgrow4 hown4)))
      go_wp2
      go_roundw
      · exact ⟨n + 1, hlt, by simp, rfl, hide HST.out.1, hide HST.out.2⟩
      case measure => simp [intOf]; omega
    · have hnl : n = ps.length := by omega
      subst hnl
      go_wp2
      go_ret
      have z1 : (wr.alloc (Obj.cells #[Value.map none, Value.map none, Value.slice none 0 0, Value.map none] 39)).heap.size = wr.heap.size + 1 := by simp
      refine ⟨wr.heap.size + 1, w.heap.size, wr.heap.size, rfl, ?_, ?_, HO.out.later (by go_grown), ((HB.out.alloc HB.out.size _).alloc (by have := HB.out.size; simp; omega) _)⟩
      · rw [← z1]; exact heap_alloc_new _ _
      · rw [Below.heap_alloc _ _ _ (by omega)]; exact heap_alloc_new _ _

end Go.Proofs.Qxb6605611a
