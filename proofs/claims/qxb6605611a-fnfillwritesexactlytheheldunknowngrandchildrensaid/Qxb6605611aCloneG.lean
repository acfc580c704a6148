import Derived.Test.Qxb6605611aLaws
namespace Go.Proofs.Qxb6605611a
set_option linter.unusedSimpArgs false
set_option linter.unusedVariables false
open Go.ChangeShapes Go.WideShapes Go.ChangeAt Go.RowKit

theorem Try.info70 : (Try.prog.info? 70).map (fun i => (i.zero.isSome, i.size, i.bytes)) = some (true, 21, 80) := by kernel_rfl

theorem make70 (n : Nat) (hl : n ≤ 1048576) : ∃ R : List Value, R.length = n * 21 ∧ ∀ w : World, (Instr.makeSlice 47 (.int .i64 (n : Int)) (.int .i64 (n : Int))).run Try.prog w = .ok (.slice (some ⟨w.heap.size, 0, none⟩) n n) (w.alloc (.cells R.toArray 70)) := by
  obtain ⟨i, hi, hzz⟩ := Option.map_eq_some_iff.1 Try.info70
  simp only [Prod.mk.injEq] at hzz
  obtain ⟨hz, hs, hb⟩ := hzz
  obtain ⟨z, hz⟩ := Option.isSome_iff_exists.1 hz
  refine ⟨(madeCells z.cells (n * 21)).toList, by simp [size_madeCells], fun w => ?_⟩
  have := run_make (P := Try.prog) w 47 70 i z Try.underlying47 hi hz .i64 .i64 (n : Int) (n : Int) (by omega) (by omega) (by rw [hb]; omega) (by omega)
  rw [this, Int.toNat_natCast, hs]

/-- What the copy of the grandchildren leaves. -/
def ClonedG (a : Option Addr) (ps : List PG) (w : World) (e : Ending) (w' : World) : Prop :=
  ∃ a' c', e = .returned (.slice a' ps.length c') ∧ GRow w' a' ps ∧ Below w.heap.size w w'

theorem GRow.sizes {w : World} {a : Option Addr} {ps : List PG} (h : GRow w a ps) : ∀ p ∈ ps, p.nm.size ≤ maxLen ∧ p.sn.size ≤ maxLen ∧ p.fz.length ≤ maxLen := fun p hp => by
  obtain ⟨i, hi⟩ := List.getElem?_of_mem hp
  obtain ⟨_, _, _, _, _, _, h⟩ := h i p hi
  exact h

/-- The box of the grandchild behind the copy of its form. -/
theorem box_later {wr w1 : World} {C : Array Value} {t : TypeId} (hb : Below (wr.alloc (.cells C t)).heap.size (wr.alloc (.cells C t)) w1) : w1.heap[wr.heap.size]? = some (.cells C t (0, 0)) := by
  rw [hb.block wr.heap.size (by simp)]
  exact heap_alloc_new wr _

theorem range_set20 {w1 : World} {g : Nat} {nm sn : ByteArray} {sr : Bool} {X : Nat → Int} {kn : Bool} {f f' : Value} (hbox : w1.heap[g]? = some (.cells (gl nm sn sr X kn f).toArray 70 (0, 0))) : (w1.setCell ⟨g, 20, none⟩ f').rangeAt g 0 (gl nm sn sr X kn f') := fun j v hv => by
  have h := heap_setCell_same w1 g 20 (gl nm sn sr X kn f).toArray 70 f' hbox
  rw [Nat.zero_add, cell_of_row _ _ _ _ _ _ h]
  rw [← hv, List.setIfInBounds_toArray, List.getElem?_toArray]
  rfl

/-- One round more. -/
theorem filled_step {w wr w1 : World} {ps : List PG} {n : Nat} {fs rest : List Value} {f f' : Value} (hn : n < ps.length) (hl : fs.length = n) (hr : rest.length = (ps.length - n) * 21) (hh : wr.heap[w.heap.size]? = some (.cells (flat ps fs ++ rest).toArray 70 (0, 0)))
    (hf : ∀ (i : Nat) (p : PG) (f : Value), ps[i]? = some p → fs[i]? = some f → OwnForm wr f p.nil p.fz) (hB : Below w.heap.size w wr)
    (hb : Below (wr.alloc (.cells (gl ps[n].nm ps[n].sn ps[n].sr ps[n].X ps[n].kn f).toArray 70)).heap.size (wr.alloc (.cells (gl ps[n].nm ps[n].sn ps[n].sr ps[n].X ps[n].kn f).toArray 70)) w1) (ho : OwnForm w1 f' ps[n].nil ps[n].fz) :
    Filled ((w1.setCell ⟨wr.heap.size, 20, none⟩ f').setRow w.heap.size ((flat ps fs ++ rest).take (n * 21) ++ gl ps[n].nm ps[n].sn ps[n].sr ps[n].X ps[n].kn f' ++ (flat ps fs ++ rest).drop (n * 21 + 21)).toArray) w.heap.size ps (n + 1) ∧
      Below w.heap.size w ((w1.setCell ⟨wr.heap.size, 20, none⟩ f').setRow w.heap.size ((flat ps fs ++ rest).take (n * 21) ++ gl ps[n].nm ps[n].sn ps[n].sr ps[n].X ps[n].kn f' ++ (flat ps fs ++ rest).drop (n * 21 + 21)).toArray) := by
  have hN : w.heap.size < wr.heap.size := (Array.getElem?_eq_some_iff.1 hh).1
  have hfl : (flat ps fs).length = n * 21 := by rw [flat_length ps fs (by omega), hl]
  have hbox := box_later hb
  have h1N : w1.heap[w.heap.size]? = wr.heap[w.heap.size]? := (hb.block _ (by simp; omega)).trans (Below.heap_alloc wr _ _ hN)
  have h2N : (w1.setCell ⟨wr.heap.size, 20, none⟩ f').heap[w.heap.size]? = some (.cells (flat ps fs ++ rest).toArray 70 (0, 0)) := by
    rw [Below.heap_setCell _ _ _ _ (by simp; omega), h1N]; exact hh
  have hlist : (flat ps fs ++ rest).take (n * 21) ++ gl ps[n].nm ps[n].sn ps[n].sr ps[n].X ps[n].kn f' ++ (flat ps fs ++ rest).drop (n * 21 + 21) = flat ps (fs ++ [f']) ++ rest.drop 21 := by
    rw [flat_snoc ps fs ps[n] f' (by rw [hl]; exact List.getElem?_eq_getElem hn), List.take_append_of_le_length (by omega), List.take_of_length_le (by omega), List.drop_append, hfl, List.drop_of_length_le (by omega), show n * 21 + 21 - n * 21 = 21 by omega]
    rfl
  have same : ∀ g, g ≠ wr.heap.size → g ≠ w.heap.size → ∀ A, ((w1.setCell ⟨wr.heap.size, 20, none⟩ f').setRow w.heap.size A).heap[g]? = w1.heap[g]? := fun g h1 h2 A => by
    rw [setRow_other _ _ _ _ h2, Below.heap_setCell _ _ _ _ (by exact h1)]
  refine ⟨⟨fs ++ [f'], rest.drop 21, by simp [hl], by simp [hr]; omega, ?_, ?_⟩, ?_⟩
  · rw [hlist]
    exact setRow_heap _ _ _ _ _ _ h2N
  · intro i p g hp hg
    by_cases hi : i < n
    · have hg' : fs[i]? = some g := by rwa [List.getElem?_append_left (by omega)] at hg
      refine (hf i p g hp hg').kept fun k C hk => ?_
      have hkl : k < wr.heap.size := (Array.getElem?_eq_some_iff.1 hk).1
      have hkN : k ≠ w.heap.size := fun e => by rw [e, hh] at hk; simp at hk
      rw [same k (by omega) hkN, hb.block k (by simp; omega)]
      exact Below.heap_alloc wr _ _ hkl
    · have hin : i = n := by
        have := (List.getElem?_eq_some_iff.1 hg).1
        simp [hl] at this
        omega
      subst hin
      have hg' : g = f' := by
        rw [List.getElem?_append_right (by omega), hl, Nat.sub_self] at hg
        simpa using hg.symm
      have hp' : p = ps[i] := by
        rw [List.getElem?_eq_getElem hn] at hp
        simpa using hp.symm
      subst hg' hp'
      refine ho.kept fun k C hk => ?_
      have hkb : k ≠ wr.heap.size := fun e => by rw [e, hbox] at hk; simp at hk
      have hkN : k ≠ w.heap.size := fun e => by rw [e, h1N, hh] at hk; simp at hk
      exact same k hkb hkN _
  · have b1 : Below w.heap.size w w1 := (hB.alloc hB.size _).trans (hb.mono (by simp; omega))
    exact below_setRow (b1.setCell (by simp; omega) _) (Nat.le_refl _) _

set_option maxHeartbeats 2000000 in
set_option maxRecDepth 100000 in
theorem fillCloneGrands (a : Option Addr) (cap : Nat) (ps : List PG) (w : World) (hl : ps.length ≤ 65536) (hrow : GRow w a ps) (hsh : Short ps) (hnil : a = none → cap = 0 ∧ ps = []) :
    Calls Try.prog 20 #[.slice a ps.length cap] w (ClonedG a ps w) := by
  cases a with
  | none =>
    obtain ⟨rfl, rfl⟩ := hnil rfl
    have q := fun (w : World) => Lib.run_eql_slice_nil (P := Try.prog) w 47 70 none 0 0 0 0 Try.underlying47
    go_enter Try.func20, Try.ntmps20
    go_wp2
    go_ret
    exact ⟨none, 0, rfl, fun i p h => by simp at h, Below.refl _ _⟩
  | some x =>
    have q := fun (w : World) => Lib.run_eql_slice_nil (P := Try.prog) w 47 70 (some x) ps.length cap 0 0 Try.underlying47
    obtain ⟨R, hR, hmk⟩ := make70 ps.length (by omega)
    have HR := hide hrow
    have HSH := hide hsh
    have HF0 : Hid (Filled (w.alloc (.cells R.toArray 70)) w.heap.size ps 0) := ⟨[], R, rfl, by simpa using hR, by cases ps <;> (simp only [flat, List.nil_append]; exact heap_alloc_new w _), fun i p f _ h => by simp at h⟩
    clear hrow hnil hsh hR
    go_enter Try.func20, Try.ntmps20
    go_wp2
    go_loopw [13] (fun i wr => ∃ n : Nat, n ≤ ps.length ∧ i = .int .i64 n ∧ Hid (Filled wr w.heap.size ps n) ∧ Hid (Below w.heap.size w wr)) (fun i _ => ps.length - (intOf i).toNat)
    case atStart => exact ⟨0, Nat.zero_le _, rfl, HF0, (Below.refl _ _).alloc (Nat.le_refl _) _⟩
    case round =>
      obtain ⟨n, hn, rfl, HF, HB⟩ := hrel
      by_cases hlt : n < ps.length
      · obtain ⟨b, o, f, hx, hrg, hFm, hs⟩ := (HR.out.later HB.out).at hlt
        cases hx
        have hfl := HSH.out ps[n] (List.getElem_mem hlt)
        obtain ⟨fa, fc, hfs⟩ := hFm.shape
        subst hfs
        have HRG : Hid (wr.rangeAt b (o + n * 21) (gl ps[n].nm ps[n].sn ps[n].sr ps[n].X ps[n].kn (.slice fa ps[n].fz.length fc))) := hrg
        have HFM := hide hFm
        clear hrg hFm hs
        obtain ⟨fs, rest, hfl', hrl, hh, hff⟩ := HF.out
        have HH := hide hh
        have HFF := hide hff
        clear hh hff HF
        go_wp2_with (first | ((with_reducible show wpList _ _ _ ({ dst := some 19, op := Op.load 70 (Operand.tmp 18), type := _, pos := _, after := _, guard := _ } :: _) _ _); refine wpList_load_mid rfl 70 _ rfl b (o + n * 21) rfl _ _ HRG.out Try.underlying70 rfl size70 ?_) | ((with_reducible show wpList _ _ _ ({ dst := none, op := Op.store 70 (Operand.tmp 5) (Operand.tmp 19), type := _, pos := _, after := _, guard := _ } :: _) _ _); refine wpList_store_new rfl 70 _ _ rfl _ (gl ps[n].nm ps[n].sn ps[n].sr ps[n].X ps[n].kn (.slice fa ps[n].fz.length fc)).toArray _ rfl rfl rfl size70 rfl (gl_all _ _ _ _ _ _ rfl) ?_))
        refine (cloneF _ _ _ _ (HFM.out.later ((Below.refl _ _).alloc (Nat.le_refl _) _)) hfl).mono ?_
        rintro e w1 ⟨f', rfl, hof, hb1, hs1⟩
        have hbox := box_later hb1
        obtain ⟨fa', fc', hf'⟩ := hof.shape
        have hst := filled_step hlt hfl' hrl HH.out HFF.out HB.out hb1 hof
        have hN : w1.heap[w.heap.size]? = some (.cells (flat ps fs ++ rest).toArray 70 (0, 0)) := by
          have hN' : w.heap.size < wr.heap.size := (Array.getElem?_eq_some_iff.1 HH.out).1
          rw [hb1.block _ (by simp; omega), Below.heap_alloc wr _ _ hN']; exact HH.out
        have hne : w.heap.size < wr.heap.size := (Array.getElem?_eq_some_iff.1 HH.out).1
        have hfll : (flat ps fs).length = n * 21 := by rw [flat_length ps fs (by omega), hfl']
        subst hf'
        have c20 : w1.cell? ⟨wr.heap.size, 20, none⟩ = some (.slice fa ps[n].fz.length fc) := by rw [cell_of_row _ _ _ _ _ _ hbox]; rfl
        have f20 : w1.frozen? ⟨wr.heap.size, 20, none⟩ = false := frozen_of_row _ _ _ _ _ hbox
        have HRG2 := hide (range_set20 (f' := .slice fa' ps[n].fz.length fc') hbox)
        have HN2 : Hid ((w1.setCell ⟨wr.heap.size, 20, none⟩ (.slice fa' ps[n].fz.length fc')).heap[w.heap.size]? = some (.cells (flat ps fs ++ rest).toArray 70 (0, 0))) := by
          show _ = _
          rw [Below.heap_setCell _ _ _ _ (by simp; omega)]; exact hN
        have HST := hide hst
        clear hst hN hbox hof hb1 hs1 HFM HRG HFF HH
        go_wp2_with (first | ((with_reducible show wpList _ _ _ ({ dst := some 26, op := Op.load 70 (Operand.tmp 5), type := _, pos := _, after := _, guard := _ } :: _) _ _); refine wpList_load_mid rfl 70 _ rfl wr.heap.size 0 rfl _ _ HRG2.out Try.underlying70 rfl size70 ?_) | ((with_reducible show wpList _ _ _ ({ dst := none, op := Op.store 70 (Operand.tmp 27) (Operand.tmp 26), type := _, pos := _, after := _, guard := _ } :: _) _ _); refine wpList_store_row rfl 70 _ _ rfl w.heap.size (n * 21) 70 (flat ps fs ++ rest) (gl ps[n].nm ps[n].sn ps[n].sr ps[n].X ps[n].kn (.slice fa' ps[n].fz.length fc')) rfl rfl HN2.out size70 (by simp; omega) (gl_one _ _ _ _ _ _ rfl) ?_; have HSX := HST.out; clear HST; generalize World.setRow _ _ _ = w3 at HSX ⊢; have HS3 := hide HSX; clear HSX))
        go_roundw
        case rel => exact ⟨n + 1, by omega, by go_num, HS3.out.1, HS3.out.2⟩
        case measure => simp [intOf]; omega
      · obtain rfl : n = ps.length := by omega
        have HG := hide (HF.out.done HR.out.sizes)
        go_wp2
        go_ret
        exact ⟨_, _, rfl, HG.out, HB.out⟩

end Go.Proofs.Qxb6605611a
