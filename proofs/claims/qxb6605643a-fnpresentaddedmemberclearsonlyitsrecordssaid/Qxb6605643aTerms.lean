import Derived.Test.Qxb6605643aObj
import Derived.WalkSmall
namespace Go.Proofs.Qxb6605643a
set_option linter.unusedSimpArgs false
set_option linter.unusedVariables false
open Go.ChangeShapes Go.WideShapes Go.ChangeAt Go.RowKit Go.Maps Go.WideMaps

theorem Try.info61 : (Try.prog.info? 61).map (fun i => (i.zero, i.size, i.bytes)) = some (some (.agg #[.string ByteArray.empty, .string ByteArray.empty]), 2, 32) := by kernel_rfl

/-- The terms at block tb: the slice 'v' in the field 'absent' holds just 'recs'. -/
structure TermsAt (w : World) (tb base : Nat) (v : Value) (recs : List (ByteArray × ByteArray)) : Prop where
  cell : w.cell? ⟨tb, 15, none⟩ = some v
  open_ : w.frozen? ⟨tb, 15, none⟩ = false
  owns : w.ownsRow base 61 2 v recs.length (qcells recs)
  lt : tb < base

/-- Nothing that was there has turned, but for the blocks tb and that of the slice v. -/
structure Kept2 (w w' : World) (tb : Nat) (v : Value) : Prop where
  os : w'.os = w.os
  tape : w'.tape = w.tape
  output : w'.output = w.output
  size : w.heap.size ≤ w'.heap.size
  block : ∀ k, k < w.heap.size → k ≠ tb → some k ≠ v.ownBlock → w'.heap[k]? = w.heap[k]?

theorem Kept2.refl (w : World) (tb : Nat) (v : Value) : Kept2 w w tb v := ⟨rfl, rfl, rfl, Nat.le_refl _, fun _ _ _ _ => rfl⟩

/-- What is left behind 'present'. -/
def Presented (tb base : Nat) (v : Value) (recs : List (ByteArray × ByteArray)) (ss : List ByteArray) (cls key : ByteArray) (w : World) (e : Ending) (w' : World) : Prop :=
  e = .returned (.bool (has ss key)) ∧ ∃ v', TermsAt w' tb base v' (if has ss key then recs else recs ++ [(cls, key)]) ∧ Kept2 w w' tb v ∧ (v'.ownBlock = v.ownBlock ∨ ∃ g, v'.ownBlock = some g ∧ w.heap.size ≤ g)

theorem presented_yes {tb base : Nat} {v : Value} {recs : List (ByteArray × ByteArray)} {ss : List ByteArray} {cls key : ByteArray} {w : World} (hT : TermsAt w tb base v recs) (h : has ss key = true) : Presented tb base v recs ss cls key w (.returned (.bool true)) w := by
  unfold Presented
  rw [h]
  exact ⟨rfl, v, by rw [if_pos rfl]; exact hT, Kept2.refl _ _ _, .inl rfl⟩

theorem presented_no {tb base : Nat} {v v' : Value} {recs : List (ByteArray × ByteArray)} {ss : List ByteArray} {cls key : ByteArray} {w w1 : World} {o : Obj} (hT : TermsAt w tb base v recs) (h : has ss key = false)
    (hown : w1.ownsRow base 61 2 v' (recs.length + 1) (qcells recs ++ [.string cls, .string key])) (hgrow : (w.alloc o).grownBy w1 v.ownBlock) (hloc : v'.ownBlock = v.ownBlock ∨ v'.ownBlock = some (w.alloc o).heap.size) :
    Presented tb base v recs ss cls key w (.returned (.bool false)) (w1.setCell ⟨tb, 15, none⟩ v') := by
  have hlt := hT.lt
  have htb : tb < w.heap.size := World.block_lt_of_cell? _ _ hT.cell
  have hvb : some tb ≠ v.ownBlock := fun e => by
    have := (hT.owns.lt tb e.symm).1
    omega
  have hblk : w1.heap[tb]? = w.heap[tb]? := (hgrow.block tb (by simp; omega) hvb).trans (Below.heap_alloc w _ _ htb)
  unfold Presented
  rw [h]
  refine ⟨rfl, v', ?_, ?_, ?_⟩
  · rw [if_neg (by simp)]
    have hc : w1.cell? ⟨tb, 15, none⟩ = some v := (World.cell?_of_block (a := ⟨tb, 15, none⟩) hblk).trans hT.cell
    refine ⟨World.cell?_setCell_same _ _ _ hc, ?_, ?_, hlt⟩
    · rw [World.frozen?_setCell, World.frozen?_of_block (a := ⟨tb, 15, none⟩) hblk]; exact hT.open_
    · have := ownsRow_setCell_below hown (a := ⟨tb, 15, none⟩) hlt v'
      rw [List.length_append, qcells_append]
      exact this
  · refine ⟨by show w1.os = _; rw [hgrow.os]; rfl, by show w1.tape = _; rw [hgrow.tape]; rfl, by show w1.output = _; rw [hgrow.output]; rfl, ?_, ?_⟩
    · have := hgrow.size
      simp at this ⊢
      omega
    · intro k hk hne hnv
      rw [Below.heap_setCell _ _ _ _ (by exact hne), hgrow.block k (by simp; omega) hnv]
      exact Below.heap_alloc w _ _ hk
  · rcases hloc with h | h
    · exact .inl h
    · exact .inr ⟨_, h, by simp⟩

theorem own_shape {w : World} {base : Nat} {e : TypeId} {size : Nat} {v : Value} {n : Nat} {xs : List Value} (h : w.ownsRow base e size v (n + 1) xs) : ∃ g cap, v = .slice (some ⟨g, 0, none⟩) (n + 1) cap := by
  rcases h.2 with ⟨_, h⟩ | ⟨g, cap, cur, h, _⟩
  · omega
  · exact ⟨g, cap, h⟩

/-- The look-up, as the walk meets it. -/
theorem MapIs.look {w : World} {m : Value} {ss : List ByteArray} (h : MapIs w m ss) (key : ByteArray) (hk : key.size ≤ maxLen) :
    ∃ u, (Instr.lookup 29 m (.string key) true).run Try.prog w = .ok (.tuple #[u, .bool (has ss key)]) w := by
  have hkey : keyOf Try.prog 9 (.string key) = some (lk key) := keyOf_string_mk Try.underlying9 hk
  rcases h with ⟨rfl, rfl⟩ | ⟨b, n, D, rfl, hown, hD⟩
  · exact ⟨_, Maps.look_nil true law Try.underlying29 (zero43 w) hkey⟩
  · obtain ⟨v, ps, hrun, _⟩ := hown.look_ok law Try.underlying29 (zero43 w) (zd := .agg []) (zp := []) rfl hkey
    rw [hD.2] at hrun
    exact ⟨v, hrun⟩

set_option maxHeartbeats 1000000 in
theorem present (tb base : Nat) (v m : Value) (recs : List (ByteArray × ByteArray)) (ss : List ByteArray) (cls key : ByteArray) (w : World) (hT : TermsAt w tb base v recs) (hm : MapIs w m ss) (hk : key.size ≤ maxLen) (hbase : base ≤ w.heap.size) (hn : recs.length ≤ 1048576) :
    Calls Try.prog 17 #[.pointer (some ⟨tb, 0, none⟩), m, .string cls, .string key] w (Presented tb base v recs ss cls key w) := by
  obtain ⟨u, hlook⟩ := hm.look key hk
  clear hm
  obtain ⟨i0, hi, hz0, hz1, hz2⟩ := info_parts Try.info61
  cases hh : has ss key
  · have HT := hide hT
    have HH := hide hh
    have hcell := hT.cell
    have hop := hT.open_
    have htb : tb < w.heap.size := World.block_lt_of_cell? _ _ hT.cell
    have hvb : Hid (some tb ≠ v.ownBlock) := fun e => by
      have := (hT.owns.lt tb e.symm).1
      have := hT.lt
      omega
    rw [hh] at hlook
    clear hT
    go_enter Try.func17, Try.ntmps17
    go_wp2_with (at_builtin; refine wpList_append_own_at _ rfl _ _ 56 rfl base 61 i0 _ 2 32 Try.underlying56 hi hz0 hz1 hz2 rfl (by decide) v recs.length (qcells recs) rfl (HT.out.owns.alloc _) ⟨w.heap.size, 0, none⟩ 1 1 [.string cls, .string key] rfl rfl (cell_two_new _ _ _ _) (by simp [Value.oneCell']) (by unfold maxLen; omega) (by omega) (by simp; omega) ?_; intro v' w1 hown' hgrow hnil hloc; clear hnil; have HG := hide hgrow; have HL := hide hloc; have HO := hide hown'; have hb1 : w1.heap[tb]? = w.heap[tb]? := (hgrow.block tb (by simp; omega) hvb.out).trans (Below.heap_alloc w _ _ htb); have hc1 : w1.cell? ⟨tb, 15, none⟩ = some v := (World.cell?_of_block (a := ⟨tb, 15, none⟩) hb1).trans hcell; have hf1 : w1.frozen? ⟨tb, 15, none⟩ = false := (World.frozen?_of_block (a := ⟨tb, 15, none⟩) hb1).trans hop; obtain ⟨g, cap, hv⟩ := own_shape hown'; clear hgrow hloc hown' hb1; rw [hv]; have HV := hide hv; clear hv)
    go_ret
    rw [← HV.out]
    exact presented_no HT.out HH.out HO.out HG.out HL.out
  · rw [hh] at hlook
    have HP := hide (presented_yes (cls := cls) hT hh)
    clear hT hh
    go_enter Try.func17, Try.ntmps17
    go_wp2
    go_ret
    exact HP.out

set_option maxHeartbeats 400000 in
theorem zzPresent (tb base : Nat) (v m : Value) (recs : List (ByteArray × ByteArray)) (ss : List ByteArray) (cls key : ByteArray) (w : World) (hT : TermsAt w tb base v recs) (hm : MapIs w m ss) (hk : key.size ≤ maxLen) (hbase : base ≤ w.heap.size) (hn : recs.length ≤ 1048576) :
    Calls Try.prog 11 #[.pointer (some ⟨tb, 0, none⟩), m, .string cls, .string key] w (Presented tb base v recs ss cls key w) := by
  have HT := hide hT
  have HM := hide hm
  clear hT hm
  go_enter Try.func11, Try.ntmps11
  go_wp2_with (go_at_call 17; refine (present tb base v m recs ss cls key _ HT.out HM.out hk hbase hn).mono ?_; rintro e w1 ⟨rfl, HR⟩)
  go_ret
  exact ⟨rfl, HR⟩

/-- What the making of terms leaves. -/
def NewTerms (w : World) (e : Ending) (w' : World) : Prop :=
  e = .returned (.pointer (some ⟨w.heap.size, 0, none⟩)) ∧ w'.heap.size = w.heap.size + 1 ∧ (∀ base, w.heap.size < base → TermsAt w' w.heap.size base (.slice none 0 0) []) ∧ Below w.heap.size w w'

set_option maxHeartbeats 400000 in
theorem newTerms (w : World) : Calls Try.prog 10 #[] w (NewTerms w) := by
  go_enter Try.func10, Try.ntmps10
  go_wp2
  go_ret
  exact ⟨rfl, by simp, fun base hb => ⟨by simp, by simp, World.ownsRow_nil _ _ _ _, hb⟩, (Below.refl _ _).alloc (Nat.le_refl _) _⟩

theorem TermsAt.shape {w : World} {tb base : Nat} {v : Value} {recs : List (ByteArray × ByteArray)} (h : TermsAt w tb base v recs) : ∃ a cap, v = .slice a recs.length cap := by
  rcases h.owns.2 with ⟨hv, hz⟩ | ⟨g, cap, cur, hv, _⟩
  · exact ⟨none, 0, by rw [hv, hz]⟩
  · exact ⟨_, cap, hv⟩

set_option maxHeartbeats 400000 in
theorem absentLen (tb base : Nat) (v : Value) (recs : List (ByteArray × ByteArray)) (w : World) (hT : TermsAt w tb base v recs) :
    Calls Try.prog 13 #[.pointer (some ⟨tb, 0, none⟩)] w fun e w' => e = .returned (.int .i64 recs.length) ∧ w' = w := by
  obtain ⟨a, cap, rfl⟩ := hT.shape
  have hc := hT.cell
  clear hT
  go_enter Try.func13, Try.ntmps13
  go_wp2
  go_ret
  exact ⟨rfl, rfl⟩

set_option maxHeartbeats 400000 in
theorem absentAt (tb base : Nat) (v : Value) (recs : List (ByteArray × ByteArray)) (w : World) (hT : TermsAt w tb base v recs) (j : Nat) (hj : j < recs.length) (hn : recs.length ≤ 1048576) :
    Calls Try.prog 14 #[.pointer (some ⟨tb, 0, none⟩), .int .i64 j] w fun e w' => e = .returned (.tuple #[.string recs[j].1, .string recs[j].2]) ∧ ∃ n, w' = w.drewN n := by
  obtain ⟨m, hm⟩ : ∃ m, recs.length = m + 1 := ⟨recs.length - 1, by omega⟩
  have hown := hT.owns
  rw [hm] at hown
  obtain ⟨g, cap, rfl⟩ := own_shape hown
  have hc := hT.cell
  have hq := qcells_at recs j recs[j] (List.getElem?_eq_getElem hj)
  have c1 := hown.cellAt (j * 2) (by omega)
  have c2 := hown.cellAt (j * 2 + 1) (by omega)
  rw [hq.1] at c1
  rw [hq.2] at c2
  have hj' : (j : Int) < (m : Int) + 1 := by omega
  have hj0 : (0 : Int) ≤ (j : Int) := by omega
  clear hT hown hq hm
  generalize recs[j].1 = x at *
  generalize recs[j].2 = y at *
  clear hj hn
  go_enter Try.func14, Try.ntmps14
  go_wp2
  go_quiet (fail)
  go_wp2
  go_ret2
  exact ⟨rfl, _, rfl⟩

end Go.Proofs.Qxb6605643a
